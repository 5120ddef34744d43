import JvmDerived
import JvmDerived.Pilot.@@N@@Statement
import JvmDerived.Pilot.@@N@@Code
set_option linter.unusedVariables false
set_option linter.unusedSimpArgs false
/- laws to paste: Road.backV (cut by pick.py; bodies as the Statement names them) -/
namespace Jvm.Pilot.@@N@@
namespace StrChars
open Jvm Sem ClassFile Op Lib Jvm.Stand Jvm.Free.XT Jvm.Free.ALB Jvm.Free.JM Jvm.Free
open Jvm.Lib.Cold (StaticIs)
/-- a char array whose places are chars -/
def Ch (a : Addr) (A : Cell) (U : State) : Prop := Arr .char a A U ∧ Typed .char A
theorem Ch.mv {a : Addr} {A : Cell} {U U' : State} (h : Ch a A U) (hal : U.vm.Alike U'.vm) (hh : U'.heap = U.heap) : Ch a A U' := ⟨h.1.mv hal hh, h.2⟩
theorem Ch.keep {a : Addr} {A : Cell} {U U' : State} (h : Ch a A U) (hal : U.vm.Alike U'.vm) (hk : U'.heap[a]? = some A) : Ch a A U' := ⟨h.1.keep hal hk, h.2⟩
/-- what place i of a char[]'s cell holds -/
def cv (A : Cell) (i : Nat) : Int32 := match A.slots[i]? with | some (.int x) => x | _ => 0
theorem Ch.get {a : Addr} {A : Cell} {U : State} (h : Ch a A U) {i : Nat} (hi : i < A.slots.size) : A.slots[i]? = some (.int (cv A i)) := by
  have e := Array.getElem?_eq_getElem hi
  have f := h.2 i _ e
  unfold cv; rw [e]
  generalize A.slots[i] = v at f
  cases v <;> simp [fits] at f ⊢
/-- the byte that i2b leaves of a char -/
def lo8 (x : Int32) : Int32 := x.toInt8.toInt32
theorem fits_lo8 (y : Int32) : fits .byte (.int (lo8 y)) = true := by
  have h1 := y.toInt8.le_toInt
  have h2 := y.toInt8.toInt_lt
  simp only [lo8, fits, Bool.and_eq_true, decide_eq_true_eq, Int32.le_iff_toInt_le, Int8.toInt_toInt32, show (-128 : Int32).toInt = -128 from by decide, show (127 : Int32).toInt = 127 from by decide]
  omega
/-- A' is A but that each place j of lo .. hi - 1 holds f j -/
def Laid (A A' : Cell) (lo hi : Nat) (f : Nat → Value) : Prop := A'.cls = A.cls ∧ A'.vm = A.vm ∧ A'.slots.size = A.slots.size ∧ ∀ i, A'.slots[i]? = if lo ≤ i ∧ i < hi then some (f i) else A.slots[i]?
theorem Laid.zero (A : Cell) (lo : Nat) (f : Nat → Value) : Laid A A lo (lo + 0) f := ⟨rfl, rfl, rfl, fun i => by rw [if_neg (by omega)]⟩
theorem Laid.step {A Ak : Cell} {lo k : Nat} {f : Nat → Value} {v : Value} (h : Laid A Ak lo k f) (hlo : lo ≤ k) (hk : k < Ak.slots.size) (hv : v = f k) : Laid A (Ak.setSlot k v) lo (k + 1) f := by
  refine ⟨h.1, h.2.1, by simpa [Cell.setSlot] using h.2.2.1, fun i => ?_⟩
  by_cases e : k = i
  · subst e; rw [Cell.slots_setSlot_self v hk, if_pos (by omega), hv]
  · rw [Cell.slots_setSlot_ne v e, h.2.2.2 i]
    by_cases q : lo ≤ i ∧ i < k
    · rw [if_pos q, if_pos (by omega)]
    · rw [if_neg q, if_neg (by omega)]
def U16 : String := "java/lang/StringUTF16"
namespace Cmp5
def yN : MethodName := ⟨"java/lang/StringUTF16", "compress", "([CI[BII)I"⟩
abbrev yB : ByteArray := jdk_52_method_21_code
theorem d0 : decode yB 0 = .ok (.iconst 0, 1) := by decide +kernel
theorem d1 : decode yB 1 = .ok (.istore 5, 2) := by decide +kernel
theorem d3 : decode yB 3 = .ok (.iload 5, 2) := by decide +kernel
theorem d5 : decode yB 5 = .ok (.iload 4, 2) := by decide +kernel
theorem d7 : decode yB 7 = .ok (.if_icmp (.ge) 37, 3) := by decide +kernel
theorem d10 : decode yB 10 = .ok (.aload_n 0, 1) := by decide +kernel
theorem d11 : decode yB 11 = .ok (.iload_n 1, 1) := by decide +kernel
theorem d12 : decode yB 12 = .ok (.caload, 1) := by decide +kernel
theorem d13 : decode yB 13 = .ok (.istore 6, 2) := by decide +kernel
theorem d15 : decode yB 15 = .ok (.iload 6, 2) := by decide +kernel
theorem d17 : decode yB 17 = .ok (.sipush 255, 3) := by decide +kernel
theorem d20 : decode yB 20 = .ok (.if_icmp (.le) 6, 3) := by decide +kernel
theorem d26 : decode yB 26 = .ok (.aload_n 2, 1) := by decide +kernel
theorem d27 : decode yB 27 = .ok (.iload_n 3, 1) := by decide +kernel
theorem d28 : decode yB 28 = .ok (.iload 6, 2) := by decide +kernel
theorem d30 : decode yB 30 = .ok (.i2b, 1) := by decide +kernel
theorem d31 : decode yB 31 = .ok (.bastore, 1) := by decide +kernel
theorem d32 : decode yB 32 = .ok (.iinc 1 1, 3) := by decide +kernel
theorem d35 : decode yB 35 = .ok (.iinc 3 1, 3) := by decide +kernel
theorem d38 : decode yB 38 = .ok (.iinc 5 1, 3) := by decide +kernel
theorem d41 : decode yB 41 = .ok (.goto (-38), 3) := by decide +kernel
theorem d44 : decode yB 44 = .ok (.iload 4, 2) := by decide +kernel
theorem d46 : decode yB 46 = .ok (.ireturn, 1) := by decide +kernel
def site : List Cond := []
def tab : Cond := tabOf yN yB 7 (some .int) site
def P (b : Addr) (A : Cell) (d : Addr) (B : Cell) (o q len : Nat) (args : Array Value) (s : State) : Prop := args = #[.ref b, .int (Int32.ofNat o), .ref d, .int (Int32.ofNat q), .int (Int32.ofNat len)] ∧ Ch b A s ∧ Arr .byte d B s ∧ b ≠ d ∧ o + len ≤ A.slots.size ∧ q + len ≤ B.slots.size ∧ ∀ i, i < len → ¬ 255 < cv A (o + i)
def E (b : Addr) (A : Cell) (d : Addr) (B : Cell) (o q len : Nat) (r : Option Value) (s u : State) : Prop := r = some (.int (Int32.ofNat len)) ∧ ∃ B', Put d B' s u ∧ Laid B B' q (q + len) (fun j => Value.int (lo8 (cv A (o + (j - q)))))
/-- no char of the range above 255: len; the places written hold each char's low byte -/
theorem law (l : Launch) (b : Addr) (A : Cell) (d : Addr) (B : Cell) (o q len : Nat) : Law l yN 5 5 0 0 yB 7 (some .int) site (P b A d B o q len) (E b A d B o q len) (copyLocs d q len) 0 0 := by
  refine Law.of_walk (plainFor_of_name (by decide +kernel)) (by decide +kernel) (by decide +kernel) (by decide) (fun _ _ h => by rw [h.1]; rfl) (fun _ U U' hal hh h => ⟨h.1, h.2.1.mv hal hh, h.2.2.1.mv hal hh, h.2.2.2⟩) (fun r U U' V V' h1 hal h2 h => ⟨h.1, h.2.elim fun B' q => ⟨B', q.1.mv h1 h2, q.2⟩⟩) ?_
  intro p e s m args below meth c s₁ X0 hexec hbytes hml hret hlk hnm hown hh0 W hP
  obtain ⟨rfl, hA, hB, hne, l1, l2, hp⟩ := hP
  have c1 : Steps p.tables e below (s₁.setTop (entryFrame m #[.ref b, .int (Int32.ofNat o), .ref d, .int (Int32.ofNat q), .int (Int32.ofNat len)] 7)) (s₁.setTop (mkF m 0 #[.val (.ref b), .val (.int (Int32.ofNat o)), .val (.ref d), .val (.int (Int32.ofNat q)), .val (.int (Int32.ofNat len)), .unset, .unset] [])) := entry rfl
  have hA0 := hA.1.mv X0.warmed.alike hh0
  have hB0 := hB.mv X0.warmed.alike hh0
  have a31 := hA.1.2.2.2
  have c2 : Steps p.tables e below (s₁.setTop (entryFrame m #[.ref b, .int (Int32.ofNat o), .ref d, .int (Int32.ofNat q), .int (Int32.ofNat len)] 7)) (s₁.setTop (mkF m 3 #[.val (.ref b), .val (.int (Int32.ofNat o)), .val (.ref d), .val (.int (Int32.ofNat q)), .val (.int (Int32.ofNat len)), .val (.int 0), .unset] [])) := c1.trans (by
    refine iconstV X0.here hexec rfl 0 (hb hbytes d0) (by decide) ?_
    refine XS.istore X0.here hexec rfl (hb hbytes d1) rfl rfl ?_
    exact Steps.refl _)
  have loop : ∀ (r i : Nat), i + r = len → ∀ (z : Slot), (z = .unset ∨ ∃ w, z = .val w ∧ w.category = 1) → ∀ (Tl : State) (Bk : Cell), Stand p l e { frames := 0, locals := 0, cells := 0, slots := 0 } s m #[.ref b, .int (Int32.ofNat o), .ref d, .int (Int32.ofNat q), .int (Int32.ofNat len)] below meth c Tl ([] ++ copyLocs d q i) 0 0 → Put d Bk s₁ Tl → Laid B Bk q (q + i) (fun j => Value.int (lo8 (cv A (o + (j - q))))) →
      Steps p.tables e below (s₁.setTop (entryFrame m #[.ref b, .int (Int32.ofNat o), .ref d, .int (Int32.ofNat q), .int (Int32.ofNat len)] 7)) (Tl.setTop (mkF m 3 #[.val (.ref b), .val (.int (Int32.ofNat (o + i))), .val (.ref d), .val (.int (Int32.ofNat (q + i))), .val (.int (Int32.ofNat len)), .val (.int (Int32.ofNat i)), z] [])) → ∃ (T' : State) (B' : Cell) (z' : Slot), Stand p l e { frames := 0, locals := 0, cells := 0, slots := 0 } s m #[.ref b, .int (Int32.ofNat o), .ref d, .int (Int32.ofNat q), .int (Int32.ofNat len)] below meth c T' ([] ++ copyLocs d q len) 0 0 ∧ Put d B' s₁ T' ∧ Laid B B' q (q + len) (fun j => Value.int (lo8 (cv A (o + (j - q))))) ∧
      Steps p.tables e below (s₁.setTop (entryFrame m #[.ref b, .int (Int32.ofNat o), .ref d, .int (Int32.ofNat q), .int (Int32.ofNat len)] 7)) (T'.setTop (mkF m 3 #[.val (.ref b), .val (.int (Int32.ofNat (o + len))), .val (.ref d), .val (.int (Int32.ofNat (q + len))), .val (.int (Int32.ofNat len)), .val (.int (Int32.ofNat len)), z'] [])) := by
    intro r
    induction r with
    | zero =>
      intro i hi z hz Tl Bk Xl pl fl cl
      have hil : i = len := by omega
      rw [hil] at Xl fl cl
      exact ⟨Tl, Bk, z, Xl, pl, fl, cl⟩
    | succ r ih =>
      intro i hi z hz Tl Bk Xl pl fl cl
      have all := X0.warmed.alike.symm.trans Xl.warmed.alike
      have hAl := hA0.keep all (pl.other hne hA0.1)
      have hBk := hB0.like all pl.1 fl.1 fl.2.1 fl.2.2.1
      have hlt : q + i < Bk.slots.size := by rw [fl.2.2.1]; omega
      have c3 : Steps p.tables e below (s₁.setTop (entryFrame m #[.ref b, .int (Int32.ofNat o), .ref d, .int (Int32.ofNat q), .int (Int32.ofNat len)] 7)) (Tl.setTop (mkF m 12 #[.val (.ref b), .val (.int (Int32.ofNat (o + i))), .val (.ref d), .val (.int (Int32.ofNat (q + i))), .val (.int (Int32.ofNat len)), .val (.int (Int32.ofNat i)), z] [.int (Int32.ofNat (o + i)), .ref b])) := cl.trans (by
        refine XS.iload Xl.here hexec rfl (hb hbytes d3) rfl ?_
        refine XS.iload Xl.here hexec rfl (hb hbytes d5) rfl ?_
        refine XS.icmpNo Xl.here hexec rfl (hb hbytes d7) rfl (ii_ge_f (lt32 (by omega) (by omega))) ?_
        refine XS.aloadN Xl.here hexec rfl (hb hbytes d10) rfl rfl ?_
        refine XS.iloadN Xl.here hexec rfl (hb hbytes d11) rfl ?_
        exact Steps.refl _)
      have c4 : Steps p.tables e below (s₁.setTop (entryFrame m #[.ref b, .int (Int32.ofNat o), .ref d, .int (Int32.ofNat q), .int (Int32.ofNat len)] 7)) (Tl.setTop (mkF m 13 #[.val (.ref b), .val (.int (Int32.ofNat (o + i))), .val (.ref d), .val (.int (Int32.ofNat (q + i))), .val (.int (Int32.ofNat len)), .val (.int (Int32.ofNat i)), z] [.int (cv A (o + i))])) := c3.trans (by
        refine Xl.aget hexec hAl rfl (hA.get (i := o + i) (by omega)) rfl rfl (hb hbytes d12) ?_
        exact Steps.refl _)
      have c5 : Steps p.tables e below (s₁.setTop (entryFrame m #[.ref b, .int (Int32.ofNat o), .ref d, .int (Int32.ofNat q), .int (Int32.ofNat len)] 7)) (Tl.setTop (mkF m 15 #[.val (.ref b), .val (.int (Int32.ofNat (o + i))), .val (.ref d), .val (.int (Int32.ofNat (q + i))), .val (.int (Int32.ofNat len)), .val (.int (Int32.ofNat i)), .val (.int (cv A (o + i)))] [])) := c4.trans (by
        refine XS.istoreS Xl.here hexec rfl (hb hbytes d13) rfl rfl hz ?_
        exact Steps.refl _)
      have c6 : Steps p.tables e below (s₁.setTop (entryFrame m #[.ref b, .int (Int32.ofNat o), .ref d, .int (Int32.ofNat q), .int (Int32.ofNat len)] 7)) (Tl.setTop (mkF m 31 #[.val (.ref b), .val (.int (Int32.ofNat (o + i))), .val (.ref d), .val (.int (Int32.ofNat (q + i))), .val (.int (Int32.ofNat len)), .val (.int (Int32.ofNat i)), .val (.int (cv A (o + i)))] [.int (lo8 (cv A (o + i))), .int (Int32.ofNat (q + i)), .ref d])) := c5.trans (by
        refine XS.iload Xl.here hexec rfl (hb hbytes d15) rfl ?_
        refine sipushV Xl.here hexec rfl 255 (hb hbytes d17) (by decide) ?_
        refine XS.icmpYes Xl.here hexec rfl (pc0 := 20) rfl (hb hbytes d20) rfl (ii_le_t (hp i (by omega))) (by decide) rfl ?_
        refine XS.aloadN Xl.here hexec rfl (hb hbytes d26) rfl rfl ?_
        refine XS.iloadN Xl.here hexec rfl (hb hbytes d27) rfl ?_
        refine XS.iload Xl.here hexec rfl (hb hbytes d28) rfl ?_
        refine i2b Xl.here hexec rfl (hb hbytes d30) rfl ?_
        exact Steps.refl _)
      obtain ⟨T7, X7, p7, st7⟩ := Xl.aput hexec hBk rfl hlt rfl (fits_lo8 (cv A (o + i))) (g := (mkF m 31 #[.val (.ref b), .val (.int (Int32.ofNat (o + i))), .val (.ref d), .val (.int (Int32.ofNat (q + i))), .val (.int (Int32.ofNat len)), .val (.int (Int32.ofNat i)), .val (.int (cv A (o + i)))] [.int (lo8 (cv A (o + i))), .int (Int32.ofNat (q + i)), .ref d])) rfl (rest := []) rfl (hb hbytes d31)
      have c8 : Steps p.tables e below (s₁.setTop (entryFrame m #[.ref b, .int (Int32.ofNat o), .ref d, .int (Int32.ofNat q), .int (Int32.ofNat len)] 7)) (T7.setTop (mkF m 32 #[.val (.ref b), .val (.int (Int32.ofNat (o + i))), .val (.ref d), .val (.int (Int32.ofNat (q + i))), .val (.int (Int32.ofNat len)), .val (.int (Int32.ofNat i)), .val (.int (cv A (o + i)))] [])) := c6.trans (st7 _ (Steps.refl _))
      have c9 : Steps p.tables e below (s₁.setTop (entryFrame m #[.ref b, .int (Int32.ofNat o), .ref d, .int (Int32.ofNat q), .int (Int32.ofNat len)] 7)) (T7.setTop (mkF m 3 #[.val (.ref b), .val (.int (Int32.ofNat (o + i) + 1)), .val (.ref d), .val (.int (Int32.ofNat (q + i) + 1)), .val (.int (Int32.ofNat len)), .val (.int (Int32.ofNat i + 1)), .val (.int (cv A (o + i)))] [])) := c8.trans (by
        refine iincV X7.here hexec rfl 1 (hb hbytes d32) (by decide) rfl rfl ?_
        refine iincV X7.here hexec rfl 1 (hb hbytes d35) (by decide) rfl rfl ?_
        refine iincV X7.here hexec rfl 1 (hb hbytes d38) (by decide) rfl rfl ?_
        refine XS.goto X7.here hexec rfl (pc0 := 41) rfl (hb hbytes d41) (by decide) rfl ?_
        exact Steps.refl _)
      have c10 : Steps p.tables e below (s₁.setTop (entryFrame m #[.ref b, .int (Int32.ofNat o), .ref d, .int (Int32.ofNat q), .int (Int32.ofNat len)] 7)) (T7.setTop (mkF m 3 #[.val (.ref b), .val (.int (Int32.ofNat (o + (i + 1)))), .val (.ref d), .val (.int (Int32.ofNat (q + (i + 1)))), .val (.int (Int32.ofNat len)), .val (.int (Int32.ofNat (i + 1))), .val (.int (cv A (o + i)))] [])) := by
        have := c9
        rw [succ32, succ32, succ32] at this
        exact this
      exact ih (i + 1) (by omega) _ (Or.inr ⟨_, rfl, rfl⟩) T7 _ (by rw [copyLocs_step, ← List.append_assoc]; exact X7) (pl.trans p7) (fl.step (by omega) hlt (by simp)) c10
  obtain ⟨T9, B9, z9, X9, p9, f9, g9⟩ := loop len 0 (by omega) .unset (Or.inl rfl) s₁ B (by simpa [copyLocs] using X0) ⟨hB0.1, fun _ _ => rfl, rfl⟩ (Laid.zero _ _ _) c2
  have c11 : Steps p.tables e below (s₁.setTop (entryFrame m #[.ref b, .int (Int32.ofNat o), .ref d, .int (Int32.ofNat q), .int (Int32.ofNat len)] 7)) (T9.setTop (mkF m 46 #[.val (.ref b), .val (.int (Int32.ofNat (o + len))), .val (.ref d), .val (.int (Int32.ofNat (q + len))), .val (.int (Int32.ofNat len)), .val (.int (Int32.ofNat len)), z9] [.int (Int32.ofNat len)])) := g9.trans (by
    refine XS.iload X9.here hexec rfl (hb hbytes d3) rfl ?_
    refine XS.iload X9.here hexec rfl (hb hbytes d5) rfl ?_
    refine XS.icmpYes X9.here hexec rfl (pc0 := 7) rfl (hb hbytes d7) rfl (ii_ge_t (nlt32 (by omega) (Nat.le_refl _))) (by decide) rfl ?_
    refine XS.iload X9.here hexec rfl (hb hbytes d44) rfl ?_
    exact Steps.refl _)
  exact ⟨T9, some (.int (Int32.ofNat len)), _, _, _, X9, by simp, rfl, rfl, (fun h => by cases h), ⟨rfl, B9, p9.from hh0, f9⟩, fun fs hl => c11.trans (X9.ireturnOut hexec hret rfl (Or.inl rfl) (hb hbytes d46) hl)⟩
end Cmp5
namespace Cmp3
def yN : MethodName := ⟨"java/lang/StringUTF16", "compress", "([CII)[B"⟩
abbrev yB : ByteArray := jdk_52_method_16_code
theorem d0 : decode yB 0 = .ok (.iload_n 2, 1) := by decide +kernel
theorem d1 : decode yB 1 = .ok (.newarray .byte, 2) := by decide +kernel
theorem d3 : decode yB 3 = .ok (.astore_n 3, 1) := by decide +kernel
theorem d4 : decode yB 4 = .ok (.aload_n 0, 1) := by decide +kernel
theorem d5 : decode yB 5 = .ok (.iload_n 1, 1) := by decide +kernel
theorem d6 : decode yB 6 = .ok (.aload_n 3, 1) := by decide +kernel
theorem d7 : decode yB 7 = .ok (.iconst 0, 1) := by decide +kernel
theorem d8 : decode yB 8 = .ok (.iload_n 2, 1) := by decide +kernel
theorem d9 : decode yB 9 = .ok (.invokestatic 115, 3) := by decide +kernel
theorem d12 : decode yB 12 = .ok (.istore 4, 2) := by decide +kernel
theorem d14 : decode yB 14 = .ok (.iload 4, 2) := by decide +kernel
theorem d16 : decode yB 16 = .ok (.iload_n 2, 1) := by decide +kernel
theorem d17 : decode yB 17 = .ok (.if_icmp (.eq) 40, 3) := by decide +kernel
theorem d57 : decode yB 57 = .ok (.aload_n 3, 1) := by decide +kernel
theorem d58 : decode yB 58 = .ok (.areturn, 1) := by decide +kernel
def site : List Cond := [.arrayClass .byte, Cmp5.tab] ++ staticW U16 115 Cmp5.yN
def tab : Cond := tabOf yN yB 6 (some (.array .byte)) site
def P (b : Addr) (A : Cell) (o len : Nat) (args : Array Value) (s : State) : Prop := args = #[.ref b, .int (Int32.ofNat o), .int (Int32.ofNat len)] ∧ Ch b A s ∧ o + len ≤ A.slots.size ∧ len ≤ 536870912 ∧ ∀ i, i < len → ¬ 255 < cv A (o + i)
def E (b : Addr) (A : Cell) (o len : Nat) (r : Option Value) (s u : State) : Prop := NewArr .byte "[B" len (fun j => .int (lo8 (cv A (o + j)))) r s u ∧ u.heap.size = s.heap.size + 1
/-- no char of the range above 255: a new byte[] of their low bytes -/
theorem law (l : Launch) (b : Addr) (A : Cell) (o len : Nat) : Law l yN 3 3 1 18 yB 6 (some (.array .byte)) site (P b A o len) (E b A o len) [] 1 len := by
  refine Law.of_walk (plainFor_of_name (by decide +kernel)) (by decide +kernel) (by decide +kernel) (by decide) (fun _ _ h => by rw [h.1]; rfl) (fun _ U U' hal hh h => ⟨h.1, h.2.1.mv hal hh, h.2.2⟩) (fun r U U' V V' h1 hal h2 h => ⟨NewArr.mv r U U' V V' h1 hal h2 h.1, by rw [h1, h2]; exact h.2⟩) ?_
  intro p e s m args below meth c s₁ X0 hexec hbytes hml hret hlk hnm hown hh0 W hP
  obtain ⟨rfl, hA, l1, l2, hp⟩ := hP
  have a31 := hA.1.2.2.2
  have c1 : Steps p.tables e below (s₁.setTop (entryFrame m #[.ref b, .int (Int32.ofNat o), .int (Int32.ofNat len)] 6)) (s₁.setTop (mkF m 0 #[.val (.ref b), .val (.int (Int32.ofNat o)), .val (.int (Int32.ofNat len)), .unset, .unset, .unset] [])) := entry rfl
  have c2 : Steps p.tables e below (s₁.setTop (entryFrame m #[.ref b, .int (Int32.ofNat o), .int (Int32.ofNat len)] 6)) (s₁.setTop (mkF m 1 #[.val (.ref b), .val (.int (Int32.ofNat o)), .val (.int (Int32.ofNat len)), .unset, .unset, .unset] [.int (Int32.ofNat len)])) := c1.trans (by
    refine XS.iloadN X0.here hexec rfl (hb hbytes d0) rfl ?_
    exact Steps.refl _)
  obtain ⟨T3, B3, X3, ba3, bs3, bv3, bh3, bf3, st3⟩ := X0.anew hexec (atype := .byte) (wk W (.arrayClass .byte)) rfl (by show len * 1 ≤ _; omega) (by omega) (g := (mkF m 1 #[.val (.ref b), .val (.int (Int32.ofNat o)), .val (.int (Int32.ofNat len)), .unset, .unset, .unset] [.int (Int32.ofNat len)])) rfl (hb hbytes d1) (rest := []) rfl (Nat.le_refl _) (by show 0 + len ≤ len; omega)
  rw [hh0] at ba3 st3
  have kp3 : XT.Kept s T3 := (XT.Kept.of_eq hh0).push bh3
  have hA3 := hA.keep X3.warmed.alike (kp3 _ _ hA.1.1)
  have hne : b ≠ s.heap.size := hA.1.ne
  have c4 : Steps p.tables e below (s₁.setTop (entryFrame m #[.ref b, .int (Int32.ofNat o), .int (Int32.ofNat len)] 6)) (T3.setTop (mkF m 3 #[.val (.ref b), .val (.int (Int32.ofNat o)), .val (.int (Int32.ofNat len)), .unset, .unset, .unset] [.ref s.heap.size])) := c2.trans (st3 _ (Steps.refl _))
  have c5 : Steps p.tables e below (s₁.setTop (entryFrame m #[.ref b, .int (Int32.ofNat o), .int (Int32.ofNat len)] 6)) (T3.setTop (mkF m 9 #[.val (.ref b), .val (.int (Int32.ofNat o)), .val (.int (Int32.ofNat len)), .val (.ref s.heap.size), .unset, .unset] [.int (Int32.ofNat len), .int 0, .ref s.heap.size, .int (Int32.ofNat o), .ref b])) := c4.trans (by
    refine XS.astoreN X3.here hexec rfl (hb hbytes d3) rfl rfl rfl ?_
    refine XS.aloadN X3.here hexec rfl (hb hbytes d4) rfl rfl ?_
    refine XS.iloadN X3.here hexec rfl (hb hbytes d5) rfl ?_
    refine XS.aloadN X3.here hexec rfl (hb hbytes d6) rfl rfl ?_
    refine iconstV X3.here hexec rfl 0 (hb hbytes d7) (by decide) ?_
    refine XS.iloadN X3.here hexec rfl (hb hbytes d8) rfl ?_
    exact Steps.refl _)
  obtain ⟨v6, T6, X6, E6, g6⟩ := X3.callS hexec (Cmp5.law l b A s.heap.size B3 o 0 len) hown (wks W (staticW U16 115 Cmp5.yN)) (wk W Cmp5.tab) (W := 0) (Nat.le_of_ble_eq_true rfl) (Nat.le_of_ble_eq_true rfl) (Nat.le_refl _) (by show 0 + len + 0 ≤ len; omega) (g := (mkF m 9 #[.val (.ref b), .val (.int (Int32.ofNat o)), .val (.int (Int32.ofNat len)), .val (.ref s.heap.size), .unset, .unset] [.int (Int32.ofNat len), .int (Int32.ofNat 0), .ref s.heap.size, .int (Int32.ofNat o), .ref b])) rfl (by rw [hml]; rfl) c5 (argsL := [.ref b, .int (Int32.ofNat o), .ref s.heap.size, .int (Int32.ofNat 0), .int (Int32.ofNat len)]) (rest := []) rfl rfl (by show 2 * 0 + 0 ≤ _; decide) (hb hbytes d9) (⟨rfl, hA3, ba3, hne, l1, by rw [bs3]; simp, hp⟩)
  obtain ⟨rfl, B6, p6, f6⟩ := E6
  have c7 : Steps p.tables e below (s₁.setTop (entryFrame m #[.ref b, .int (Int32.ofNat o), .int (Int32.ofNat len)] 6)) (T6.setTop (mkF m 12 #[.val (.ref b), .val (.int (Int32.ofNat o)), .val (.int (Int32.ofNat len)), .val (.ref s.heap.size), .unset, .unset] [.int (Int32.ofNat len)])) := g6
  have c8 : Steps p.tables e below (s₁.setTop (entryFrame m #[.ref b, .int (Int32.ofNat o), .int (Int32.ofNat len)] 6)) (T6.setTop (mkF m 58 #[.val (.ref b), .val (.int (Int32.ofNat o)), .val (.int (Int32.ofNat len)), .val (.ref s.heap.size), .val (.int (Int32.ofNat len)), .unset] [.ref s.heap.size])) := c7.trans (by
    refine XS.istore X6.here hexec rfl (hb hbytes d12) rfl rfl ?_
    refine XS.iload X6.here hexec rfl (hb hbytes d14) rfl ?_
    refine XS.iloadN X6.here hexec rfl (hb hbytes d16) rfl ?_
    refine XS.icmpYes X6.here hexec rfl (pc0 := 17) rfl (hb hbytes d17) rfl (ii_eq_t rfl) (by decide) rfl ?_
    refine XS.aloadN X6.here hexec rfl (hb hbytes d57) rfl rfl ?_
    exact Steps.refl _)
  have X8 := X6.wide (L' := []) (cells' := 1) (slots' := len) (fun x hx hlt => by
    simp only [List.nil_append, copyLocs, List.mem_map, List.mem_range] at hx
    obtain ⟨i, -, rfl⟩ := hx
    exact absurd hlt (Nat.lt_irrefl _)) (Nat.le_refl _) (by omega)
  exact ⟨T6, some (.ref s.heap.size), _, _, _, X8, rfl, rfl, rfl, (fun h => by cases h), ⟨⟨rfl, B6, ba3.like (X3.warmed.alike.symm.trans X6.warmed.alike) p6.1 f6.1 f6.2.1 f6.2.2.1, f6.2.1.trans bv3, by rw [X6.warmed.alike.findClass, f6.1]; exact bf3, by rw [f6.2.2.1, bs3]; simp, fun j hj => by rw [f6.2.2.2 j, if_pos (by omega)]; rfl, kp3.put p6 (Nat.le_refl _)⟩, by rw [p6.2.2, bh3, hh0]; simp⟩, fun fs hl => c8.trans (X8.areturnOut hexec rfl hret rfl (hb hbytes d58) hl)⟩
end Cmp3
namespace CodL
def yN : MethodName := ⟨"java/lang/StringUTF16", "coderFromArrayLen", "([BI)B"⟩
abbrev yB : ByteArray := jdk_52_method_15_code
theorem d0 : decode yB 0 = .ok (.iload_n 1, 1) := by decide +kernel
theorem d1 : decode yB 1 = .ok (.aload_n 0, 1) := by decide +kernel
theorem d2 : decode yB 2 = .ok (.arraylength, 1) := by decide +kernel
theorem d3 : decode yB 3 = .ok (.isub, 1) := by decide +kernel
theorem d4 : decode yB 4 = .ok (.bipush 31, 2) := by decide +kernel
theorem d6 : decode yB 6 = .ok (.iushr, 1) := by decide +kernel
theorem d7 : decode yB 7 = .ok (.i2b, 1) := by decide +kernel
theorem d8 : decode yB 8 = .ok (.ireturn, 1) := by decide +kernel
def site : List Cond := []
def tab : Cond := tabOf yN yB 2 (some .byte) site
def P (d : Addr) (B : Cell) (args : Array Value) (s : State) : Prop := args = #[.ref d, .int (Int32.ofNat B.slots.size)] ∧ Arr .byte d B s
def E (r : Option Value) (s u : State) : Prop := XT.PureE (some (.int 0)) r s u
/-- an array as long as the number of chars: LATIN1 -/
theorem law (l : Launch) (d : Addr) (B : Cell) : Law l yN 2 2 0 0 yB 2 (some .byte) site (P d B) E [] 0 0 := by
  refine Law.of_walk (plainFor_of_name (by decide +kernel)) (by decide +kernel) (by decide +kernel) (by decide) (fun _ _ h => by rw [h.1]; rfl) (fun _ U U' hal hh h => ⟨h.1, h.2.mv hal hh⟩) (fun r U U' V V' h1 hal h2 h => XT.PureE.mv r U U' V V' h1 hal h2 h) ?_
  intro p e s m args below meth c s₁ X0 hexec hbytes hml hret hlk hnm hown hh0 W hP
  obtain ⟨rfl, hB⟩ := hP
  have hB0 := hB.mv X0.warmed.alike hh0
  have c1 : Steps p.tables e below (s₁.setTop (entryFrame m #[.ref d, .int (Int32.ofNat B.slots.size)] 2)) (s₁.setTop (mkF m 0 #[.val (.ref d), .val (.int (Int32.ofNat B.slots.size))] [])) := entry rfl
  have c2 : Steps p.tables e below (s₁.setTop (entryFrame m #[.ref d, .int (Int32.ofNat B.slots.size)] 2)) (s₁.setTop (mkF m 2 #[.val (.ref d), .val (.int (Int32.ofNat B.slots.size))] [.ref d, .int (Int32.ofNat B.slots.size)])) := c1.trans (by
    refine XS.iloadN X0.here hexec rfl (hb hbytes d0) rfl ?_
    refine XS.aloadN X0.here hexec rfl (hb hbytes d1) rfl rfl ?_
    exact Steps.refl _)
  have c3 : Steps p.tables e below (s₁.setTop (entryFrame m #[.ref d, .int (Int32.ofNat B.slots.size)] 2)) (s₁.setTop (mkF m 8 #[.val (.ref d), .val (.int (Int32.ofNat B.slots.size))] [.int (lo8 (ushr (Int32.ofNat B.slots.size - Int32.ofNat B.slots.size) 31))])) := c2.trans (by
    refine X0.alen hexec hB0 rfl rfl (hb hbytes d2) ?_
    refine XS.isub X0.here hexec rfl (hb hbytes d3) rfl ?_
    refine bipushV X0.here hexec rfl 31 (hb hbytes d4) (by decide) ?_
    refine iushr X0.here hexec rfl (hb hbytes d6) rfl ?_
    refine i2b X0.here hexec rfl (hb hbytes d7) rfl ?_
    exact Steps.refl _)
  have e0 : lo8 (ushr (Int32.ofNat B.slots.size - Int32.ofNat B.slots.size) 31) = 0 := by rw [Int32.sub_self]; decide
  rw [e0] at c3
  exact ⟨s₁, some (.int 0), _, _, _, X0, rfl, rfl, rfl, (fun h => by cases h), ⟨rfl, hh0⟩, fun fs hl => c3.trans (X0.ireturnOut hexec hret rfl (Or.inr (Or.inr (Or.inl rfl))) (hb hbytes d8) hl)⟩
end CodL
/-- the String at a is Latin-1 over a new byte[] (the heap's one new cell): the low bytes of the len chars of A from o on; every cell but a is kept -/
def Got (a : Addr) (D : Cell) (fV fC : Field) (A : Cell) (o len : Nat) (r : Option Value) (s u : State) : Prop := r = none ∧ ∃ D' V : Cell, Blank "java/lang/String" a D' u ∧ Same D D' [fV.slot, fC.slot] ∧ D'.slots[fV.slot]? = some (.ref s.heap.size) ∧ D'.slots[fC.slot]? = some (.int 0) ∧ Arr .byte s.heap.size V u ∧ V.vm = .none ∧ u.vm.findClass "[B" = some V.cls ∧ V.slots.size = len ∧ (∀ j, j < len → V.slots[j]? = some (.int (lo8 (cv A (o + j))))) ∧ (∀ (y : Addr) (c : Cell), y ≠ a → s.heap[y]? = some c → u.heap[y]? = some c) ∧ u.heap.size = s.heap.size + 1
theorem Got.mv {a : Addr} {D A : Cell} {fV fC : Field} {o len : Nat} : ∀ r (U U' V V' : State), U'.heap = U.heap → V.vm.Alike V'.vm → V'.heap = V.heap → Got a D fV fC A o len r U V → Got a D fV fC A o len r U' V' :=
  fun r U U' V V' h1 hal h2 ⟨e0, D', X, a1, a2, a3, a4, a5, a6, a7, a8, a9, a10, a11⟩ => ⟨e0, D', X, a1.mv hal h2, a2, by rw [h1]; exact a3, a4, by rw [h1]; exact a5.mv hal h2, a6, by rw [hal.findClass]; exact a7, a8, a9, by rw [h1, h2]; exact a10, by rw [h1, h2]; exact a11⟩
namespace New4
def yN : MethodName := ⟨"java/lang/String", "<init>", "([CIILjava/lang/Void;)V"⟩
abbrev yB : ByteArray := jdk_42_method_149_code
theorem d0 : decode yB 0 = .ok (.aload_n 0, 1) := by decide +kernel
theorem d1 : decode yB 1 = .ok (.invokespecial 1, 3) := by decide +kernel
theorem d4 : decode yB 4 = .ok (.iload_n 3, 1) := by decide +kernel
theorem d5 : decode yB 5 = .ok (.ifCond (.ne) 22, 3) := by decide +kernel
theorem d27 : decode yB 27 = .ok (.getstatic 38, 3) := by decide +kernel
theorem d30 : decode yB 30 = .ok (.ifCond (.eq) 28, 3) := by decide +kernel
theorem d33 : decode yB 33 = .ok (.aload_n 1, 1) := by decide +kernel
theorem d34 : decode yB 34 = .ok (.iload_n 2, 1) := by decide +kernel
theorem d35 : decode yB 35 = .ok (.iload_n 3, 1) := by decide +kernel
theorem d36 : decode yB 36 = .ok (.invokestatic 177, 3) := by decide +kernel
theorem d39 : decode yB 39 = .ok (.astore 5, 2) := by decide +kernel
theorem d41 : decode yB 41 = .ok (.aload_n 0, 1) := by decide +kernel
theorem d42 : decode yB 42 = .ok (.aload 5, 2) := by decide +kernel
theorem d44 : decode yB 44 = .ok (.iload_n 3, 1) := by decide +kernel
theorem d45 : decode yB 45 = .ok (.invokestatic 47, 3) := by decide +kernel
theorem d48 : decode yB 48 = .ok (.putfield 15, 3) := by decide +kernel
theorem d51 : decode yB 51 = .ok (.aload_n 0, 1) := by decide +kernel
theorem d52 : decode yB 52 = .ok (.aload 5, 2) := by decide +kernel
theorem d54 : decode yB 54 = .ok (.putfield 9, 3) := by decide +kernel
theorem d57 : decode yB 57 = .ok (.return_, 1) := by decide +kernel
def site : List Cond := [.fieldLink "java/lang/String" 38 "java/lang/String" "COMPACT_STRINGS" "Z", Cmp3.tab, CodL.tab, .laysFinal "java/lang/String" "java/lang/String" "value" "[B", .fieldLink "java/lang/String" 9 "java/lang/String" "value" "[B", .laysFinal "java/lang/String" "java/lang/String" "coder" "B", .fieldLink "java/lang/String" 15 "java/lang/String" "coder" "B"] ++ objW "java/lang/String" 1 ++ staticW "java/lang/String" 177 Cmp3.yN ++ staticW "java/lang/String" 47 CodL.yN
def tab : Cond := tabOf yN yB 6 none site
def P (a : Addr) (D : Cell) (fV fC : Field) (b : Addr) (A : Cell) (z : Int32) (o len : Nat) (args : Array Value) (s : State) : Prop := args = #[.ref a, .ref b, .int (Int32.ofNat o), .int (Int32.ofNat len), .null] ∧ Blank "java/lang/String" a D s ∧ Found "java/lang/String" "value" "[B" fV s ∧ Found "java/lang/String" "coder" "B" fC s ∧ Ch b A s ∧ StaticIs s "java/lang/String" "COMPACT_STRINGS" "Z" (.int z) ∧ ¬ z = 0 ∧ 0 < len ∧ o + len ≤ A.slots.size ∧ len ≤ 536870912 ∧ ∀ i, i < len → ¬ 255 < cv A (o + i)
def E (a : Addr) (D : Cell) (fV fC : Field) (A : Cell) (o len : Nat) (r : Option Value) (s u : State) : Prop := Got a D fV fC A o len r s u
/-- len > 0, no char of the range above 255: a Latin-1 String of their low bytes -/
theorem law (l : Launch) (a : Addr) (D : Cell) (fV fC : Field) (b : Addr) (A : Cell) (z : Int32) (o len : Nat) : Law l yN 5 4 2 35 yB 6 none site (P a D fV fC b A z o len) (E a D fV fC A o len) [⟨a, fC.slot⟩, ⟨a, fV.slot⟩] 1 len := by
  refine Law.of_walk (plainFor_of_name (by decide +kernel)) (by decide +kernel) (by decide +kernel) (by decide) (fun _ _ h => by rw [h.1]; rfl) (fun _ U U' hal hh h => ⟨h.1, h.2.1.mv hal hh, h.2.2.1.al hal, h.2.2.2.1.al hal, h.2.2.2.2.1.mv hal hh, h.2.2.2.2.2.1.there hal hh, h.2.2.2.2.2.2⟩) (fun r U U' V V' h1 hal h2 h => Got.mv r U U' V V' h1 hal h2 h) ?_
  intro p e s m args below meth c s₁ X0 hexec hbytes hml hret hlk hnm hown hh0 W hP
  obtain ⟨rfl, hB, f1, f2, hA, s1, hz, l0, l1, l2, hp⟩ := hP
  have a31 := hA.1.2.2.2
  have c1 : Steps p.tables e below (s₁.setTop (entryFrame m #[.ref a, .ref b, .int (Int32.ofNat o), .int (Int32.ofNat len), .null] 6)) (s₁.setTop (mkF m 0 #[.val (.ref a), .val (.ref b), .val (.int (Int32.ofNat o)), .val (.int (Int32.ofNat len)), .val .null, .unset] [])) := entry rfl
  have c2 : Steps p.tables e below (s₁.setTop (entryFrame m #[.ref a, .ref b, .int (Int32.ofNat o), .int (Int32.ofNat len), .null] 6)) (s₁.setTop (mkF m 1 #[.val (.ref a), .val (.ref b), .val (.int (Int32.ofNat o)), .val (.int (Int32.ofNat len)), .val .null, .unset] [.ref a])) := c1.trans (by
    refine XS.aloadN X0.here hexec rfl (hb hbytes d0) rfl rfl ?_
    exact Steps.refl _)
  obtain ⟨T3, X3, q3, st3⟩ := X0.oinit hexec hown (wks W (objW "java/lang/String" 1)) (g := (mkF m 1 #[.val (.ref a), .val (.ref b), .val (.int (Int32.ofNat o)), .val (.int (Int32.ofNat len)), .val .null, .unset] [.ref a])) rfl (by rw [hml]; rfl) (rest := []) rfl (hb hbytes d1) (W := 0) (by show 2 * 0 + 0 ≤ _; decide) (Nat.le_of_ble_eq_true rfl) (Nat.le_of_ble_eq_true rfl)
  have hh3 := q3.trans hh0
  have c4 : Steps p.tables e below (s₁.setTop (entryFrame m #[.ref a, .ref b, .int (Int32.ofNat o), .int (Int32.ofNat len), .null] 6)) (T3.setTop (mkF m 27 #[.val (.ref a), .val (.ref b), .val (.int (Int32.ofNat o)), .val (.int (Int32.ofNat len)), .val .null, .unset] [])) := (c2.trans (st3 _ (Steps.refl _))).trans (by
    refine XS.iloadN X3.here hexec rfl (hb hbytes d4) rfl ?_
    refine XS.ifYes X3.here hexec rfl (pc0 := 5) rfl (hb hbytes d5) rfl (i0_ne_t (nz32 (by omega) l0)) (by decide) rfl ?_
    exact Steps.refl _)
  obtain ⟨T5, X5, q5, st5⟩ := X3.sget hexec hown (wk W (.fieldLink "java/lang/String" 38 "java/lang/String" "COMPACT_STRINGS" "Z")) s1 (fun _ _ h => by rw [hh3]; exact h) (g := (mkF m 27 #[.val (.ref a), .val (.ref b), .val (.int (Int32.ofNat o)), .val (.int (Int32.ofNat len)), .val .null, .unset] [])) rfl (hb hbytes d27)
  have hh5 := q5.trans hh3
  have c6 : Steps p.tables e below (s₁.setTop (entryFrame m #[.ref a, .ref b, .int (Int32.ofNat o), .int (Int32.ofNat len), .null] 6)) (T5.setTop (mkF m 30 #[.val (.ref a), .val (.ref b), .val (.int (Int32.ofNat o)), .val (.int (Int32.ofNat len)), .val .null, .unset] [.int z])) := c4.trans (st5 _ (Steps.refl _))
  have c7 : Steps p.tables e below (s₁.setTop (entryFrame m #[.ref a, .ref b, .int (Int32.ofNat o), .int (Int32.ofNat len), .null] 6)) (T5.setTop (mkF m 36 #[.val (.ref a), .val (.ref b), .val (.int (Int32.ofNat o)), .val (.int (Int32.ofNat len)), .val .null, .unset] [.int (Int32.ofNat len), .int (Int32.ofNat o), .ref b])) := c6.trans (by
    refine XS.ifNo X5.here hexec rfl (hb hbytes d30) rfl (i0_eq_f hz) ?_
    refine XS.aloadN X5.here hexec rfl (hb hbytes d33) rfl rfl ?_
    refine XS.iloadN X5.here hexec rfl (hb hbytes d34) rfl ?_
    refine XS.iloadN X5.here hexec rfl (hb hbytes d35) rfl ?_
    exact Steps.refl _)
  obtain ⟨v8, T8, X8, E8, g8⟩ := X5.callS hexec (Cmp3.law l b A o len) hown (wks W (staticW "java/lang/String" 177 Cmp3.yN)) (wk W Cmp3.tab) (W := 0) (Nat.le_of_ble_eq_true rfl) (Nat.le_of_ble_eq_true rfl) (Nat.le_refl _) (by show 0 + len ≤ len; omega) (g := (mkF m 36 #[.val (.ref a), .val (.ref b), .val (.int (Int32.ofNat o)), .val (.int (Int32.ofNat len)), .val .null, .unset] [.int (Int32.ofNat len), .int (Int32.ofNat o), .ref b])) rfl (by rw [hml]; rfl) c7 (argsL := [.ref b, .int (Int32.ofNat o), .int (Int32.ofNat len)]) (rest := []) rfl rfl (by show 2 * 0 + 0 ≤ _; decide) (hb hbytes d36) (⟨rfl, hA.mv X5.warmed.alike hh5, l1, l2, hp⟩)
  obtain ⟨e8, z8⟩ := E8
  obtain ⟨rfl, N, n1, n2, n3, n4, n5, n6⟩ := NewArr.mv _ T5 s _ _ hh5.symm (Vm.Alike.refl _) rfl e8
  rw [hh5] at z8
  have hB1 := hB.keep X8.warmed.alike (n6 _ _ hB.1)
  have hne : s.heap.size ≠ a := (Nat.ne_of_lt (Array.getElem?_eq_some_iff.mp hB.1).1).symm
  have c9 : Steps p.tables e below (s₁.setTop (entryFrame m #[.ref a, .ref b, .int (Int32.ofNat o), .int (Int32.ofNat len), .null] 6)) (T8.setTop (mkF m 39 #[.val (.ref a), .val (.ref b), .val (.int (Int32.ofNat o)), .val (.int (Int32.ofNat len)), .val .null, .unset] [.ref s.heap.size])) := g8
  have c10 : Steps p.tables e below (s₁.setTop (entryFrame m #[.ref a, .ref b, .int (Int32.ofNat o), .int (Int32.ofNat len), .null] 6)) (T8.setTop (mkF m 45 #[.val (.ref a), .val (.ref b), .val (.int (Int32.ofNat o)), .val (.int (Int32.ofNat len)), .val .null, .val (.ref s.heap.size)] [.int (Int32.ofNat N.slots.size), .ref s.heap.size, .ref a])) := by
    have hc : Steps p.tables e below (s₁.setTop (entryFrame m #[.ref a, .ref b, .int (Int32.ofNat o), .int (Int32.ofNat len), .null] 6)) (T8.setTop (mkF m 45 #[.val (.ref a), .val (.ref b), .val (.int (Int32.ofNat o)), .val (.int (Int32.ofNat len)), .val .null, .val (.ref s.heap.size)] [.int (Int32.ofNat len), .ref s.heap.size, .ref a])) := c9.trans (by
      refine XS.astore X8.here hexec rfl (hb hbytes d39) rfl rfl rfl ?_
      refine XS.aloadN X8.here hexec rfl (hb hbytes d41) rfl rfl ?_
      refine XS.aload X8.here hexec rfl (hb hbytes d42) rfl rfl ?_
      refine XS.iloadN X8.here hexec rfl (hb hbytes d44) rfl ?_
      exact Steps.refl _)
    rw [n4]; exact hc
  obtain ⟨v11, T11, X11, E11, g11⟩ := X8.callS hexec (CodL.law l s.heap.size N) hown (wks W (staticW "java/lang/String" 47 CodL.yN)) (wk W CodL.tab) (W := 1) (Nat.le_of_ble_eq_true rfl) (Nat.le_of_ble_eq_true rfl) (Nat.le_refl _) (by show 0 + len + 0 ≤ len; omega) (g := (mkF m 45 #[.val (.ref a), .val (.ref b), .val (.int (Int32.ofNat o)), .val (.int (Int32.ofNat len)), .val .null, .val (.ref s.heap.size)] [.int (Int32.ofNat N.slots.size), .ref s.heap.size, .ref a])) rfl (by rw [hml]; rfl) c10 (argsL := [.ref s.heap.size, .int (Int32.ofNat N.slots.size)]) (rest := [.ref a]) rfl rfl (by show 2 * 0 + (1 + 0) ≤ _; decide) (hb hbytes d45) (⟨rfl, n1⟩)
  obtain ⟨rfl, q11⟩ := E11
  have hB11 := hB1.mv (X8.warmed.alike.symm.trans X11.warmed.alike) q11
  have c12 : Steps p.tables e below (s₁.setTop (entryFrame m #[.ref a, .ref b, .int (Int32.ofNat o), .int (Int32.ofNat len), .null] 6)) (T11.setTop (mkF m 48 #[.val (.ref a), .val (.ref b), .val (.int (Int32.ofNat o)), .val (.int (Int32.ofNat len)), .val .null, .val (.ref s.heap.size)] [.int 0, .ref a])) := g11
  obtain ⟨T13, X13, p13, bl13, sl13, st13⟩ := X11.finit hexec hown (wk W (.fieldLink "java/lang/String" 15 "java/lang/String" "coder" "B")) (Or.inr ⟨_, (wk W (.laysFinal "java/lang/String" "java/lang/String" "coder" "B"))⟩) (Or.inl ⟨rfl, hnm⟩) f2 (Or.inl rfl) hB11 (t := .byte) (by decide +kernel) rfl (g := (mkF m 48 #[.val (.ref a), .val (.ref b), .val (.int (Int32.ofNat o)), .val (.int (Int32.ofNat len)), .val .null, .val (.ref s.heap.size)] [.int 0, .ref a])) rfl (rest := []) rfl (hb hbytes d48)
  have c14 : Steps p.tables e below (s₁.setTop (entryFrame m #[.ref a, .ref b, .int (Int32.ofNat o), .int (Int32.ofNat len), .null] 6)) (T13.setTop (mkF m 54 #[.val (.ref a), .val (.ref b), .val (.int (Int32.ofNat o)), .val (.int (Int32.ofNat len)), .val .null, .val (.ref s.heap.size)] [.ref s.heap.size, .ref a])) := (c12.trans (st13 _ (Steps.refl _))).trans (by
    refine XS.aloadN X13.here hexec rfl (hb hbytes d51) rfl rfl ?_
    refine XS.aload X13.here hexec rfl (hb hbytes d52) rfl rfl ?_
    exact Steps.refl _)
  obtain ⟨T15, X15, p15, bl15, sl15, st15⟩ := X13.finit hexec hown (wk W (.fieldLink "java/lang/String" 9 "java/lang/String" "value" "[B")) (Or.inr ⟨_, (wk W (.laysFinal "java/lang/String" "java/lang/String" "value" "[B"))⟩) (Or.inl ⟨rfl, hnm⟩) f1 (Or.inl rfl) bl13 (t := (.array .byte)) (by decide +kernel) rfl (g := (mkF m 54 #[.val (.ref a), .val (.ref b), .val (.int (Int32.ofNat o)), .val (.int (Int32.ofNat len)), .val .null, .val (.ref s.heap.size)] [.ref s.heap.size, .ref a])) rfl (rest := []) rfl (hb hbytes d54)
  have c16 : Steps p.tables e below (s₁.setTop (entryFrame m #[.ref a, .ref b, .int (Int32.ofNat o), .int (Int32.ofNat len), .null] 6)) (T15.setTop (mkF m 57 #[.val (.ref a), .val (.ref b), .val (.int (Int32.ofNat o)), .val (.int (Int32.ofNat len)), .val .null, .val (.ref s.heap.size)] [])) := c14.trans (st15 _ (Steps.refl _))
  have ap := apart (Or.inr ⟨_, (wk W (.laysFinal "java/lang/String" "java/lang/String" "value" "[B"))⟩) (Or.inr ⟨_, (wk W (.laysFinal "java/lang/String" "java/lang/String" "coder" "B"))⟩) f1 f2 (t₁ := .array .byte) (t₂ := .byte) (by decide +kernel) (by decide +kernel) (by decide)
  have al := X8.warmed.alike.symm.trans X15.warmed.alike
  have n7 : T11.heap[s.heap.size]? = some N := by rw [q11]; exact n1.1
  exact ⟨T15, none, _, _, _, X15, by simp, rfl, by omega, (fun _ => rfl), ⟨rfl, _, N, bl15, ((Same.refl D _).set _ (by simp)).set _ (by simp), sl15, (Cell.slots_setSlot_ne _ ap).trans sl13, n1.keep al (p15.other hne (p13.other hne n7)), n2, by rw [al.findClass]; exact n3, n4, n5, fun y c h1 h2 => p15.other h1 (p13.other h1 (by rw [q11]; exact n6 y c h2)), by rw [p15.2.2, p13.2.2, q11]; exact z8⟩, fun fs hl => c16.trans (X15.returnOut hexec hret (hb hbytes d57) hl)⟩
end New4
namespace New1
def yN : MethodName := ⟨"java/lang/String", "<init>", "([C)V"⟩
abbrev yB : ByteArray := jdk_42_method_3_code
theorem d0 : decode yB 0 = .ok (.aload_n 0, 1) := by decide +kernel
theorem d1 : decode yB 1 = .ok (.aload_n 1, 1) := by decide +kernel
theorem d2 : decode yB 2 = .ok (.iconst 0, 1) := by decide +kernel
theorem d3 : decode yB 3 = .ok (.aload_n 1, 1) := by decide +kernel
theorem d4 : decode yB 4 = .ok (.arraylength, 1) := by decide +kernel
theorem d5 : decode yB 5 = .ok (.aconst_null, 1) := by decide +kernel
theorem d6 : decode yB 6 = .ok (.invokespecial 27, 3) := by decide +kernel
theorem d9 : decode yB 9 = .ok (.return_, 1) := by decide +kernel
def site : List Cond := [New4.tab] ++ initW "java/lang/String" 27 New4.yN
def tab : Cond := tabOf yN yB 2 none site
def P (a : Addr) (D : Cell) (fV fC : Field) (b : Addr) (A : Cell) (z : Int32) (args : Array Value) (s : State) : Prop := args = #[.ref a, .ref b] ∧ Blank "java/lang/String" a D s ∧ Found "java/lang/String" "value" "[B" fV s ∧ Found "java/lang/String" "coder" "B" fC s ∧ Ch b A s ∧ StaticIs s "java/lang/String" "COMPACT_STRINGS" "Z" (.int z) ∧ ¬ z = 0 ∧ 0 < A.slots.size ∧ A.slots.size ≤ 536870912 ∧ ∀ i, i < A.slots.size → ¬ 255 < cv A i
def E (a : Addr) (D : Cell) (fV fC : Field) (A : Cell) (r : Option Value) (s u : State) : Prop := Got a D fV fC A 0 A.slots.size r s u
/-- new String(chars), not empty, no char above 255: a Latin-1 String of their low bytes -/
theorem law (l : Launch) (a : Addr) (D : Cell) (fV fC : Field) (b : Addr) (A : Cell) (z : Int32) : Law l yN 2 1 3 52 yB 2 none site (P a D fV fC b A z) (E a D fV fC A) [⟨a, fC.slot⟩, ⟨a, fV.slot⟩] 1 A.slots.size := by
  refine Law.of_walk (plainFor_of_name (by decide +kernel)) (by decide +kernel) (by decide +kernel) (by decide) (fun _ _ h => by rw [h.1]; rfl) (fun _ U U' hal hh h => ⟨h.1, h.2.1.mv hal hh, h.2.2.1.al hal, h.2.2.2.1.al hal, h.2.2.2.2.1.mv hal hh, h.2.2.2.2.2.1.there hal hh, h.2.2.2.2.2.2⟩) (fun r U U' V V' h1 hal h2 h => Got.mv r U U' V V' h1 hal h2 h) ?_
  intro p e s m args below meth c s₁ X0 hexec hbytes hml hret hlk hnm hown hh0 W hP
  obtain ⟨rfl, hB, f1, f2, hA, s1, hz, l0, l2, hp⟩ := hP
  have c1 : Steps p.tables e below (s₁.setTop (entryFrame m #[.ref a, .ref b] 2)) (s₁.setTop (mkF m 0 #[.val (.ref a), .val (.ref b)] [])) := entry rfl
  have c2 : Steps p.tables e below (s₁.setTop (entryFrame m #[.ref a, .ref b] 2)) (s₁.setTop (mkF m 6 #[.val (.ref a), .val (.ref b)] [.null, .int (Int32.ofNat A.slots.size), .int 0, .ref b, .ref a])) := c1.trans (by
    refine XS.aloadN X0.here hexec rfl (hb hbytes d0) rfl rfl ?_
    refine XS.aloadN X0.here hexec rfl (hb hbytes d1) rfl rfl ?_
    refine iconstV X0.here hexec rfl 0 (hb hbytes d2) (by decide) ?_
    refine XS.aloadN X0.here hexec rfl (hb hbytes d3) rfl rfl ?_
    refine X0.alen hexec (hA.1.mv X0.warmed.alike hh0) rfl rfl (hb hbytes d4) ?_
    refine XS.aconstNull X0.here hexec rfl (hb hbytes d5) ?_
    exact Steps.refl _)
  obtain ⟨v3, T3, X3, E3, g3⟩ := X0.callN hexec (New4.law l a D fV fC b A z 0 A.slots.size) rfl hown (wks W (initW "java/lang/String" 27 New4.yN)) (W New4.tab (by simp only [site, List.mem_cons, List.mem_append, true_or, or_true])) (W := 0) (Nat.le_of_ble_eq_true rfl) (Nat.le_of_ble_eq_true rfl) (Nat.le_refl _) (by show 0 + A.slots.size ≤ A.slots.size; omega) (g := (mkF m 6 #[.val (.ref a), .val (.ref b)] [.null, .int (Int32.ofNat A.slots.size), .int (Int32.ofNat 0), .ref b, .ref a])) rfl (by rw [hml]; rfl) c2 (argsL := [.ref b, .int (Int32.ofNat 0), .int (Int32.ofNat A.slots.size), .null]) (rest := []) rfl rfl (by show 2 * 0 + 0 ≤ _; decide) (hb hbytes d6) (⟨rfl, hB.mv X0.warmed.alike hh0, f1.al X0.warmed.alike, f2.al X0.warmed.alike, hA.mv X0.warmed.alike hh0, s1.there X0.warmed.alike hh0, hz, l0, by omega, l2, fun i hi => by rw [Nat.zero_add]; exact hp i hi⟩)
  have e0 := Got.mv _ s₁ s _ _ hh0.symm (Vm.Alike.refl _) rfl E3
  obtain rfl := e0.1
  have c4 : Steps p.tables e below (s₁.setTop (entryFrame m #[.ref a, .ref b] 2)) (T3.setTop (mkF m 9 #[.val (.ref a), .val (.ref b)] [])) := g3
  exact ⟨T3, none, _, _, _, X3, by simp, rfl, by omega, (fun _ => rfl), e0, fun fs hl => c4.trans (X3.returnOut hexec hret (hb hbytes d9) hl)⟩
theorem pays {l : Launch} {R : Room} {p : Program} {e : Env} {below : List Frame} {s : State} {sargs : Array Value} {len W : Nat} (a : Addr) (D : Cell) (fV fC : Field) (b : Addr) (A : Cell) (z : Int32) (htab : tab.before sargs s = true) (hfr : 4 ≤ R.frames) (hlo : W + 65 ≤ R.locals) :
    Back l R p e below s sargs yN len W (fun A₁ a₁ => A₁.cells + 1 ≤ R.cells ∧ A₁.slots + A.slots.size ≤ R.slots ∧ P a D fV fC b A z a₁ A₁.U) (fun A₁ _ v₁ B₁ => E a D fV fC A v₁ A₁.U B₁.U ∧ B₁.locs = A₁.locs ++ [⟨a, fC.slot⟩, ⟨a, fV.slot⟩] ∧ B₁.cells = A₁.cells + 1 ∧ B₁.slots = A₁.slots + A.slots.size) :=
  (law l a D fV fC b A z).pays htab hfr (by omega)
end New1
end StrChars
namespace StrChars.Road
open Jvm Sem ClassFile Op Lib Jvm.Stand Jvm.Free Jvm.Free.XT
open Jvm.Lib.Cold (StaticIs)
abbrev ST : String := "java/lang/String"
/-- every table word that New1's law asks, flat -/
abbrev words : List Jvm.Cond := [.code New1.yN New1.yB 2 none, .initialized ST, .methodLink ST 27 New4.yN, .instanceMethod New4.yN,
  .code New4.yN New4.yB 6 none, .fieldLink ST 38 ST "COMPACT_STRINGS" "Z", .laysFinal ST ST "value" "[B", .fieldLink ST 9 ST "value" "[B", .laysFinal ST ST "coder" "B", .fieldLink ST 15 ST "coder" "B",
  .methodLink ST 1 Lib.objectInit, .instanceMethod Lib.objectInit, .code Lib.objectInit ⟨#[0xb1]⟩ 1 none, .methodLink ST 177 Cmp3.yN, .static Cmp3.yN, .methodLink ST 47 CodL.yN, .static CodL.yN,
  .code Cmp3.yN Cmp3.yB 6 (some (.array .byte)), .initialized U16, .arrayClass .byte, .methodLink U16 115 Cmp5.yN, .static Cmp5.yN, .code Cmp5.yN Cmp5.yB 7 (some .int), .code CodL.yN CodL.yB 2 (some .byte)]
theorem tab_of {a : Array Value} {s : State} (h : ∀ w ∈ words, w.before a s = true) : New1.tab.before a s = true := by
  have h5 : Cmp5.tab.before a s = true := unparts (wk h (.code Cmp5.yN Cmp5.yB 7 (some .int))) (wks h (.initialized Cmp5.yN.cls :: Cmp5.site))
  have hc : CodL.tab.before a s = true := unparts (wk h (.code CodL.yN CodL.yB 2 (some .byte))) (wks h (.initialized CodL.yN.cls :: CodL.site))
  have q5 : ∀ w ∈ Cmp5.tab :: words, w.before a s = true := fun w hw => (List.mem_cons.mp hw).elim (fun e => e ▸ h5) (h w)
  have h3 : Cmp3.tab.before a s = true := unparts (wk q5 (.code Cmp3.yN Cmp3.yB 6 (some (.array .byte)))) (wks q5 (.initialized Cmp3.yN.cls :: Cmp3.site))
  have q3 : ∀ w ∈ Cmp3.tab :: CodL.tab :: words, w.before a s = true := fun w hw => (List.mem_cons.mp hw).elim (fun e => e ▸ h3) fun hw => (List.mem_cons.mp hw).elim (fun e => e ▸ hc) (h w)
  have h4 : New4.tab.before a s = true := unparts (wk q3 (.code New4.yN New4.yB 6 none)) (wks q3 (.initialized New4.yN.cls :: New4.site))
  have q4 : ∀ w ∈ New4.tab :: words, w.before a s = true := fun w hw => (List.mem_cons.mp hw).elim (fun e => e ▸ h4) (h w)
  exact unparts (wk q4 (.code New1.yN New1.yB 2 none)) (wks q4 (.initialized New1.yN.cls :: New1.site))
/-- the words ride from the start Z to the walk's own state -/
theorem moved {Z s : State} {a0 args : Array Value} (hZ : Z.Warmed39 s.vm) (hw : ∀ d ∈ words, d.before a0 Z = true) : ∀ d ∈ words, d.before args s = true := fun d hd => by
  have q := hw d hd
  have t : ∀ d ∈ words, d = .arrayClass .byte ∨ (d.onTables && d.keepsFace) = true := by decide +kernel
  rcases t d hd with rfl | t
  · exact RoadKit.mvA hZ q
  · exact RoadKit.mv hZ q t
/-- WHAT COMES BACK, over the tables of the start Z: h the heap at the call, h' behind it -/
def Q (Z : State) (x : Addr) (A : Cell) (h : Heap) (v : Option Value) (h' : Heap) (L : List Loc) : Prop := v = none ∧ (∀ y ∈ L, y.base = x) ∧ RoadKit.Keep h h' [x] ∧ h'.size = h.size + 1 ∧ RoadKit.Exa Z h' x ST ∧ RoadKit.Fld Z h' x ST "value" "[B" (.ref h.size) ∧ RoadKit.Fld Z h' x ST "coder" "B" (.int 0) ∧
  (∃ V : Cell, RoadKit.Arr Z h' h.size V .byte ∧ V.vm = .none ∧ Z.vm.findClass "[B" = some V.cls ∧ V.slots.size = A.slots.size ∧ ∀ j, j < A.slots.size → V.slots[j]? = some (.int (lo8 (cv A j)))) ∧
  ∀ (O n d : String) (w : Value), RoadKit.Fld Z h x O n d w → RoadKit.slotOf Z O n d ≠ RoadKit.slotOf Z ST "value" "[B" → RoadKit.slotOf Z O n d ≠ RoadKit.slotOf Z ST "coder" "B" → RoadKit.Fld Z h' x O n d w
/-- **new String(chars) AT A CALL, IN THE ROAD'S FORM**: for specialBack behind newO: x the fresh String, b the char[] with the cell A -/
theorem back {p : Program} {l : Launch} {e : Env} {R : Room} {s : State} {args : Array Value} {below : List Frame} {len W : Nat} {Z : State} {a0 : Array Value} {h : Heap} (hZ : Z.Warmed39 s.vm) (hw : ∀ d ∈ words, d.before a0 Z = true) {kI : Nat} (wi : (Jvm.Cond.instantiable ST kI).before a0 Z = true)
    {x b : Addr} {A : Cell} {z : Int32} {v0 c0 : Value} (E : RoadKit.Exa Z h x ST) (V : RoadKit.Fld Z h x ST "value" "[B" v0) (C : RoadKit.Fld Z h x ST "coder" "B" c0) (K : RoadKit.Arr Z h b A .char) (hty : Typed .char A) (S : RoadKit.Sta Z h ST "COMPACT_STRINGS" "Z" (.int z)) (hz : ¬ z = 0)
    (l0 : 0 < A.slots.size) (l2 : A.slots.size ≤ 536870912) (hp : ∀ i, i < A.slots.size → ¬ 255 < cv A i) (hfr : 4 ≤ R.frames) (hlo : W + 65 ≤ R.locals) :
    Back l R p e below s args New1.yN len W (fun P a => a = #[.ref x, .ref b] ∧ P.U.heap = h ∧ P.cells + 1 ≤ R.cells ∧ P.slots + A.slots.size ≤ R.slots)
      (fun P _ v B => ∃ L, Q Z x A h v B.U.heap L ∧ B.locs = P.locs ++ L ∧ B.cells = P.cells + 1 ∧ B.slots = P.slots + A.slots.size) := by
  intro m meth c P g ig mk a X hg hsize hdg hW hn hp'
  obtain ⟨rfl, rfl, r1, r2⟩ := hp'
  have al : Z.vm.Alike P.U.vm := hZ.alike.trans X.warmed.alike
  obtain ⟨D, cfV, kV, iV, fV, hD, gV, stV, knV, obV, asV, slV⟩ := id V
  obtain ⟨D', cfC, kC, iC, fC, hD', gC, stC, -, -, asC, slC⟩ := id C
  cases hD.symm.trans hD'
  obtain ⟨D2, kD, e1, e2, e3, e4, e5⟩ := id E
  cases hD.symm.trans e1
  obtain ⟨c2, k2, i1, i2, i3, -⟩ := Cond.instantiable_spec wi
  cases e2.symm.trans i1
  cases e3.symm.trans i2
  obtain ⟨kU, u1, u2⟩ := al.2.2 _ _ e3
  have hB : Blank ST x D P.U := ⟨hD, ⟨knV, fun q hq => by rw [hq] at obV; cases obV⟩, by rw [al.findClass]; exact e2, kU, u1, by rw [u2]; exact i3, by rw [u2]; exact e5 i3⟩
  have F1 : Found ST "value" "[B" fV P.U := ⟨SBG.found_only al ⟨cfV, kV, iV, gV⟩, stV⟩
  have F2 : Found ST "coder" "B" fC P.U := ⟨SBG.found_only al ⟨cfC, kC, iC, gC⟩, stC⟩
  have hA : Ch b A P.U := ⟨⟨K.1, State.isArrayOf_alike al K.2.1, K.2.2, by omega⟩, hty⟩
  have hS : StaticIs P.U ST "COMPACT_STRINGS" "Z" (.int z) := by
    obtain ⟨cfS, iS, kS, fS, st, cS, t1, t2, t3, t4, t5, t6, t7⟩ := S
    exact StaticIs.there (s := { Z with heap := P.U.heap }) ⟨cfS, iS, kS, fS, st, cS, t1, t2, t3, t4, t5, (fun q => by rw [q] at t6; cases t6), t7⟩ al rfl
  obtain ⟨v, B, X', ⟨⟨hv, E', V', q1, q2, q3, q4, q5, q6, q7, q8, q9, q10, q11⟩, hl, hc, hs⟩, st⟩ := New1.pays x D fV fC b A z (tab_of (moved hZ hw)) hfr hlo m meth c P g ig mk _ X hg hsize hdg hW hn ⟨r1, r2, rfl, hB, F1, F2, hA, hS, hz, l0, l2, hp⟩
  have al' : Z.vm.Alike B.U.vm := hZ.alike.trans X'.warmed.alike
  have hsz : E'.slots.size = D.slots.size := by
    obtain ⟨-, -, -, kB, w1, w2, w3⟩ := q1
    obtain ⟨kB', y1, y2⟩ := al'.2.2 _ _ e3
    rw [q2.2.1] at w1
    cases w1.symm.trans y1
    rw [w3, e5 i3, y2]
  refine ⟨v, B, X', ⟨_, ⟨hv, ?_, ⟨by omega, fun y cy hy hn' => q10 y cy (by simpa using hn') hy, fun y cy hy => ?_⟩, q11, ⟨E', _, q1.1, by rw [q2.2.1]; exact e2, by rw [q2.2.1]; exact e3, by rw [q2.1]; exact obV, fun _ => by rw [hsz]; exact e5 i3⟩,
    ⟨E', cfV, kV, iV, fV, q1.1, gV, stV, by rw [q2.1]; exact knV, by rw [q2.1]; exact obV, by rw [q2.2.1]; exact asV, q3⟩, ⟨E', cfC, kC, iC, fC, q1.1, gC, stC, by rw [q2.1]; exact knV, by rw [q2.1]; exact obV, by rw [q2.2.1]; exact asC, q4⟩,
    ⟨V', ⟨q5.1, State.isArrayOf_alike al'.symm q5.2.1, q5.2.2.1⟩, q6, by rw [← al'.findClass]; exact q7, q8, fun j hj => by have := q9 j hj; rwa [Nat.zero_add] at this⟩, fun O n d w F n1 n2 => ?_⟩, hl, hc, hs⟩, st⟩
  · intro y hy
    simp only [List.mem_cons, List.not_mem_nil, or_false] at hy
    rcases hy with rfl | rfl <;> rfl
  · by_cases q : y = x
    · subst q
      cases hD.symm.trans hy
      exact ⟨E', q1.1, q2.2.1, q2.1, hsz⟩
    · exact ⟨cy, q10 y cy q hy, rfl, rfl, rfl⟩
  · obtain ⟨D3, cf, k, i, f, g1, g2, g3, g4, g5, g6, g7⟩ := F
    cases hD.symm.trans g1
    simp only [RoadKit.slotOf, g2, gV, gC, Option.map_some, Option.getD_some] at n1 n2
    exact ⟨E', cf, k, i, f, q1.1, g2, g3, by rw [q2.1]; exact g4, by rw [q2.1]; exact g5, by rw [q2.2.1]; exact g6, by rw [q2.2.2 f.slot (by simp [n1, n2])]; exact g7⟩
end StrChars.Road
namespace StrChars.Road
open Jvm Sem ClassFile Op Lib Jvm.Stand Jvm.Free Jvm.Free.XT
/-- WHAT COMES BACK, the byte[] as a list of values -/
def QA (Z : State) (x : Addr) (zn : Int32) (cs : List Int32) (h : Heap) (v : Option Value) (h' : Heap) (L : List Loc) : Prop := v = none ∧ (∀ y ∈ L, y.base = x) ∧ RoadKit.Keep h h' [x] ∧ h'.size = h.size + 1 ∧ RoadKit.Exa Z h' x ST ∧ RoadKit.Fld Z h' x ST "value" "[B" (.ref h.size) ∧ RoadKit.Fld Z h' x ST "coder" "B" (.int 0) ∧
  (∃ kb, Z.vm.findClass "[B" = some kb ∧ RoadKit.Arv Z h' h.size kb .byte zn (cs.map fun c => .int (lo8 c)) (.int 0)) ∧
  ∀ (O n d : String) (w : Value), RoadKit.Fld Z h x O n d w → RoadKit.slotOf Z O n d ≠ RoadKit.slotOf Z ST "value" "[B" → RoadKit.slotOf Z O n d ≠ RoadKit.slotOf Z ST "coder" "B" → RoadKit.Fld Z h' x O n d w
/-- **new String(chars) AT A CALL, THE ARRAYS AS LISTS**: the char[] at b holds cs, not empty, no char above 255 -/
theorem backArv {p : Program} {l : Launch} {e : Env} {R : Room} {s : State} {args : Array Value} {below : List Frame} {len W : Nat} {Z : State} {a0 : Array Value} {h : Heap} (hZ : Z.Warmed39 s.vm) (hw : ∀ d ∈ words, d.before a0 Z = true) {kI : Nat} (wi : (Jvm.Cond.instantiable ST kI).before a0 Z = true)
    {x b : Addr} {k : ClassId} {zn z : Int32} {cs : List Int32} {dv v0 c0 : Value} (E : RoadKit.Exa Z h x ST) (V : RoadKit.Fld Z h x ST "value" "[B" v0) (C : RoadKit.Fld Z h x ST "coder" "B" c0) (K : RoadKit.Arv Z h b k .char zn (cs.map Value.int) dv) (S : RoadKit.Sta Z h ST "COMPACT_STRINGS" "Z" (.int z)) (hz : ¬ z = 0)
    (hlen : zn.toNatClampNeg = cs.length) (h0 : 0 < cs.length) (hbig : cs.length ≤ 536870912) (hall : ∀ c ∈ cs, ¬ 255 < c) (hfr : 4 ≤ R.frames) (hlo : W + 65 ≤ R.locals) :
    Back l R p e below s args New1.yN len W (fun P a => a = #[.ref x, .ref b] ∧ P.U.heap = h ∧ P.cells + 1 ≤ R.cells ∧ P.slots + cs.length ≤ R.slots)
      (fun P _ v B => ∃ L, QA Z x zn cs h v B.U.heap L ∧ B.locs = P.locs ++ L ∧ B.cells = P.cells + 1 ∧ B.slots = P.slots + cs.length) := by
  obtain ⟨A, K1, K2, K3, K4, K5, K6⟩ := K
  have e : A.slots.size = cs.length := K3.trans hlen
  have hat : ∀ (i : Nat) (hi : i < cs.length), A.slots[i]? = some (.int cs[i]) := fun i hi => by rw [K5 i (by omega)]; simp [List.getD_eq_getElem?_getD, hi]
  have hcv : ∀ (i : Nat) (hi : i < cs.length), cv A i = cs[i] := fun i hi => by unfold cv; rw [hat i hi]
  have hty : Typed .char A := fun i v hv => by
    have hi : i < A.slots.size := (Array.getElem?_eq_some_iff.mp hv).1
    have q := K5 i hi
    rw [hv] at q
    rw [Option.some.inj q]
    exact K6 i hi
  refine Back.mono (back hZ hw wi E V C K1 hty S hz (by omega) (by omega) (fun i hi => by rw [hcv i (by omega)]; exact hall _ (List.getElem_mem _)) hfr hlo) (fun P a hp => ⟨hp.1, hp.2.1, hp.2.2.1, by rw [e]; exact hp.2.2.2⟩) (fun P a v B hp hq => ?_)
  obtain ⟨L, ⟨q1, q2, q3, q4, q5, q6, q7, ⟨V', v1, v2, v3, v4, v5⟩, q9⟩, hl, hc, hs⟩ := hq
  refine ⟨L, ⟨q1, q2, q3, q4, q5, q6, q7, ⟨V'.cls, v3, V', v1, rfl, by rw [v4, e, hlen], K4, fun i hi => ?_, fun i hi => ?_⟩, q9⟩, hl, hc, by rw [hs, e]⟩
  · have hi' : i < cs.length := by omega
    rw [v5 i (by omega), hcv i hi']; simp [List.getD_eq_getElem?_getD, hi']
  · have hi' : i < cs.length := by omega
    simp only [List.getD_eq_getElem?_getD, List.getElem?_map, List.getElem?_eq_getElem hi', Option.map_some, Option.getD_some]
    exact fits_lo8 _
end StrChars.Road
namespace StrChars.Road
open Jvm Sem ClassFile Op Lib Jvm.Stand Jvm.Free Jvm.Free.XT
/-- WHAT COMES BACK, in the writer's own shape -/
def QV (Z : State) (x : Addr) (N : Int32) (bs : List Int32) (h : Heap) (n0 : Nat) (v : Option Value) (h' : Heap) (L : List Loc) : Prop := v = none ∧ RoadKit.Fr n0 L ∧ RoadKit.Keep h h' [x] ∧ RoadKit.Exa Z h' x ST ∧ RoadKit.Fld Z h' x ST "coder" "B" (.int 0) ∧
  ∃ (t : Addr) (kb : ClassId), n0 ≤ t ∧ h.size ≤ t ∧ ¬ t = x ∧ RoadKit.Fld Z h' x ST "value" "[B" (.ref t) ∧ RoadKit.Arv Z h' t kb .byte N (bs.map Value.int) (.int 0)
/-- **new String(chars) AT A CALL, FOR THE WRITER**: a char[] of n known ints, each 0 to 255 -/
theorem backV {p : Program} {l : Launch} {e : Env} {R : Room} {s : State} {args : Array Value} {below : List Frame} {len W : Nat} {Z : State} {a0 : Array Value} {h : Heap} (hZ : Z.Warmed39 s.vm) (hw : ∀ d ∈ words, d.before a0 Z = true) {kI : Nat} (wi : (Jvm.Cond.instantiable ST kI).before a0 Z = true)
    {x b : Addr} {kC : ClassId} {cs bs : List Int32} {d v0 c0 : Value} {z N : Int32} {n n0 : Nat} (hx0 : n0 ≤ x) (hh0 : n0 ≤ h.size) (E : RoadKit.Exa Z h x ST) (V : RoadKit.Fld Z h x ST "value" "[B" v0) (C : RoadKit.Fld Z h x ST "coder" "B" c0) (K : RoadKit.Arv Z h b kC .char N (cs.map Value.int) d) (S : RoadKit.Sta Z h ST "COMPACT_STRINGS" "Z" (.int z)) (hz : ¬ z = 0)
    (hn : cs.length = n) (hN : N = Int32.ofNat n) (l0 : 0 < n) (l2 : n ≤ 4000) (hp : ∀ c ∈ cs, ¬ c < 0 ∧ ¬ (255 : Int32) < c) (hb : bs = cs.map (fun c => c.toInt8.toInt32)) (hfr : 4 ≤ R.frames) (hlo : W + 65 ≤ R.locals) :
    Back l R p e below s args (⟨"java/lang/String", "<init>", "([C)V"⟩ : MethodName) len W (fun P a => a = #[.ref x, .ref b] ∧ P.U.heap = h ∧ P.cells + 1 ≤ R.cells ∧ P.slots + n ≤ R.slots)
      (fun P _ v B => ∃ L, QV Z x N bs h n0 v B.U.heap L ∧ B.locs = P.locs ++ L ∧ B.cells = P.cells + 1 ∧ B.slots = P.slots + n) := by
  subst hn hN hb
  refine Back.mono (backArv hZ hw wi E V C K S hz (n32 (by omega)) l0 (by omega) (fun c hc => (hp c hc).2) hfr hlo) (fun P a hp => hp) (fun P a v B hp hq => ?_)
  obtain ⟨L, ⟨q1, q2, q3, q4, q5, q6, q7, ⟨kb, v1, v2⟩, q9⟩, hl, hc, hs⟩ := hq
  exact ⟨L, ⟨q1, fun y hy => by rw [q2 y hy]; exact hx0, q3, q5, q7, h.size, kb, hh0, Nat.le_refl _, Nat.ne_of_gt E.lt, q6, by rw [List.map_map]; exact v2⟩, hl, hc, hs⟩
end StrChars.Road
end Jvm.Pilot.@@N@@

namespace Jvm.Pilot.@@N@@
open Jvm Jvm.ClassFile Sem Op Lib Jvm.Free Jvm.Stand Jvm.LawKit Jvm.RoadKit Bundle Jvm.Pilot.@@N@@.Jvm.D
/-- the run from U comes to a return whose value, heap and written places Q takes; it has made at most kc cells of ks slots -/
def own_Go (p : Program) (e : Env) (below : List Frame) (s : State) (Q : Option Value → Heap → List Loc → Prop) (kc ks : Nat) (U : State) : Prop :=
  ∃ t o, Steps p.tables e below U t ∧ t.status = .running ∧ Ended t below o ∧ ∃ v L, o = .returned v ∧ Q v t.heap L ∧ FrameEnd s o t L kc ks
section OwnKit
variable {p : Program} {l : Launch} {e : Env} {R : Room} {s : State} {m : MethodId} {args : Array Value} {below : List Frame} {meth : Method} {c : Code} {T : State} {locs : List Loc} {cells slots kc ks : Nat} {Z : State} {a0 : Array Value} {h : Heap} {Q : Option Value → Heap → List Loc → Prop}
theorem own_go {U U' : State} (f : ∀ t, Steps p.tables e below U' t → Steps p.tables e below U t) (g : own_Go p e below s Q kc ks U') : own_Go p e below s Q kc ks U := by
  obtain ⟨t, o, a, r⟩ := g
  exact ⟨t, o, f t a, r⟩
theorem own_end (X : Stand p l e R s m args below meth c T locs cells slots) (hlk : meth.locks = false) (eT : T.heap = h) {v : Option Value} (hv : meth.sig.returnType = none → v = none) (hc : cells ≤ kc) (hs : slots ≤ ks) (hq : Q v h locs) {U : State}
    (hst : ∀ fs, (∀ (f : JFrame) (acts : List Action), f.method = m → f.locked = none → f.entered = [] → (doReturn e (T.setTop f) acts v).1 = T.setFrames fs) → Steps p.tables e below U (T.setFrames fs)) : own_Go p e below s Q kc ks U := by
  obtain ⟨fs, hr, hrun, hended, hW, hsame⟩ := X.leave (v := v) hv hlk
  refine ⟨_, _, hst fs hr, hrun, hended, v, locs, rfl, ?_, ⟨v, rfl⟩, hW, hsame.mono hc hs⟩
  show Q v T.heap locs
  rw [eT]; exact hq
theorem own_retN (X : Stand p l e R s m args below meth c T locs cells slots) (hx : p.tables.exec = Jvm.exec) (hlk : meth.locks = false) (eT : T.heap = h) {pc : Nat} {Ls : Array Slot} {z : Int32} {t : FieldType} {rest : List Value} (hret : meth.sig.returnType = some t) (ht : t = .boolean ∨ t = .byte ∨ t = .char ∨ t = .short)
    (hd : decode c.code pc = .ok (.ireturn, 1)) (hc : cells ≤ kc) (hs : slots ≤ ks) (hq : Q (some (.int (nar t z))) h locs) : own_Go p e below s Q kc ks (T.setTop (mkF m pc Ls (.int z :: rest))) :=
  own_end X hlk eT (fun q => by rw [hret] at q; cases q) hc hs hq fun fs hr => retN X hx hret ht hd hr
theorem own_retI (X : Stand p l e R s m args below meth c T locs cells slots) (hx : p.tables.exec = Jvm.exec) (hlk : meth.locks = false) (eT : T.heap = h) {pc : Nat} {Ls : Array Slot} {z : Int32} {rest : List Value} (hret : meth.sig.returnType = some .int)
    (hd : decode c.code pc = .ok (.ireturn, 1)) (hc : cells ≤ kc) (hs : slots ≤ ks) (hq : Q (some (.int z)) h locs) : own_Go p e below s Q kc ks (T.setTop (mkF m pc Ls (.int z :: rest))) :=
  own_end X hlk eT (fun q => by rw [hret] at q; cases q) hc hs hq fun fs hr => retOut X hx hret rfl (Or.inl ⟨rfl, Or.inl rfl, z, rfl⟩) hd hr
theorem own_retJ (X : Stand p l e R s m args below meth c T locs cells slots) (hx : p.tables.exec = Jvm.exec) (hlk : meth.locks = false) (eT : T.heap = h) {pc : Nat} {Ls : Array Slot} {z : Int64} {rest : List Value} (hret : meth.sig.returnType = some .long)
    (hd : decode c.code pc = .ok (.lreturn, 1)) (hc : cells ≤ kc) (hs : slots ≤ ks) (hq : Q (some (.long z)) h locs) : own_Go p e below s Q kc ks (T.setTop (mkF m pc Ls (.long z :: rest))) :=
  own_end X hlk eT (fun q => by rw [hret] at q; cases q) hc hs hq fun fs hr => retOut X hx hret rfl (Or.inr (Or.inl ⟨rfl, rfl, z, rfl⟩)) hd hr
theorem own_retA (X : Stand p l e R s m args below meth c T locs cells slots) (hx : p.tables.exec = Jvm.exec) (hlk : meth.locks = false) (eT : T.heap = h) {pc : Nat} {Ls : Array Slot} {v : Value} {t : FieldType} {rest : List Value} (hret : meth.sig.returnType = some t) (ht : t.isReference = true) (hv : v.isRef = true)
    (hd : decode c.code pc = .ok (.areturn, 1)) (hc : cells ≤ kc) (hs : slots ≤ ks) (hq : Q (some v) h locs) : own_Go p e below s Q kc ks (T.setTop (mkF m pc Ls (v :: rest))) :=
  own_end X hlk eT (fun q => by rw [hret] at q; cases q) hc hs hq fun fs hr => retOut X hx hret (by cases t <;> first | (cases ht; done) | (rcases ref_cases hv with rfl | ⟨_, rfl⟩ <;> rfl)) (Or.inr (Or.inr (Or.inr (Or.inr ⟨rfl, ht, hv⟩)))) hd hr
theorem own_retV (X : Stand p l e R s m args below meth c T locs cells slots) (hx : p.tables.exec = Jvm.exec) (hlk : meth.locks = false) (eT : T.heap = h) {pc : Nat} {Ls : Array Slot} (hret : meth.sig.returnType = none)
    (hd : decode c.code pc = .ok (.return_, 1)) (hc : cells ≤ kc) (hs : slots ≤ ks) (hq : Q none h locs) : own_Go p e below s Q kc ks (T.setTop (mkF m pc Ls [])) :=
  own_end X hlk eT (fun _ => rfl) hc hs hq fun fs hr => X.returnOut hx hret hd hr
/-- a body's contract out of its walk -/
theorem own_met {y : MethodName} {bytes : ByteArray} {maxL : Nat} {ret : Option FieldType} {ws : List Jvm.Cond} {rm : Room} {as' : Array Value} (kc ks : Nat) (hpl : plainFor y = true)
    (body : ∀ (p : Program) (e : Env) (s : State) (m : MethodId) (below : List Frame) (meth : Method) (c : Code) (T : State), Stand p l e rm s m as' below meth c T [] 0 0 → p.tables.exec = Jvm.exec → c.code = bytes → c.maxLocals = maxL → meth.sig.returnType = ret → meth.locks = false → Z.Warmed39 s.vm → s.vm.findClass y.cls = some m.cls → meth.name = y.name → T.heap = h →
      own_Go p e below s Q kc ks (T.setTop (entryFrame m as' maxL))) :
    MetFree l y (head1 (Jvm.Cond.code y bytes maxL ret :: ws) rm) (fun a U => a = as' ∧ Z.Warmed39 U.vm ∧ U.heap = h) (fun _ _ _ _ _ => True) (fun _ U o U' => ∃ v L, o = .returned v ∧ Q v U'.heap L ∧ FrameEnd U o U' L kc ks) := by
  refine MetFree.of_bodySF hpl hisR ?_
  intro p e s m args below meth c s₁ Bd hml hP hK
  obtain ⟨rfl, hZ, hh⟩ := hP
  obtain ⟨t, o, h1, h2, h3, h4⟩ := body p e s m below meth c s₁ (Stand.of_body Bd) Bd.exec Bd.bytes hml Bd.returns Bd.notSynchronized hZ (findClass_of_methodNamed Bd.named) (name_of_methodNamed Bd.named Bd.method).1 (by rw [← hh, Bd.state]; rfl)
  exact ⟨t, o, h1, h2, h3, h4⟩
abbrev own_Met (l : Launch) (Z : State) (h : Heap) (y : MethodName) (bytes : ByteArray) (maxL : Nat) (ret : Option FieldType) (rm : Room) (as' : Array Value) (Q : Option Value → Heap → List Loc → Prop) : Prop :=
  MetFree l y (head1 [Jvm.Cond.code y bytes maxL ret] rm) (fun a U => a = as' ∧ Z.Warmed39 U.vm ∧ U.heap = h) (fun _ _ _ _ _ => True) (fun _ U o U' => ∃ v L, o = .returned v ∧ Q v U'.heap L ∧ FrameEnd U o U' L rm.cells rm.slots)
abbrev own_MF (l : Launch) (Z : State) (h : Heap) (y : MethodName) (bytes : ByteArray) (maxL : Nat) (ret : Option FieldType) (rm : Room) (as' : Array Value) (Q : Option Value → Heap → List Loc → Prop) (ws : List Jvm.Cond) : Prop :=
  MetFree l y (head1 (Jvm.Cond.code y bytes maxL ret :: ws) rm) (fun a U => a = as' ∧ Z.Warmed39 U.vm ∧ U.heap = h) (fun _ _ _ _ _ => True) (fun _ U o U' => ∃ v L, o = .returned v ∧ Q v U'.heap L ∧ FrameEnd U o U' L rm.cells rm.slots)
theorem own_callS {y : MethodName} {bytes : ByteArray} {maxL : Nat} {ret : Option FieldType} {rm : Room} {as' : Array Value} {own : String} {index : Nat} (X : Stand p l e R s m args below meth c T locs cells slots) (hx : p.tables.exec = Jvm.exec) (hZ : Z.Warmed39 s.vm) (hown : s.vm.findClass own = some m.cls)
    (w1 : (Jvm.Cond.methodLink own index y).before a0 Z = true) (w2 : (Jvm.Cond.static y).before a0 Z = true) (w3 : (Jvm.Cond.initialized y.cls).before a0 Z = true) (w4 : (Jvm.Cond.code y bytes maxL ret).before a0 Z = true) (hM : own_Met l Z h y bytes maxL ret rm as' Q) (W : Nat) (nc ns : Nat) 
    (hc : cells + nc ≤ R.cells) (hs : slots + ns ≤ R.slots) (eT : T.heap = h) {g : JFrame} (hg : g.method = m) (hsize : g.locals.size = c.maxLocals)
    (argsL rest : List Value) (hlen : ∀ sig, parseMethodDescriptor y.desc = some sig → argsL.length = sig.parameters.length) (hstack : g.stack = argsL.reverse ++ rest) (has : argsL.toArray = as') (hdg : decode c.code g.pc = .ok (.invokestatic index, 3))
    (hy : y.cls ≠ "java/lang/invoke/MethodHandle" ∧ y.cls ≠ "java/lang/invoke/VarHandle" := by decide) (hf : rm.frames + 1 ≤ R.frames := by decide) (hl : W + (maxL + 11) + rm.locals ≤ R.locals := by decide) (hW : 2 * g.monitorRoom + (rest.map fun v => v.category).sum ≤ W := by exact Nat.le_of_eq rfl) (hnc : rm.cells = nc := by rfl) (hns : rm.slots = ns := by rfl) :
    ∃ v T' L, Stand p l e R s m args below meth c T' (locs ++ L) (cells + nc) (slots + ns) ∧ Q v T'.heap L ∧ ∀ target, Steps p.tables e below (T'.setTop { g with pc := g.pc + 3, stack := v.toList ++ rest }) target → Steps p.tables e below (T.setTop g) target := by
  subst hnc hns
  obtain ⟨v, _, ⟨T', L', k', n'⟩, -, X', ⟨L, hQ, h1, h2, h3⟩, st⟩ := Jvm.LawKit.callS X hx hown (mvT hZ w1) (mvT hZ w2) (mvT hZ w3) (mvT hZ w4) hy (backOf (W := W) hM hZ w4 w3 hf hl) hg hsize hlen hstack hW hdg (fun _ _ => ⟨has, eT, hc, hs⟩)
  dsimp only [Pt.U, Pt.locs, Pt.cells, Pt.slots] at X' hQ h1 h2 h3 st
  subst h1 h2 h3
  exact ⟨v, T', L, X', hQ, st⟩
theorem own_callI {y : MethodName} {bytes : ByteArray} {maxL : Nat} {rm : Room} {as' : Array Value} {own : String} {index : Nat} (X : Stand p l e R s m args below meth c T locs cells slots) (hx : p.tables.exec = Jvm.exec) (hZ : Z.Warmed39 s.vm) (hown : s.vm.findClass own = some m.cls)
    (w1 : (Jvm.Cond.methodLink own index y).before a0 Z = true) (w2 : (Jvm.Cond.instanceMethod y).before a0 Z = true) (w3 : (Jvm.Cond.initialized y.cls).before a0 Z = true) (w4 : (Jvm.Cond.code y bytes maxL none).before a0 Z = true) (hM : own_Met l Z h y bytes maxL none rm as' Q) (W : Nat) (nc ns : Nat) (hy1 : y.name = "<init>")
    (hc : cells + nc ≤ R.cells) (hs : slots + ns ≤ R.slots) (eT : T.heap = h) {g : JFrame} (hg : g.method = m) (hsize : g.locals.size = c.maxLocals)
    (a : Addr) (argsL rest : List Value) (hlen : ∀ sig, parseMethodDescriptor y.desc = some sig → argsL.length = sig.parameters.length) (hstack : g.stack = argsL.reverse ++ .ref a :: rest) (has : (Value.ref a :: argsL).toArray = as') (hdg : decode c.code g.pc = .ok (.invokespecial index, 3))
    (hy : y.cls ≠ "java/lang/invoke/MethodHandle" ∧ y.cls ≠ "java/lang/invoke/VarHandle" := by decide) (hf : rm.frames + 1 ≤ R.frames := by decide) (hl : W + (maxL + 11) + rm.locals ≤ R.locals := by decide) (hW : 2 * g.monitorRoom + (rest.map fun v => v.category).sum ≤ W := by exact Nat.le_of_eq rfl) (hnc : rm.cells = nc := by rfl) (hns : rm.slots = ns := by rfl) :
    ∃ v T' L, Stand p l e R s m args below meth c T' (locs ++ L) (cells + nc) (slots + ns) ∧ Q v T'.heap L ∧ ∀ target, Steps p.tables e below (T'.setTop { g with pc := g.pc + 3, stack := v.toList ++ rest }) target → Steps p.tables e below (T.setTop g) target := by
  subst hnc hns
  obtain ⟨v, _, ⟨T', L', k', n'⟩, -, X', ⟨L, hQ, h1, h2, h3⟩, st⟩ := X.specialBack hx hy1 hown (mvT hZ w1) (mvT hZ w2) (mvT hZ w4) hy (backOf (W := W) hM hZ w4 w3 hf hl) hg hsize (Steps.refl _) (a := a) (argsL := argsL) (rest := rest) hlen hstack hW hdg (fun _ _ => ⟨has, eT, hc, hs⟩)
  dsimp only [Pt.U, Pt.locs, Pt.cells, Pt.slots] at X' hQ h1 h2 h3 st
  subst h1 h2 h3
  exact ⟨v, T', L, X', hQ, fun _ k => st.trans k⟩
theorem own_callV {y z : MethodName} {bytes : ByteArray} {maxL : Nat} {ret : Option FieldType} {rm : Room} {as' : Array Value} {own C : String} {index : Nat} (X : Stand p l e R s m args below meth c T locs cells slots) (hx : p.tables.exec = Jvm.exec) (hZ : Z.Warmed39 s.vm) (hown : s.vm.findClass own = some m.cls)
    (w1 : (Jvm.Cond.methodLink own index y).before a0 Z = true) (wd : (Jvm.Cond.declares y).before a0 Z = true) (nf : NotFace s y) (wsel : (Jvm.Cond.selects C y z).before a0 Z = true) (w2 : (Jvm.Cond.instanceMethod z).before a0 Z = true) (w3 : (Jvm.Cond.initialized z.cls).before a0 Z = true) (w4 : (Jvm.Cond.code z bytes maxL ret).before a0 Z = true) (hM : own_Met l Z h z bytes maxL ret rm as' Q) (W : Nat) (nc ns : Nat) 
    (hc : cells + nc ≤ R.cells) (hs : slots + ns ≤ R.slots) (eT : T.heap = h) {a : Addr} (E : Exa Z h a C) {g : JFrame} (hg : g.method = m) (hsize : g.locals.size = c.maxLocals)
    (argsL rest : List Value) (hlen : ∀ sig, parseMethodDescriptor y.desc = some sig → argsL.length = sig.parameters.length) (hstack : g.stack = argsL.reverse ++ .ref a :: rest) (has : (Value.ref a :: argsL).toArray = as') (hdg : decode c.code g.pc = .ok (.invokevirtual index, 3))
    (hy : y.cls ≠ "java/lang/invoke/MethodHandle" ∧ y.cls ≠ "java/lang/invoke/VarHandle" := by decide) (hf : rm.frames + 1 ≤ R.frames := by decide) (hl : W + (maxL + 11) + rm.locals ≤ R.locals := by decide) (hW : 2 * g.monitorRoom + (rest.map fun v => v.category).sum ≤ W := by exact Nat.le_of_eq rfl) (hnc : rm.cells = nc := by rfl) (hns : rm.slots = ns := by rfl) :
    ∃ v T' L, Stand p l e R s m args below meth c T' (locs ++ L) (cells + nc) (slots + ns) ∧ Q v T'.heap L ∧ ∀ target, Steps p.tables e below (T'.setTop { g with pc := g.pc + 3, stack := v.toList ++ rest }) target → Steps p.tables e below (T.setTop g) target := by
  subst hnc hns
  obtain ⟨cq, kq, qa, qb, qc⟩ := isOf hZ eT E
  obtain ⟨v, _, ⟨T', L', k', n'⟩, -, X', ⟨L, hQ, h1, h2, h3⟩, st⟩ := X.virtualBack hx hown (mvT hZ w1) (mvT hZ wd) nf (mvT hZ wsel) (mvT hZ w2) hy (backOf (W := W) hM hZ w4 w3 hf hl) qa qc hg hsize (Steps.refl _) (argsL := argsL) (rest := rest) hlen hstack hW hdg (fun _ _ => ⟨has, eT, hc, hs⟩)
  dsimp only [Pt.U, Pt.locs, Pt.cells, Pt.slots] at X' hQ h1 h2 h3 st
  subst h1 h2 h3
  exact ⟨v, T', L, X', hQ, fun _ k => st.trans k⟩
theorem own_callP {y : MethodName} {bytes : ByteArray} {maxL : Nat} {ret : Option FieldType} {rm : Room} {as' : Array Value} {own C : String} {index : Nat} (X : Stand p l e R s m args below meth c T locs cells slots) (hx : p.tables.exec = Jvm.exec) (hZ : Z.Warmed39 s.vm) (hown : s.vm.findClass own = some m.cls)
    (w1 : (Jvm.Cond.methodLink own index y).before a0 Z = true) (w2 : (Jvm.Cond.instanceMethod y).before a0 Z = true) (wsel : (Jvm.Cond.selects y.cls y y).before a0 Z = true) (wp : (Jvm.Cond.privateMethod y).before a0 Z = true) (w3 : (Jvm.Cond.initialized y.cls).before a0 Z = true) (w4 : (Jvm.Cond.code y bytes maxL ret).before a0 Z = true) (hM : own_Met l Z h y bytes maxL ret rm as' Q) (W : Nat) (nc ns : Nat) 
    (hc : cells + nc ≤ R.cells) (hs : slots + ns ≤ R.slots) (eT : T.heap = h) {a : Addr} (E : Exa Z h a C) {g : JFrame} (hg : g.method = m) (hsize : g.locals.size = c.maxLocals)
    (argsL rest : List Value) (hlen : ∀ sig, parseMethodDescriptor y.desc = some sig → argsL.length = sig.parameters.length) (hstack : g.stack = argsL.reverse ++ .ref a :: rest) (has : (Value.ref a :: argsL).toArray = as') (hdg : decode c.code g.pc = .ok (.invokevirtual index, 3))
    (hy : y.cls ≠ "java/lang/invoke/MethodHandle" ∧ y.cls ≠ "java/lang/invoke/VarHandle" := by decide) (hf : rm.frames + 1 ≤ R.frames := by decide) (hl : W + (maxL + 11) + rm.locals ≤ R.locals := by decide) (hW : 2 * g.monitorRoom + (rest.map fun v => v.category).sum ≤ W := by exact Nat.le_of_eq rfl) (hnc : rm.cells = nc := by rfl) (hns : rm.slots = ns := by rfl) :
    ∃ v T' L, Stand p l e R s m args below meth c T' (locs ++ L) (cells + nc) (slots + ns) ∧ Q v T'.heap L ∧ ∀ target, Steps p.tables e below (T'.setTop { g with pc := g.pc + 3, stack := v.toList ++ rest }) target → Steps p.tables e below (T.setTop g) target := by
  subst hnc hns
  obtain ⟨cq, q1, q2⟩ := E.cell
  obtain ⟨v, _, ⟨T', L', k', n'⟩, -, X', ⟨L, hQ, h1, h2, h3⟩, st⟩ := X.privateBack hx hown (mvT hZ w1) (mvT hZ w2) (mvT hZ wsel) (Cond.privateMethod_at (mvP hZ wp (args := #[]))) (mvT hZ w4) hy (backOf (W := W) hM hZ w4 w3 hf hl) hg hsize (Steps.refl _) (a := a) (by rw [eT]; exact q1) q2 (argsL := argsL) (rest := rest) hlen hstack hW hdg (fun _ _ => ⟨has, eT, hc, hs⟩)
  dsimp only [Pt.U, Pt.locs, Pt.cells, Pt.slots] at X' hQ h1 h2 h3 st
  subst h1 h2 h3
  exact ⟨v, T', L, X', hQ, fun _ k => st.trans k⟩
theorem own_callF {xi y : MethodName} {bytes : ByteArray} {maxL : Nat} {ret : Option FieldType} {rm : Room} {as' : Array Value} {own C : String} {index count : Nat} (X : Stand p l e R s m args below meth c T locs cells slots) (hx : p.tables.exec = Jvm.exec) (hZ : Z.Warmed39 s.vm) (hown : s.vm.findClass own = some m.cls)
    (w1 : (Jvm.Cond.methodLink own index xi).before a0 Z = true) (wd : (Jvm.Cond.declares xi).before a0 Z = true) (wfa : (Jvm.Cond.interfaceMethod xi.cls xi.cls xi.name xi.desc).before a0 Z = true) (wsel : (Jvm.Cond.selects C xi y).before a0 Z = true) (w2 : (Jvm.Cond.instanceMethod y).before a0 Z = true) (wp : (Jvm.Cond.publicMethod y).before a0 Z = true) (wu : (Jvm.Cond.unhidden C xi.name xi.desc).before a0 Z = true) (wk : (Jvm.Cond.castable C xi.cls).before a0 Z = true) (w3 : (Jvm.Cond.initialized y.cls).before a0 Z = true) (w4 : (Jvm.Cond.code y bytes maxL ret).before a0 Z = true) (hfk : ((Jvm.Cond.interfaceMethod xi.cls xi.cls xi.name xi.desc).onTables && (Jvm.Cond.interfaceMethod xi.cls xi.cls xi.name xi.desc).keepsFace) = true) (hM : own_Met l Z h y bytes maxL ret rm as' Q) (W : Nat) (nc ns : Nat) 
    (hc : cells + nc ≤ R.cells) (hs : slots + ns ≤ R.slots) (eT : T.heap = h) {a : Addr} (E : Exa Z h a C) {g : JFrame} (hg : g.method = m) (hsize : g.locals.size = c.maxLocals)
    (argsL rest : List Value) (hlen : ∀ sig, parseMethodDescriptor xi.desc = some sig → argsL.length = sig.parameters.length) (hstack : g.stack = argsL.reverse ++ .ref a :: rest) (has : (Value.ref a :: argsL).toArray = as') (hdg : decode c.code g.pc = .ok (.invokeinterface index count, 5))
    (hy : xi.cls ≠ "java/lang/invoke/MethodHandle" ∧ xi.cls ≠ "java/lang/invoke/VarHandle" := by decide) (hf : rm.frames + 1 ≤ R.frames := by decide) (hl : W + (maxL + 11) + rm.locals ≤ R.locals := by decide) (hW : 2 * g.monitorRoom + (rest.map fun v => v.category).sum ≤ W := by exact Nat.le_of_eq rfl) (hnc : rm.cells = nc := by rfl) (hns : rm.slots = ns := by rfl) :
    ∃ v T' L, Stand p l e R s m args below meth c T' (locs ++ L) (cells + nc) (slots + ns) ∧ Q v T'.heap L ∧ ∀ target, Steps p.tables e below (T'.setTop { g with pc := g.pc + 5, stack := v.toList ++ rest }) target → Steps p.tables e below (T.setTop g) target := by
  subst hnc hns
  obtain ⟨cq, kq, qa, qb, qc⟩ := isOf hZ eT E
  obtain ⟨v, _, ⟨T', L', k', n'⟩, -, X', ⟨L, hQ, h1, h2, h3⟩, st⟩ := X.interfaceBack hx hown (mvT hZ w1) (mvT hZ wd) (mvT hZ wfa hfk) (mvT hZ wsel) (mvT hZ w2) (mvT hZ wp) (mvT hZ wu) (mvT hZ wk) hy (backOf (W := W) hM hZ w4 w3 hf hl) qa qb qc hg hsize (Steps.refl _) (argsL := argsL) (rest := rest) hlen hstack hW hdg (fun _ _ => ⟨has, eT, hc, hs⟩)
  dsimp only [Pt.U, Pt.locs, Pt.cells, Pt.slots] at X' hQ h1 h2 h3 st
  subst h1 h2 h3
  exact ⟨v, T', L, X', hQ, fun _ k => st.trans k⟩
theorem own_callU {y z : MethodName} {bytes : ByteArray} {maxL : Nat} {ret : Option FieldType} {rm : Room} {as' : Array Value} {own owner C : String} {index : Nat} (X : Stand p l e R s m args below meth c T locs cells slots) (hx : p.tables.exec = Jvm.exec) (hZ : Z.Warmed39 s.vm) (hown : s.vm.findClass own = some m.cls)
    (w1 : (Jvm.Cond.methodLink own index y).before a0 Z = true) (wsm : (Jvm.Cond.sameMethod y.cls owner y.name y.desc).before a0 Z = true) (wd : (Jvm.Cond.declares ⟨owner, y.name, y.desc⟩).before a0 Z = true) (wsel : (Jvm.Cond.selects C y z).before a0 Z = true) (w2 : (Jvm.Cond.instanceMethod z).before a0 Z = true) (w3 : (Jvm.Cond.initialized z.cls).before a0 Z = true) (w4 : (Jvm.Cond.code z bytes maxL ret).before a0 Z = true) (hM : own_Met l Z h z bytes maxL ret rm as' Q) (W : Nat) (nc ns : Nat) 
    (hc : cells + nc ≤ R.cells) (hs : slots + ns ≤ R.slots) (eT : T.heap = h) {a : Addr} (E : Exa Z h a C) {g : JFrame} (hg : g.method = m) (hsize : g.locals.size = c.maxLocals)
    (argsL rest : List Value) (hlen : ∀ sig, parseMethodDescriptor y.desc = some sig → argsL.length = sig.parameters.length) (hstack : g.stack = argsL.reverse ++ .ref a :: rest) (has : (Value.ref a :: argsL).toArray = as') (hdg : decode c.code g.pc = .ok (.invokevirtual index, 3))
    (howner : owner ≠ "java/lang/invoke/MethodHandle" ∧ owner ≠ "java/lang/invoke/VarHandle" := by decide) (hf : rm.frames + 1 ≤ R.frames := by decide) (hl : W + (maxL + 11) + rm.locals ≤ R.locals := by decide) (hW : 2 * g.monitorRoom + (rest.map fun v => v.category).sum ≤ W := by exact Nat.le_of_eq rfl) (hnc : rm.cells = nc := by rfl) (hns : rm.slots = ns := by rfl) :
    ∃ v T' L, Stand p l e R s m args below meth c T' (locs ++ L) (cells + nc) (slots + ns) ∧ Q v T'.heap L ∧ ∀ target, Steps p.tables e below (T'.setTop { g with pc := g.pc + 3, stack := v.toList ++ rest }) target → Steps p.tables e below (T.setTop g) target := by
  subst hnc hns
  obtain ⟨cq, kq, qa, qb, qc⟩ := isOf hZ eT E
  obtain ⟨v, _, ⟨T', L', k', n'⟩, -, X', ⟨L, hQ, h1, h2, h3⟩, st⟩ := X.virtualBackUp hx hown (mvT hZ w1) (mvT hZ wsm) (mvT hZ wd) howner (mvT hZ wsel) (mvT hZ w2) (backOf (W := W) hM hZ w4 w3 hf hl) qa qc hg hsize (Steps.refl _) (argsL := argsL) (rest := rest) hlen hstack hW hdg (fun _ _ => ⟨has, eT, hc, hs⟩)
  dsimp only [Pt.U, Pt.locs, Pt.cells, Pt.slots] at X' hQ h1 h2 h3 st
  subst h1 h2 h3
  exact ⟨v, T', L, X', hQ, fun _ k => st.trans k⟩
theorem own_callIB {y : MethodName} {bytes : ByteArray} {maxL : Nat} {as' : Array Value} {own : String} {index : Nat} (X : Stand p l e R s m args below meth c T locs cells slots) (hx : p.tables.exec = Jvm.exec) (hZ : Z.Warmed39 s.vm) (hown : s.vm.findClass own = some m.cls)
    (w1 : (Jvm.Cond.methodLink own index y).before a0 Z = true) (w2 : (Jvm.Cond.instanceMethod y).before a0 Z = true) (w3 : (Jvm.Cond.initialized y.cls).before a0 Z = true) (w4 : (Jvm.Cond.code y bytes maxL none).before a0 Z = true) (W nc ns : Nat) (hB : Back l R p e below s args y 3 W (fun A a => a = as' ∧ A.U.heap = h ∧ A.cells + nc ≤ R.cells ∧ A.slots + ns ≤ R.slots) (fun A _ v B => ∃ L, Q v B.U.heap L ∧ B.locs = A.locs ++ L ∧ B.cells = A.cells + nc ∧ B.slots = A.slots + ns)) (hy1 : y.name = "<init>")
    (hc : cells + nc ≤ R.cells) (hs : slots + ns ≤ R.slots) (eT : T.heap = h) {g : JFrame} (hg : g.method = m) (hsize : g.locals.size = c.maxLocals)
    (a : Addr) (argsL rest : List Value) (hlen : ∀ sig, parseMethodDescriptor y.desc = some sig → argsL.length = sig.parameters.length) (hstack : g.stack = argsL.reverse ++ .ref a :: rest) (has : (Value.ref a :: argsL).toArray = as') (hdg : decode c.code g.pc = .ok (.invokespecial index, 3))
    (hy : y.cls ≠ "java/lang/invoke/MethodHandle" ∧ y.cls ≠ "java/lang/invoke/VarHandle" := by decide) (hW : 2 * g.monitorRoom + (rest.map fun v => v.category).sum ≤ W := by exact Nat.le_of_eq rfl) :
    ∃ v T' L, Stand p l e R s m args below meth c T' (locs ++ L) (cells + nc) (slots + ns) ∧ Q v T'.heap L ∧ ∀ target, Steps p.tables e below (T'.setTop { g with pc := g.pc + 3, stack := v.toList ++ rest }) target → Steps p.tables e below (T.setTop g) target := by
  obtain ⟨v, _, ⟨T', L', k', n'⟩, -, X', ⟨L, hQ, h1, h2, h3⟩, st⟩ := X.specialBack hx hy1 hown (mvT hZ w1) (mvT hZ w2) (mvT hZ w4) hy hB hg hsize (Steps.refl _) (a := a) (argsL := argsL) (rest := rest) hlen hstack hW hdg (fun _ _ => ⟨has, eT, hc, hs⟩)
  dsimp only [Pt.U, Pt.locs, Pt.cells, Pt.slots] at X' hQ h1 h2 h3 st
  subst h1 h2 h3
  exact ⟨v, T', L, X', hQ, fun _ k => st.trans k⟩
theorem own_callVB {y z : MethodName} {bytes : ByteArray} {maxL : Nat} {ret : Option FieldType} {as' : Array Value} {own C : String} {index : Nat} (X : Stand p l e R s m args below meth c T locs cells slots) (hx : p.tables.exec = Jvm.exec) (hZ : Z.Warmed39 s.vm) (hown : s.vm.findClass own = some m.cls)
    (w1 : (Jvm.Cond.methodLink own index y).before a0 Z = true) (wd : (Jvm.Cond.declares y).before a0 Z = true) (nf : NotFace s y) (wsel : (Jvm.Cond.selects C y z).before a0 Z = true) (w2 : (Jvm.Cond.instanceMethod z).before a0 Z = true) (w3 : (Jvm.Cond.initialized z.cls).before a0 Z = true) (w4 : (Jvm.Cond.code z bytes maxL ret).before a0 Z = true) (W nc ns : Nat) (hB : Back l R p e below s args z 3 W (fun A a => a = as' ∧ A.U.heap = h ∧ A.cells + nc ≤ R.cells ∧ A.slots + ns ≤ R.slots) (fun A _ v B => ∃ L, Q v B.U.heap L ∧ B.locs = A.locs ++ L ∧ B.cells = A.cells + nc ∧ B.slots = A.slots + ns)) 
    (hc : cells + nc ≤ R.cells) (hs : slots + ns ≤ R.slots) (eT : T.heap = h) {a : Addr} (E : Exa Z h a C) {g : JFrame} (hg : g.method = m) (hsize : g.locals.size = c.maxLocals)
    (argsL rest : List Value) (hlen : ∀ sig, parseMethodDescriptor y.desc = some sig → argsL.length = sig.parameters.length) (hstack : g.stack = argsL.reverse ++ .ref a :: rest) (has : (Value.ref a :: argsL).toArray = as') (hdg : decode c.code g.pc = .ok (.invokevirtual index, 3))
    (hy : y.cls ≠ "java/lang/invoke/MethodHandle" ∧ y.cls ≠ "java/lang/invoke/VarHandle" := by decide) (hW : 2 * g.monitorRoom + (rest.map fun v => v.category).sum ≤ W := by exact Nat.le_of_eq rfl) :
    ∃ v T' L, Stand p l e R s m args below meth c T' (locs ++ L) (cells + nc) (slots + ns) ∧ Q v T'.heap L ∧ ∀ target, Steps p.tables e below (T'.setTop { g with pc := g.pc + 3, stack := v.toList ++ rest }) target → Steps p.tables e below (T.setTop g) target := by
  obtain ⟨cq, kq, qa, qb, qc⟩ := isOf hZ eT E
  obtain ⟨v, _, ⟨T', L', k', n'⟩, -, X', ⟨L, hQ, h1, h2, h3⟩, st⟩ := X.virtualBack hx hown (mvT hZ w1) (mvT hZ wd) nf (mvT hZ wsel) (mvT hZ w2) hy hB qa qc hg hsize (Steps.refl _) (argsL := argsL) (rest := rest) hlen hstack hW hdg (fun _ _ => ⟨has, eT, hc, hs⟩)
  dsimp only [Pt.U, Pt.locs, Pt.cells, Pt.slots] at X' hQ h1 h2 h3 st
  subst h1 h2 h3
  exact ⟨v, T', L, X', hQ, fun _ k => st.trans k⟩
/-- the start's heap stands in h unchanged -/
theorem own_oldExt {h' : Heap} (O : Ext Z.heap h) (E : Ext h h') : Ext Z.heap h' := ⟨Nat.le_trans O.1 E.1, fun x c q => E.2 x c (O.2 x c q)⟩
theorem own_oldKeep {h' : Heap} {ws : List Addr} (O : Ext Z.heap h) (K : Keep h h' ws) (q : ∀ x ∈ ws, Z.heap.size ≤ x) : Ext Z.heap h' :=
  ⟨Nat.le_trans O.1 K.1, fun x c r => K.2.1 x c (O.2 x c r) fun z => absurd (Array.getElem?_eq_some_iff.mp r).1 (Nat.not_lt.mpr (q x z))⟩
theorem own_oldWr {h' : Heap} {a : Addr} {sl : Nat} {v : Value} (O : Ext Z.heap h) (W : Wr h h' a sl v) (q : Z.heap.size ≤ a) : Ext Z.heap h' := own_oldKeep O (Keep.of_wr W) (allS q all0)
theorem own_keepTrans {h0 h' : Heap} {ws : List Addr} (K : Keep h0 h ws) (K' : Keep h h' []) : Keep h0 h' ws := K.trans K' fun x q => nomatch q
theorem own_insKeep {h' : Heap} {ws : List Addr} {a : Addr} {C : String} {b : Bool} (F : Ins Z h a C b) (K : Keep h h' ws) : Ins Z h' a C b := by
  obtain ⟨cell, cT, h1, h2, h3⟩ := F
  obtain ⟨c', q1, q2, q3, -⟩ := K.2.2 a cell h1
  exact ⟨c', cT, q1, h2, by rw [q2, q3]; exact h3⟩
theorem own_cat1 {v : Value} (r : v.isRef = true) : v.category = 1 := by cases v <;> simp [Value.isRef, Value.category] at r ⊢
theorem own_fitsRef {v : Value} (t : FieldType) (r : v.isRef = true) (ht : t.isReference = true) : fits t v = true := by
  cases t <;> first | (cases ht; done) | (rcases ref_cases r with rfl | ⟨_, rfl⟩ <;> rfl)
theorem own_narRef {v : Value} (t : FieldType) (r : v.isRef = true) (ht : t.isReference = true) : narrow t v = v := by
  cases t <;> first | (cases ht; done) | (rcases ref_cases r with rfl | ⟨_, rfl⟩ <;> rfl)
theorem own_keepSub {h0 : Heap} {ws ws' : List Addr} (K : Keep h0 h ws) (q : ∀ x ∈ ws, x ∈ ws') : Keep h0 h ws' := ⟨K.1, fun x c r z => K.2.1 x c r fun u => z (q x u), K.2.2⟩
theorem own_neTy {a b : Addr} {k k' : ClassId} {ty ty' : FieldType} {z z' : Int32} {vs vs' : List Value} {d d' : Value} (F : Arv Z h a k ty z vs d) (G : Arv Z h b k' ty' z' vs' d') (hn : ty ≠ ty') : a ≠ b := by
  rintro rfl
  obtain ⟨c, A, -⟩ := F
  obtain ⟨c', A', -⟩ := G
  cases A.1.symm.trans A'.1
  obtain ⟨-, k1, q1, cm1, r1⟩ := A.2.1
  obtain ⟨-, k2, q2, cm2, r2⟩ := A'.2.1
  cases q1.symm.trans q2
  rw [r1] at r2
  cases r2
  exact hn rfl
theorem own_catR (a : Addr) : (Value.ref a).category = 1 := rfl
theorem own_catN : Value.null.category = 1 := rfl
theorem own_catI (a : Int32) : (Value.int a).category = 1 := rfl
theorem own_catJ (a : Int64) : (Value.long a).category = 2 := rfl
end OwnKit
/-- no String constant's text is asked of the start -/
def own_L (Z : State) (a0 : Array Value) : Prop := True
def own_J (Z : State) (vm : Vm) (h : Heap) : Prop := True
theorem own_Jwarm {Z s : State} {vm vm' : Vm} {h : Heap} {a0 : Array Value} (L : own_L Z a0) (hZ : Z.Warmed39 vm) (hJ : own_J Z vm h) (hW : (s.setVm vm).WarmedH vm') : own_J Z vm' h := trivial
theorem own_Jext {Z : State} {vm : Vm} {h h' : Heap} (hJ : own_J Z vm h) (E : Ext h h') : own_J Z vm h' := trivial
theorem own_Jany {Z : State} {vm : Vm} {h : Heap} (hJ : own_J Z vm h) (h' : Heap) : own_J Z vm h' := trivial
/-- the run from U comes to a return whose value, heap and written places Q takes; it has made at most kc cells of ks slots; String constants may have been resolved on the way -/
def own_GoW (p : Program) (e : Env) (below : List Frame) (s Z : State) (Q : Option Value → Heap → List Loc → Prop) (kc ks : Nat) (U : State) : Prop :=
  ∃ t o, Steps p.tables e below U t ∧ t.status = .running ∧ Ended t below o ∧ ∃ v L, o = .returned v ∧ (Q v t.heap L ∧ own_J Z t.vm t.heap) ∧ ReturnedEndW s o t L kc ks
section OwnKitW
variable {p : Program} {l : Launch} {e : Env} {R : Room} {s : State} {vm0 : Vm} {m : MethodId} {args : Array Value} {below : List Frame} {meth : Method} {c : Code} {T : State} {locs : List Loc} {cells slots kc ks : Nat} {Z : State} {a0 : Array Value} {h : Heap} {Q : Option Value → Heap → List Loc → Prop}
theorem own_since {vm : Vm} {k k' : Nat} (hS : s.Since vm k) (q : k ≤ k') : s.Since vm k' := ⟨hS.1, fun j p hj hp => ⟨(hS.2 j p hj hp).1, Nat.lt_of_lt_of_le (hS.2 j p hj hp).2 q⟩⟩
theorem own_goW {U U' : State} (f : ∀ t, Steps p.tables e below U' t → Steps p.tables e below U t) (g : own_GoW p e below s Z Q kc ks U') : own_GoW p e below s Z Q kc ks U := by
  obtain ⟨t, o, a, r⟩ := g
  exact ⟨t, o, f t a, r⟩
theorem own_sameMono {L : List Loc} {k n : Nat} {t : State} (hq : s.sameButNew t L k n) (hc : k ≤ kc) (hs : n ≤ ks) : s.sameButNew t L kc ks := hq.mono hc hs
theorem own_endW (X : Stand p l e R (s.setVm vm0) m args below meth c T locs cells slots) (hS : s.Since vm0 h.size) (hL : own_L Z a0) (hZ : Z.Warmed39 (s.setVm vm0).vm) (hJ : own_J Z vm0 h) (hlk : meth.locks = false) (eT : T.heap = h) {v : Option Value} (hv : meth.sig.returnType = none → v = none) (hc : cells ≤ kc) (hs : slots ≤ ks) (hq : Q v h locs) {U : State}
    (hst : ∀ fs, (∀ (f : JFrame) (acts : List Action), f.method = m → f.locked = none → f.entered = [] → (doReturn e (T.setTop f) acts v).1 = T.setFrames fs) → Steps p.tables e below U (T.setFrames fs)) : own_GoW p e below s Z Q kc ks U := by
  obtain ⟨fs, hr, hrun, hended, h1, h2, h3, h4⟩ := X.leaveW hS (by rw [eT]; exact Nat.le_refl _) (v := v) hv hlk
  refine ⟨_, _, hst fs hr, hrun, hended, v, locs, rfl, ⟨?_, ?_⟩, h1, h2, h3, own_sameMono h4 hc hs⟩
  · show Q v T.heap locs
    rw [eT]; exact hq
  · show own_J Z T.vm T.heap
    rw [eT]; exact own_Jwarm hL hZ hJ X.warmed
theorem own_retNW (X : Stand p l e R (s.setVm vm0) m args below meth c T locs cells slots) (hS : s.Since vm0 h.size) (hL : own_L Z a0) (hZ : Z.Warmed39 (s.setVm vm0).vm) (hJ : own_J Z vm0 h) (hx : p.tables.exec = Jvm.exec) (hlk : meth.locks = false) (eT : T.heap = h) {pc : Nat} {Ls : Array Slot} {z : Int32} {t : FieldType} {rest : List Value} (hret : meth.sig.returnType = some t) (ht : t = .boolean ∨ t = .byte ∨ t = .char ∨ t = .short)
    (hd : decode c.code pc = .ok (.ireturn, 1)) (hc : cells ≤ kc) (hs : slots ≤ ks) (hq : Q (some (.int (nar t z))) h locs) : own_GoW p e below s Z Q kc ks (T.setTop (mkF m pc Ls (.int z :: rest))) :=
  own_endW X hS hL hZ hJ hlk eT (fun q => by rw [hret] at q; cases q) hc hs hq fun fs hr => retN X hx hret ht hd hr
theorem own_retIW (X : Stand p l e R (s.setVm vm0) m args below meth c T locs cells slots) (hS : s.Since vm0 h.size) (hL : own_L Z a0) (hZ : Z.Warmed39 (s.setVm vm0).vm) (hJ : own_J Z vm0 h) (hx : p.tables.exec = Jvm.exec) (hlk : meth.locks = false) (eT : T.heap = h) {pc : Nat} {Ls : Array Slot} {z : Int32} {rest : List Value} (hret : meth.sig.returnType = some .int)
    (hd : decode c.code pc = .ok (.ireturn, 1)) (hc : cells ≤ kc) (hs : slots ≤ ks) (hq : Q (some (.int z)) h locs) : own_GoW p e below s Z Q kc ks (T.setTop (mkF m pc Ls (.int z :: rest))) :=
  own_endW X hS hL hZ hJ hlk eT (fun q => by rw [hret] at q; cases q) hc hs hq fun fs hr => retOut X hx hret rfl (Or.inl ⟨rfl, Or.inl rfl, z, rfl⟩) hd hr
theorem own_retJW (X : Stand p l e R (s.setVm vm0) m args below meth c T locs cells slots) (hS : s.Since vm0 h.size) (hL : own_L Z a0) (hZ : Z.Warmed39 (s.setVm vm0).vm) (hJ : own_J Z vm0 h) (hx : p.tables.exec = Jvm.exec) (hlk : meth.locks = false) (eT : T.heap = h) {pc : Nat} {Ls : Array Slot} {z : Int64} {rest : List Value} (hret : meth.sig.returnType = some .long)
    (hd : decode c.code pc = .ok (.lreturn, 1)) (hc : cells ≤ kc) (hs : slots ≤ ks) (hq : Q (some (.long z)) h locs) : own_GoW p e below s Z Q kc ks (T.setTop (mkF m pc Ls (.long z :: rest))) :=
  own_endW X hS hL hZ hJ hlk eT (fun q => by rw [hret] at q; cases q) hc hs hq fun fs hr => retOut X hx hret rfl (Or.inr (Or.inl ⟨rfl, rfl, z, rfl⟩)) hd hr
theorem own_retAW (X : Stand p l e R (s.setVm vm0) m args below meth c T locs cells slots) (hS : s.Since vm0 h.size) (hL : own_L Z a0) (hZ : Z.Warmed39 (s.setVm vm0).vm) (hJ : own_J Z vm0 h) (hx : p.tables.exec = Jvm.exec) (hlk : meth.locks = false) (eT : T.heap = h) {pc : Nat} {Ls : Array Slot} {v : Value} {t : FieldType} {rest : List Value} (hret : meth.sig.returnType = some t) (ht : t.isReference = true) (hv : v.isRef = true)
    (hd : decode c.code pc = .ok (.areturn, 1)) (hc : cells ≤ kc) (hs : slots ≤ ks) (hq : Q (some v) h locs) : own_GoW p e below s Z Q kc ks (T.setTop (mkF m pc Ls (v :: rest))) :=
  own_endW X hS hL hZ hJ hlk eT (fun q => by rw [hret] at q; cases q) hc hs hq fun fs hr => retOut X hx hret (by cases t <;> first | (cases ht; done) | (rcases ref_cases hv with rfl | ⟨_, rfl⟩ <;> rfl)) (Or.inr (Or.inr (Or.inr (Or.inr ⟨rfl, ht, hv⟩)))) hd hr
theorem own_retVW (X : Stand p l e R (s.setVm vm0) m args below meth c T locs cells slots) (hS : s.Since vm0 h.size) (hL : own_L Z a0) (hZ : Z.Warmed39 (s.setVm vm0).vm) (hJ : own_J Z vm0 h) (hx : p.tables.exec = Jvm.exec) (hlk : meth.locks = false) (eT : T.heap = h) {pc : Nat} {Ls : Array Slot} (hret : meth.sig.returnType = none)
    (hd : decode c.code pc = .ok (.return_, 1)) (hc : cells ≤ kc) (hs : slots ≤ ks) (hq : Q none h locs) : own_GoW p e below s Z Q kc ks (T.setTop (mkF m pc Ls [])) :=
  own_endW X hS hL hZ hJ hlk eT (fun _ => rfl) hc hs hq fun fs hr => X.returnOut hx hret hd hr
theorem own_metW {y : MethodName} {bytes : ByteArray} {maxL : Nat} {ret : Option FieldType} {ws : List Jvm.Cond} {rm : Room} {as' : Array Value} (kc ks : Nat) (hpl : plainFor y = true)
    (body : ∀ (p : Program) (e : Env) (s : State) (vm0 : Vm) (m : MethodId) (below : List Frame) (meth : Method) (c : Code) (T : State), Stand p l e rm (s.setVm vm0) m as' below meth c T [] 0 0 → s.Since vm0 h.size → own_J Z vm0 h → own_J Z s.vm s.heap → Z.Warmed39 s.vm → IB s vm0 [] → s.heap = h → p.tables.exec = Jvm.exec → c.code = bytes → c.maxLocals = maxL → meth.sig.returnType = ret → meth.locks = false → Z.Warmed39 (s.setVm vm0).vm → (s.setVm vm0).vm.findClass y.cls = some m.cls → meth.name = y.name → T.heap = h →
      own_GoW p e below s Z Q kc ks (T.setTop (entryFrame m as' maxL))) :
    MetFree l y (head1 (Jvm.Cond.code y bytes maxL ret :: ws) rm) (fun a U => a = as' ∧ Z.Warmed39 U.vm ∧ U.heap = h ∧ own_J Z U.vm U.heap) (fun _ _ _ _ _ => True) (fun _ U o U' => ∃ v L, o = .returned v ∧ (Q v U'.heap L ∧ own_J Z U'.vm U'.heap) ∧ ReturnedEndW U o U' L kc ks) := by
  refine MetFree.of_bodySF hpl hisR ?_
  intro p e s m args below meth c s₁ Bd hml hP hK
  obtain ⟨rfl, hZ, hh, hJ⟩ := hP
  obtain ⟨t, o, h1, h2, h3, h4⟩ := body p e s s.vm m below meth c s₁ (Stand.of_body Bd) ((State.WarmedH.refl s).since _) (by rw [← hh]; exact hJ) hJ hZ IB.start hh Bd.exec Bd.bytes hml Bd.returns Bd.notSynchronized hZ (findClass_of_methodNamed Bd.named) (name_of_methodNamed Bd.named Bd.method).1 (by rw [← hh, Bd.state]; rfl)
  exact ⟨t, o, h1, h2, h3, h4⟩
abbrev own_MetW (l : Launch) (Z : State) (h : Heap) (y : MethodName) (bytes : ByteArray) (maxL : Nat) (ret : Option FieldType) (rm : Room) (as' : Array Value) (Q : Option Value → Heap → List Loc → Prop) : Prop :=
  MetFree l y (head1 [Jvm.Cond.code y bytes maxL ret] rm) (fun a U => a = as' ∧ Z.Warmed39 U.vm ∧ U.heap = h ∧ own_J Z U.vm U.heap) (fun _ _ _ _ _ => True) (fun _ U o U' => ∃ v L, o = .returned v ∧ (Q v U'.heap L ∧ own_J Z U'.vm U'.heap) ∧ ReturnedEndW U o U' L rm.cells rm.slots)
end OwnKitW
section OwnBackJ
variable {p : Program} {l : Launch} {e : Env} {R : Room} {s : State} {vm0 : Vm} {m : MethodId} {args : Array Value} {below : List Frame} {meth : Method} {c : Code} {T : State} {locs : List Loc} {cells slots kc ks : Nat} {Z : State} {a0 : Array Value} {h : Heap} {Q : Option Value → Heap → List Loc → Prop}
theorem own_backJ {y : MethodName} {bytes : ByteArray} {maxL : Nat} {ret : Option FieldType} {rm : Room} {len W : Nat} {as' : Array Value} (hM : own_MetW l Z h y bytes maxL ret rm as' Q) (L : own_L Z a0)
    (hZ : Z.Warmed39 s.vm) (hJ : own_J Z s.vm h) (wc : (Jvm.Cond.code y bytes maxL ret).before a0 Z = true) (wz : (Jvm.Cond.initialized y.cls).before a0 Z = true) (hf : rm.frames + 1 ≤ R.frames) (hl : W + (maxL + 11) + rm.locals ≤ R.locals) :
    BackS l R p e below s args y len W (fun A a => a = as' ∧ A.U.heap = h ∧ A.cells + rm.cells ≤ R.cells ∧ A.slots + rm.slots ≤ R.slots)
      (fun A _ v B => ∃ L, (Q v B.U.heap L ∧ own_J Z B.U.vm B.U.heap) ∧ B.locs = A.locs ++ L ∧ B.cells = A.cells + rm.cells ∧ B.slots = A.slots + rm.slots) :=
  BackS.of_freeW (bytes := bytes) (maxL := maxL) (ret := ret) (E := fun _ _ o t L k n => k = rm.cells ∧ n = rm.slots ∧ ∃ v, o = .returned v ∧ (Q v t.heap L ∧ own_J Z t.vm t.heap)) hM hf hl
    (fun m meth c A a Y hp => have hU : Z.Warmed39 A.U.vm := wtrans hZ Y.warmed
      ⟨by show (Jvm.Cond.and _ .tt).before a A.U = true; rw [Cond.before_and, mv hU wc]; rfl, mv hU wc, mv hU wz, hp.2.2.1, hp.2.2.2⟩)
    (fun m meth c A a g mk Y hp => ⟨hp.1, wtrans hZ Y.warmed, hp.2.1, by
      have q : own_J Z A.U.vm h := own_Jwarm (s := s) L hZ hJ Y.warmed
      rw [← hp.2.1] at q; exact q⟩) (fun _ _ _ _ _ _ _ _ _ => trivial)
    (fun _ _ _ _ ⟨v, L, h1, h2, h3⟩ => ⟨L, _, _, h3, rfl, rfl, v, h1, h2⟩)
    (fun m meth c A a g mk v t L k n Y hp _ _ ⟨e1, e2, v', e3, e4⟩ => by cases e3; subst e1 e2; exact ⟨L, e4, rfl, rfl, rfl⟩)
end OwnBackJ
section OwnKitW2
variable {p : Program} {l : Launch} {e : Env} {R : Room} {s : State} {vm0 : Vm} {m : MethodId} {args : Array Value} {below : List Frame} {meth : Method} {c : Code} {T : State} {locs : List Loc} {cells slots kc ks : Nat} {Z : State} {a0 : Array Value} {h : Heap} {Q : Option Value → Heap → List Loc → Prop}
theorem own_callSW {y : MethodName} {bytes : ByteArray} {maxL : Nat} {ret : Option FieldType} {rm : Room} {as' : Array Value} {own : String} {index : Nat} (X : Stand p l e R (s.setVm vm0) m args below meth c T locs cells slots) (hS : s.Since vm0 h.size) (hL : own_L Z a0) (hJ : own_J Z vm0 h) (hx : p.tables.exec = Jvm.exec) (hZ : Z.Warmed39 (s.setVm vm0).vm) (hown : (s.setVm vm0).vm.findClass own = some m.cls)
    (w1 : (Jvm.Cond.methodLink own index y).before a0 Z = true) (w2 : (Jvm.Cond.static y).before a0 Z = true) (w3 : (Jvm.Cond.initialized y.cls).before a0 Z = true) (w4 : (Jvm.Cond.code y bytes maxL ret).before a0 Z = true) (hM : own_MetW l Z h y bytes maxL ret rm as' Q) (W : Nat) (nc ns : Nat) 
    (hc : cells + nc ≤ R.cells) (hs : slots + ns ≤ R.slots) (eT : T.heap = h) {g : JFrame} (hg : g.method = m) (hsize : g.locals.size = c.maxLocals)
    (argsL rest : List Value) (hlen : ∀ sig, parseMethodDescriptor y.desc = some sig → argsL.length = sig.parameters.length) (hstack : g.stack = argsL.reverse ++ rest) (has : argsL.toArray = as') (hdg : decode c.code g.pc = .ok (.invokestatic index, 3))
    (hy : y.cls ≠ "java/lang/invoke/MethodHandle" ∧ y.cls ≠ "java/lang/invoke/VarHandle" := by decide) (hf : rm.frames + 1 ≤ R.frames := by decide) (hl : W + (maxL + 11) + rm.locals ≤ R.locals := by decide) (hW : 2 * g.monitorRoom + (rest.map fun v => v.category).sum ≤ W := by exact Nat.le_of_eq rfl) (hnc : rm.cells = nc := by rfl) (hns : rm.slots = ns := by rfl) :
    ∃ v T' L, Stand p l e R (s.setVm T'.vm) m args below meth c T' (locs ++ L) (cells + nc) (slots + ns) ∧ s.Since T'.vm T'.heap.size ∧ Z.Warmed39 (s.setVm T'.vm).vm ∧ (s.setVm T'.vm).vm.findClass own = some m.cls ∧ Q v T'.heap L ∧ own_J Z T'.vm T'.heap ∧ ∀ target, Steps p.tables e below (T'.setTop { g with pc := g.pc + 3, stack := v.toList ++ rest }) target → Steps p.tables e below (T.setTop g) target := by
  subst hnc hns
  obtain ⟨v, _, ⟨T', L', k', n'⟩, -, X', hS', hgr, ⟨L, ⟨hQ, hJ'⟩, h1, h2, h3⟩, st⟩ := callSS X hx hown (mvT hZ w1) (mvT hZ w2) (mvT hZ w3) (mvT hZ w4) hy (own_backJ (W := W) hM hL hZ hJ w4 w3 hf hl) hg hsize hlen hstack hW hdg (fun _ _ => ⟨has, eT, hc, hs⟩)
  dsimp only [Pt.U, Pt.locs, Pt.cells, Pt.slots] at X' hS' hgr hQ hJ' h1 h2 h3 st
  subst h1 h2 h3
  have hS2 : s.Since T'.vm T'.heap.size := hS.trans hS' (by rw [← eT]; exact hgr)
  exact ⟨v, T', L, X', hS2, State.Warmed39.trans (t := s.setVm vm0) hZ hS'.1, by rw [show (s.setVm T'.vm).vm = T'.vm from rfl, hS'.1.alike.findClass]; exact hown, hQ, hJ', fun _ k => st.trans k⟩
theorem own_callIW {y : MethodName} {bytes : ByteArray} {maxL : Nat} {rm : Room} {as' : Array Value} {own : String} {index : Nat} (X : Stand p l e R (s.setVm vm0) m args below meth c T locs cells slots) (hS : s.Since vm0 h.size) (hL : own_L Z a0) (hJ : own_J Z vm0 h) (hx : p.tables.exec = Jvm.exec) (hZ : Z.Warmed39 (s.setVm vm0).vm) (hown : (s.setVm vm0).vm.findClass own = some m.cls)
    (w1 : (Jvm.Cond.methodLink own index y).before a0 Z = true) (w2 : (Jvm.Cond.instanceMethod y).before a0 Z = true) (w3 : (Jvm.Cond.initialized y.cls).before a0 Z = true) (w4 : (Jvm.Cond.code y bytes maxL none).before a0 Z = true) (hM : own_MetW l Z h y bytes maxL none rm as' Q) (W : Nat) (nc ns : Nat) (hy1 : y.name = "<init>")
    (hc : cells + nc ≤ R.cells) (hs : slots + ns ≤ R.slots) (eT : T.heap = h) {g : JFrame} (hg : g.method = m) (hsize : g.locals.size = c.maxLocals)
    (a : Addr) (argsL rest : List Value) (hlen : ∀ sig, parseMethodDescriptor y.desc = some sig → argsL.length = sig.parameters.length) (hstack : g.stack = argsL.reverse ++ .ref a :: rest) (has : (Value.ref a :: argsL).toArray = as') (hdg : decode c.code g.pc = .ok (.invokespecial index, 3))
    (hy : y.cls ≠ "java/lang/invoke/MethodHandle" ∧ y.cls ≠ "java/lang/invoke/VarHandle" := by decide) (hf : rm.frames + 1 ≤ R.frames := by decide) (hl : W + (maxL + 11) + rm.locals ≤ R.locals := by decide) (hW : 2 * g.monitorRoom + (rest.map fun v => v.category).sum ≤ W := by exact Nat.le_of_eq rfl) (hnc : rm.cells = nc := by rfl) (hns : rm.slots = ns := by rfl) :
    ∃ v T' L, Stand p l e R (s.setVm T'.vm) m args below meth c T' (locs ++ L) (cells + nc) (slots + ns) ∧ s.Since T'.vm T'.heap.size ∧ Z.Warmed39 (s.setVm T'.vm).vm ∧ (s.setVm T'.vm).vm.findClass own = some m.cls ∧ Q v T'.heap L ∧ own_J Z T'.vm T'.heap ∧ ∀ target, Steps p.tables e below (T'.setTop { g with pc := g.pc + 3, stack := v.toList ++ rest }) target → Steps p.tables e below (T.setTop g) target := by
  subst hnc hns
  obtain ⟨v, _, ⟨T', L', k', n'⟩, -, X', hS', hgr, ⟨L, ⟨hQ, hJ'⟩, h1, h2, h3⟩, st⟩ := X.specialBackS hx hy1 hown (mvT hZ w1) (mvT hZ w2) (mvT hZ w4) hy (own_backJ (W := W) hM hL hZ hJ w4 w3 hf hl) hg hsize (Steps.refl _) (a := a) (argsL := argsL) (rest := rest) hlen hstack hW hdg (fun _ _ => ⟨has, eT, hc, hs⟩)
  dsimp only [Pt.U, Pt.locs, Pt.cells, Pt.slots] at X' hS' hgr hQ hJ' h1 h2 h3 st
  subst h1 h2 h3
  have hS2 : s.Since T'.vm T'.heap.size := hS.trans hS' (by rw [← eT]; exact hgr)
  exact ⟨v, T', L, X', hS2, State.Warmed39.trans (t := s.setVm vm0) hZ hS'.1, by rw [show (s.setVm T'.vm).vm = T'.vm from rfl, hS'.1.alike.findClass]; exact hown, hQ, hJ', fun _ k => st.trans k⟩
theorem own_callVW {y z : MethodName} {bytes : ByteArray} {maxL : Nat} {ret : Option FieldType} {rm : Room} {as' : Array Value} {own C : String} {index : Nat} (X : Stand p l e R (s.setVm vm0) m args below meth c T locs cells slots) (hS : s.Since vm0 h.size) (hL : own_L Z a0) (hJ : own_J Z vm0 h) (hx : p.tables.exec = Jvm.exec) (hZ : Z.Warmed39 (s.setVm vm0).vm) (hown : (s.setVm vm0).vm.findClass own = some m.cls)
    (w1 : (Jvm.Cond.methodLink own index y).before a0 Z = true) (wd : (Jvm.Cond.declares y).before a0 Z = true) (nf : NotFace (s.setVm vm0) y) (wsel : (Jvm.Cond.selects C y z).before a0 Z = true) (w2 : (Jvm.Cond.instanceMethod z).before a0 Z = true) (w3 : (Jvm.Cond.initialized z.cls).before a0 Z = true) (w4 : (Jvm.Cond.code z bytes maxL ret).before a0 Z = true) (hM : own_MetW l Z h z bytes maxL ret rm as' Q) (W : Nat) (nc ns : Nat) 
    (hc : cells + nc ≤ R.cells) (hs : slots + ns ≤ R.slots) (eT : T.heap = h) {a : Addr} (E : Exa Z h a C) {g : JFrame} (hg : g.method = m) (hsize : g.locals.size = c.maxLocals)
    (argsL rest : List Value) (hlen : ∀ sig, parseMethodDescriptor y.desc = some sig → argsL.length = sig.parameters.length) (hstack : g.stack = argsL.reverse ++ .ref a :: rest) (has : (Value.ref a :: argsL).toArray = as') (hdg : decode c.code g.pc = .ok (.invokevirtual index, 3))
    (hy : y.cls ≠ "java/lang/invoke/MethodHandle" ∧ y.cls ≠ "java/lang/invoke/VarHandle" := by decide) (hf : rm.frames + 1 ≤ R.frames := by decide) (hl : W + (maxL + 11) + rm.locals ≤ R.locals := by decide) (hW : 2 * g.monitorRoom + (rest.map fun v => v.category).sum ≤ W := by exact Nat.le_of_eq rfl) (hnc : rm.cells = nc := by rfl) (hns : rm.slots = ns := by rfl) :
    ∃ v T' L, Stand p l e R (s.setVm T'.vm) m args below meth c T' (locs ++ L) (cells + nc) (slots + ns) ∧ s.Since T'.vm T'.heap.size ∧ Z.Warmed39 (s.setVm T'.vm).vm ∧ (s.setVm T'.vm).vm.findClass own = some m.cls ∧ Q v T'.heap L ∧ own_J Z T'.vm T'.heap ∧ ∀ target, Steps p.tables e below (T'.setTop { g with pc := g.pc + 3, stack := v.toList ++ rest }) target → Steps p.tables e below (T.setTop g) target := by
  subst hnc hns
  obtain ⟨cq, kq, qa, qb, qc⟩ := isOf hZ eT E
  obtain ⟨v, _, ⟨T', L', k', n'⟩, -, X', hS', hgr, ⟨L, ⟨hQ, hJ'⟩, h1, h2, h3⟩, st⟩ := X.virtualBackS hx hown (mvT hZ w1) (mvT hZ wd) nf (mvT hZ wsel) (mvT hZ w2) hy (own_backJ (W := W) hM hL hZ hJ w4 w3 hf hl) qa qc hg hsize (Steps.refl _) (argsL := argsL) (rest := rest) hlen hstack hW hdg (fun _ _ => ⟨has, eT, hc, hs⟩)
  dsimp only [Pt.U, Pt.locs, Pt.cells, Pt.slots] at X' hS' hgr hQ hJ' h1 h2 h3 st
  subst h1 h2 h3
  have hS2 : s.Since T'.vm T'.heap.size := hS.trans hS' (by rw [← eT]; exact hgr)
  exact ⟨v, T', L, X', hS2, State.Warmed39.trans (t := s.setVm vm0) hZ hS'.1, by rw [show (s.setVm T'.vm).vm = T'.vm from rfl, hS'.1.alike.findClass]; exact hown, hQ, hJ', fun _ k => st.trans k⟩
theorem own_callPW {y : MethodName} {bytes : ByteArray} {maxL : Nat} {ret : Option FieldType} {rm : Room} {as' : Array Value} {own C : String} {index : Nat} (X : Stand p l e R (s.setVm vm0) m args below meth c T locs cells slots) (hS : s.Since vm0 h.size) (hL : own_L Z a0) (hJ : own_J Z vm0 h) (hx : p.tables.exec = Jvm.exec) (hZ : Z.Warmed39 (s.setVm vm0).vm) (hown : (s.setVm vm0).vm.findClass own = some m.cls)
    (w1 : (Jvm.Cond.methodLink own index y).before a0 Z = true) (w2 : (Jvm.Cond.instanceMethod y).before a0 Z = true) (wsel : (Jvm.Cond.selects y.cls y y).before a0 Z = true) (wp : (Jvm.Cond.privateMethod y).before a0 Z = true) (w3 : (Jvm.Cond.initialized y.cls).before a0 Z = true) (w4 : (Jvm.Cond.code y bytes maxL ret).before a0 Z = true) (hM : own_MetW l Z h y bytes maxL ret rm as' Q) (W : Nat) (nc ns : Nat) 
    (hc : cells + nc ≤ R.cells) (hs : slots + ns ≤ R.slots) (eT : T.heap = h) {a : Addr} (E : Exa Z h a C) {g : JFrame} (hg : g.method = m) (hsize : g.locals.size = c.maxLocals)
    (argsL rest : List Value) (hlen : ∀ sig, parseMethodDescriptor y.desc = some sig → argsL.length = sig.parameters.length) (hstack : g.stack = argsL.reverse ++ .ref a :: rest) (has : (Value.ref a :: argsL).toArray = as') (hdg : decode c.code g.pc = .ok (.invokevirtual index, 3))
    (hy : y.cls ≠ "java/lang/invoke/MethodHandle" ∧ y.cls ≠ "java/lang/invoke/VarHandle" := by decide) (hf : rm.frames + 1 ≤ R.frames := by decide) (hl : W + (maxL + 11) + rm.locals ≤ R.locals := by decide) (hW : 2 * g.monitorRoom + (rest.map fun v => v.category).sum ≤ W := by exact Nat.le_of_eq rfl) (hnc : rm.cells = nc := by rfl) (hns : rm.slots = ns := by rfl) :
    ∃ v T' L, Stand p l e R (s.setVm T'.vm) m args below meth c T' (locs ++ L) (cells + nc) (slots + ns) ∧ s.Since T'.vm T'.heap.size ∧ Z.Warmed39 (s.setVm T'.vm).vm ∧ (s.setVm T'.vm).vm.findClass own = some m.cls ∧ Q v T'.heap L ∧ own_J Z T'.vm T'.heap ∧ ∀ target, Steps p.tables e below (T'.setTop { g with pc := g.pc + 3, stack := v.toList ++ rest }) target → Steps p.tables e below (T.setTop g) target := by
  subst hnc hns
  obtain ⟨cq, q1, q2⟩ := E.cell
  obtain ⟨v, _, ⟨T', L', k', n'⟩, -, X', hS', hgr, ⟨L, ⟨hQ, hJ'⟩, h1, h2, h3⟩, st⟩ := X.privateBackS hx hown (mvT hZ w1) (mvT hZ w2) (mvT hZ wsel) (Cond.privateMethod_at (mvP hZ wp (args := #[]))) (mvT hZ w4) hy (own_backJ (W := W) hM hL hZ hJ w4 w3 hf hl) hg hsize (Steps.refl _) (a := a) (by rw [eT]; exact q1) q2 (argsL := argsL) (rest := rest) hlen hstack hW hdg (fun _ _ => ⟨has, eT, hc, hs⟩)
  dsimp only [Pt.U, Pt.locs, Pt.cells, Pt.slots] at X' hS' hgr hQ hJ' h1 h2 h3 st
  subst h1 h2 h3
  have hS2 : s.Since T'.vm T'.heap.size := hS.trans hS' (by rw [← eT]; exact hgr)
  exact ⟨v, T', L, X', hS2, State.Warmed39.trans (t := s.setVm vm0) hZ hS'.1, by rw [show (s.setVm T'.vm).vm = T'.vm from rfl, hS'.1.alike.findClass]; exact hown, hQ, hJ', fun _ k => st.trans k⟩
theorem own_callFW {xi y : MethodName} {bytes : ByteArray} {maxL : Nat} {ret : Option FieldType} {rm : Room} {as' : Array Value} {own C : String} {index count : Nat} (X : Stand p l e R (s.setVm vm0) m args below meth c T locs cells slots) (hS : s.Since vm0 h.size) (hL : own_L Z a0) (hJ : own_J Z vm0 h) (hx : p.tables.exec = Jvm.exec) (hZ : Z.Warmed39 (s.setVm vm0).vm) (hown : (s.setVm vm0).vm.findClass own = some m.cls)
    (w1 : (Jvm.Cond.methodLink own index xi).before a0 Z = true) (wd : (Jvm.Cond.declares xi).before a0 Z = true) (wfa : (Jvm.Cond.interfaceMethod xi.cls xi.cls xi.name xi.desc).before a0 Z = true) (wsel : (Jvm.Cond.selects C xi y).before a0 Z = true) (w2 : (Jvm.Cond.instanceMethod y).before a0 Z = true) (wp : (Jvm.Cond.publicMethod y).before a0 Z = true) (wu : (Jvm.Cond.unhidden C xi.name xi.desc).before a0 Z = true) (wk : (Jvm.Cond.castable C xi.cls).before a0 Z = true) (w3 : (Jvm.Cond.initialized y.cls).before a0 Z = true) (w4 : (Jvm.Cond.code y bytes maxL ret).before a0 Z = true) (hfk : ((Jvm.Cond.interfaceMethod xi.cls xi.cls xi.name xi.desc).onTables && (Jvm.Cond.interfaceMethod xi.cls xi.cls xi.name xi.desc).keepsFace) = true) (hM : own_MetW l Z h y bytes maxL ret rm as' Q) (W : Nat) (nc ns : Nat) 
    (hc : cells + nc ≤ R.cells) (hs : slots + ns ≤ R.slots) (eT : T.heap = h) {a : Addr} (E : Exa Z h a C) {g : JFrame} (hg : g.method = m) (hsize : g.locals.size = c.maxLocals)
    (argsL rest : List Value) (hlen : ∀ sig, parseMethodDescriptor xi.desc = some sig → argsL.length = sig.parameters.length) (hstack : g.stack = argsL.reverse ++ .ref a :: rest) (has : (Value.ref a :: argsL).toArray = as') (hdg : decode c.code g.pc = .ok (.invokeinterface index count, 5))
    (hy : xi.cls ≠ "java/lang/invoke/MethodHandle" ∧ xi.cls ≠ "java/lang/invoke/VarHandle" := by decide) (hf : rm.frames + 1 ≤ R.frames := by decide) (hl : W + (maxL + 11) + rm.locals ≤ R.locals := by decide) (hW : 2 * g.monitorRoom + (rest.map fun v => v.category).sum ≤ W := by exact Nat.le_of_eq rfl) (hnc : rm.cells = nc := by rfl) (hns : rm.slots = ns := by rfl) :
    ∃ v T' L, Stand p l e R (s.setVm T'.vm) m args below meth c T' (locs ++ L) (cells + nc) (slots + ns) ∧ s.Since T'.vm T'.heap.size ∧ Z.Warmed39 (s.setVm T'.vm).vm ∧ (s.setVm T'.vm).vm.findClass own = some m.cls ∧ Q v T'.heap L ∧ own_J Z T'.vm T'.heap ∧ ∀ target, Steps p.tables e below (T'.setTop { g with pc := g.pc + 5, stack := v.toList ++ rest }) target → Steps p.tables e below (T.setTop g) target := by
  subst hnc hns
  obtain ⟨cq, kq, qa, qb, qc⟩ := isOf hZ eT E
  obtain ⟨v, _, ⟨T', L', k', n'⟩, -, X', hS', hgr, ⟨L, ⟨hQ, hJ'⟩, h1, h2, h3⟩, st⟩ := X.interfaceBackS hx hown (mvT hZ w1) (mvT hZ wd) (mvT hZ wfa hfk) (mvT hZ wsel) (mvT hZ w2) (mvT hZ wp) (mvT hZ wu) (mvT hZ wk) hy (own_backJ (W := W) hM hL hZ hJ w4 w3 hf hl) qa qb qc hg hsize (Steps.refl _) (argsL := argsL) (rest := rest) hlen hstack hW hdg (fun _ _ => ⟨has, eT, hc, hs⟩)
  dsimp only [Pt.U, Pt.locs, Pt.cells, Pt.slots] at X' hS' hgr hQ hJ' h1 h2 h3 st
  subst h1 h2 h3
  have hS2 : s.Since T'.vm T'.heap.size := hS.trans hS' (by rw [← eT]; exact hgr)
  exact ⟨v, T', L, X', hS2, State.Warmed39.trans (t := s.setVm vm0) hZ hS'.1, by rw [show (s.setVm T'.vm).vm = T'.vm from rfl, hS'.1.alike.findClass]; exact hown, hQ, hJ', fun _ k => st.trans k⟩
theorem own_callUW {y z : MethodName} {bytes : ByteArray} {maxL : Nat} {ret : Option FieldType} {rm : Room} {as' : Array Value} {own owner C : String} {index : Nat} (X : Stand p l e R (s.setVm vm0) m args below meth c T locs cells slots) (hS : s.Since vm0 h.size) (hL : own_L Z a0) (hJ : own_J Z vm0 h) (hx : p.tables.exec = Jvm.exec) (hZ : Z.Warmed39 (s.setVm vm0).vm) (hown : (s.setVm vm0).vm.findClass own = some m.cls)
    (w1 : (Jvm.Cond.methodLink own index y).before a0 Z = true) (wsm : (Jvm.Cond.sameMethod y.cls owner y.name y.desc).before a0 Z = true) (wd : (Jvm.Cond.declares ⟨owner, y.name, y.desc⟩).before a0 Z = true) (wsel : (Jvm.Cond.selects C y z).before a0 Z = true) (w2 : (Jvm.Cond.instanceMethod z).before a0 Z = true) (w3 : (Jvm.Cond.initialized z.cls).before a0 Z = true) (w4 : (Jvm.Cond.code z bytes maxL ret).before a0 Z = true) (hM : own_MetW l Z h z bytes maxL ret rm as' Q) (W : Nat) (nc ns : Nat) 
    (hc : cells + nc ≤ R.cells) (hs : slots + ns ≤ R.slots) (eT : T.heap = h) {a : Addr} (E : Exa Z h a C) {g : JFrame} (hg : g.method = m) (hsize : g.locals.size = c.maxLocals)
    (argsL rest : List Value) (hlen : ∀ sig, parseMethodDescriptor y.desc = some sig → argsL.length = sig.parameters.length) (hstack : g.stack = argsL.reverse ++ .ref a :: rest) (has : (Value.ref a :: argsL).toArray = as') (hdg : decode c.code g.pc = .ok (.invokevirtual index, 3))
    (howner : owner ≠ "java/lang/invoke/MethodHandle" ∧ owner ≠ "java/lang/invoke/VarHandle" := by decide) (hf : rm.frames + 1 ≤ R.frames := by decide) (hl : W + (maxL + 11) + rm.locals ≤ R.locals := by decide) (hW : 2 * g.monitorRoom + (rest.map fun v => v.category).sum ≤ W := by exact Nat.le_of_eq rfl) (hnc : rm.cells = nc := by rfl) (hns : rm.slots = ns := by rfl) :
    ∃ v T' L, Stand p l e R (s.setVm T'.vm) m args below meth c T' (locs ++ L) (cells + nc) (slots + ns) ∧ s.Since T'.vm T'.heap.size ∧ Z.Warmed39 (s.setVm T'.vm).vm ∧ (s.setVm T'.vm).vm.findClass own = some m.cls ∧ Q v T'.heap L ∧ own_J Z T'.vm T'.heap ∧ ∀ target, Steps p.tables e below (T'.setTop { g with pc := g.pc + 3, stack := v.toList ++ rest }) target → Steps p.tables e below (T.setTop g) target := by
  subst hnc hns
  obtain ⟨cq, kq, qa, qb, qc⟩ := isOf hZ eT E
  obtain ⟨v, _, ⟨T', L', k', n'⟩, -, X', hS', hgr, ⟨L, ⟨hQ, hJ'⟩, h1, h2, h3⟩, st⟩ := X.virtualBackUpS hx hown (mvT hZ w1) (mvT hZ wsm) (mvT hZ wd) howner (mvT hZ wsel) (mvT hZ w2) (own_backJ (W := W) hM hL hZ hJ w4 w3 hf hl) qa qc hg hsize (Steps.refl _) (argsL := argsL) (rest := rest) hlen hstack hW hdg (fun _ _ => ⟨has, eT, hc, hs⟩)
  dsimp only [Pt.U, Pt.locs, Pt.cells, Pt.slots] at X' hS' hgr hQ hJ' h1 h2 h3 st
  subst h1 h2 h3
  have hS2 : s.Since T'.vm T'.heap.size := hS.trans hS' (by rw [← eT]; exact hgr)
  exact ⟨v, T', L, X', hS2, State.Warmed39.trans (t := s.setVm vm0) hZ hS'.1, by rw [show (s.setVm T'.vm).vm = T'.vm from rfl, hS'.1.alike.findClass]; exact hown, hQ, hJ', fun _ k => st.trans k⟩
end OwnKitW2
theorem own_fd0 : parseFieldDescriptor "I" = some .int := by decide +kernel
theorem own_fd1 : parseFieldDescriptor "[Ljava/lang/Object;" = some (.array (.object "java/lang/Object")) := by decide +kernel
theorem own_fd2 : parseFieldDescriptor "B" = some .byte := by decide +kernel
theorem own_fd3 : parseFieldDescriptor "[B" = some (.array .byte) := by decide +kernel
theorem own_fd4 : parseFieldDescriptor "Ljava/lang/Object;" = some (.object "java/lang/Object") := by decide +kernel
theorem own_fd5 : parseFieldDescriptor "Z" = some .boolean := by decide +kernel
theorem own_fd6 : parseFieldDescriptor "Ljava/lang/String;" = some (.object "java/lang/String") := by decide +kernel
theorem own_fd7 : parseFieldDescriptor "Ljava/util/List;" = some (.object "java/util/List") := by decide +kernel
abbrev own_W (Z : State) (a0 : Array Value) : Prop := ∀ d ∈ tables_1, d.before a0 Z = true
abbrev own_y0 : MethodName := ⟨"java/util/AbstractCollection", "<init>", "()V"⟩
abbrev own_y1 : MethodName := ⟨"java/util/AbstractList", "<init>", "()V"⟩
abbrev own_y2 : MethodName := ⟨"java/util/ArrayList", "<init>", "()V"⟩
abbrev own_y3 : MethodName := ⟨"java/lang/Math", "max", "(II)I"⟩
abbrev own_y4 : MethodName := ⟨"java/util/ArrayList", "grow", "(I)[Ljava/lang/Object;"⟩
abbrev own_y5 : MethodName := ⟨"java/util/ArrayList", "grow", "()[Ljava/lang/Object;"⟩
abbrev own_y6 : MethodName := ⟨"java/util/ArrayList", "add", "(Ljava/lang/Object;[Ljava/lang/Object;I)V"⟩
abbrev own_y7 : MethodName := ⟨"java/util/ArrayList", "add", "(Ljava/lang/Object;)Z"⟩
abbrev own_y8 : MethodName := ⟨"java/lang/String", "<init>", "([C)V"⟩
abbrev own_y9 : MethodName := ⟨"com/example/ibex/ibex/model/DimensionKeyPinLaw", "str", "(I)Ljava/lang/String;"⟩
abbrev own_y10 : MethodName := ⟨"java/lang/Math", "min", "(II)I"⟩
abbrev own_y11 : MethodName := ⟨"java/util/Objects", "requireNonNull", "(Ljava/lang/Object;)Ljava/lang/Object;"⟩
abbrev own_y12 : MethodName := ⟨"java/util/Objects", "requireNonNull", "(Ljava/lang/Object;Ljava/lang/String;)Ljava/lang/Object;"⟩
abbrev own_y13 : MethodName := ⟨"java/util/Arrays", "copyOf", "([Ljava/lang/Object;ILjava/lang/Class;)[Ljava/lang/Object;"⟩
abbrev own_y14 : MethodName := ⟨"java/util/Arrays", "copyOf", "([Ljava/lang/Object;I)[Ljava/lang/Object;"⟩
abbrev own_y15 : MethodName := ⟨"java/util/ArrayList", "toArray", "()[Ljava/lang/Object;"⟩
abbrev own_y16 : MethodName := ⟨"java/util/ArrayList", "isEmpty", "()Z"⟩
abbrev own_y17 : MethodName := ⟨"java/util/ImmutableCollections$AbstractImmutableCollection", "<init>", "()V"⟩
abbrev own_y18 : MethodName := ⟨"java/util/ImmutableCollections$AbstractImmutableList", "<init>", "()V"⟩
abbrev own_y19 : MethodName := ⟨"java/util/ImmutableCollections$List12", "<init>", "(Ljava/lang/Object;)V"⟩
abbrev own_y20 : MethodName := ⟨"java/util/ImmutableCollections$List12", "<init>", "(Ljava/lang/Object;Ljava/lang/Object;)V"⟩
abbrev own_y21 : MethodName := ⟨"java/util/ImmutableCollections$ListN", "<init>", "([Ljava/lang/Object;Z)V"⟩
abbrev own_y22 : MethodName := ⟨"java/util/ImmutableCollections", "listFromArray", "([Ljava/lang/Object;)Ljava/util/List;"⟩
abbrev own_y23 : MethodName := ⟨"java/util/List", "of", "()Ljava/util/List;"⟩
abbrev own_y24 : MethodName := ⟨"java/util/List", "of", "([Ljava/lang/Object;)Ljava/util/List;"⟩
abbrev own_y25 : MethodName := ⟨"java/util/Collection", "isEmpty", "()Z"⟩
abbrev own_y26 : MethodName := ⟨"java/util/ImmutableCollections", "listCopy", "(Ljava/util/Collection;)Ljava/util/List;"⟩
abbrev own_y27 : MethodName := ⟨"java/util/List", "copyOf", "(Ljava/util/Collection;)Ljava/util/List;"⟩
abbrev own_y28 : MethodName := ⟨"java/util/Collection", "toArray", "()[Ljava/lang/Object;"⟩
abbrev own_y29 : MethodName := ⟨"java/util/ImmutableCollections$List12", "isEmpty", "()Z"⟩
abbrev own_y30 : MethodName := ⟨"java/util/ImmutableCollections$ListN", "isEmpty", "()Z"⟩
abbrev own_y31 : MethodName := ⟨"java/util/ImmutableCollections$List12", "get", "(I)Ljava/lang/Object;"⟩
abbrev own_y32 : MethodName := ⟨"java/util/ImmutableCollections$ListN", "get", "(I)Ljava/lang/Object;"⟩
abbrev own_y33 : MethodName := ⟨"java/lang/Record", "<init>", "()V"⟩
abbrev own_y34 : MethodName := ⟨"java/util/List", "isEmpty", "()Z"⟩
abbrev own_y35 : MethodName := ⟨"com/example/ibex/ibex/model/Dimension", "<init>", "(Ljava/lang/String;Ljava/lang/String;Ljava/lang/String;Ljava/util/List;Ljava/util/List;)V"⟩
abbrev own_y36 : MethodName := ⟨"java/util/List", "get", "(I)Ljava/lang/Object;"⟩
abbrev own_y37 : MethodName := ⟨"com/example/ibex/ibex/model/Dimension", "key", "()Ljava/lang/String;"⟩
abbrev own_y38 : MethodName := ⟨"java/lang/String", "equals", "(Ljava/lang/Object;)Z"⟩
abbrev own_y39 : MethodName := ⟨"java/lang/Object", "<init>", "()V"⟩
abbrev own_y40 : MethodName := ⟨"java/lang/Object", "getClass", "()Ljava/lang/Class;"⟩
abbrev own_y41 : MethodName := ⟨"java/lang/System", "arraycopy", "(Ljava/lang/Object;ILjava/lang/Object;II)V"⟩
theorem ow0 {Z : State} {a0 : Array Value} (hw : own_W Z a0) : (Cond.constant "com/example/ibex/ibex/model/DimensionKeyPinLaw" (12 : Nat) (2147483647 : Int32)).before a0 Z = true := hw _ (List.mem_of_getElem? (i := 0) rfl)
theorem ow1 {Z : State} {a0 : Array Value} (hw : own_W Z a0) : (Cond.methodLink "com/example/ibex/ibex/model/DimensionKeyPinLaw" (13 : Nat) own_y9).before a0 Z = true := hw _ (List.mem_of_getElem? (i := 1) rfl)
theorem ow2 {Z : State} {a0 : Array Value} (hw : own_W Z a0) : (Cond.static own_y9).before a0 Z = true := hw _ (List.mem_of_getElem? (i := 2) rfl)
theorem ow3 {Z : State} {a0 : Array Value} (hw : own_W Z a0) : (Cond.initialized "com/example/ibex/ibex/model/DimensionKeyPinLaw").before a0 Z = true := hw _ (List.mem_of_getElem? (i := 3) rfl)
theorem ow4 {Z : State} {a0 : Array Value} (hw : own_W Z a0) : (Cond.code own_y9 method_2_code (2 : Nat) (Option.some (Jvm.ClassFile.FieldType.object "java/lang/String"))).before a0 Z = true := hw _ (List.mem_of_getElem? (i := 4) rfl)
theorem ow5 {Z : State} {a0 : Array Value} (hw : own_W Z a0) : (Cond.arrayClass Jvm.ClassFile.FieldType.char).before a0 Z = true := hw _ (List.mem_of_getElem? (i := 5) rfl)
theorem ow6 {Z : State} {a0 : Array Value} (hw : own_W Z a0) : (Cond.classLink "com/example/ibex/ibex/model/DimensionKeyPinLaw" (7 : Nat) "java/lang/String").before a0 Z = true := hw _ (List.mem_of_getElem? (i := 6) rfl)
theorem ow7 {Z : State} {a0 : Array Value} (hw : own_W Z a0) : (Cond.instantiable "java/lang/String" (4 : Nat)).before a0 Z = true := hw _ (List.mem_of_getElem? (i := 7) rfl)
theorem ow8 {Z : State} {a0 : Array Value} (hw : own_W Z a0) : (Cond.initialized "java/lang/String").before a0 Z = true := hw _ (List.mem_of_getElem? (i := 8) rfl)
theorem ow9 {Z : State} {a0 : Array Value} (hw : own_W Z a0) : (Cond.methodLink "com/example/ibex/ibex/model/DimensionKeyPinLaw" (9 : Nat) own_y8).before a0 Z = true := hw _ (List.mem_of_getElem? (i := 9) rfl)
theorem ow10 {Z : State} {a0 : Array Value} (hw : own_W Z a0) : (Cond.instanceMethod own_y8).before a0 Z = true := hw _ (List.mem_of_getElem? (i := 10) rfl)
theorem ow11 {Z : State} {a0 : Array Value} (hw : own_W Z a0) : (Cond.code own_y8 jdk_42_method_3_code (2 : Nat) (Option.none : Option Jvm.ClassFile.FieldType)).before a0 Z = true := hw _ (List.mem_of_getElem? (i := 11) rfl)
theorem ow17 {Z : State} {a0 : Array Value} (hw : own_W Z a0) : (Cond.instanceMethod own_y39).before a0 Z = true := hw _ (List.mem_of_getElem? (i := 17) rfl)
theorem ow18 {Z : State} {a0 : Array Value} (hw : own_W Z a0) : (Cond.code own_y39 object_method_1_code (1 : Nat) (Option.none : Option Jvm.ClassFile.FieldType)).before a0 Z = true := hw _ (List.mem_of_getElem? (i := 18) rfl)
theorem ow24 {Z : State} {a0 : Array Value} (hw : own_W Z a0) : (Cond.arrayClass Jvm.ClassFile.FieldType.byte).before a0 Z = true := hw _ (List.mem_of_getElem? (i := 24) rfl)
theorem ow32 {Z : State} {a0 : Array Value} (hw : own_W Z a0) : (Cond.laysFinal "java/lang/String" "java/lang/String" "coder" "B").before a0 Z = true := hw _ (List.mem_of_getElem? (i := 32) rfl)
theorem ow34 {Z : State} {a0 : Array Value} (hw : own_W Z a0) : (Cond.laysFinal "java/lang/String" "java/lang/String" "value" "[B").before a0 Z = true := hw _ (List.mem_of_getElem? (i := 34) rfl)
theorem ow35 {Z : State} {a0 : Array Value} (hw : own_W Z a0) : (Cond.classLink "com/example/ibex/ibex/model/DimensionKeyPinLaw" (19 : Nat) "java/util/ArrayList").before a0 Z = true := hw _ (List.mem_of_getElem? (i := 35) rfl)
theorem ow36 {Z : State} {a0 : Array Value} (hw : own_W Z a0) : (Cond.instantiable "java/util/ArrayList" (3 : Nat)).before a0 Z = true := hw _ (List.mem_of_getElem? (i := 36) rfl)
theorem ow37 {Z : State} {a0 : Array Value} (hw : own_W Z a0) : (Cond.initialized "java/util/ArrayList").before a0 Z = true := hw _ (List.mem_of_getElem? (i := 37) rfl)
theorem ow38 {Z : State} {a0 : Array Value} (hw : own_W Z a0) : (Cond.methodLink "com/example/ibex/ibex/model/DimensionKeyPinLaw" (21 : Nat) own_y2).before a0 Z = true := hw _ (List.mem_of_getElem? (i := 38) rfl)
theorem ow39 {Z : State} {a0 : Array Value} (hw : own_W Z a0) : (Cond.instanceMethod own_y2).before a0 Z = true := hw _ (List.mem_of_getElem? (i := 39) rfl)
theorem ow40 {Z : State} {a0 : Array Value} (hw : own_W Z a0) : (Cond.code own_y2 jdk_38_method_2_code (1 : Nat) (Option.none : Option Jvm.ClassFile.FieldType)).before a0 Z = true := hw _ (List.mem_of_getElem? (i := 40) rfl)
theorem ow41 {Z : State} {a0 : Array Value} (hw : own_W Z a0) : (Cond.methodLink "java/util/ArrayList" (1 : Nat) own_y1).before a0 Z = true := hw _ (List.mem_of_getElem? (i := 41) rfl)
theorem ow42 {Z : State} {a0 : Array Value} (hw : own_W Z a0) : (Cond.instanceMethod own_y1).before a0 Z = true := hw _ (List.mem_of_getElem? (i := 42) rfl)
theorem ow45 {Z : State} {a0 : Array Value} (hw : own_W Z a0) : (Cond.initialized "java/util/AbstractList").before a0 Z = true := hw _ (List.mem_of_getElem? (i := 45) rfl)
theorem ow46 {Z : State} {a0 : Array Value} (hw : own_W Z a0) : (Cond.code own_y1 jdk_39_method_1_code (1 : Nat) (Option.none : Option Jvm.ClassFile.FieldType)).before a0 Z = true := hw _ (List.mem_of_getElem? (i := 46) rfl)
theorem ow47 {Z : State} {a0 : Array Value} (hw : own_W Z a0) : (Cond.methodLink "java/util/AbstractList" (1 : Nat) own_y0).before a0 Z = true := hw _ (List.mem_of_getElem? (i := 47) rfl)
theorem ow48 {Z : State} {a0 : Array Value} (hw : own_W Z a0) : (Cond.instanceMethod own_y0).before a0 Z = true := hw _ (List.mem_of_getElem? (i := 48) rfl)
theorem ow51 {Z : State} {a0 : Array Value} (hw : own_W Z a0) : (Cond.initialized "java/util/AbstractCollection").before a0 Z = true := hw _ (List.mem_of_getElem? (i := 51) rfl)
theorem ow52 {Z : State} {a0 : Array Value} (hw : own_W Z a0) : (Cond.code own_y0 jdk_22_method_1_code (1 : Nat) (Option.none : Option Jvm.ClassFile.FieldType)).before a0 Z = true := hw _ (List.mem_of_getElem? (i := 52) rfl)
theorem ow53 {Z : State} {a0 : Array Value} (hw : own_W Z a0) : (Cond.methodLink "java/util/AbstractCollection" (1 : Nat) own_y39).before a0 Z = true := hw _ (List.mem_of_getElem? (i := 53) rfl)
theorem ow54 {Z : State} {a0 : Array Value} (hw : own_W Z a0) : (Cond.fieldLink "java/util/AbstractList" (7 : Nat) "java/util/AbstractList" "modCount" "I").before a0 Z = true := hw _ (List.mem_of_getElem? (i := 54) rfl)
theorem ow55 {Z : State} {a0 : Array Value} (hw : own_W Z a0) : (Cond.lays "java/util/ArrayList" "java/util/AbstractList" "modCount" "I").before a0 Z = true := hw _ (List.mem_of_getElem? (i := 55) rfl)
theorem ow56 {Z : State} {a0 : Array Value} (hw : own_W Z a0) : (Cond.fieldLink "java/util/ArrayList" (39 : Nat) "java/util/ArrayList" "DEFAULTCAPACITY_EMPTY_ELEMENTDATA" "[Ljava/lang/Object;").before a0 Z = true := hw _ (List.mem_of_getElem? (i := 56) rfl)
theorem ow57 {Z : State} {a0 : Array Value} (hw : own_W Z a0) : (Cond.fieldLink "java/util/ArrayList" (9 : Nat) "java/util/ArrayList" "elementData" "[Ljava/lang/Object;").before a0 Z = true := hw _ (List.mem_of_getElem? (i := 57) rfl)
theorem ow58 {Z : State} {a0 : Array Value} (hw : own_W Z a0) : (Cond.lays "java/util/ArrayList" "java/util/ArrayList" "elementData" "[Ljava/lang/Object;").before a0 Z = true := hw _ (List.mem_of_getElem? (i := 58) rfl)
theorem ow59 {Z : State} {a0 : Array Value} (hw : own_W Z a0) : (Cond.methodLink "com/example/ibex/ibex/model/DimensionKeyPinLaw" (22 : Nat) own_y7).before a0 Z = true := hw _ (List.mem_of_getElem? (i := 59) rfl)
theorem ow60 {Z : State} {a0 : Array Value} (hw : own_W Z a0) : (Cond.declares own_y7).before a0 Z = true := hw _ (List.mem_of_getElem? (i := 60) rfl)
theorem ow61 {Z : State} {a0 : Array Value} (hw : own_W Z a0) : (Cond.instanceMethod own_y7).before a0 Z = true := hw _ (List.mem_of_getElem? (i := 61) rfl)
theorem ow62 {Z : State} {a0 : Array Value} (hw : own_W Z a0) : (Cond.selects "java/util/ArrayList" own_y7 own_y7).before a0 Z = true := hw _ (List.mem_of_getElem? (i := 62) rfl)
theorem ow63 {Z : State} {a0 : Array Value} (hw : own_W Z a0) : (Cond.code own_y7 jdk_38_method_25_code (2 : Nat) (Option.some Jvm.ClassFile.FieldType.boolean)).before a0 Z = true := hw _ (List.mem_of_getElem? (i := 63) rfl)
theorem ow64 {Z : State} {a0 : Array Value} (hw : own_W Z a0) : (Cond.fieldLink "java/util/ArrayList" (63 : Nat) "java/util/ArrayList" "modCount" "I").before a0 Z = true := hw _ (List.mem_of_getElem? (i := 64) rfl)
theorem ow65 {Z : State} {a0 : Array Value} (hw : own_W Z a0) : (Cond.sameField "java/util/ArrayList" "java/util/AbstractList" "modCount" "I").before a0 Z = true := hw _ (List.mem_of_getElem? (i := 65) rfl)
theorem ow66 {Z : State} {a0 : Array Value} (hw : own_W Z a0) : (Cond.fieldLink "java/util/ArrayList" (48 : Nat) "java/util/ArrayList" "size" "I").before a0 Z = true := hw _ (List.mem_of_getElem? (i := 66) rfl)
theorem ow67 {Z : State} {a0 : Array Value} (hw : own_W Z a0) : (Cond.lays "java/util/ArrayList" "java/util/ArrayList" "size" "I").before a0 Z = true := hw _ (List.mem_of_getElem? (i := 67) rfl)
theorem ow68 {Z : State} {a0 : Array Value} (hw : own_W Z a0) : (Cond.methodLink "java/util/ArrayList" (131 : Nat) own_y6).before a0 Z = true := hw _ (List.mem_of_getElem? (i := 68) rfl)
theorem ow69 {Z : State} {a0 : Array Value} (hw : own_W Z a0) : (Cond.instanceMethod own_y6).before a0 Z = true := hw _ (List.mem_of_getElem? (i := 69) rfl)
theorem ow70 {Z : State} {a0 : Array Value} (hw : own_W Z a0) : (Cond.privateMethod own_y6).before a0 Z = true := hw _ (List.mem_of_getElem? (i := 70) rfl)
theorem ow71 {Z : State} {a0 : Array Value} (hw : own_W Z a0) : (Cond.selects "java/util/ArrayList" own_y6 own_y6).before a0 Z = true := hw _ (List.mem_of_getElem? (i := 71) rfl)
theorem ow72 {Z : State} {a0 : Array Value} (hw : own_W Z a0) : (Cond.code own_y6 jdk_38_method_24_code (4 : Nat) (Option.none : Option Jvm.ClassFile.FieldType)).before a0 Z = true := hw _ (List.mem_of_getElem? (i := 72) rfl)
theorem ow73 {Z : State} {a0 : Array Value} (hw : own_W Z a0) : (Cond.methodLink "java/util/ArrayList" (129 : Nat) own_y5).before a0 Z = true := hw _ (List.mem_of_getElem? (i := 73) rfl)
theorem ow74 {Z : State} {a0 : Array Value} (hw : own_W Z a0) : (Cond.instanceMethod own_y5).before a0 Z = true := hw _ (List.mem_of_getElem? (i := 74) rfl)
theorem ow75 {Z : State} {a0 : Array Value} (hw : own_W Z a0) : (Cond.privateMethod own_y5).before a0 Z = true := hw _ (List.mem_of_getElem? (i := 75) rfl)
theorem ow76 {Z : State} {a0 : Array Value} (hw : own_W Z a0) : (Cond.selects "java/util/ArrayList" own_y5 own_y5).before a0 Z = true := hw _ (List.mem_of_getElem? (i := 76) rfl)
theorem ow77 {Z : State} {a0 : Array Value} (hw : own_W Z a0) : (Cond.code own_y5 jdk_38_method_7_code (1 : Nat) (Option.some (Jvm.ClassFile.FieldType.array (Jvm.ClassFile.FieldType.object "java/lang/Object")))).before a0 Z = true := hw _ (List.mem_of_getElem? (i := 77) rfl)
theorem ow78 {Z : State} {a0 : Array Value} (hw : own_W Z a0) : (Cond.methodLink "java/util/ArrayList" (69 : Nat) own_y4).before a0 Z = true := hw _ (List.mem_of_getElem? (i := 78) rfl)
theorem ow79 {Z : State} {a0 : Array Value} (hw : own_W Z a0) : (Cond.instanceMethod own_y4).before a0 Z = true := hw _ (List.mem_of_getElem? (i := 79) rfl)
theorem ow80 {Z : State} {a0 : Array Value} (hw : own_W Z a0) : (Cond.privateMethod own_y4).before a0 Z = true := hw _ (List.mem_of_getElem? (i := 80) rfl)
theorem ow81 {Z : State} {a0 : Array Value} (hw : own_W Z a0) : (Cond.selects "java/util/ArrayList" own_y4 own_y4).before a0 Z = true := hw _ (List.mem_of_getElem? (i := 81) rfl)
theorem ow82 {Z : State} {a0 : Array Value} (hw : own_W Z a0) : (Cond.code own_y4 jdk_38_method_6_code (4 : Nat) (Option.some (Jvm.ClassFile.FieldType.array (Jvm.ClassFile.FieldType.object "java/lang/Object")))).before a0 Z = true := hw _ (List.mem_of_getElem? (i := 82) rfl)
theorem ow83 {Z : State} {a0 : Array Value} (hw : own_W Z a0) : (Cond.methodLink "java/util/ArrayList" (79 : Nat) own_y3).before a0 Z = true := hw _ (List.mem_of_getElem? (i := 83) rfl)
theorem ow84 {Z : State} {a0 : Array Value} (hw : own_W Z a0) : (Cond.static own_y3).before a0 Z = true := hw _ (List.mem_of_getElem? (i := 84) rfl)
theorem ow85 {Z : State} {a0 : Array Value} (hw : own_W Z a0) : (Cond.initialized "java/lang/Math").before a0 Z = true := hw _ (List.mem_of_getElem? (i := 85) rfl)
theorem ow86 {Z : State} {a0 : Array Value} (hw : own_W Z a0) : (Cond.code own_y3 jdk_29_method_65_code (2 : Nat) (Option.some Jvm.ClassFile.FieldType.int)).before a0 Z = true := hw _ (List.mem_of_getElem? (i := 86) rfl)
theorem ow87 {Z : State} {a0 : Array Value} (hw : own_W Z a0) : (Cond.classLink "java/util/ArrayList" (7 : Nat) "java/lang/Object").before a0 Z = true := hw _ (List.mem_of_getElem? (i := 87) rfl)
theorem ow88 {Z : State} {a0 : Array Value} (hw : own_W Z a0) : (Cond.arrayOver (Jvm.ClassFile.FieldType.object "java/lang/Object")).before a0 Z = true := hw _ (List.mem_of_getElem? (i := 88) rfl)
theorem ow89 {Z : State} {a0 : Array Value} (hw : own_W Z a0) : (Cond.castable "java/lang/String" "java/lang/Object").before a0 Z = true := hw _ (List.mem_of_getElem? (i := 89) rfl)
theorem ow90 {Z : State} {a0 : Array Value} (hw : own_W Z a0) : (Cond.classLink "com/example/ibex/ibex/model/DimensionKeyPinLaw" (26 : Nat) "com/example/ibex/ibex/model/Dimension").before a0 Z = true := hw _ (List.mem_of_getElem? (i := 90) rfl)
theorem ow91 {Z : State} {a0 : Array Value} (hw : own_W Z a0) : (Cond.instantiable "com/example/ibex/ibex/model/Dimension" (5 : Nat)).before a0 Z = true := hw _ (List.mem_of_getElem? (i := 91) rfl)
theorem ow92 {Z : State} {a0 : Array Value} (hw : own_W Z a0) : (Cond.initialized "com/example/ibex/ibex/model/Dimension").before a0 Z = true := hw _ (List.mem_of_getElem? (i := 92) rfl)
theorem ow93 {Z : State} {a0 : Array Value} (hw : own_W Z a0) : (Cond.methodLink "com/example/ibex/ibex/model/DimensionKeyPinLaw" (28 : Nat) own_y35).before a0 Z = true := hw _ (List.mem_of_getElem? (i := 93) rfl)
theorem ow94 {Z : State} {a0 : Array Value} (hw : own_W Z a0) : (Cond.instanceMethod own_y35).before a0 Z = true := hw _ (List.mem_of_getElem? (i := 94) rfl)
theorem ow95 {Z : State} {a0 : Array Value} (hw : own_W Z a0) : (Cond.code own_y35 prog_71_method_1_code (6 : Nat) (Option.none : Option Jvm.ClassFile.FieldType)).before a0 Z = true := hw _ (List.mem_of_getElem? (i := 95) rfl)
theorem ow96 {Z : State} {a0 : Array Value} (hw : own_W Z a0) : (Cond.methodLink "com/example/ibex/ibex/model/Dimension" (1 : Nat) own_y33).before a0 Z = true := hw _ (List.mem_of_getElem? (i := 96) rfl)
theorem ow97 {Z : State} {a0 : Array Value} (hw : own_W Z a0) : (Cond.instanceMethod own_y33).before a0 Z = true := hw _ (List.mem_of_getElem? (i := 97) rfl)
theorem ow99 {Z : State} {a0 : Array Value} (hw : own_W Z a0) : (Cond.initialized "java/lang/Record").before a0 Z = true := hw _ (List.mem_of_getElem? (i := 99) rfl)
theorem ow100 {Z : State} {a0 : Array Value} (hw : own_W Z a0) : (Cond.code own_y33 jdk_30_method_1_code (1 : Nat) (Option.none : Option Jvm.ClassFile.FieldType)).before a0 Z = true := hw _ (List.mem_of_getElem? (i := 100) rfl)
theorem ow101 {Z : State} {a0 : Array Value} (hw : own_W Z a0) : (Cond.methodLink "java/lang/Record" (1 : Nat) own_y39).before a0 Z = true := hw _ (List.mem_of_getElem? (i := 101) rfl)
theorem ow102 {Z : State} {a0 : Array Value} (hw : own_W Z a0) : (Cond.stringLink "com/example/ibex/ibex/model/Dimension" (7 : Nat) "name").before a0 Z = true := hw _ (List.mem_of_getElem? (i := 102) rfl)
theorem ow103 {Z : State} {a0 : Array Value} (hw : own_W Z a0) : (Cond.soleField "java/lang/String" "value").before a0 Z = true := hw _ (List.mem_of_getElem? (i := 103) rfl)
theorem ow104 {Z : State} {a0 : Array Value} (hw : own_W Z a0) : (Cond.soleField "java/lang/String" "coder").before a0 Z = true := hw _ (List.mem_of_getElem? (i := 104) rfl)
theorem ow105 {Z : State} {a0 : Array Value} (hw : own_W Z a0) : (Cond.methodLink "com/example/ibex/ibex/model/Dimension" (9 : Nat) own_y12).before a0 Z = true := hw _ (List.mem_of_getElem? (i := 105) rfl)
theorem ow106 {Z : State} {a0 : Array Value} (hw : own_W Z a0) : (Cond.static own_y12).before a0 Z = true := hw _ (List.mem_of_getElem? (i := 106) rfl)
theorem ow107 {Z : State} {a0 : Array Value} (hw : own_W Z a0) : (Cond.initialized "java/util/Objects").before a0 Z = true := hw _ (List.mem_of_getElem? (i := 107) rfl)
theorem ow108 {Z : State} {a0 : Array Value} (hw : own_W Z a0) : (Cond.code own_y12 jdk_31_method_11_code (2 : Nat) (Option.some (Jvm.ClassFile.FieldType.object "java/lang/Object"))).before a0 Z = true := hw _ (List.mem_of_getElem? (i := 108) rfl)
theorem ow109 {Z : State} {a0 : Array Value} (hw : own_W Z a0) : (Cond.stringLink "com/example/ibex/ibex/model/Dimension" (15 : Nat) "table").before a0 Z = true := hw _ (List.mem_of_getElem? (i := 109) rfl)
theorem ow110 {Z : State} {a0 : Array Value} (hw : own_W Z a0) : (Cond.stringLink "com/example/ibex/ibex/model/Dimension" (17 : Nat) "foreignKey").before a0 Z = true := hw _ (List.mem_of_getElem? (i := 110) rfl)
theorem ow111 {Z : State} {a0 : Array Value} (hw : own_W Z a0) : (Cond.methodLink "com/example/ibex/ibex/model/Dimension" (19 : Nat) own_y27).before a0 Z = true := hw _ (List.mem_of_getElem? (i := 111) rfl)
theorem ow112 {Z : State} {a0 : Array Value} (hw : own_W Z a0) : (Cond.static own_y27).before a0 Z = true := hw _ (List.mem_of_getElem? (i := 112) rfl)
theorem ow113 {Z : State} {a0 : Array Value} (hw : own_W Z a0) : (Cond.initialized "java/util/List").before a0 Z = true := hw _ (List.mem_of_getElem? (i := 113) rfl)
theorem ow114 {Z : State} {a0 : Array Value} (hw : own_W Z a0) : (Cond.code own_y27 jdk_40_method_48_code (1 : Nat) (Option.some (Jvm.ClassFile.FieldType.object "java/util/List"))).before a0 Z = true := hw _ (List.mem_of_getElem? (i := 114) rfl)
theorem ow115 {Z : State} {a0 : Array Value} (hw : own_W Z a0) : (Cond.methodLink "java/util/List" (112 : Nat) own_y26).before a0 Z = true := hw _ (List.mem_of_getElem? (i := 115) rfl)
theorem ow116 {Z : State} {a0 : Array Value} (hw : own_W Z a0) : (Cond.static own_y26).before a0 Z = true := hw _ (List.mem_of_getElem? (i := 116) rfl)
theorem ow117 {Z : State} {a0 : Array Value} (hw : own_W Z a0) : (Cond.initialized "java/util/ImmutableCollections").before a0 Z = true := hw _ (List.mem_of_getElem? (i := 117) rfl)
theorem ow118 {Z : State} {a0 : Array Value} (hw : own_W Z a0) : (Cond.code own_y26 jdk_56_method_3_code (2 : Nat) (Option.some (Jvm.ClassFile.FieldType.object "java/util/List"))).before a0 Z = true := hw _ (List.mem_of_getElem? (i := 118) rfl)
theorem ow119 {Z : State} {a0 : Array Value} (hw : own_W Z a0) : (Cond.classLink "java/util/ImmutableCollections" (10 : Nat) "java/util/ImmutableCollections$List12").before a0 Z = true := hw _ (List.mem_of_getElem? (i := 119) rfl)
theorem ow120 {Z : State} {a0 : Array Value} (hw : own_W Z a0) : (Cond.superclass "java/util/ArrayList" "java/util/AbstractList").before a0 Z = true := hw _ (List.mem_of_getElem? (i := 120) rfl)
theorem ow121 {Z : State} {a0 : Array Value} (hw : own_W Z a0) : (Cond.superclass "java/util/AbstractList" "java/util/AbstractCollection").before a0 Z = true := hw _ (List.mem_of_getElem? (i := 121) rfl)
theorem ow122 {Z : State} {a0 : Array Value} (hw : own_W Z a0) : (Cond.superclass "java/util/AbstractCollection" "java/lang/Object").before a0 Z = true := hw _ (List.mem_of_getElem? (i := 122) rfl)
theorem ow123 {Z : State} {a0 : Array Value} (hw : own_W Z a0) : (Cond.noSuperclass "java/lang/Object").before a0 Z = true := hw _ (List.mem_of_getElem? (i := 123) rfl)
theorem ow124 {Z : State} {a0 : Array Value} (hw : own_W Z a0) : (Cond.classLink "java/util/ImmutableCollections" (12 : Nat) "java/util/ImmutableCollections$ListN").before a0 Z = true := hw _ (List.mem_of_getElem? (i := 124) rfl)
theorem ow125 {Z : State} {a0 : Array Value} (hw : own_W Z a0) : (Cond.methodLink "java/util/ImmutableCollections" (20 : Nat) own_y25).before a0 Z = true := hw _ (List.mem_of_getElem? (i := 125) rfl)
theorem ow126 {Z : State} {a0 : Array Value} (hw : own_W Z a0) : (Cond.declares own_y25).before a0 Z = true := hw _ (List.mem_of_getElem? (i := 126) rfl)
theorem ow127 {Z : State} {a0 : Array Value} (hw : own_W Z a0) : (Cond.interfaceMethod "java/util/Collection" "java/util/Collection" "isEmpty" "()Z").before a0 Z = true := hw _ (List.mem_of_getElem? (i := 127) rfl)
theorem ow128 {Z : State} {a0 : Array Value} (hw : own_W Z a0) : (Cond.selects "java/util/ArrayList" own_y25 own_y16).before a0 Z = true := hw _ (List.mem_of_getElem? (i := 128) rfl)
theorem ow129 {Z : State} {a0 : Array Value} (hw : own_W Z a0) : (Cond.instanceMethod own_y16).before a0 Z = true := hw _ (List.mem_of_getElem? (i := 129) rfl)
theorem ow130 {Z : State} {a0 : Array Value} (hw : own_W Z a0) : (Cond.publicMethod own_y16).before a0 Z = true := hw _ (List.mem_of_getElem? (i := 130) rfl)
theorem ow131 {Z : State} {a0 : Array Value} (hw : own_W Z a0) : (Cond.unhidden "java/util/ArrayList" "isEmpty" "()Z").before a0 Z = true := hw _ (List.mem_of_getElem? (i := 131) rfl)
theorem ow132 {Z : State} {a0 : Array Value} (hw : own_W Z a0) : (Cond.castable "java/util/ArrayList" "java/util/Collection").before a0 Z = true := hw _ (List.mem_of_getElem? (i := 132) rfl)
theorem ow133 {Z : State} {a0 : Array Value} (hw : own_W Z a0) : (Cond.code own_y16 jdk_38_method_9_code (1 : Nat) (Option.some Jvm.ClassFile.FieldType.boolean)).before a0 Z = true := hw _ (List.mem_of_getElem? (i := 133) rfl)
theorem ow134 {Z : State} {a0 : Array Value} (hw : own_W Z a0) : (Cond.methodLink "java/util/ImmutableCollections" (30 : Nat) own_y28).before a0 Z = true := hw _ (List.mem_of_getElem? (i := 134) rfl)
theorem ow135 {Z : State} {a0 : Array Value} (hw : own_W Z a0) : (Cond.declares own_y28).before a0 Z = true := hw _ (List.mem_of_getElem? (i := 135) rfl)
theorem ow136 {Z : State} {a0 : Array Value} (hw : own_W Z a0) : (Cond.interfaceMethod "java/util/Collection" "java/util/Collection" "toArray" "()[Ljava/lang/Object;").before a0 Z = true := hw _ (List.mem_of_getElem? (i := 136) rfl)
theorem ow137 {Z : State} {a0 : Array Value} (hw : own_W Z a0) : (Cond.selects "java/util/ArrayList" own_y28 own_y15).before a0 Z = true := hw _ (List.mem_of_getElem? (i := 137) rfl)
theorem ow138 {Z : State} {a0 : Array Value} (hw : own_W Z a0) : (Cond.instanceMethod own_y15).before a0 Z = true := hw _ (List.mem_of_getElem? (i := 138) rfl)
theorem ow139 {Z : State} {a0 : Array Value} (hw : own_W Z a0) : (Cond.publicMethod own_y15).before a0 Z = true := hw _ (List.mem_of_getElem? (i := 139) rfl)
theorem ow140 {Z : State} {a0 : Array Value} (hw : own_W Z a0) : (Cond.unhidden "java/util/ArrayList" "toArray" "()[Ljava/lang/Object;").before a0 Z = true := hw _ (List.mem_of_getElem? (i := 140) rfl)
theorem ow141 {Z : State} {a0 : Array Value} (hw : own_W Z a0) : (Cond.code own_y15 jdk_38_method_16_code (1 : Nat) (Option.some (Jvm.ClassFile.FieldType.array (Jvm.ClassFile.FieldType.object "java/lang/Object")))).before a0 Z = true := hw _ (List.mem_of_getElem? (i := 141) rfl)
theorem ow142 {Z : State} {a0 : Array Value} (hw : own_W Z a0) : (Cond.methodLink "java/util/ArrayList" (66 : Nat) own_y14).before a0 Z = true := hw _ (List.mem_of_getElem? (i := 142) rfl)
theorem ow143 {Z : State} {a0 : Array Value} (hw : own_W Z a0) : (Cond.static own_y14).before a0 Z = true := hw _ (List.mem_of_getElem? (i := 143) rfl)
theorem ow144 {Z : State} {a0 : Array Value} (hw : own_W Z a0) : (Cond.initialized "java/util/Arrays").before a0 Z = true := hw _ (List.mem_of_getElem? (i := 144) rfl)
theorem ow145 {Z : State} {a0 : Array Value} (hw : own_W Z a0) : (Cond.code own_y14 jdk_65_method_119_code (2 : Nat) (Option.some (Jvm.ClassFile.FieldType.array (Jvm.ClassFile.FieldType.object "java/lang/Object")))).before a0 Z = true := hw _ (List.mem_of_getElem? (i := 145) rfl)
theorem ow146 {Z : State} {a0 : Array Value} (hw : own_W Z a0) : (Cond.methodLink "java/util/Arrays" (86 : Nat) own_y40).before a0 Z = true := hw _ (List.mem_of_getElem? (i := 146) rfl)
theorem ow147 {Z : State} {a0 : Array Value} (hw : own_W Z a0) : (Cond.declares own_y40).before a0 Z = true := hw _ (List.mem_of_getElem? (i := 147) rfl)
theorem ow148 {Z : State} {a0 : Array Value} (hw : own_W Z a0) : (Cond.instanceMethod own_y40).before a0 Z = true := hw _ (List.mem_of_getElem? (i := 148) rfl)
theorem ow149 {Z : State} {a0 : Array Value} (hw : own_W Z a0) : (Cond.selects "[Ljava/lang/Object;" own_y40 own_y40).before a0 Z = true := hw _ (List.mem_of_getElem? (i := 149) rfl)
theorem ow150 {Z : State} {a0 : Array Value} (hw : own_W Z a0) : (Cond.native own_y40).before a0 Z = true := hw _ (List.mem_of_getElem? (i := 150) rfl)
theorem ow152 {Z : State} {a0 : Array Value} (hw : own_W Z a0) : (Cond.methodLink "java/util/Arrays" (300 : Nat) own_y13).before a0 Z = true := hw _ (List.mem_of_getElem? (i := 152) rfl)
theorem ow153 {Z : State} {a0 : Array Value} (hw : own_W Z a0) : (Cond.static own_y13).before a0 Z = true := hw _ (List.mem_of_getElem? (i := 153) rfl)
theorem ow154 {Z : State} {a0 : Array Value} (hw : own_W Z a0) : (Cond.code own_y13 jdk_65_method_120_code (4 : Nat) (Option.some (Jvm.ClassFile.FieldType.array (Jvm.ClassFile.FieldType.object "java/lang/Object")))).before a0 Z = true := hw _ (List.mem_of_getElem? (i := 154) rfl)
theorem ow155 {Z : State} {a0 : Array Value} (hw : own_W Z a0) : (Cond.classLink "java/util/Arrays" (110 : Nat) "[Ljava/lang/Object;").before a0 Z = true := hw _ (List.mem_of_getElem? (i := 155) rfl)
theorem ow156 {Z : State} {a0 : Array Value} (hw : own_W Z a0) : (Cond.classLink "java/util/Arrays" (2 : Nat) "java/lang/Object").before a0 Z = true := hw _ (List.mem_of_getElem? (i := 156) rfl)
theorem ow157 {Z : State} {a0 : Array Value} (hw : own_W Z a0) : (Cond.methodLink "java/util/Arrays" (304 : Nat) own_y10).before a0 Z = true := hw _ (List.mem_of_getElem? (i := 157) rfl)
theorem ow158 {Z : State} {a0 : Array Value} (hw : own_W Z a0) : (Cond.static own_y10).before a0 Z = true := hw _ (List.mem_of_getElem? (i := 158) rfl)
theorem ow159 {Z : State} {a0 : Array Value} (hw : own_W Z a0) : (Cond.code own_y10 jdk_29_method_69_code (2 : Nat) (Option.some Jvm.ClassFile.FieldType.int)).before a0 Z = true := hw _ (List.mem_of_getElem? (i := 159) rfl)
theorem ow160 {Z : State} {a0 : Array Value} (hw : own_W Z a0) : (Cond.methodLink "java/util/Arrays" (150 : Nat) own_y41).before a0 Z = true := hw _ (List.mem_of_getElem? (i := 160) rfl)
theorem ow161 {Z : State} {a0 : Array Value} (hw : own_W Z a0) : (Cond.static own_y41).before a0 Z = true := hw _ (List.mem_of_getElem? (i := 161) rfl)
theorem ow162 {Z : State} {a0 : Array Value} (hw : own_W Z a0) : (Cond.initialized "java/lang/System").before a0 Z = true := hw _ (List.mem_of_getElem? (i := 162) rfl)
theorem ow163 {Z : State} {a0 : Array Value} (hw : own_W Z a0) : (Cond.native own_y41).before a0 Z = true := hw _ (List.mem_of_getElem? (i := 163) rfl)
theorem ow164 {Z : State} {a0 : Array Value} (hw : own_W Z a0) : (Cond.methodLink "java/util/ImmutableCollections" (34 : Nat) own_y24).before a0 Z = true := hw _ (List.mem_of_getElem? (i := 164) rfl)
theorem ow165 {Z : State} {a0 : Array Value} (hw : own_W Z a0) : (Cond.static own_y24).before a0 Z = true := hw _ (List.mem_of_getElem? (i := 165) rfl)
theorem ow166 {Z : State} {a0 : Array Value} (hw : own_W Z a0) : (Cond.code own_y24 jdk_40_method_47_code (2 : Nat) (Option.some (Jvm.ClassFile.FieldType.object "java/util/List"))).before a0 Z = true := hw _ (List.mem_of_getElem? (i := 166) rfl)
theorem ow167 {Z : State} {a0 : Array Value} (hw : own_W Z a0) : (Cond.classLink "java/util/List" (96 : Nat) "java/util/ImmutableCollections$List12").before a0 Z = true := hw _ (List.mem_of_getElem? (i := 167) rfl)
theorem ow168 {Z : State} {a0 : Array Value} (hw : own_W Z a0) : (Cond.instantiable "java/util/ImmutableCollections$List12" (2 : Nat)).before a0 Z = true := hw _ (List.mem_of_getElem? (i := 168) rfl)
theorem ow169 {Z : State} {a0 : Array Value} (hw : own_W Z a0) : (Cond.initialized "java/util/ImmutableCollections$List12").before a0 Z = true := hw _ (List.mem_of_getElem? (i := 169) rfl)
theorem ow170 {Z : State} {a0 : Array Value} (hw : own_W Z a0) : (Cond.methodLink "java/util/List" (98 : Nat) own_y19).before a0 Z = true := hw _ (List.mem_of_getElem? (i := 170) rfl)
theorem ow171 {Z : State} {a0 : Array Value} (hw : own_W Z a0) : (Cond.instanceMethod own_y19).before a0 Z = true := hw _ (List.mem_of_getElem? (i := 171) rfl)
theorem ow173 {Z : State} {a0 : Array Value} (hw : own_W Z a0) : (Cond.code own_y19 jdk_44_method_1_code (2 : Nat) (Option.none : Option Jvm.ClassFile.FieldType)).before a0 Z = true := hw _ (List.mem_of_getElem? (i := 173) rfl)
theorem ow174 {Z : State} {a0 : Array Value} (hw : own_W Z a0) : (Cond.methodLink "java/util/ImmutableCollections$List12" (1 : Nat) own_y18).before a0 Z = true := hw _ (List.mem_of_getElem? (i := 174) rfl)
theorem ow175 {Z : State} {a0 : Array Value} (hw : own_W Z a0) : (Cond.instanceMethod own_y18).before a0 Z = true := hw _ (List.mem_of_getElem? (i := 175) rfl)
theorem ow178 {Z : State} {a0 : Array Value} (hw : own_W Z a0) : (Cond.initialized "java/util/ImmutableCollections$AbstractImmutableList").before a0 Z = true := hw _ (List.mem_of_getElem? (i := 178) rfl)
theorem ow179 {Z : State} {a0 : Array Value} (hw : own_W Z a0) : (Cond.code own_y18 jdk_46_method_1_code (1 : Nat) (Option.none : Option Jvm.ClassFile.FieldType)).before a0 Z = true := hw _ (List.mem_of_getElem? (i := 179) rfl)
theorem ow180 {Z : State} {a0 : Array Value} (hw : own_W Z a0) : (Cond.methodLink "java/util/ImmutableCollections$AbstractImmutableList" (1 : Nat) own_y17).before a0 Z = true := hw _ (List.mem_of_getElem? (i := 180) rfl)
theorem ow181 {Z : State} {a0 : Array Value} (hw : own_W Z a0) : (Cond.instanceMethod own_y17).before a0 Z = true := hw _ (List.mem_of_getElem? (i := 181) rfl)
theorem ow184 {Z : State} {a0 : Array Value} (hw : own_W Z a0) : (Cond.initialized "java/util/ImmutableCollections$AbstractImmutableCollection").before a0 Z = true := hw _ (List.mem_of_getElem? (i := 184) rfl)
theorem ow185 {Z : State} {a0 : Array Value} (hw : own_W Z a0) : (Cond.code own_y17 jdk_47_method_1_code (1 : Nat) (Option.none : Option Jvm.ClassFile.FieldType)).before a0 Z = true := hw _ (List.mem_of_getElem? (i := 185) rfl)
theorem ow186 {Z : State} {a0 : Array Value} (hw : own_W Z a0) : (Cond.methodLink "java/util/ImmutableCollections$AbstractImmutableCollection" (1 : Nat) own_y0).before a0 Z = true := hw _ (List.mem_of_getElem? (i := 186) rfl)
theorem ow188 {Z : State} {a0 : Array Value} (hw : own_W Z a0) : (Cond.methodLink "java/util/ImmutableCollections$List12" (7 : Nat) own_y11).before a0 Z = true := hw _ (List.mem_of_getElem? (i := 188) rfl)
theorem ow189 {Z : State} {a0 : Array Value} (hw : own_W Z a0) : (Cond.static own_y11).before a0 Z = true := hw _ (List.mem_of_getElem? (i := 189) rfl)
theorem ow190 {Z : State} {a0 : Array Value} (hw : own_W Z a0) : (Cond.code own_y11 jdk_31_method_10_code (1 : Nat) (Option.some (Jvm.ClassFile.FieldType.object "java/lang/Object"))).before a0 Z = true := hw _ (List.mem_of_getElem? (i := 190) rfl)
theorem ow191 {Z : State} {a0 : Array Value} (hw : own_W Z a0) : (Cond.fieldLink "java/util/ImmutableCollections$List12" (13 : Nat) "java/util/ImmutableCollections$List12" "e0" "Ljava/lang/Object;").before a0 Z = true := hw _ (List.mem_of_getElem? (i := 191) rfl)
theorem ow192 {Z : State} {a0 : Array Value} (hw : own_W Z a0) : (Cond.laysFinal "java/util/ImmutableCollections$List12" "java/util/ImmutableCollections$List12" "e0" "Ljava/lang/Object;").before a0 Z = true := hw _ (List.mem_of_getElem? (i := 192) rfl)
theorem ow193 {Z : State} {a0 : Array Value} (hw : own_W Z a0) : (Cond.fieldLinkNest "java/util/ImmutableCollections$List12" (19 : Nat) "java/util/ImmutableCollections" "EMPTY" "Ljava/lang/Object;" "java/util/ImmutableCollections").before a0 Z = true := hw _ (List.mem_of_getElem? (i := 193) rfl)
theorem ow194 {Z : State} {a0 : Array Value} (hw : own_W Z a0) : (Cond.fieldLink "java/util/ImmutableCollections$List12" (24 : Nat) "java/util/ImmutableCollections$List12" "e1" "Ljava/lang/Object;").before a0 Z = true := hw _ (List.mem_of_getElem? (i := 194) rfl)
theorem ow195 {Z : State} {a0 : Array Value} (hw : own_W Z a0) : (Cond.laysFinal "java/util/ImmutableCollections$List12" "java/util/ImmutableCollections$List12" "e1" "Ljava/lang/Object;").before a0 Z = true := hw _ (List.mem_of_getElem? (i := 195) rfl)
theorem ow196 {Z : State} {a0 : Array Value} (hw : own_W Z a0) : (Cond.methodLink "java/util/ImmutableCollections" (26 : Nat) own_y23).before a0 Z = true := hw _ (List.mem_of_getElem? (i := 196) rfl)
theorem ow197 {Z : State} {a0 : Array Value} (hw : own_W Z a0) : (Cond.static own_y23).before a0 Z = true := hw _ (List.mem_of_getElem? (i := 197) rfl)
theorem ow198 {Z : State} {a0 : Array Value} (hw : own_W Z a0) : (Cond.code own_y23 jdk_40_method_36_code (0 : Nat) (Option.some (Jvm.ClassFile.FieldType.object "java/util/List"))).before a0 Z = true := hw _ (List.mem_of_getElem? (i := 198) rfl)
theorem ow199 {Z : State} {a0 : Array Value} (hw : own_W Z a0) : (Cond.fieldLink "java/util/List" (90 : Nat) "java/util/ImmutableCollections" "EMPTY_LIST" "Ljava/util/ImmutableCollections$ListN;").before a0 Z = true := hw _ (List.mem_of_getElem? (i := 199) rfl)
theorem ow200 {Z : State} {a0 : Array Value} (hw : own_W Z a0) : (Cond.methodLink "com/example/ibex/ibex/model/Dimension" (25 : Nat) own_y34).before a0 Z = true := hw _ (List.mem_of_getElem? (i := 200) rfl)
theorem ow201 {Z : State} {a0 : Array Value} (hw : own_W Z a0) : (Cond.declares own_y34).before a0 Z = true := hw _ (List.mem_of_getElem? (i := 201) rfl)
theorem ow202 {Z : State} {a0 : Array Value} (hw : own_W Z a0) : (Cond.interfaceMethod "java/util/List" "java/util/List" "isEmpty" "()Z").before a0 Z = true := hw _ (List.mem_of_getElem? (i := 202) rfl)
theorem ow203 {Z : State} {a0 : Array Value} (hw : own_W Z a0) : (Cond.selects "java/util/ImmutableCollections$List12" own_y34 own_y29).before a0 Z = true := hw _ (List.mem_of_getElem? (i := 203) rfl)
theorem ow204 {Z : State} {a0 : Array Value} (hw : own_W Z a0) : (Cond.instanceMethod own_y29).before a0 Z = true := hw _ (List.mem_of_getElem? (i := 204) rfl)
theorem ow205 {Z : State} {a0 : Array Value} (hw : own_W Z a0) : (Cond.publicMethod own_y29).before a0 Z = true := hw _ (List.mem_of_getElem? (i := 205) rfl)
theorem ow206 {Z : State} {a0 : Array Value} (hw : own_W Z a0) : (Cond.unhidden "java/util/ImmutableCollections$List12" "isEmpty" "()Z").before a0 Z = true := hw _ (List.mem_of_getElem? (i := 206) rfl)
theorem ow207 {Z : State} {a0 : Array Value} (hw : own_W Z a0) : (Cond.castable "java/util/ImmutableCollections$List12" "java/util/List").before a0 Z = true := hw _ (List.mem_of_getElem? (i := 207) rfl)
theorem ow208 {Z : State} {a0 : Array Value} (hw : own_W Z a0) : (Cond.code own_y29 jdk_44_method_4_code (1 : Nat) (Option.some Jvm.ClassFile.FieldType.boolean)).before a0 Z = true := hw _ (List.mem_of_getElem? (i := 208) rfl)
theorem ow209 {Z : State} {a0 : Array Value} (hw : own_W Z a0) : (Cond.fieldLink "com/example/ibex/ibex/model/Dimension" (38 : Nat) "com/example/ibex/ibex/model/Dimension" "name" "Ljava/lang/String;").before a0 Z = true := hw _ (List.mem_of_getElem? (i := 209) rfl)
theorem ow210 {Z : State} {a0 : Array Value} (hw : own_W Z a0) : (Cond.laysFinal "com/example/ibex/ibex/model/Dimension" "com/example/ibex/ibex/model/Dimension" "name" "Ljava/lang/String;").before a0 Z = true := hw _ (List.mem_of_getElem? (i := 210) rfl)
theorem ow211 {Z : State} {a0 : Array Value} (hw : own_W Z a0) : (Cond.fieldLink "com/example/ibex/ibex/model/Dimension" (43 : Nat) "com/example/ibex/ibex/model/Dimension" "table" "Ljava/lang/String;").before a0 Z = true := hw _ (List.mem_of_getElem? (i := 211) rfl)
theorem ow212 {Z : State} {a0 : Array Value} (hw : own_W Z a0) : (Cond.laysFinal "com/example/ibex/ibex/model/Dimension" "com/example/ibex/ibex/model/Dimension" "table" "Ljava/lang/String;").before a0 Z = true := hw _ (List.mem_of_getElem? (i := 212) rfl)
theorem ow213 {Z : State} {a0 : Array Value} (hw : own_W Z a0) : (Cond.fieldLink "com/example/ibex/ibex/model/Dimension" (45 : Nat) "com/example/ibex/ibex/model/Dimension" "foreignKey" "Ljava/lang/String;").before a0 Z = true := hw _ (List.mem_of_getElem? (i := 213) rfl)
theorem ow214 {Z : State} {a0 : Array Value} (hw : own_W Z a0) : (Cond.laysFinal "com/example/ibex/ibex/model/Dimension" "com/example/ibex/ibex/model/Dimension" "foreignKey" "Ljava/lang/String;").before a0 Z = true := hw _ (List.mem_of_getElem? (i := 214) rfl)
theorem ow215 {Z : State} {a0 : Array Value} (hw : own_W Z a0) : (Cond.fieldLink "com/example/ibex/ibex/model/Dimension" (47 : Nat) "com/example/ibex/ibex/model/Dimension" "levels" "Ljava/util/List;").before a0 Z = true := hw _ (List.mem_of_getElem? (i := 215) rfl)
theorem ow216 {Z : State} {a0 : Array Value} (hw : own_W Z a0) : (Cond.laysFinal "com/example/ibex/ibex/model/Dimension" "com/example/ibex/ibex/model/Dimension" "levels" "Ljava/util/List;").before a0 Z = true := hw _ (List.mem_of_getElem? (i := 216) rfl)
theorem ow217 {Z : State} {a0 : Array Value} (hw : own_W Z a0) : (Cond.fieldLink "com/example/ibex/ibex/model/Dimension" (51 : Nat) "com/example/ibex/ibex/model/Dimension" "attributes" "Ljava/util/List;").before a0 Z = true := hw _ (List.mem_of_getElem? (i := 217) rfl)
theorem ow218 {Z : State} {a0 : Array Value} (hw : own_W Z a0) : (Cond.laysFinal "com/example/ibex/ibex/model/Dimension" "com/example/ibex/ibex/model/Dimension" "attributes" "Ljava/util/List;").before a0 Z = true := hw _ (List.mem_of_getElem? (i := 218) rfl)
theorem ow219 {Z : State} {a0 : Array Value} (hw : own_W Z a0) : (Cond.methodLink "com/example/ibex/ibex/model/DimensionKeyPinLaw" (31 : Nat) own_y37).before a0 Z = true := hw _ (List.mem_of_getElem? (i := 219) rfl)
theorem ow220 {Z : State} {a0 : Array Value} (hw : own_W Z a0) : (Cond.declares own_y37).before a0 Z = true := hw _ (List.mem_of_getElem? (i := 220) rfl)
theorem ow221 {Z : State} {a0 : Array Value} (hw : own_W Z a0) : (Cond.instanceMethod own_y37).before a0 Z = true := hw _ (List.mem_of_getElem? (i := 221) rfl)
theorem ow222 {Z : State} {a0 : Array Value} (hw : own_W Z a0) : (Cond.selects "com/example/ibex/ibex/model/Dimension" own_y37 own_y37).before a0 Z = true := hw _ (List.mem_of_getElem? (i := 222) rfl)
theorem ow223 {Z : State} {a0 : Array Value} (hw : own_W Z a0) : (Cond.code own_y37 prog_71_method_2_code (1 : Nat) (Option.some (Jvm.ClassFile.FieldType.object "java/lang/String"))).before a0 Z = true := hw _ (List.mem_of_getElem? (i := 223) rfl)
theorem ow224 {Z : State} {a0 : Array Value} (hw : own_W Z a0) : (Cond.methodLink "com/example/ibex/ibex/model/Dimension" (54 : Nat) own_y36).before a0 Z = true := hw _ (List.mem_of_getElem? (i := 224) rfl)
theorem ow225 {Z : State} {a0 : Array Value} (hw : own_W Z a0) : (Cond.declares own_y36).before a0 Z = true := hw _ (List.mem_of_getElem? (i := 225) rfl)
theorem ow226 {Z : State} {a0 : Array Value} (hw : own_W Z a0) : (Cond.interfaceMethod "java/util/List" "java/util/List" "get" "(I)Ljava/lang/Object;").before a0 Z = true := hw _ (List.mem_of_getElem? (i := 226) rfl)
theorem ow227 {Z : State} {a0 : Array Value} (hw : own_W Z a0) : (Cond.selects "java/util/ImmutableCollections$List12" own_y36 own_y31).before a0 Z = true := hw _ (List.mem_of_getElem? (i := 227) rfl)
theorem ow228 {Z : State} {a0 : Array Value} (hw : own_W Z a0) : (Cond.instanceMethod own_y31).before a0 Z = true := hw _ (List.mem_of_getElem? (i := 228) rfl)
theorem ow229 {Z : State} {a0 : Array Value} (hw : own_W Z a0) : (Cond.publicMethod own_y31).before a0 Z = true := hw _ (List.mem_of_getElem? (i := 229) rfl)
theorem ow230 {Z : State} {a0 : Array Value} (hw : own_W Z a0) : (Cond.unhidden "java/util/ImmutableCollections$List12" "get" "(I)Ljava/lang/Object;").before a0 Z = true := hw _ (List.mem_of_getElem? (i := 230) rfl)
theorem ow231 {Z : State} {a0 : Array Value} (hw : own_W Z a0) : (Cond.code own_y31 jdk_44_method_5_code (2 : Nat) (Option.some (Jvm.ClassFile.FieldType.object "java/lang/Object"))).before a0 Z = true := hw _ (List.mem_of_getElem? (i := 231) rfl)
theorem ow232 {Z : State} {a0 : Array Value} (hw : own_W Z a0) : (Cond.classLink "com/example/ibex/ibex/model/Dimension" (58 : Nat) "java/lang/String").before a0 Z = true := hw _ (List.mem_of_getElem? (i := 232) rfl)
theorem ow233 {Z : State} {a0 : Array Value} (hw : own_W Z a0) : (Cond.methodLink "com/example/ibex/ibex/model/DimensionKeyPinLaw" (35 : Nat) own_y38).before a0 Z = true := hw _ (List.mem_of_getElem? (i := 233) rfl)
theorem ow234 {Z : State} {a0 : Array Value} (hw : own_W Z a0) : (Cond.declares own_y38).before a0 Z = true := hw _ (List.mem_of_getElem? (i := 234) rfl)
theorem ow235 {Z : State} {a0 : Array Value} (hw : own_W Z a0) : (Cond.instanceMethod own_y38).before a0 Z = true := hw _ (List.mem_of_getElem? (i := 235) rfl)
theorem ow236 {Z : State} {a0 : Array Value} (hw : own_W Z a0) : (Cond.selects "java/lang/String" own_y38 own_y38).before a0 Z = true := hw _ (List.mem_of_getElem? (i := 236) rfl)
theorem ow237 {Z : State} {a0 : Array Value} (hw : own_W Z a0) : (Cond.code own_y38 jdk_42_method_66_code (3 : Nat) (Option.some Jvm.ClassFile.FieldType.boolean)).before a0 Z = true := hw _ (List.mem_of_getElem? (i := 237) rfl)
theorem ow238 {Z : State} {a0 : Array Value} (hw : own_W Z a0) : (Cond.methodLink "java/util/List" (109 : Nat) own_y22).before a0 Z = true := hw _ (List.mem_of_getElem? (i := 238) rfl)
theorem ow239 {Z : State} {a0 : Array Value} (hw : own_W Z a0) : (Cond.static own_y22).before a0 Z = true := hw _ (List.mem_of_getElem? (i := 239) rfl)
theorem ow240 {Z : State} {a0 : Array Value} (hw : own_W Z a0) : (Cond.code own_y22 jdk_56_method_4_code (3 : Nat) (Option.some (Jvm.ClassFile.FieldType.object "java/util/List"))).before a0 Z = true := hw _ (List.mem_of_getElem? (i := 240) rfl)
theorem ow241 {Z : State} {a0 : Array Value} (hw : own_W Z a0) : (Cond.classLink "java/util/ImmutableCollections" (2 : Nat) "java/lang/Object").before a0 Z = true := hw _ (List.mem_of_getElem? (i := 241) rfl)
theorem ow242 {Z : State} {a0 : Array Value} (hw : own_W Z a0) : (Cond.methodLink "java/util/ImmutableCollections" (37 : Nat) own_y11).before a0 Z = true := hw _ (List.mem_of_getElem? (i := 242) rfl)
theorem ow243 {Z : State} {a0 : Array Value} (hw : own_W Z a0) : (Cond.instantiable "java/util/ImmutableCollections$ListN" (2 : Nat)).before a0 Z = true := hw _ (List.mem_of_getElem? (i := 243) rfl)
theorem ow244 {Z : State} {a0 : Array Value} (hw : own_W Z a0) : (Cond.initialized "java/util/ImmutableCollections$ListN").before a0 Z = true := hw _ (List.mem_of_getElem? (i := 244) rfl)
theorem ow245 {Z : State} {a0 : Array Value} (hw : own_W Z a0) : (Cond.methodLinkNest "java/util/ImmutableCollections" (43 : Nat) own_y21 "java/util/ImmutableCollections").before a0 Z = true := hw _ (List.mem_of_getElem? (i := 245) rfl)
theorem ow246 {Z : State} {a0 : Array Value} (hw : own_W Z a0) : (Cond.instanceMethod own_y21).before a0 Z = true := hw _ (List.mem_of_getElem? (i := 246) rfl)
theorem ow248 {Z : State} {a0 : Array Value} (hw : own_W Z a0) : (Cond.code own_y21 jdk_45_method_1_code (3 : Nat) (Option.none : Option Jvm.ClassFile.FieldType)).before a0 Z = true := hw _ (List.mem_of_getElem? (i := 248) rfl)
theorem ow249 {Z : State} {a0 : Array Value} (hw : own_W Z a0) : (Cond.methodLink "java/util/ImmutableCollections$ListN" (1 : Nat) own_y18).before a0 Z = true := hw _ (List.mem_of_getElem? (i := 249) rfl)
theorem ow253 {Z : State} {a0 : Array Value} (hw : own_W Z a0) : (Cond.fieldLink "java/util/ImmutableCollections$ListN" (7 : Nat) "java/util/ImmutableCollections$ListN" "elements" "[Ljava/lang/Object;").before a0 Z = true := hw _ (List.mem_of_getElem? (i := 253) rfl)
theorem ow254 {Z : State} {a0 : Array Value} (hw : own_W Z a0) : (Cond.laysFinal "java/util/ImmutableCollections$ListN" "java/util/ImmutableCollections$ListN" "elements" "[Ljava/lang/Object;").before a0 Z = true := hw _ (List.mem_of_getElem? (i := 254) rfl)
theorem ow255 {Z : State} {a0 : Array Value} (hw : own_W Z a0) : (Cond.fieldLink "java/util/ImmutableCollections$ListN" (13 : Nat) "java/util/ImmutableCollections$ListN" "allowNulls" "Z").before a0 Z = true := hw _ (List.mem_of_getElem? (i := 255) rfl)
theorem ow256 {Z : State} {a0 : Array Value} (hw : own_W Z a0) : (Cond.laysFinal "java/util/ImmutableCollections$ListN" "java/util/ImmutableCollections$ListN" "allowNulls" "Z").before a0 Z = true := hw _ (List.mem_of_getElem? (i := 256) rfl)
theorem ow257 {Z : State} {a0 : Array Value} (hw : own_W Z a0) : (Cond.selects "java/util/ImmutableCollections$ListN" own_y34 own_y30).before a0 Z = true := hw _ (List.mem_of_getElem? (i := 257) rfl)
theorem ow258 {Z : State} {a0 : Array Value} (hw : own_W Z a0) : (Cond.instanceMethod own_y30).before a0 Z = true := hw _ (List.mem_of_getElem? (i := 258) rfl)
theorem ow259 {Z : State} {a0 : Array Value} (hw : own_W Z a0) : (Cond.publicMethod own_y30).before a0 Z = true := hw _ (List.mem_of_getElem? (i := 259) rfl)
theorem ow260 {Z : State} {a0 : Array Value} (hw : own_W Z a0) : (Cond.unhidden "java/util/ImmutableCollections$ListN" "isEmpty" "()Z").before a0 Z = true := hw _ (List.mem_of_getElem? (i := 260) rfl)
theorem ow261 {Z : State} {a0 : Array Value} (hw : own_W Z a0) : (Cond.castable "java/util/ImmutableCollections$ListN" "java/util/List").before a0 Z = true := hw _ (List.mem_of_getElem? (i := 261) rfl)
theorem ow262 {Z : State} {a0 : Array Value} (hw : own_W Z a0) : (Cond.code own_y30 jdk_45_method_2_code (1 : Nat) (Option.some Jvm.ClassFile.FieldType.boolean)).before a0 Z = true := hw _ (List.mem_of_getElem? (i := 262) rfl)
theorem ow263 {Z : State} {a0 : Array Value} (hw : own_W Z a0) : (Cond.selects "java/util/ImmutableCollections$ListN" own_y36 own_y32).before a0 Z = true := hw _ (List.mem_of_getElem? (i := 263) rfl)
theorem ow264 {Z : State} {a0 : Array Value} (hw : own_W Z a0) : (Cond.instanceMethod own_y32).before a0 Z = true := hw _ (List.mem_of_getElem? (i := 264) rfl)
theorem ow265 {Z : State} {a0 : Array Value} (hw : own_W Z a0) : (Cond.publicMethod own_y32).before a0 Z = true := hw _ (List.mem_of_getElem? (i := 265) rfl)
theorem ow266 {Z : State} {a0 : Array Value} (hw : own_W Z a0) : (Cond.unhidden "java/util/ImmutableCollections$ListN" "get" "(I)Ljava/lang/Object;").before a0 Z = true := hw _ (List.mem_of_getElem? (i := 266) rfl)
theorem ow267 {Z : State} {a0 : Array Value} (hw : own_W Z a0) : (Cond.code own_y32 jdk_45_method_4_code (2 : Nat) (Option.some (Jvm.ClassFile.FieldType.object "java/lang/Object"))).before a0 Z = true := hw _ (List.mem_of_getElem? (i := 267) rfl)
theorem ow268 {Z : State} {a0 : Array Value} (hw : own_W Z a0) : (Cond.methodLink "java/util/List" (100 : Nat) own_y20).before a0 Z = true := hw _ (List.mem_of_getElem? (i := 268) rfl)
theorem ow269 {Z : State} {a0 : Array Value} (hw : own_W Z a0) : (Cond.instanceMethod own_y20).before a0 Z = true := hw _ (List.mem_of_getElem? (i := 269) rfl)
theorem ow270 {Z : State} {a0 : Array Value} (hw : own_W Z a0) : (Cond.code own_y20 jdk_44_method_2_code (3 : Nat) (Option.none : Option Jvm.ClassFile.FieldType)).before a0 Z = true := hw _ (List.mem_of_getElem? (i := 270) rfl)
theorem own_sn0 {Z : State} {a0 : Array Value} (hw : own_W Z a0) : Jvm.RoadKit.slotOf Z "java/util/ArrayList" "size" "I" ≠ Jvm.RoadKit.slotOf Z "java/util/AbstractList" "modCount" "I" := slot_ne (Or.inl (ow67 hw)) (Or.inl (ow55 hw)) (by decide +kernel) (t := .int) (t' := .int) own_fd0 own_fd0
theorem own_sn1 {Z : State} {a0 : Array Value} (hw : own_W Z a0) : Jvm.RoadKit.slotOf Z "java/util/ArrayList" "elementData" "[Ljava/lang/Object;" ≠ Jvm.RoadKit.slotOf Z "java/util/AbstractList" "modCount" "I" := slot_ne (Or.inl (ow58 hw)) (Or.inl (ow55 hw)) (by decide +kernel) (t := (.array (.object "java/lang/Object"))) (t' := .int) own_fd1 own_fd0
theorem own_sn2 {Z : State} {a0 : Array Value} (hw : own_W Z a0) : Jvm.RoadKit.slotOf Z "java/util/ArrayList" "size" "I" ≠ Jvm.RoadKit.slotOf Z "java/util/ArrayList" "elementData" "[Ljava/lang/Object;" := slot_ne (Or.inl (ow67 hw)) (Or.inl (ow58 hw)) (by decide +kernel) (t := .int) (t' := (.array (.object "java/lang/Object"))) own_fd0 own_fd1
theorem own_sn3 {Z : State} {a0 : Array Value} (hw : own_W Z a0) : Jvm.RoadKit.slotOf Z "java/util/ImmutableCollections$List12" "e1" "Ljava/lang/Object;" ≠ Jvm.RoadKit.slotOf Z "java/util/ImmutableCollections$List12" "e0" "Ljava/lang/Object;" := slot_ne (Or.inr (ow195 hw)) (Or.inr (ow192 hw)) (by decide +kernel) (t := (.object "java/lang/Object")) (t' := (.object "java/lang/Object")) own_fd4 own_fd4
theorem own_sn4 {Z : State} {a0 : Array Value} (hw : own_W Z a0) : Jvm.RoadKit.slotOf Z "java/util/ImmutableCollections$ListN" "allowNulls" "Z" ≠ Jvm.RoadKit.slotOf Z "java/util/ImmutableCollections$ListN" "elements" "[Ljava/lang/Object;" := slot_ne (Or.inr (ow256 hw)) (Or.inr (ow254 hw)) (by decide +kernel) (t := .boolean) (t' := (.array (.object "java/lang/Object"))) own_fd5 own_fd1
theorem own_sn5 {Z : State} {a0 : Array Value} (hw : own_W Z a0) : Jvm.RoadKit.slotOf Z "com/example/ibex/ibex/model/Dimension" "table" "Ljava/lang/String;" ≠ Jvm.RoadKit.slotOf Z "com/example/ibex/ibex/model/Dimension" "name" "Ljava/lang/String;" := slot_ne (Or.inr (ow212 hw)) (Or.inr (ow210 hw)) (by decide +kernel) (t := (.object "java/lang/String")) (t' := (.object "java/lang/String")) own_fd6 own_fd6
theorem own_sn6 {Z : State} {a0 : Array Value} (hw : own_W Z a0) : Jvm.RoadKit.slotOf Z "com/example/ibex/ibex/model/Dimension" "foreignKey" "Ljava/lang/String;" ≠ Jvm.RoadKit.slotOf Z "com/example/ibex/ibex/model/Dimension" "name" "Ljava/lang/String;" := slot_ne (Or.inr (ow214 hw)) (Or.inr (ow210 hw)) (by decide +kernel) (t := (.object "java/lang/String")) (t' := (.object "java/lang/String")) own_fd6 own_fd6
theorem own_sn7 {Z : State} {a0 : Array Value} (hw : own_W Z a0) : Jvm.RoadKit.slotOf Z "com/example/ibex/ibex/model/Dimension" "levels" "Ljava/util/List;" ≠ Jvm.RoadKit.slotOf Z "com/example/ibex/ibex/model/Dimension" "name" "Ljava/lang/String;" := slot_ne (Or.inr (ow216 hw)) (Or.inr (ow210 hw)) (by decide +kernel) (t := (.object "java/util/List")) (t' := (.object "java/lang/String")) own_fd7 own_fd6
theorem own_sn8 {Z : State} {a0 : Array Value} (hw : own_W Z a0) : Jvm.RoadKit.slotOf Z "com/example/ibex/ibex/model/Dimension" "attributes" "Ljava/util/List;" ≠ Jvm.RoadKit.slotOf Z "com/example/ibex/ibex/model/Dimension" "name" "Ljava/lang/String;" := slot_ne (Or.inr (ow218 hw)) (Or.inr (ow210 hw)) (by decide +kernel) (t := (.object "java/util/List")) (t' := (.object "java/lang/String")) own_fd7 own_fd6
theorem own_sn9 {Z : State} {a0 : Array Value} (hw : own_W Z a0) : Jvm.RoadKit.slotOf Z "com/example/ibex/ibex/model/Dimension" "foreignKey" "Ljava/lang/String;" ≠ Jvm.RoadKit.slotOf Z "com/example/ibex/ibex/model/Dimension" "table" "Ljava/lang/String;" := slot_ne (Or.inr (ow214 hw)) (Or.inr (ow212 hw)) (by decide +kernel) (t := (.object "java/lang/String")) (t' := (.object "java/lang/String")) own_fd6 own_fd6
theorem own_sn10 {Z : State} {a0 : Array Value} (hw : own_W Z a0) : Jvm.RoadKit.slotOf Z "com/example/ibex/ibex/model/Dimension" "levels" "Ljava/util/List;" ≠ Jvm.RoadKit.slotOf Z "com/example/ibex/ibex/model/Dimension" "table" "Ljava/lang/String;" := slot_ne (Or.inr (ow216 hw)) (Or.inr (ow212 hw)) (by decide +kernel) (t := (.object "java/util/List")) (t' := (.object "java/lang/String")) own_fd7 own_fd6
theorem own_sn11 {Z : State} {a0 : Array Value} (hw : own_W Z a0) : Jvm.RoadKit.slotOf Z "com/example/ibex/ibex/model/Dimension" "attributes" "Ljava/util/List;" ≠ Jvm.RoadKit.slotOf Z "com/example/ibex/ibex/model/Dimension" "table" "Ljava/lang/String;" := slot_ne (Or.inr (ow218 hw)) (Or.inr (ow212 hw)) (by decide +kernel) (t := (.object "java/util/List")) (t' := (.object "java/lang/String")) own_fd7 own_fd6
theorem own_sn12 {Z : State} {a0 : Array Value} (hw : own_W Z a0) : Jvm.RoadKit.slotOf Z "com/example/ibex/ibex/model/Dimension" "levels" "Ljava/util/List;" ≠ Jvm.RoadKit.slotOf Z "com/example/ibex/ibex/model/Dimension" "foreignKey" "Ljava/lang/String;" := slot_ne (Or.inr (ow216 hw)) (Or.inr (ow214 hw)) (by decide +kernel) (t := (.object "java/util/List")) (t' := (.object "java/lang/String")) own_fd7 own_fd6
theorem own_sn13 {Z : State} {a0 : Array Value} (hw : own_W Z a0) : Jvm.RoadKit.slotOf Z "com/example/ibex/ibex/model/Dimension" "attributes" "Ljava/util/List;" ≠ Jvm.RoadKit.slotOf Z "com/example/ibex/ibex/model/Dimension" "foreignKey" "Ljava/lang/String;" := slot_ne (Or.inr (ow218 hw)) (Or.inr (ow214 hw)) (by decide +kernel) (t := (.object "java/util/List")) (t' := (.object "java/lang/String")) own_fd7 own_fd6
theorem own_sn14 {Z : State} {a0 : Array Value} (hw : own_W Z a0) : Jvm.RoadKit.slotOf Z "com/example/ibex/ibex/model/Dimension" "attributes" "Ljava/util/List;" ≠ Jvm.RoadKit.slotOf Z "com/example/ibex/ibex/model/Dimension" "levels" "Ljava/util/List;" := slot_ne (Or.inr (ow218 hw)) (Or.inr (ow216 hw)) (by decide +kernel) (t := (.object "java/util/List")) (t' := (.object "java/util/List")) own_fd7 own_fd7
theorem own_Lhw {Z : State} {a0 : Array Value} (hw : own_W Z a0) : own_L Z a0 := trivial

theorem own_pd_0 : parseMethodDescriptor "()V" = some ⟨[], none⟩ := by decide +kernel
theorem own_pd_1 : parseMethodDescriptor "(II)I" = some ⟨[.int, .int], some .int⟩ := by decide +kernel
theorem own_pd_2 : parseMethodDescriptor "(I)[Ljava/lang/Object;" = some ⟨[.int], some (.array (.object "java/lang/Object"))⟩ := by decide +kernel
theorem own_pd_3 : parseMethodDescriptor "()[Ljava/lang/Object;" = some ⟨[], some (.array (.object "java/lang/Object"))⟩ := by decide +kernel
theorem own_pd_4 : parseMethodDescriptor "(Ljava/lang/Object;[Ljava/lang/Object;I)V" = some ⟨[(.object "java/lang/Object"), (.array (.object "java/lang/Object")), .int], none⟩ := by decide +kernel
theorem own_pd_5 : parseMethodDescriptor "([C)V" = some ⟨[(.array .char)], none⟩ := by decide +kernel
theorem own_pd_6 : parseMethodDescriptor "([Ljava/lang/Object;ILjava/lang/Class;)[Ljava/lang/Object;" = some ⟨[(.array (.object "java/lang/Object")), .int, (.object "java/lang/Class")], some (.array (.object "java/lang/Object"))⟩ := by decide +kernel
theorem own_pd_7 : parseMethodDescriptor "([Ljava/lang/Object;I)[Ljava/lang/Object;" = some ⟨[(.array (.object "java/lang/Object")), .int], some (.array (.object "java/lang/Object"))⟩ := by decide +kernel
theorem own_pd_8 : parseMethodDescriptor "(Ljava/lang/Object;)Ljava/lang/Object;" = some ⟨[(.object "java/lang/Object")], some (.object "java/lang/Object")⟩ := by decide +kernel
theorem own_pd_9 : parseMethodDescriptor "([Ljava/lang/Object;Z)V" = some ⟨[(.array (.object "java/lang/Object")), .boolean], none⟩ := by decide +kernel
theorem own_pd_10 : parseMethodDescriptor "(Ljava/lang/Object;)V" = some ⟨[(.object "java/lang/Object")], none⟩ := by decide +kernel
theorem own_pd_11 : parseMethodDescriptor "(Ljava/lang/Object;Ljava/lang/Object;)V" = some ⟨[(.object "java/lang/Object"), (.object "java/lang/Object")], none⟩ := by decide +kernel
theorem own_pd_12 : parseMethodDescriptor "([Ljava/lang/Object;)Ljava/util/List;" = some ⟨[(.array (.object "java/lang/Object"))], some (.object "java/util/List")⟩ := by decide +kernel
theorem own_pd_13 : parseMethodDescriptor "()Z" = some ⟨[], some .boolean⟩ := by decide +kernel
theorem own_pd_14 : parseMethodDescriptor "()Ljava/util/List;" = some ⟨[], some (.object "java/util/List")⟩ := by decide +kernel
theorem own_pd_15 : parseMethodDescriptor "(Ljava/util/Collection;)Ljava/util/List;" = some ⟨[(.object "java/util/Collection")], some (.object "java/util/List")⟩ := by decide +kernel
theorem own_pd_16 : parseMethodDescriptor "(Ljava/lang/Object;Ljava/lang/String;)Ljava/lang/Object;" = some ⟨[(.object "java/lang/Object"), (.object "java/lang/String")], some (.object "java/lang/Object")⟩ := by decide +kernel
theorem own_pd_17 : parseMethodDescriptor "(I)Ljava/lang/Object;" = some ⟨[.int], some (.object "java/lang/Object")⟩ := by decide +kernel
theorem own_pd_18 : parseMethodDescriptor "(I)Ljava/lang/String;" = some ⟨[.int], some (.object "java/lang/String")⟩ := by decide +kernel
theorem own_pd_19 : parseMethodDescriptor "(Ljava/lang/Object;)Z" = some ⟨[(.object "java/lang/Object")], some .boolean⟩ := by decide +kernel
theorem own_pd_20 : parseMethodDescriptor "(Ljava/lang/String;Ljava/lang/String;Ljava/lang/String;Ljava/util/List;Ljava/util/List;)V" = some ⟨[(.object "java/lang/String"), (.object "java/lang/String"), (.object "java/lang/String"), (.object "java/util/List"), (.object "java/util/List")], none⟩ := by decide +kernel
theorem own_pd_21 : parseMethodDescriptor "()Ljava/lang/String;" = some ⟨[], some (.object "java/lang/String")⟩ := by decide +kernel
theorem own_pn_0 : plainName "java/util/AbstractCollection" = true := by first | (simp [plainName, overriddenIn]; done) | decide +kernel
theorem own_pn_1 : plainName "java/util/AbstractList" = true := by first | (simp [plainName, overriddenIn]; done) | decide +kernel
theorem own_pn_2 : plainName "java/util/ArrayList" = true := by first | (simp [plainName, overriddenIn]; done) | decide +kernel
theorem own_pn_3 : plainName "com/example/ibex/ibex/model/DimensionKeyPinLaw" = true := by first | (simp [plainName, overriddenIn]; done) | decide +kernel
theorem own_pn_4 : plainName "java/util/Objects" = true := by first | (simp [plainName, overriddenIn]; done) | decide +kernel
theorem own_pn_5 : plainName "java/util/Arrays" = true := by first | (simp [plainName, overriddenIn]; done) | decide +kernel
theorem own_pn_6 : plainName "java/util/ImmutableCollections$AbstractImmutableCollection" = true := by first | (simp [plainName, overriddenIn]; done) | decide +kernel
theorem own_pn_7 : plainName "java/util/ImmutableCollections$AbstractImmutableList" = true := by first | (simp [plainName, overriddenIn]; done) | decide +kernel
theorem own_pn_8 : plainName "java/util/ImmutableCollections$List12" = true := by first | (simp [plainName, overriddenIn]; done) | decide +kernel
theorem own_pn_9 : plainName "java/util/ImmutableCollections$ListN" = true := by first | (simp [plainName, overriddenIn]; done) | decide +kernel
theorem own_pn_10 : plainName "java/util/ImmutableCollections" = true := by first | (simp [plainName, overriddenIn]; done) | decide +kernel
theorem own_pn_11 : plainName "java/util/List" = true := by first | (simp [plainName, overriddenIn]; done) | decide +kernel
theorem own_pn_12 : plainName "java/lang/Record" = true := by first | (simp [plainName, overriddenIn]; done) | decide +kernel
theorem own_pn_13 : plainName "com/example/ibex/ibex/model/Dimension" = true := by first | (simp [plainName, overriddenIn]; done) | decide +kernel
theorem own_pn_14 : plainName "java/lang/String" = true := by first | (simp [plainName, overriddenIn]; done) | decide +kernel
theorem own_wS {Z : State} {a0 : Array Value} (hw : ∀ d ∈ tables_1, d.before a0 Z = true) : ∀ a ∈ Bundle.stringAtoms, a.before a0 Z = true := by
  intro d hd
  simp only [Bundle.stringAtoms, List.mem_cons, List.not_mem_nil, or_false] at hd
  rcases hd with rfl | rfl | rfl | rfl | rfl | rfl | rfl
  · exact (ow8 hw)
  · exact (ow7 hw)
  · exact (ow24 hw)
  · exact (ow34 hw)
  · exact (ow32 hw)
  · exact (ow103 hw)
  · exact (ow104 hw)
def own_C8 (c : Int32) : Prop := ¬ c < 0 ∧ ¬ (255 : Int32) < c
theorem own_c8m (x : Int32) : own_C8 (x &&& (255 : Int32)) := by
  have a1 := c_and x 255 (by decide)
  have a2 : (255 : Int32).toInt = 255 := by decide
  have a3 : (0 : Int32).toInt = 0 := by decide
  exact ⟨by rw [Int32.lt_iff_toInt_lt]; omega, by rw [Int32.lt_iff_toInt_lt]; omega⟩
theorem own_narM (x : Int32) : nar .char (x &&& (255 : Int32)) = (x &&& (255 : Int32)) := i2c_mask x
theorem own_nar8 {c : Int32} (h : own_C8 c) : nar .char c = c := by
  have a1 := c_i2c c
  have a2 : (255 : Int32).toInt = 255 := by decide
  have a3 : (0 : Int32).toInt = 0 := by decide
  have a4 := mt Int32.lt_iff_toInt_lt.mpr h.1
  have a5 := mt Int32.lt_iff_toInt_lt.mpr h.2
  exact Int32.toInt_inj.mp (by show c.toUInt32.toUInt16.toUInt32.toInt32.toInt = c.toInt; omega)
theorem own_shr0 (x : Int32) : x >>> ((0 : Int32) &&& 31) = x := by
  have a := c_ishr x 0 0 (by decide)
  exact Int32.toInt_inj.mp (by rw [a]; simp)
theorem own_shl0 (x : Int32) : x <<< ((0 : Int32) &&& 31) = x := by
  have a := c_ishl x 0 0 (by decide)
  have b := rng32 x
  have c := rng32 (x <<< ((0 : Int32) &&& 31))
  have e : ((2 ^ 0 : Nat) : Int) = 1 := rfl
  rw [e, Int.mul_one] at a
  exact Int32.toInt_inj.mp (by omega)
theorem own_narB (x : Int32) : nar .byte x.toInt8.toInt32 = x.toInt8.toInt32 := by
  have a1 := c_i2b x
  have a2 := c_i2b x.toInt8.toInt32
  exact Int32.toInt_inj.mp (by show x.toInt8.toInt32.toInt8.toInt32.toInt = x.toInt8.toInt32.toInt; omega)
theorem own_c8n {c : Int32} (h : own_C8 c) : own_C8 (nar .char c) := by rw [own_nar8 h]; exact h
theorem own_c8l (x : Int64) : own_C8 (((x &&& (255 : Int64)).toInt32).toUInt32.toUInt16.toUInt32.toInt32) := by
  have a1 := c_i2c ((x &&& (255 : Int64)).toInt32)
  have a2 : (255 : Int32).toInt = 255 := by decide
  have a3 : (0 : Int32).toInt = 0 := by decide
  have a4 := c_maskL x 255 8 (by decide) (by decide)
  have a5 := c_l2i (x &&& (255 : Int64))
  have a6 := rng32 ((x &&& (255 : Int64)).toInt32)
  exact ⟨by rw [Int32.lt_iff_toInt_lt]; omega, by rw [Int32.lt_iff_toInt_lt]; omega⟩
theorem own_b8 {c k : Int32} (h : own_C8 c) (k0 : 0 ≤ k.toInt) (k1 : k.toInt < 128) : c.toInt8.toInt32 = k ↔ c = k := by
  have a1 := c_i2b c
  have a2 : (255 : Int32).toInt = 255 := by decide
  have a3 : (0 : Int32).toInt = 0 := by decide
  have a4 := mt Int32.lt_iff_toInt_lt.mpr h.1
  have a5 := mt Int32.lt_iff_toInt_lt.mpr h.2
  constructor
  · intro q; have q' := congrArg Int32.toInt q; exact Int32.toInt_inj.mp (by omega)
  · intro q; have q' := congrArg Int32.toInt q; exact Int32.toInt_inj.mp (by omega)
theorem own_cN : ∀ c ∈ ([] : List Int32), own_C8 c := fun _ q => nomatch q
theorem own_cC {a : Int32} {l : List Int32} (h : own_C8 a) (t : ∀ c ∈ l, own_C8 c) : ∀ c ∈ a :: l, own_C8 c := fun c q => (List.mem_cons.mp q).elim (fun e => e ▸ h) (t c)
theorem own_sw1 {Z : State} {a0 : Array Value} (hw : ∀ d ∈ tables_1, d.before a0 Z = true) : ∀ d ∈ StrChars.Road.words, d.before a0 Z = true := fun d hd => hw d ((by decide +kernel : ∀ d ∈ StrChars.Road.words, d ∈ tables_1) d hd)
theorem own_lenOf {args : Array Value} {s : State} {t : Term} {a : Addr} {c : Cell} {k : Int32} (et : t.eval args s none [] s = some (.ref a)) (A : s.arrayAt? a = some c) (h : (Jvm.Cond.eq (Term.length t) (Term.int k)).value args s none s [] = some true) : c.slots.size < 2 ^ 31 ∧ c.slots.size.toInt32 = k := by
  by_cases q : c.slots.size < 2 ^ 31
  · refine ⟨q, ?_⟩
    have e := len_f (o := none) (first := s) (idx := []) et A q
    exact gotT (Cond.eq_ints e (Term.int_eval k)) h
  · exfalso
    simp [Cond.value, Term.eval, et, A, q] at h
theorem own_subIdx {args : Array Value} {s : State} {j : Int32} (hj : ¬ j < 0) : (Term.sub (.index 0) (.int 128)).eval args s none [j.toNatClampNeg] s = some (.int (j - 128)) := by
  simp [Term.eval, (back32 hj).1]
def own_Mir (Z : State) (C : String) (m : Addr) : Prop := ∃ (c : ClassId) (k : Class), Z.vm.findClass C = some c ∧ Z.vm.classes[c]? = some k ∧ k.mirror = some m
theorem own_gcls {p : Program} {l : Launch} {e : Env} {R : Room} {s : State} {m : MethodId} {args : Array Value} {below : List Frame} {meth : Method} {c : Code} {T : State} {locs : List Loc} {cells slots : Nat} {Z : State} {h : Heap} {a : Addr} (X : Stand p l e R s m args below meth c T locs cells slots) (hx : p.tables.exec = Jvm.exec) (hZ : Z.Warmed39 s.vm) {a0 : Array Value} {own C : String} {index : Nat} (hown : s.vm.findClass own = some m.cls)
    (w1 : (Jvm.Cond.methodLink own index ⟨"java/lang/Object", "getClass", "()Ljava/lang/Class;"⟩).before a0 Z = true) (w2 : (Jvm.Cond.declares ⟨"java/lang/Object", "getClass", "()Ljava/lang/Class;"⟩).before a0 Z = true) (w3 : (Jvm.Cond.noSuperclass "java/lang/Object").before a0 Z = true) (w4 : (Jvm.Cond.selects C ⟨"java/lang/Object", "getClass", "()Ljava/lang/Class;"⟩ ⟨"java/lang/Object", "getClass", "()Ljava/lang/Class;"⟩).before a0 Z = true)
    (w5 : (Jvm.Cond.instanceMethod ⟨"java/lang/Object", "getClass", "()Ljava/lang/Class;"⟩).before a0 Z = true) (w6 : (Jvm.Cond.native ⟨"java/lang/Object", "getClass", "()Ljava/lang/Class;"⟩).before a0 Z = true) (eT : T.heap = h) (E : Exa Z h a C) {mr : Addr} (M : own_Mir Z C mr)
    {g : JFrame} (hg : g.method = m) (hsize : g.locals.size = c.maxLocals) {rest : List Value} (hs : g.stack = .ref a :: rest) (hd : decode c.code g.pc = .ok (.invokevirtual index, 3)) (hf : 1 ≤ R.frames) {W : Nat} (hW : 2 * g.monitorRoom + (rest.map fun v => v.category).sum ≤ W) (hl : W + (nativeFrameWords "java/lang/Object" "getClass" 1 + 11) ≤ R.locals) :
    ∃ T', Stand p l e R s m args below meth c T' locs cells slots ∧ T'.heap = h ∧ ∀ target, Steps p.tables e below (T'.setTop { g with pc := g.pc + 3, stack := .ref mr :: rest }) target → Steps p.tables e below (T.setTop g) target := by
  obtain ⟨cq, kq, f1, f2, f3⟩ := M
  obtain ⟨k', q, ek⟩ := hZ.alike.2.2 _ _ f2
  obtain ⟨cB, kB, i1, i2, i3⟩ := isOf hZ eT E
  have hfc : s.vm.findClass C = some cq := by rw [hZ.alike.findClass]; exact f1
  cases i1.symm.trans hfc
  obtain ⟨vm', X', st⟩ := X.getClassOf hx hown (mvT hZ w1) (mvT hZ w2) (nf_top (args := #[]) (mvT hZ w3)) (mvT hZ w4) (mvT hZ w5) (mvT hZ w6) hfc i3 q (by rw [ek]; exact f3) hg hsize hs hd hf (Nat.le_trans (Nat.add_le_add_right hW _) hl)
  exact ⟨_, X', eT, st⟩
theorem own_ldcM {p : Program} {l : Launch} {e : Env} {R : Room} {s : State} {m : MethodId} {args : Array Value} {below : List Frame} {meth : Method} {c : Code} {T : State} {locs : List Loc} {cells slots : Nat} {Z : State} {h : Heap} (X : Stand p l e R s m args below meth c T locs cells slots) (hx : p.tables.exec = Jvm.exec) (hZ : Z.Warmed39 s.vm) {a0 : Array Value} {own C : String} {index : Nat} (hown : s.vm.findClass own = some m.cls)
    (w : (Jvm.Cond.classLink own index C).before a0 Z = true) (eT : T.heap = h) {mr : Addr} (M : own_Mir Z C mr) {g : JFrame} (hg : g.method = m) (hd : decode c.code g.pc = .ok (.ldc index, 2)) :
    ∃ T', Stand p l e R s m args below meth c T' locs cells slots ∧ T'.heap = h ∧ ∀ target, Steps p.tables e below (T'.setTop { g with pc := g.pc + 2, stack := .ref mr :: g.stack }) target → Steps p.tables e below (T.setTop g) target := by
  obtain ⟨cq, kq, f1, f2, f3⟩ := M
  obtain ⟨k', q, ek⟩ := hZ.alike.2.2 _ _ f2
  have hfc : s.vm.findClass C = some cq := by rw [hZ.alike.findClass]; exact f1
  have hm : k'.mirror = some mr := by rw [ek]; exact f3
  clear ek
  have hev : (Term.mirror C).eval args s none [] s = some (.ref mr) := by simp [Term.eval, hfc, q, hm]
  obtain ⟨vm', X', st⟩ := X.ldcMirror hx hown (mv hZ w) hev hg hd
  exact ⟨_, X', eT, st⟩
theorem own_rootI {Z : State} {a0 : Array Value} {O K : String} {n : Nat} (w : (Jvm.Cond.noSuperclass O).before a0 Z = true) (wk : (Jvm.Cond.instantiable K n).before a0 Z = true) (hn : O ≠ K) : NS Z O K := by
  obtain ⟨c, k, h1, h2, h3, -, -⟩ := Cond.noSuperclass_spec w
  obtain ⟨t, kt, g1, -⟩ := Cond.instantiable_spec wk
  have ne := ids_ne h1 g1 hn
  refine ⟨c, t, h1, g1, fun fuel => ?_⟩
  cases fuel with
  | zero => rfl
  | succ f => simp [Vm.isSubclassAux, ne, h2, h3]
theorem own_noI {Z : State} {a0 : Array Value} {C S K : String} {m : Nat} (w : (Jvm.Cond.superclass C S).before a0 Z = true) (wk : (Jvm.Cond.instantiable K m).before a0 Z = true) (n : NS Z C K) (hn : C ≠ K) : ∃ c t, Z.vm.findClass C = some c ∧ Z.vm.findClass K = some t ∧ Z.vm.assignable c t = false := by
  obtain ⟨c, t, h0, g0, n3⟩ := n
  obtain ⟨p, k, kp, h1, h2, h3, h4, h5, -, h7⟩ := Cond.superclass_spec h0 w
  obtain ⟨t', k', g1, g2, g5, g7, -⟩ := Cond.instantiable_spec wk
  cases g0.symm.trans g1
  have ne := ids_ne h0 g0 hn
  have g8 : k'.isInterface = false := by
    cases q : k'.isInterface with
    | false => rfl
    | true => rw [q] at g7; simp at g7
  refine ⟨c, t, h0, g0, ?_⟩
  show Z.vm.assignableAux (255 + 1) c t = false
  simp [Vm.assignableAux, ne, h2, g2, h5, g5, g8, Vm.isSubclass, n3]
section OwnN
variable {p : Program} {l : Launch} {e : Env} {R : Room} {s : State} {m : MethodId} {args : Array Value} {below : List Frame} {meth : Method} {c : Code} {T : State} {locs : List Loc} {cells slots kc ks : Nat} {Z : State} {a0 : Array Value} {h : Heap} {Q : Option Value → Heap → List Loc → Prop}
theorem own_callIN {y : MethodName} {bytes : ByteArray} {maxL : Nat} {rm : Room} {as' : Array Value} {own host : String} {index : Nat} (X : Stand p l e R s m args below meth c T locs cells slots) (hx : p.tables.exec = Jvm.exec) (hZ : Z.Warmed39 s.vm) (hown : s.vm.findClass own = some m.cls)
    (w1 : (Jvm.Cond.methodLinkNest own index y host).before a0 Z = true) (w2 : (Jvm.Cond.instanceMethod y).before a0 Z = true) (w3 : (Jvm.Cond.initialized y.cls).before a0 Z = true) (w4 : (Jvm.Cond.code y bytes maxL none).before a0 Z = true) (hM : own_Met l Z h y bytes maxL none rm as' Q) (W : Nat) (nc ns : Nat) (hy1 : y.name = "<init>")
    (hc : cells + nc ≤ R.cells) (hs : slots + ns ≤ R.slots) (eT : T.heap = h) {g : JFrame} (hg : g.method = m) (hsize : g.locals.size = c.maxLocals)
    (a : Addr) (argsL rest : List Value) (hlen : ∀ sig, parseMethodDescriptor y.desc = some sig → argsL.length = sig.parameters.length) (hstack : g.stack = argsL.reverse ++ .ref a :: rest) (has : (Value.ref a :: argsL).toArray = as') (hdg : decode c.code g.pc = .ok (.invokespecial index, 3))
    (hy : y.cls ≠ "java/lang/invoke/MethodHandle" ∧ y.cls ≠ "java/lang/invoke/VarHandle" := by decide) (hf : rm.frames + 1 ≤ R.frames := by decide) (hl : W + (maxL + 11) + rm.locals ≤ R.locals := by decide) (hW : 2 * g.monitorRoom + (rest.map fun v => v.category).sum ≤ W := by exact Nat.le_of_eq rfl) (hnc : rm.cells = nc := by rfl) (hns : rm.slots = ns := by rfl) :
    ∃ v T' L, Stand p l e R s m args below meth c T' (locs ++ L) (cells + nc) (slots + ns) ∧ Q v T'.heap L ∧ ∀ target, Steps p.tables e below (T'.setTop { g with pc := g.pc + 3, stack := v.toList ++ rest }) target → Steps p.tables e below (T.setTop g) target := by
  subst hnc hns
  obtain ⟨v, _, ⟨T', L', k', n'⟩, -, X', ⟨L, hQ, h1, h2, h3⟩, st⟩ := X.specialBackNest hx hy1 hown (Cond.methodLinkNest_wide hZ w1 :) (mvT hZ w2) (mvT hZ w4) hy (backOf (W := W) hM hZ w4 w3 hf hl) hg hsize (Steps.refl _) (a := a) (argsL := argsL) (rest := rest) hlen hstack hW hdg (fun _ _ => ⟨has, eT, hc, hs⟩)
  dsimp only [Pt.U, Pt.locs, Pt.cells, Pt.slots] at X' hQ h1 h2 h3 st
  subst h1 h2 h3
  exact ⟨v, T', L, X', hQ, fun _ k => st.trans k⟩
theorem own_niOf {C : String} {y z : MethodName} (w : (Jvm.Cond.selects C y z).before a0 Z = true) : ∃ c k, Z.vm.findClass z.cls = some c ∧ Z.vm.classes[c]? = some k ∧ k.isInterface = false := by
  obtain ⟨c2, r2, m2, -, -, q3, -, kP, hkP, hkPi⟩ := Cond.selects_spec w
  exact ⟨m2.cls, kP, findClass_of_methodNamed q3, hkP, hkPi⟩
theorem own_nfOf {U : State} {ar : Array Value} {C : String} {y y' z : MethodName} (w : (Jvm.Cond.selects C y' z).before ar U = true) (hz : z.cls = y.cls) : NotFace U y := fun r0 h0 => by
  obtain ⟨c2, r2, m2, -, -, q3, -, kP, hkP, hkPi⟩ := Cond.selects_spec w
  have e1 := findClass_of_methodNamed q3
  rw [hz] at e1
  have e2 : m2.cls = r0.cls := Option.some.inj (e1.symm.trans (findClass_of_methodNamed h0))
  exact ⟨kP, e2 ▸ hkP, hkPi⟩
theorem own_selSelf {C : String} {y : MethodName} (w : (Jvm.Cond.selects C y y).before a0 Z = true) (wp : (Jvm.Cond.privateMethod y).before a0 Z = true) (wi : (Jvm.Cond.instanceMethod y).before a0 Z = true) (hy : y.cls ≠ "java/lang/invoke/MethodHandle" ∧ y.cls ≠ "java/lang/invoke/VarHandle") : (Jvm.Cond.selects y.cls y y).before a0 Z = true := by
  obtain ⟨c, k, h1, h2, h3⟩ := own_niOf w
  exact selects_self_of_private h1 h2 h3 (Cond.privateMethod_at wp) wi hy
theorem own_same {C : String} {y y' z : MethodName} (w : (Jvm.Cond.selects C y' z).before a0 Z = true) (hz : z.cls = y.cls) (wi : (Jvm.Cond.instanceMethod y).before a0 Z = true) (hy : y.cls ≠ "java/lang/invoke/MethodHandle" ∧ y.cls ≠ "java/lang/invoke/VarHandle") : (Jvm.Cond.sameMethod y.cls y.cls y.name y.desc).before a0 Z = true := by
  obtain ⟨c, k, h1, h2, h3⟩ := own_niOf w
  rw [hz] at h1
  obtain ⟨mk, methM, hnamed, hmethM, -, -⟩ := Cond.instanceMethod_spec wi
  have hfound : Z.methodFound? y.cls y.name y.desc = some mk := State.methodFound?_of_named hnamed hy
  have hn' : Z.methodNamed? ⟨y.cls, y.name, y.desc⟩ = some mk := hnamed
  simp [Cond.before, Cond.holds, Cond.value, h1, h2, h3, hfound, hn']
theorem own_callK {y : MethodName} {bytes : ByteArray} {maxL : Nat} {ret : Option FieldType} {rm : Room} {as' : Array Value} {own : String} {index : Nat} (X : Stand p l e R s m args below meth c T locs cells slots) (hx : p.tables.exec = Jvm.exec) (hZ : Z.Warmed39 s.vm) (hown : s.vm.findClass own = some m.cls)
    (w1 : (Jvm.Cond.methodLink own index y).before a0 Z = true) (ws : (Jvm.Cond.sameMethod y.cls y.cls y.name y.desc).before a0 Z = true) (w2 : (Jvm.Cond.instanceMethod y).before a0 Z = true) (wu : (Jvm.Cond.superclass own y.cls).before a0 Z = true) (w3 : (Jvm.Cond.initialized y.cls).before a0 Z = true) (w4 : (Jvm.Cond.code y bytes maxL ret).before a0 Z = true) (hM : own_Met l Z h y bytes maxL ret rm as' Q) (W : Nat) (nc ns : Nat) (hy1 : y.name ≠ "<init>")
    (hc : cells + nc ≤ R.cells) (hs : slots + ns ≤ R.slots) (eT : T.heap = h) {g : JFrame} (hg : g.method = m) (hsize : g.locals.size = c.maxLocals)
    {C : String} (a : Addr) (E : Exa Z h a C) (argsL rest : List Value) (hlen : ∀ sig, parseMethodDescriptor y.desc = some sig → argsL.length = sig.parameters.length) (hstack : g.stack = argsL.reverse ++ .ref a :: rest) (has : (Value.ref a :: argsL).toArray = as') (hdg : decode c.code g.pc = .ok (.invokespecial index, 3))
    (hy : y.cls ≠ "java/lang/invoke/MethodHandle" ∧ y.cls ≠ "java/lang/invoke/VarHandle" := by decide) (hf : rm.frames + 1 ≤ R.frames := by decide) (hl : W + (maxL + 11) + rm.locals ≤ R.locals := by decide) (hW : 2 * g.monitorRoom + (rest.map fun v => v.category).sum ≤ W := by exact Nat.le_of_eq rfl) (hnc : rm.cells = nc := by rfl) (hns : rm.slots = ns := by rfl) :
    ∃ v T' L, Stand p l e R s m args below meth c T' (locs ++ L) (cells + nc) (slots + ns) ∧ Q v T'.heap L ∧ ∀ target, Steps p.tables e below (T'.setTop { g with pc := g.pc + 3, stack := v.toList ++ rest }) target → Steps p.tables e below (T.setTop g) target := by
  subst hnc hns
  obtain ⟨v, _, ⟨T', L', k', n'⟩, -, X', ⟨L, hQ, h1, h2, h3⟩, st⟩ := superBack X hx hZ hown w1 ws w2 wu hy1 (backOf (W := W) hM hZ w4 w3 hf hl) eT (Ins.self E) hg hsize w4 (argsL := argsL) (rest := rest) hlen hstack hW hdg (fun _ _ => ⟨has, eT, hc, hs⟩)
  dsimp only [Pt.U, Pt.locs, Pt.cells, Pt.slots] at X' hQ h1 h2 h3 st
  subst h1 h2 h3
  exact ⟨v, T', L, X', hQ, fun _ k => st.trans k⟩
end OwnN
theorem own_ltT {j k x : Int32} (h : x < j) (hjk : j.toInt < k.toInt) : x < k := by
  have a2 := Int32.lt_iff_toInt_lt.mp h
  rw [Int32.lt_iff_toInt_lt]
  omega
def own_Olds (Z : State) (zc : Int32) (wd : Addr) (kd : ClassId) (wl : Addr) (we : Addr) (ke : ClassId) (weo : Addr) (wmo : Addr) : Prop := Sta Z Z.heap "java/lang/String" "COMPACT_STRINGS" "Z" (.int zc) ∧ ¬ zc = (0 : Int32) ∧ Sta Z Z.heap "java/util/ArrayList" "DEFAULTCAPACITY_EMPTY_ELEMENTDATA" "[Ljava/lang/Object;" (.ref wd) ∧ Arv Z Z.heap wd kd (.object "java/lang/Object") (0 : Int32) [] .null ∧ Sta Z Z.heap "java/util/ImmutableCollections" "EMPTY_LIST" "Ljava/util/ImmutableCollections$ListN;" (.ref wl) ∧ Exa Z Z.heap wl "java/util/ImmutableCollections$ListN" ∧ Fld Z Z.heap wl "java/util/ImmutableCollections$ListN" "elements" "[Ljava/lang/Object;" (.ref we) ∧ Arv Z Z.heap we ke (.object "java/lang/Object") (0 : Int32) [] .null ∧ Sta Z Z.heap "java/util/ImmutableCollections" "EMPTY" "Ljava/lang/Object;" (.ref weo) ∧ own_Mir Z "[Ljava/lang/Object;" wmo
theorem d10_0 : decode jdk_22_method_1_code 0 = .ok (.aload_n 0, 1) := by decide +kernel
theorem d10_1 : decode jdk_22_method_1_code 1 = .ok (.invokespecial 1, 3) := by decide +kernel
theorem d10_4 : decode jdk_22_method_1_code 4 = .ok (.return_, 1) := by decide +kernel
def Q_alcinit (Z : State) (zc : Int32) (wd : Addr) (kd : ClassId) (wl : Addr) (we : Addr) (ke : ClassId) (weo : Addr) (wmo : Addr) (a1 : Addr) (h0 : Heap) (v : Option Value) (h : Heap) (L : List Loc) : Prop := (v = none ∧ Fr Z.heap.size L ∧ h = h0)
theorem ef_alcinit (m : MethodId) (x0 : Addr) : entryFrame m #[(.ref x0)] 1 = mkF m 0 #[rv x0] [] := by first | (simp [entryFrame, mkF, argsToLocals, Value.category]; done) | rfl
set_option maxRecDepth 65536 in
set_option maxHeartbeats 40000000 in
theorem rm_alcinit (l : Launch) (Z : State) (a0 : Array Value) (hw : own_W Z a0) {zc : Int32} {wd : Addr} {kd : ClassId} {wl : Addr} {we : Addr} {ke : ClassId} {weo : Addr} {wmo : Addr} (hO : own_Olds Z zc wd kd wl we ke weo wmo) (ws : List Jvm.Cond) (a1 : Addr) (h0 : Heap) (O0 : Ext Z.heap h0) :
    own_MF l Z h0 own_y0 jdk_22_method_1_code 1 none ({ frames := 1, cells := 0, slots := 0, locals := 12 } : Room) #[(.ref a1)] (Q_alcinit Z zc wd kd wl we ke weo wmo a1 h0) ws := by
  refine own_met (Q := (Q_alcinit Z zc wd kd wl we ke weo wmo a1 h0)) _ _ (plainFor_of_name own_pn_0) ?_
  intro p e s m below meth c T X0 hx hby hml hret hlk hZ hown hnm e0
  replace hown : s.vm.findClass "java/util/AbstractCollection" = some m.cls := hown
  replace hnm : meth.name = "<init>" := hnm
  have hml : c.maxLocals = 1 := hml
  obtain ⟨oCS, oCz, oDE, oDV, oEL, oLE, oLF, oLV, oEM, oMir⟩ := id hO
  have N0 := Fr.nil Z.heap.size
  have K0 := Keep.refl h0 []
  refine own_go (fun _ k => castTop (ef_alcinit m a1) k) ?_
  show own_Go p e below s _ _ _ (T.setTop (mkF m 0 #[rv a1] []))
  refine own_go (fun _ k => XS.aloadN X0.here hx rfl (hb hby d10_0) rfl rfl k) ?_
  obtain ⟨T1, X1, e1, st1⟩ := initO X0 hx hZ hown (ow53 hw) (ow17 hw) (ow18 hw) e0 (g := (mkF m 1 #[rv a1] [(.ref a1)])) rfl (by rw [hml]; rfl) rfl (hb hby d10_1) (by decide) (W := 0) (by show 2 * 0 + _ ≤ _; exact Nat.le_of_eq rfl) (by decide)
  refine own_go st1 ?_
  clear st1 X0 e0
  show own_Go p e below s _ _ _ (T1.setTop (mkF m 4 #[rv a1] []))
  refine own_retV X1 hx hlk e1 hret (hb hby d10_4) (by show _ ≤ 0; omega) (by show _ ≤ 0; omega) ?_
  exact ⟨rfl, N0, rfl⟩
theorem d9_0 : decode jdk_39_method_1_code 0 = .ok (.aload_n 0, 1) := by decide +kernel
theorem d9_1 : decode jdk_39_method_1_code 1 = .ok (.invokespecial 1, 3) := by decide +kernel
theorem d9_4 : decode jdk_39_method_1_code 4 = .ok (.aload_n 0, 1) := by decide +kernel
theorem d9_5 : decode jdk_39_method_1_code 5 = .ok (.iconst 0, 1) := by decide +kernel
theorem d9_6 : decode jdk_39_method_1_code 6 = .ok (.putfield 7, 3) := by decide +kernel
theorem d9_9 : decode jdk_39_method_1_code 9 = .ok (.return_, 1) := by decide +kernel
def Q_aliinit (Z : State) (zc : Int32) (wd : Addr) (kd : ClassId) (wl : Addr) (we : Addr) (ke : ClassId) (weo : Addr) (wmo : Addr) (a1 : Addr) (h0 : Heap) (v : Option Value) (h : Heap) (L : List Loc) : Prop := (v = none ∧ Fr Z.heap.size L ∧ Keep h0 h [a1] ∧ Exa Z h a1 "java/util/ArrayList" ∧ Fld Z h a1 "java/util/ArrayList" "size" "I" (.int (0 : Int32)) ∧ Fld Z h a1 "java/util/ArrayList" "elementData" "[Ljava/lang/Object;" .null ∧ Fld Z h a1 "java/util/AbstractList" "modCount" "I" (.int (0 : Int32)))
theorem ef_aliinit (m : MethodId) (x0 : Addr) : entryFrame m #[(.ref x0)] 1 = mkF m 0 #[rv x0] [] := by first | (simp [entryFrame, mkF, argsToLocals, Value.category]; done) | rfl
set_option maxRecDepth 65536 in
set_option maxHeartbeats 40000000 in
theorem rm_aliinit (l : Launch) (Z : State) (a0 : Array Value) (hw : own_W Z a0) {zc : Int32} {wd : Addr} {kd : ClassId} {wl : Addr} {we : Addr} {ke : ClassId} {weo : Addr} {wmo : Addr} (hO : own_Olds Z zc wd kd wl we ke weo wmo) (ws : List Jvm.Cond) (a1 : Addr) (h0 : Heap) (O0 : Ext Z.heap h0) (fp0 : Exa Z h0 a1 "java/util/ArrayList") (fp1 : Fld Z h0 a1 "java/util/ArrayList" "size" "I" (.int (0 : Int32))) (fp2 : Fld Z h0 a1 "java/util/ArrayList" "elementData" "[Ljava/lang/Object;" .null) (fp3 : Fld Z h0 a1 "java/util/AbstractList" "modCount" "I" (.int (0 : Int32))) (big_a1 : Z.heap.size ≤ a1) :
    own_MF l Z h0 own_y1 jdk_39_method_1_code 1 none ({ frames := 2, cells := 0, slots := 0, locals := 24 } : Room) #[(.ref a1)] (Q_aliinit Z zc wd kd wl we ke weo wmo a1 h0) ws := by
  refine own_met (Q := (Q_aliinit Z zc wd kd wl we ke weo wmo a1 h0)) _ _ (plainFor_of_name own_pn_1) ?_
  intro p e s m below meth c T X0 hx hby hml hret hlk hZ hown hnm e0
  replace hown : s.vm.findClass "java/util/AbstractList" = some m.cls := hown
  replace hnm : meth.name = "<init>" := hnm
  have hml : c.maxLocals = 1 := hml
  obtain ⟨oCS, oCz, oDE, oDV, oEL, oLE, oLF, oLV, oEM, oMir⟩ := id hO
  have N0 := Fr.nil Z.heap.size
  have K0 := Keep.refl h0 [a1]
  refine own_go (fun _ k => castTop (ef_aliinit m a1) k) ?_
  show own_Go p e below s _ _ _ (T.setTop (mkF m 0 #[rv a1] []))
  refine own_go (fun _ k => XS.aloadN X0.here hx rfl (hb hby d9_0) rfl rfl k) ?_
  obtain ⟨v1, T1, L1, X1, hQ1, st1⟩ := own_callI (y := own_y0) X0 hx hZ hown (ow47 hw) (ow48 hw) (ow51 hw) (ow52 hw) (rm_alcinit l Z a0 hw hO [] a1 h0 O0) 0 0 0 rfl (by show _ ≤ 0; omega) (by show _ ≤ 0; omega) e0 (g := (mkF m 1 #[rv a1] [(.ref a1)])) rfl (by rw [hml]; rfl) a1 [] [] (lenOf own_pd_0 rfl) rfl rfl (hb hby d9_1)
  obtain ⟨rfl, Nc3, Kc2⟩ := hQ1
  refine own_go st1 ?_
  clear st1 X0 e0
  replace N0 := Fr.app N0 Nc3
  clear Nc3
  refine own_go (fun _ k => XS.aloadN X1.here hx rfl (hb hby d9_4) rfl rfl (XS.iconst X1.here hx rfl (hb hby d9_5) k)) ?_
  obtain ⟨T4, h4, X4, e4, W4, st4⟩ := putF X1 hx hZ hown (host := "") (Or.inl (ow54 hw)) Via.refl Kc2 fp3 fp0 (Or.inl (ow55 hw)) (ow36 hw) (ty := .int) own_fd0 rfl rfl (g := (mkF m 6 #[rv a1] [(.int (0 : Int32)), (.ref a1)])) rfl rfl (hb hby d9_6)
  refine own_go st4 ?_
  clear st4 X1 Kc2
  replace N0 := Fr.snoc X4 N0 big_a1
  replace fp0 := fp0.wr W4
  replace fp1 := fp1.other W4 (.inr (own_sn0 hw))
  replace fp2 := fp2.other W4 (.inr (own_sn1 hw))
  replace fp3 := fp3.same W4
  replace O0 := own_oldWr O0 W4 big_a1
  replace K0 := K0.wr W4 (Or.inl (List.mem_of_getElem? (i := 0) rfl))
  clear W4
  show own_Go p e below s _ _ _ (T4.setTop (mkF m 9 #[rv a1] []))
  refine own_retV X4 hx hlk e4 hret (hb hby d9_9) (by show _ ≤ 0; omega) (by show _ ≤ 0; omega) ?_
  exact ⟨rfl, N0, K0, fp0, fp1, fp2, fp3⟩
theorem d8_0 : decode jdk_38_method_2_code 0 = .ok (.aload_n 0, 1) := by decide +kernel
theorem d8_1 : decode jdk_38_method_2_code 1 = .ok (.invokespecial 1, 3) := by decide +kernel
theorem d8_4 : decode jdk_38_method_2_code 4 = .ok (.aload_n 0, 1) := by decide +kernel
theorem d8_5 : decode jdk_38_method_2_code 5 = .ok (.getstatic 39, 3) := by decide +kernel
theorem d8_8 : decode jdk_38_method_2_code 8 = .ok (.putfield 9, 3) := by decide +kernel
theorem d8_11 : decode jdk_38_method_2_code 11 = .ok (.return_, 1) := by decide +kernel
def Q_alinit (Z : State) (zc : Int32) (wd : Addr) (kd : ClassId) (wl : Addr) (we : Addr) (ke : ClassId) (weo : Addr) (wmo : Addr) (a1 : Addr) (h0 : Heap) (v : Option Value) (h : Heap) (L : List Loc) : Prop := (v = none ∧ Fr Z.heap.size L ∧ Keep h0 h [a1] ∧ Exa Z h a1 "java/util/ArrayList" ∧ Fld Z h a1 "java/util/ArrayList" "size" "I" (.int (0 : Int32)) ∧ Fld Z h a1 "java/util/ArrayList" "elementData" "[Ljava/lang/Object;" (.ref wd) ∧ Fld Z h a1 "java/util/AbstractList" "modCount" "I" (.int (0 : Int32)))
theorem ef_alinit (m : MethodId) (x0 : Addr) : entryFrame m #[(.ref x0)] 1 = mkF m 0 #[rv x0] [] := by first | (simp [entryFrame, mkF, argsToLocals, Value.category]; done) | rfl
set_option maxRecDepth 65536 in
set_option maxHeartbeats 40000000 in
theorem rm_alinit (l : Launch) (Z : State) (a0 : Array Value) (hw : own_W Z a0) {zc : Int32} {wd : Addr} {kd : ClassId} {wl : Addr} {we : Addr} {ke : ClassId} {weo : Addr} {wmo : Addr} (hO : own_Olds Z zc wd kd wl we ke weo wmo) (ws : List Jvm.Cond) (a1 : Addr) (h0 : Heap) (O0 : Ext Z.heap h0) (fp0 : Exa Z h0 a1 "java/util/ArrayList") (fp1 : Fld Z h0 a1 "java/util/ArrayList" "size" "I" (.int (0 : Int32))) (fp2 : Fld Z h0 a1 "java/util/ArrayList" "elementData" "[Ljava/lang/Object;" .null) (fp3 : Fld Z h0 a1 "java/util/AbstractList" "modCount" "I" (.int (0 : Int32))) (big_a1 : Z.heap.size ≤ a1) :
    own_MF l Z h0 own_y2 jdk_38_method_2_code 1 none ({ frames := 3, cells := 0, slots := 0, locals := 36 } : Room) #[(.ref a1)] (Q_alinit Z zc wd kd wl we ke weo wmo a1 h0) ws := by
  refine own_met (Q := (Q_alinit Z zc wd kd wl we ke weo wmo a1 h0)) _ _ (plainFor_of_name own_pn_2) ?_
  intro p e s m below meth c T X0 hx hby hml hret hlk hZ hown hnm e0
  replace hown : s.vm.findClass "java/util/ArrayList" = some m.cls := hown
  replace hnm : meth.name = "<init>" := hnm
  have hml : c.maxLocals = 1 := hml
  obtain ⟨oCS, oCz, oDE, oDV, oEL, oLE, oLF, oLV, oEM, oMir⟩ := id hO
  have N0 := Fr.nil Z.heap.size
  have K0 := Keep.refl h0 [a1]
  refine own_go (fun _ k => castTop (ef_alinit m a1) k) ?_
  show own_Go p e below s _ _ _ (T.setTop (mkF m 0 #[rv a1] []))
  refine own_go (fun _ k => XS.aloadN X0.here hx rfl (hb hby d8_0) rfl rfl k) ?_
  obtain ⟨v1, T1, L1, X1, hQ1, st1⟩ := own_callI (y := own_y1) X0 hx hZ hown (ow41 hw) (ow42 hw) (ow45 hw) (ow46 hw) (rm_aliinit l Z a0 hw hO [] a1 h0 O0 fp0 fp1 fp2 fp3 big_a1) 0 0 0 rfl (by show _ ≤ 0; omega) (by show _ ≤ 0; omega) e0 (g := (mkF m 1 #[rv a1] [(.ref a1)])) rfl (by rw [hml]; rfl) a1 [] [] (lenOf own_pd_0 rfl) rfl rfl (hb hby d8_1)
  obtain ⟨rfl, Nc7, Kc6, f2, f3, f4, f5⟩ := hQ1
  refine own_go st1 ?_
  clear st1 X0 e0
  replace N0 := Fr.app N0 Nc7
  clear Nc7
  replace fp0 := fp0.keep Kc6
  clear fp1
  clear fp2
  clear fp3
  replace O0 := own_oldKeep O0 Kc6 (allS big_a1 all0)
  replace K0 := K0.trans Kc6 (allS (Or.inl (List.mem_of_getElem? (i := 0) rfl)) all0)
  clear Kc6
  refine own_go (fun _ k => XS.aloadN X1.here hx rfl (hb hby d8_4) rfl rfl k) ?_
  obtain ⟨T8, X8, e8, st8⟩ := getS2 X1 hx hZ hown (host := "") (Or.inl (ow56 hw)) Via.refl (rfl : T1.heap = T1.heap) (oDE.ext O0) (g := (mkF m 5 #[rv a1] [(.ref a1)])) rfl (hb hby d8_5)
  refine own_go st8 ?_
  clear st8 X1
  obtain ⟨T9, h9, X9, e9, W9, st9⟩ := putF X8 hx hZ hown (host := "") (Or.inl (ow57 hw)) Via.refl e8 f4 f2 (Or.inl (ow58 hw)) (ow36 hw) (ty := (.array (.object "java/lang/Object"))) own_fd1 rfl rfl (g := (mkF m 8 #[rv a1] [(.ref wd), (.ref a1)])) rfl rfl (hb hby d8_8)
  refine own_go st9 ?_
  clear st9 X8 e8
  replace N0 := Fr.snoc X9 N0 big_a1
  replace f2 := f2.wr W9
  replace f3 := f3.other W9 (.inr (own_sn2 hw))
  replace f4 := f4.same W9
  replace f5 := f5.other W9 (.inr (own_sn1 hw).symm)
  replace O0 := own_oldWr O0 W9 big_a1
  replace K0 := K0.wr W9 (Or.inl (List.mem_of_getElem? (i := 0) rfl))
  clear W9
  show own_Go p e below s _ _ _ (T9.setTop (mkF m 11 #[rv a1] []))
  refine own_retV X9 hx hlk e9 hret (hb hby d8_11) (by show _ ≤ 0; omega) (by show _ ≤ 0; omega) ?_
  exact ⟨rfl, N0, K0, f2, f3, f4, f5⟩
theorem d15_0 : decode jdk_29_method_65_code 0 = .ok (.iload_n 0, 1) := by decide +kernel
theorem d15_1 : decode jdk_29_method_65_code 1 = .ok (.iload_n 1, 1) := by decide +kernel
theorem d15_2 : decode jdk_29_method_65_code 2 = .ok (.if_icmp .lt 7, 3) := by decide +kernel
theorem d15_5 : decode jdk_29_method_65_code 5 = .ok (.iload_n 0, 1) := by decide +kernel
theorem d15_6 : decode jdk_29_method_65_code 6 = .ok (.goto 4, 3) := by decide +kernel
theorem d15_9 : decode jdk_29_method_65_code 9 = .ok (.iload_n 1, 1) := by decide +kernel
theorem d15_10 : decode jdk_29_method_65_code 10 = .ok (.ireturn, 1) := by decide +kernel
def Q_maxi (Z : State) (zc : Int32) (wd : Addr) (kd : ClassId) (wl : Addr) (we : Addr) (ke : ClassId) (weo : Addr) (wmo : Addr) (p1 : Int32) (p2 : Int32) (h0 : Heap) (v : Option Value) (h : Heap) (L : List Loc) : Prop := (v = some (.int p2) ∧ Fr Z.heap.size L ∧ p1 < p2 ∧ h = h0) ∨ (v = some (.int p1) ∧ Fr Z.heap.size L ∧ ¬ (p1 < p2) ∧ h = h0)
theorem ef_maxi (m : MethodId) (x0 : Int32) (x1 : Int32) : entryFrame m #[(.int x0), (.int x1)] 2 = mkF m 0 #[iv x0, iv x1] [] := by first | (simp [entryFrame, mkF, argsToLocals, Value.category]; done) | rfl
set_option maxRecDepth 65536 in
set_option maxHeartbeats 40000000 in
theorem rm_maxi (l : Launch) (Z : State) (a0 : Array Value) (hw : own_W Z a0) {zc : Int32} {wd : Addr} {kd : ClassId} {wl : Addr} {we : Addr} {ke : ClassId} {weo : Addr} {wmo : Addr} (hO : own_Olds Z zc wd kd wl we ke weo wmo) (ws : List Jvm.Cond) (p1 : Int32) (p2 : Int32) (h0 : Heap) (O0 : Ext Z.heap h0) :
    own_MF l Z h0 own_y3 jdk_29_method_65_code 2 (some .int) ({ frames := 0, cells := 0, slots := 0, locals := 0 } : Room) #[(.int p1), (.int p2)] (Q_maxi Z zc wd kd wl we ke weo wmo p1 p2 h0) ws := by
  refine own_met (Q := (Q_maxi Z zc wd kd wl we ke weo wmo p1 p2 h0)) _ _ (Jvm.Free.JP.mathPlain rfl (by decide +kernel)) ?_
  intro p e s m below meth c T X0 hx hby hml hret hlk hZ hown hnm e0
  replace hown : s.vm.findClass "java/lang/Math" = some m.cls := hown
  replace hnm : meth.name = "max" := hnm
  have hml : c.maxLocals = 2 := hml
  obtain ⟨oCS, oCz, oDE, oDV, oEL, oLE, oLF, oLV, oEM, oMir⟩ := id hO
  have N0 := Fr.nil Z.heap.size
  have K0 := Keep.refl h0 []
  refine own_go (fun _ k => castTop (ef_maxi m p1 p2) k) ?_
  show own_Go p e below s _ _ _ (T.setTop (mkF m 0 #[iv p1, iv p2] []))
  refine own_go (fun _ k => XS.iloadN X0.here hx rfl (hb hby d15_0) rfl (XS.iloadN X0.here hx rfl (hb hby d15_1) rfl k)) ?_
  by_cases hc1 : p1 < p2
  · refine own_go (fun _ k => XS.icmpYes X0.here hx rfl (pc0 := 2) (pc' := 9) rfl (hb hby d15_2) rfl (tlt hc1).1 (by decide) (by decide) k) ?_
    show own_Go p e below s _ _ _ (T.setTop (mkF m 9 #[iv p1, iv p2] []))
    refine own_go (fun _ k => XS.iloadN X0.here hx rfl (hb hby d15_9) rfl k) ?_
    show own_Go p e below s _ _ _ (T.setTop (mkF m 10 #[iv p1, iv p2] [(.int p2)]))
    refine own_retI X0 hx hlk e0 hret (hb hby d15_10) (by show _ ≤ 0; omega) (by show _ ≤ 0; omega) ?_
    exact Or.inl ⟨rfl, N0, hc1, rfl⟩
  · refine own_go (fun _ k => XS.icmpNo X0.here hx rfl (hb hby d15_2) rfl (flt hc1).1 k) ?_
    show own_Go p e below s _ _ _ (T.setTop (mkF m 5 #[iv p1, iv p2] []))
    refine own_go (fun _ k => XS.iloadN X0.here hx rfl (hb hby d15_5) rfl (XS.goto X0.here hx rfl (pc0 := 6) (pc' := 10) rfl (hb hby d15_6) (by decide) (by decide) k)) ?_
    show own_Go p e below s _ _ _ (T.setTop (mkF m 10 #[iv p1, iv p2] [(.int p1)]))
    refine own_retI X0 hx hlk e0 hret (hb hby d15_10) (by show _ ≤ 0; omega) (by show _ ≤ 0; omega) ?_
    exact Or.inr (⟨rfl, N0, hc1, rfl⟩)
theorem d14_0 : decode jdk_38_method_6_code 0 = .ok (.aload_n 0, 1) := by decide +kernel
theorem d14_1 : decode jdk_38_method_6_code 1 = .ok (.getfield 9, 3) := by decide +kernel
theorem d14_4 : decode jdk_38_method_6_code 4 = .ok (.arraylength, 1) := by decide +kernel
theorem d14_5 : decode jdk_38_method_6_code 5 = .ok (.istore_n 2, 1) := by decide +kernel
theorem d14_6 : decode jdk_38_method_6_code 6 = .ok (.iload_n 2, 1) := by decide +kernel
theorem d14_7 : decode jdk_38_method_6_code 7 = .ok (.ifCond .gt 13, 3) := by decide +kernel
theorem d14_10 : decode jdk_38_method_6_code 10 = .ok (.aload_n 0, 1) := by decide +kernel
theorem d14_11 : decode jdk_38_method_6_code 11 = .ok (.getfield 9, 3) := by decide +kernel
theorem d14_14 : decode jdk_38_method_6_code 14 = .ok (.getstatic 39, 3) := by decide +kernel
theorem d14_17 : decode jdk_38_method_6_code 17 = .ok (.if_acmp .eq 28, 3) := by decide +kernel
theorem d14_45 : decode jdk_38_method_6_code 45 = .ok (.aload_n 0, 1) := by decide +kernel
theorem d14_46 : decode jdk_38_method_6_code 46 = .ok (.bipush 10, 2) := by decide +kernel
theorem d14_48 : decode jdk_38_method_6_code 48 = .ok (.iload_n 1, 1) := by decide +kernel
theorem d14_49 : decode jdk_38_method_6_code 49 = .ok (.invokestatic 79, 3) := by decide +kernel
theorem d14_52 : decode jdk_38_method_6_code 52 = .ok (.anewarray 7, 3) := by decide +kernel
theorem d14_55 : decode jdk_38_method_6_code 55 = .ok (.dup_x1, 1) := by decide +kernel
theorem d14_56 : decode jdk_38_method_6_code 56 = .ok (.putfield 9, 3) := by decide +kernel
theorem d14_59 : decode jdk_38_method_6_code 59 = .ok (.areturn, 1) := by decide +kernel
def Q_growI (Z : State) (zc : Int32) (wd : Addr) (kd : ClassId) (wl : Addr) (we : Addr) (ke : ClassId) (weo : Addr) (wmo : Addr) (a1 : Addr) (mc : Int32) (h0 : Heap) (v : Option Value) (h : Heap) (L : List Loc) : Prop := (∃ b : Addr, ∃ k : ClassId, v = some (.ref b) ∧ Fr Z.heap.size L ∧ Keep h0 h [a1] ∧ h0.size ≤ b ∧ Exa Z h a1 "java/util/ArrayList" ∧ Fld Z h a1 "java/util/ArrayList" "size" "I" (.int (0 : Int32)) ∧ Fld Z h a1 "java/util/ArrayList" "elementData" "[Ljava/lang/Object;" (.ref b) ∧ Fld Z h a1 "java/util/AbstractList" "modCount" "I" (.int mc) ∧ Arv Z h b k (.object "java/lang/Object") (10 : Int32) [.null, .null, .null, .null, .null, .null, .null, .null, .null, .null] .null ∧ Ovr Z k "java/lang/Object" ∧ Exa Z h b "[Ljava/lang/Object;")
theorem ef_growI (m : MethodId) (x0 : Addr) : entryFrame m #[(.ref x0), (.int (1 : Int32))] 4 = mkF m 0 #[rv x0, iv (1 : Int32), .unset, .unset] [] := by first | (simp [entryFrame, mkF, argsToLocals, Value.category]; done) | rfl
set_option maxRecDepth 65536 in
set_option maxHeartbeats 40000000 in
theorem rm_growI (l : Launch) (Z : State) (a0 : Array Value) (hw : own_W Z a0) {zc : Int32} {wd : Addr} {kd : ClassId} {wl : Addr} {we : Addr} {ke : ClassId} {weo : Addr} {wmo : Addr} (hO : own_Olds Z zc wd kd wl we ke weo wmo) (ws : List Jvm.Cond) (a1 : Addr) (mc : Int32) (h0 : Heap) (O0 : Ext Z.heap h0) (fp0 : Exa Z h0 a1 "java/util/ArrayList") (fp1 : Fld Z h0 a1 "java/util/ArrayList" "size" "I" (.int (0 : Int32))) (fp2 : Fld Z h0 a1 "java/util/ArrayList" "elementData" "[Ljava/lang/Object;" (.ref wd)) (fp3 : Fld Z h0 a1 "java/util/AbstractList" "modCount" "I" (.int mc)) (big_a1 : Z.heap.size ≤ a1) :
    own_MF l Z h0 own_y4 jdk_38_method_6_code 4 (some (.array (.object "java/lang/Object"))) ({ frames := 1, cells := 1, slots := 10, locals := 14 } : Room) #[(.ref a1), (.int (1 : Int32))] (Q_growI Z zc wd kd wl we ke weo wmo a1 mc h0) ws := by
  refine own_met (Q := (Q_growI Z zc wd kd wl we ke weo wmo a1 mc h0)) _ _ (plainFor_of_name own_pn_2) ?_
  intro p e s m below meth c T X0 hx hby hml hret hlk hZ hown hnm e0
  replace hown : s.vm.findClass "java/util/ArrayList" = some m.cls := hown
  replace hnm : meth.name = "grow" := hnm
  have hml : c.maxLocals = 4 := hml
  obtain ⟨oCS, oCz, oDE, oDV, oEL, oLE, oLF, oLV, oEM, oMir⟩ := id hO
  have N0 := Fr.nil Z.heap.size
  have K0 := Keep.refl h0 [a1]
  refine own_go (fun _ k => castTop (ef_growI m a1) k) ?_
  show own_Go p e below s _ _ _ (T.setTop (mkF m 0 #[rv a1, iv (1 : Int32), .unset, .unset] []))
  refine own_go (fun _ k => XS.aloadN X0.here hx rfl (hb hby d14_0) rfl rfl k) ?_
  obtain ⟨T1, X1, e1, st1⟩ := getF X0 hx hZ hown (host := "") (Or.inl (ow57 hw)) Via.refl e0 fp2 (g := (mkF m 1 #[rv a1, iv (1 : Int32), .unset, .unset] [(.ref a1)])) rfl rfl (hb hby d14_1)
  refine own_go st1 ?_
  clear st1 X0 e0
  show own_Go p e below s _ _ _ (T1.setTop (mkF m 4 #[rv a1, iv (1 : Int32), .unset, .unset] [(.ref wd)]))
  obtain ⟨cl2, Ar2, -, S2, M2, -, -⟩ := id (oDV.ext O0)
  refine own_go (X1.arraylength hx (by rw [e1]; exact Ar2.1) (State.isArrayOf_alike hZ.alike Ar2.2.1) (g := (mkF m 4 #[rv a1, iv (1 : Int32), .unset, .unset] [(.ref wd)])) rfl rfl (hb hby d14_4)) ?_
  rw [len_of S2 M2]
  refine own_go (fun _ k => XS.istoreN X1.here hx rfl (hb hby d14_5) rfl (l' := #[rv a1, iv (1 : Int32), iv (0 : Int32), .unset]) rfl (XS.iloadN X1.here hx rfl (hb hby d14_6) rfl (XS.ifNo X1.here hx rfl (hb hby d14_7) rfl ((if0 _ _).trans (flt (by decide : ¬ ((0 : Int32) < (0 : Int32)))).2.2.1) (XS.aloadN X1.here hx rfl (hb hby d14_10) rfl rfl k)))) ?_
  show own_Go p e below s _ _ _ (T1.setTop (mkF m 11 #[rv a1, iv (1 : Int32), iv (0 : Int32), .unset] [(.ref a1)]))
  obtain ⟨T3, X3, e3, st3⟩ := getF X1 hx hZ hown (host := "") (Or.inl (ow57 hw)) Via.refl e1 fp2 (g := (mkF m 11 #[rv a1, iv (1 : Int32), iv (0 : Int32), .unset] [(.ref a1)])) rfl rfl (hb hby d14_11)
  refine own_go st3 ?_
  clear st3 X1 e1
  obtain ⟨T4, X4, e4, st4⟩ := getS2 X3 hx hZ hown (host := "") (Or.inl (ow56 hw)) Via.refl e3 (oDE.ext O0) (g := (mkF m 14 #[rv a1, iv (1 : Int32), iv (0 : Int32), .unset] [(.ref wd)])) rfl (hb hby d14_14)
  refine own_go st4 ?_
  clear st4 X3 e3
  refine own_go (fun _ k => Jvm.RoadKit.acmp (g := (mkF m 17 #[rv a1, iv (1 : Int32), iv (0 : Int32), .unset] [(.ref wd), (.ref wd)])) X4 hx rfl rfl rfl (pc0 := 17) (pc' := 45) (same := true) rfl (hb hby d14_17) rfl (decide_eq_true rfl) (by decide) (by decide) (XS.aloadN X4.here hx rfl (hb hby d14_45) rfl rfl (XS.bipush X4.here hx rfl (hb hby d14_46) k))) ?_
  show own_Go p e below s _ _ _ (T4.setTop (mkF m 48 #[rv a1, iv (1 : Int32), iv (0 : Int32), .unset] [(.int (10 : Int32)), (.ref a1)]))
  refine own_go (fun _ k => XS.iloadN X4.here hx rfl (hb hby d14_48) rfl k) ?_
  obtain ⟨v5, T5, L5, X5, hQ5, st5⟩ := own_callS (y := own_y3) X4 hx hZ hown (ow83 hw) (ow84 hw) (ow85 hw) (ow86 hw) (rm_maxi l Z a0 hw hO [] (10 : Int32) (1 : Int32) h0 O0) 1 0 0 (by show _ ≤ 1; omega) (by show _ ≤ 10; omega) e4 (g := (mkF m 49 #[rv a1, iv (1 : Int32), iv (0 : Int32), .unset] [(.int (1 : Int32)), (.int (10 : Int32)), (.ref a1)])) rfl (by rw [hml]; rfl) [(.int (10 : Int32)), (.int (1 : Int32))] [(.ref a1)] (lenOf own_pd_1 rfl) rfl rfl (hb hby d14_49)
  rcases hQ5 with hQ5 | hQ5
  · obtain ⟨rfl, Nc8, hp6, Kc7⟩ := hQ5
    refine own_go st5 ?_
    clear st5 X4 e4
    replace N0 := Fr.app N0 Nc8
    clear Nc8
    exact absurd hp6 (by decide : ¬ ((10 : Int32) < (1 : Int32)))
  · obtain ⟨rfl, Nc11, hp9, Kc10⟩ := hQ5
    refine own_go st5 ?_
    clear st5 X4 e4
    replace N0 := Fr.app N0 Nc11
    clear Nc11
    show own_Go p e below s _ _ _ (T5.setTop (mkF m 52 #[rv a1, iv (1 : Int32), iv (0 : Int32), .unset] [(.int (10 : Int32)), (.ref a1)]))
    obtain ⟨T12, h12, k12, X12, e12, E12, A12, B12, O12, st12⟩ := newRE X5 hx hZ hown (ow87 hw) (ow88 hw) Kc10 (g := (mkF m 52 #[rv a1, iv (1 : Int32), iv (0 : Int32), .unset] [(.int (10 : Int32)), (.ref a1)])) rfl (hb hby d14_52) rfl (by decide) (cap := 10) (by decide) (by decide) (by show _ ≤ 1; omega) (by show _ ≤ 10; omega) (ad := "[Ljava/lang/Object;") (by decide)
    obtain ⟨b12, g12⟩ : ∃ z, z = h0.size := ⟨_, rfl⟩
    rw [← g12] at A12 B12 st12
    refine own_go st12 ?_
    clear st12 X5 Kc10
    have ge12 := Nat.le_of_eq g12.symm
    have ne13 : a1 ≠ b12 := Nat.ne_of_lt (Nat.lt_of_lt_of_le fp0.lt ge12)
    have big14 : Z.heap.size ≤ b12 := Nat.le_trans O0.1 ge12
    have sz15 : h0.size ≤ b12 := Nat.le_trans K0.1 ge12
    replace fp0 := fp0.ext E12
    replace fp1 := fp1.ext E12
    replace fp2 := fp2.ext E12
    replace fp3 := fp3.ext E12
    replace O0 := own_oldExt O0 E12
    replace K0 := K0.ext E12
    clear E12
    have f16 : Arv Z h12 b12 k12 (.object "java/lang/Object") (10 : Int32) [.null, .null, .null, .null, .null, .null, .null, .null, .null, .null] .null := (Arv.new A12 (by decide)).pad (pad_rep [] .null 10)
    refine own_go (fun _ k => XS.dupX1 X12.here hx rfl (hb hby d14_55) rfl rfl rfl k) ?_
    obtain ⟨T17, h17, X17, e17, W17, st17⟩ := putF X12 hx hZ hown (host := "") (Or.inl (ow57 hw)) Via.refl e12 fp2 fp0 (Or.inl (ow58 hw)) (ow36 hw) (ty := (.array (.object "java/lang/Object"))) own_fd1 rfl rfl (g := (mkF m 56 #[rv a1, iv (1 : Int32), iv (0 : Int32), .unset] [(.ref b12), (.ref a1), (.ref b12)])) rfl rfl (hb hby d14_56)
    refine own_go st17 ?_
    clear st17 X12 e12
    replace N0 := Fr.snoc X17 N0 big_a1
    replace fp0 := fp0.wr W17
    replace fp1 := fp1.other W17 (.inr (own_sn2 hw))
    replace fp2 := fp2.same W17
    replace fp3 := fp3.other W17 (.inr (own_sn1 hw).symm)
    replace B12 := B12.wr W17
    replace f16 := f16.other W17 ne13.symm
    replace O0 := own_oldWr O0 W17 big_a1
    replace K0 := K0.wr W17 (Or.inl (List.mem_of_getElem? (i := 0) rfl))
    clear W17
    show own_Go p e below s _ _ _ (T17.setTop (mkF m 59 #[rv a1, iv (1 : Int32), iv (0 : Int32), .unset] [(.ref b12)]))
    refine own_retA X17 hx hlk e17 hret rfl rfl (hb hby d14_59) (by show _ ≤ 1; omega) (by show _ ≤ 10; omega) ?_
    exact ⟨b12, k12, rfl, N0, K0, sz15, fp0, fp1, fp2, fp3, f16, O12, B12⟩
theorem d13_0 : decode jdk_38_method_7_code 0 = .ok (.aload_n 0, 1) := by decide +kernel
theorem d13_1 : decode jdk_38_method_7_code 1 = .ok (.aload_n 0, 1) := by decide +kernel
theorem d13_2 : decode jdk_38_method_7_code 2 = .ok (.getfield 48, 3) := by decide +kernel
theorem d13_5 : decode jdk_38_method_7_code 5 = .ok (.iconst 1, 1) := by decide +kernel
theorem d13_6 : decode jdk_38_method_7_code 6 = .ok (.iadd, 1) := by decide +kernel
theorem d13_7 : decode jdk_38_method_7_code 7 = .ok (.invokevirtual 69, 3) := by decide +kernel
theorem d13_10 : decode jdk_38_method_7_code 10 = .ok (.areturn, 1) := by decide +kernel
def Q_grow0 (Z : State) (zc : Int32) (wd : Addr) (kd : ClassId) (wl : Addr) (we : Addr) (ke : ClassId) (weo : Addr) (wmo : Addr) (a1 : Addr) (mc : Int32) (h0 : Heap) (v : Option Value) (h : Heap) (L : List Loc) : Prop := (∃ b : Addr, ∃ k : ClassId, v = some (.ref b) ∧ Fr Z.heap.size L ∧ Keep h0 h [a1] ∧ h0.size ≤ b ∧ Exa Z h a1 "java/util/ArrayList" ∧ Fld Z h a1 "java/util/ArrayList" "size" "I" (.int (0 : Int32)) ∧ Fld Z h a1 "java/util/ArrayList" "elementData" "[Ljava/lang/Object;" (.ref b) ∧ Fld Z h a1 "java/util/AbstractList" "modCount" "I" (.int mc) ∧ Arv Z h b k (.object "java/lang/Object") (10 : Int32) [.null, .null, .null, .null, .null, .null, .null, .null, .null, .null] .null ∧ Ovr Z k "java/lang/Object" ∧ Exa Z h b "[Ljava/lang/Object;")
theorem ef_grow0 (m : MethodId) (x0 : Addr) : entryFrame m #[(.ref x0)] 1 = mkF m 0 #[rv x0] [] := by first | (simp [entryFrame, mkF, argsToLocals, Value.category]; done) | rfl
set_option maxRecDepth 65536 in
set_option maxHeartbeats 40000000 in
theorem rm_grow0 (l : Launch) (Z : State) (a0 : Array Value) (hw : own_W Z a0) {zc : Int32} {wd : Addr} {kd : ClassId} {wl : Addr} {we : Addr} {ke : ClassId} {weo : Addr} {wmo : Addr} (hO : own_Olds Z zc wd kd wl we ke weo wmo) (ws : List Jvm.Cond) (a1 : Addr) (mc : Int32) (h0 : Heap) (O0 : Ext Z.heap h0) (fp0 : Exa Z h0 a1 "java/util/ArrayList") (fp1 : Fld Z h0 a1 "java/util/ArrayList" "size" "I" (.int (0 : Int32))) (fp2 : Fld Z h0 a1 "java/util/ArrayList" "elementData" "[Ljava/lang/Object;" (.ref wd)) (fp3 : Fld Z h0 a1 "java/util/AbstractList" "modCount" "I" (.int mc)) (big_a1 : Z.heap.size ≤ a1) :
    own_MF l Z h0 own_y5 jdk_38_method_7_code 1 (some (.array (.object "java/lang/Object"))) ({ frames := 2, cells := 1, slots := 10, locals := 29 } : Room) #[(.ref a1)] (Q_grow0 Z zc wd kd wl we ke weo wmo a1 mc h0) ws := by
  refine own_met (Q := (Q_grow0 Z zc wd kd wl we ke weo wmo a1 mc h0)) _ _ (plainFor_of_name own_pn_2) ?_
  intro p e s m below meth c T X0 hx hby hml hret hlk hZ hown hnm e0
  replace hown : s.vm.findClass "java/util/ArrayList" = some m.cls := hown
  replace hnm : meth.name = "grow" := hnm
  have hml : c.maxLocals = 1 := hml
  obtain ⟨oCS, oCz, oDE, oDV, oEL, oLE, oLF, oLV, oEM, oMir⟩ := id hO
  have N0 := Fr.nil Z.heap.size
  have K0 := Keep.refl h0 [a1]
  refine own_go (fun _ k => castTop (ef_grow0 m a1) k) ?_
  show own_Go p e below s _ _ _ (T.setTop (mkF m 0 #[rv a1] []))
  refine own_go (fun _ k => XS.aloadN X0.here hx rfl (hb hby d13_0) rfl rfl (XS.aloadN X0.here hx rfl (hb hby d13_1) rfl rfl k)) ?_
  obtain ⟨T1, X1, e1, st1⟩ := getF X0 hx hZ hown (host := "") (Or.inl (ow66 hw)) Via.refl e0 fp1 (g := (mkF m 2 #[rv a1] [(.ref a1), (.ref a1)])) rfl rfl (hb hby d13_2)
  refine own_go st1 ?_
  clear st1 X0 e0
  refine own_go (fun _ k => XS.iconst X1.here hx rfl (hb hby d13_5) (XS.iadd X1.here hx rfl (hb hby d13_6) rfl k)) ?_
  show own_Go p e below s _ _ _ (T1.setTop (mkF m 7 #[rv a1] [(.int (1 : Int32)), (.ref a1)]))
  obtain ⟨v2, T2, L2, X2, hQ2, st2⟩ := own_callP (y := own_y4) X1 hx hZ hown (ow78 hw) (ow79 hw) (ow81 hw) (ow80 hw) (ow37 hw) (ow82 hw) (rm_growI l Z a0 hw hO [] a1 mc h0 O0 fp0 fp1 fp2 fp3 big_a1) 0 1 10 (by show _ ≤ 1; omega) (by show _ ≤ 10; omega) e1 fp0 (g := (mkF m 7 #[rv a1] [(.int (1 : Int32)), (.ref a1)])) rfl (by rw [hml]; rfl) [(.int (1 : Int32))] [] (lenOf own_pd_2 rfl) rfl rfl (hb hby d13_7)
  obtain ⟨w3, w4, rfl, Nc14, Kc13, hb5, f6, f7, f8, f9, f10, f11, f12⟩ := hQ2
  refine own_go st2 ?_
  clear st2 X1 e1
  replace N0 := Fr.app N0 Nc14
  clear Nc14
  have ne15 : a1 ≠ w3 := Nat.ne_of_lt (Nat.lt_of_lt_of_le fp0.lt hb5)
  have big16 : Z.heap.size ≤ w3 := Nat.le_trans O0.1 hb5
  have sz17 : h0.size ≤ w3 := Nat.le_trans K0.1 hb5
  replace fp0 := fp0.keep Kc13
  clear fp1
  clear fp2
  clear fp3
  replace O0 := own_oldKeep O0 Kc13 (allS big_a1 all0)
  replace K0 := K0.trans Kc13 (allS (Or.inl (List.mem_of_getElem? (i := 0) rfl)) all0)
  clear Kc13
  show own_Go p e below s _ _ _ (T2.setTop (mkF m 10 #[rv a1] [(.ref w3)]))
  refine own_retA X2 hx hlk (rfl : T2.heap = T2.heap) hret rfl rfl (hb hby d13_10) (by show _ ≤ 1; omega) (by show _ ≤ 10; omega) ?_
  exact ⟨w3, w4, rfl, N0, K0, sz17, f6, f7, f8, f9, f10, f11, f12⟩
theorem d12_0 : decode jdk_38_method_24_code 0 = .ok (.iload_n 3, 1) := by decide +kernel
theorem d12_1 : decode jdk_38_method_24_code 1 = .ok (.aload_n 2, 1) := by decide +kernel
theorem d12_2 : decode jdk_38_method_24_code 2 = .ok (.arraylength, 1) := by decide +kernel
theorem d12_3 : decode jdk_38_method_24_code 3 = .ok (.if_icmp .ne 8, 3) := by decide +kernel
theorem d12_6 : decode jdk_38_method_24_code 6 = .ok (.aload_n 0, 1) := by decide +kernel
theorem d12_7 : decode jdk_38_method_24_code 7 = .ok (.invokevirtual 129, 3) := by decide +kernel
theorem d12_10 : decode jdk_38_method_24_code 10 = .ok (.astore_n 2, 1) := by decide +kernel
theorem d12_11 : decode jdk_38_method_24_code 11 = .ok (.aload_n 2, 1) := by decide +kernel
theorem d12_12 : decode jdk_38_method_24_code 12 = .ok (.iload_n 3, 1) := by decide +kernel
theorem d12_13 : decode jdk_38_method_24_code 13 = .ok (.aload_n 1, 1) := by decide +kernel
theorem d12_14 : decode jdk_38_method_24_code 14 = .ok (.aastore, 1) := by decide +kernel
theorem d12_15 : decode jdk_38_method_24_code 15 = .ok (.aload_n 0, 1) := by decide +kernel
theorem d12_16 : decode jdk_38_method_24_code 16 = .ok (.iload_n 3, 1) := by decide +kernel
theorem d12_17 : decode jdk_38_method_24_code 17 = .ok (.iconst 1, 1) := by decide +kernel
theorem d12_18 : decode jdk_38_method_24_code 18 = .ok (.iadd, 1) := by decide +kernel
theorem d12_19 : decode jdk_38_method_24_code 19 = .ok (.putfield 48, 3) := by decide +kernel
theorem d12_22 : decode jdk_38_method_24_code 22 = .ok (.return_, 1) := by decide +kernel
def Q_add3_0 (Z : State) (zc : Int32) (wd : Addr) (kd : ClassId) (wl : Addr) (we : Addr) (ke : ClassId) (weo : Addr) (wmo : Addr) (a1 : Addr) (a2 : Addr) (mc : Int32) (h0 : Heap) (v : Option Value) (h : Heap) (L : List Loc) : Prop := (∃ b : Addr, ∃ k : ClassId, v = none ∧ Fr Z.heap.size L ∧ Keep h0 h [a1] ∧ h0.size ≤ b ∧ Exa Z h a1 "java/util/ArrayList" ∧ Fld Z h a1 "java/util/ArrayList" "size" "I" (.int (1 : Int32)) ∧ Fld Z h a1 "java/util/ArrayList" "elementData" "[Ljava/lang/Object;" (.ref b) ∧ Fld Z h a1 "java/util/AbstractList" "modCount" "I" (.int mc) ∧ Arv Z h b k (.object "java/lang/Object") (10 : Int32) [(.ref a2), .null, .null, .null, .null, .null, .null, .null, .null, .null] .null ∧ Ovr Z k "java/lang/Object" ∧ Exa Z h b "[Ljava/lang/Object;")
theorem ef_add3_0 (m : MethodId) (x0 : Addr) (x1 : Addr) (x2 : Addr) : entryFrame m #[(.ref x0), (.ref x1), (.ref x2), (.int (0 : Int32))] 4 = mkF m 0 #[rv x0, rv x1, rv x2, iv (0 : Int32)] [] := by first | (simp [entryFrame, mkF, argsToLocals, Value.category]; done) | rfl
set_option maxRecDepth 65536 in
set_option maxHeartbeats 40000000 in
theorem rm_add3_0 (l : Launch) (Z : State) (a0 : Array Value) (hw : own_W Z a0) {zc : Int32} {wd : Addr} {kd : ClassId} {wl : Addr} {we : Addr} {ke : ClassId} {weo : Addr} {wmo : Addr} (hO : own_Olds Z zc wd kd wl we ke weo wmo) (ws : List Jvm.Cond) (a1 : Addr) (a2 : Addr) (mc : Int32) (h0 : Heap) (O0 : Ext Z.heap h0) (fp0 : Exa Z h0 a1 "java/util/ArrayList") (fp1 : Fld Z h0 a1 "java/util/ArrayList" "size" "I" (.int (0 : Int32))) (fp2 : Fld Z h0 a1 "java/util/ArrayList" "elementData" "[Ljava/lang/Object;" (.ref wd)) (fp3 : Fld Z h0 a1 "java/util/AbstractList" "modCount" "I" (.int mc)) (fp4 : Ins Z h0 a2 "java/lang/Object" true) (big_a1 : Z.heap.size ≤ a1) :
    own_MF l Z h0 own_y6 jdk_38_method_24_code 4 none ({ frames := 3, cells := 1, slots := 10, locals := 41 } : Room) #[(.ref a1), (.ref a2), (.ref wd), (.int (0 : Int32))] (Q_add3_0 Z zc wd kd wl we ke weo wmo a1 a2 mc h0) ws := by
  refine own_met (Q := (Q_add3_0 Z zc wd kd wl we ke weo wmo a1 a2 mc h0)) _ _ (plainFor_of_name own_pn_2) ?_
  intro p e s m below meth c T X0 hx hby hml hret hlk hZ hown hnm e0
  replace hown : s.vm.findClass "java/util/ArrayList" = some m.cls := hown
  replace hnm : meth.name = "add" := hnm
  have hml : c.maxLocals = 4 := hml
  obtain ⟨oCS, oCz, oDE, oDV, oEL, oLE, oLF, oLV, oEM, oMir⟩ := id hO
  have N0 := Fr.nil Z.heap.size
  have K0 := Keep.refl h0 [a1]
  refine own_go (fun _ k => castTop (ef_add3_0 m a1 a2 wd) k) ?_
  show own_Go p e below s _ _ _ (T.setTop (mkF m 0 #[rv a1, rv a2, rv wd, iv (0 : Int32)] []))
  refine own_go (fun _ k => XS.iloadN X0.here hx rfl (hb hby d12_0) rfl (XS.aloadN X0.here hx rfl (hb hby d12_1) rfl rfl k)) ?_
  show own_Go p e below s _ _ _ (T.setTop (mkF m 2 #[rv a1, rv a2, rv wd, iv (0 : Int32)] [(.ref wd), (.int (0 : Int32))]))
  obtain ⟨cl1, Ar1, -, S1, M1, -, -⟩ := id (oDV.ext O0)
  refine own_go (X0.arraylength hx (by rw [e0]; exact Ar1.1) (State.isArrayOf_alike hZ.alike Ar1.2.1) (g := (mkF m 2 #[rv a1, rv a2, rv wd, iv (0 : Int32)] [(.ref wd), (.int (0 : Int32))])) rfl rfl (hb hby d12_2)) ?_
  rw [len_of S1 M1]
  refine own_go (fun _ k => XS.icmpNo X0.here hx rfl (hb hby d12_3) rfl (teq (by decide : (0 : Int32) = (0 : Int32))).2 (XS.aloadN X0.here hx rfl (hb hby d12_6) rfl rfl k)) ?_
  obtain ⟨v2, T2, L2, X2, hQ2, st2⟩ := own_callP (y := own_y5) X0 hx hZ hown (ow73 hw) (ow74 hw) (ow76 hw) (ow75 hw) (ow37 hw) (ow77 hw) (rm_grow0 l Z a0 hw hO [] a1 mc h0 O0 fp0 fp1 fp2 fp3 big_a1) 0 1 10 (by show _ ≤ 1; omega) (by show _ ≤ 10; omega) e0 fp0 (g := (mkF m 7 #[rv a1, rv a2, rv wd, iv (0 : Int32)] [(.ref a1)])) rfl (by rw [hml]; rfl) [] [] (lenOf own_pd_3 rfl) rfl rfl (hb hby d12_7)
  obtain ⟨w3, w4, rfl, Nc14, Kc13, hb5, f6, f7, f8, f9, f10, f11, f12⟩ := hQ2
  refine own_go st2 ?_
  clear st2 X0 e0
  replace N0 := Fr.app N0 Nc14
  clear Nc14
  have ne15 : a1 ≠ w3 := Nat.ne_of_lt (Nat.lt_of_lt_of_le fp0.lt hb5)
  have big16 : Z.heap.size ≤ w3 := Nat.le_trans O0.1 hb5
  have sz17 : h0.size ≤ w3 := Nat.le_trans K0.1 hb5
  replace fp0 := fp0.keep Kc13
  clear fp1
  clear fp2
  clear fp3
  replace O0 := own_oldKeep O0 Kc13 (allS big_a1 all0)
  replace K0 := K0.trans Kc13 (allS (Or.inl (List.mem_of_getElem? (i := 0) rfl)) all0)
  clear Kc13
  refine own_go (fun _ k => XS.astoreN X2.here hx rfl (hb hby d12_10) rfl rfl (l' := #[rv a1, rv a2, rv w3, iv (0 : Int32)]) rfl k) ?_
  show own_Go p e below s _ _ _ (T2.setTop (mkF m 11 #[rv a1, rv a2, rv w3, iv (0 : Int32)] []))
  refine own_go (fun _ k => XS.aloadN X2.here hx rfl (hb hby d12_11) rfl rfl (XS.iloadN X2.here hx rfl (hb hby d12_12) rfl (XS.aloadN X2.here hx rfl (hb hby d12_13) rfl rfl k))) ?_
  obtain ⟨cl18, Ar18, q18, S18, M18, P18, G18⟩ := id f10
  have hin18 : ¬ ((0 : Int32) < 0 ∨ cl18.slots.size ≤ ((0 : Int32)).toNatClampNeg) := inb_of S18 ⟨by decide, by decide⟩
  obtain ⟨T19, h19, X19, e19, W19, st19⟩ := stR X2 hx hZ (rfl : T2.heap = T2.heap) Ar18 (j := (0 : Int32)) hin18 rfl (Sto.ofV Ar18 q18 f11 (own_insKeep fp4 K0)) (g := (mkF m 14 #[rv a1, rv a2, rv w3, iv (0 : Int32)] [(.ref a2), (.int (0 : Int32)), (.ref w3)])) rfl rfl (hb hby d12_14)
  refine own_go st19 ?_
  clear st19 X2
  have f20 : Arv Z h19 w3 w4 (.object "java/lang/Object") (10 : Int32) [(.ref a2), .null, .null, .null, .null, .null, .null, .null, .null, .null] .null := Arv.set Ar18 q18 S18 M18 P18 G18 rfl W19 0 rfl (Nat.le_of_ble_eq_true rfl)
  replace N0 := Fr.snoc X19 N0 big16
  replace f6 := f6.wr W19
  replace f7 := f7.other W19 (Or.inl ne15)
  replace f8 := f8.other W19 (Or.inl ne15)
  replace f9 := f9.other W19 (Or.inl ne15)
  clear f10
  replace f12 := f12.wr W19
  replace O0 := own_oldWr O0 W19 big16
  replace K0 := K0.wr W19 (Or.inr sz17)
  clear W19
  clear Ar18 q18 S18 M18 P18 G18 hin18
  refine own_go (fun _ k => XS.aloadN X19.here hx rfl (hb hby d12_15) rfl rfl k) ?_
  show own_Go p e below s _ _ _ (T19.setTop (mkF m 16 #[rv a1, rv a2, rv w3, iv (0 : Int32)] [(.ref a1)]))
  refine own_go (fun _ k => XS.iloadN X19.here hx rfl (hb hby d12_16) rfl (XS.iconst X19.here hx rfl (hb hby d12_17) (XS.iadd X19.here hx rfl (hb hby d12_18) rfl k))) ?_
  obtain ⟨T21, h21, X21, e21, W21, st21⟩ := putF X19 hx hZ hown (host := "") (Or.inl (ow66 hw)) Via.refl e19 f7 f6 (Or.inl (ow67 hw)) (ow36 hw) (ty := .int) own_fd0 rfl rfl (g := (mkF m 19 #[rv a1, rv a2, rv w3, iv (0 : Int32)] [(.int (1 : Int32)), (.ref a1)])) rfl rfl (hb hby d12_19)
  refine own_go st21 ?_
  clear st21 X19 e19
  replace N0 := Fr.snoc X21 N0 big_a1
  replace f6 := f6.wr W21
  replace f7 := f7.same W21
  replace f8 := f8.other W21 (.inr (own_sn2 hw).symm)
  replace f9 := f9.other W21 (.inr (own_sn0 hw).symm)
  replace f12 := f12.wr W21
  replace f20 := f20.other W21 ne15.symm
  replace O0 := own_oldWr O0 W21 big_a1
  replace K0 := K0.wr W21 (Or.inl (List.mem_of_getElem? (i := 0) rfl))
  clear W21
  show own_Go p e below s _ _ _ (T21.setTop (mkF m 22 #[rv a1, rv a2, rv w3, iv (0 : Int32)] []))
  refine own_retV X21 hx hlk e21 hret (hb hby d12_22) (by show _ ≤ 1; omega) (by show _ ≤ 10; omega) ?_
  exact ⟨w3, w4, rfl, N0, K0, sz17, f6, f7, f8, f9, f20, f11, f12⟩
theorem d11_0 : decode jdk_38_method_25_code 0 = .ok (.aload_n 0, 1) := by decide +kernel
theorem d11_1 : decode jdk_38_method_25_code 1 = .ok (.dup, 1) := by decide +kernel
theorem d11_2 : decode jdk_38_method_25_code 2 = .ok (.getfield 63, 3) := by decide +kernel
theorem d11_5 : decode jdk_38_method_25_code 5 = .ok (.iconst 1, 1) := by decide +kernel
theorem d11_6 : decode jdk_38_method_25_code 6 = .ok (.iadd, 1) := by decide +kernel
theorem d11_7 : decode jdk_38_method_25_code 7 = .ok (.putfield 63, 3) := by decide +kernel
theorem d11_10 : decode jdk_38_method_25_code 10 = .ok (.aload_n 0, 1) := by decide +kernel
theorem d11_11 : decode jdk_38_method_25_code 11 = .ok (.aload_n 1, 1) := by decide +kernel
theorem d11_12 : decode jdk_38_method_25_code 12 = .ok (.aload_n 0, 1) := by decide +kernel
theorem d11_13 : decode jdk_38_method_25_code 13 = .ok (.getfield 9, 3) := by decide +kernel
theorem d11_16 : decode jdk_38_method_25_code 16 = .ok (.aload_n 0, 1) := by decide +kernel
theorem d11_17 : decode jdk_38_method_25_code 17 = .ok (.getfield 48, 3) := by decide +kernel
theorem d11_20 : decode jdk_38_method_25_code 20 = .ok (.invokevirtual 131, 3) := by decide +kernel
theorem d11_23 : decode jdk_38_method_25_code 23 = .ok (.iconst 1, 1) := by decide +kernel
theorem d11_24 : decode jdk_38_method_25_code 24 = .ok (.ireturn, 1) := by decide +kernel
def Q_add1_0 (Z : State) (zc : Int32) (wd : Addr) (kd : ClassId) (wl : Addr) (we : Addr) (ke : ClassId) (weo : Addr) (wmo : Addr) (a1 : Addr) (a2 : Addr) (mc : Int32) (h0 : Heap) (v : Option Value) (h : Heap) (L : List Loc) : Prop := (∃ b : Addr, ∃ k : ClassId, v = some (.int (1 : Int32)) ∧ Fr Z.heap.size L ∧ Keep h0 h [a1] ∧ h0.size ≤ b ∧ Exa Z h a1 "java/util/ArrayList" ∧ Fld Z h a1 "java/util/ArrayList" "size" "I" (.int (1 : Int32)) ∧ Fld Z h a1 "java/util/ArrayList" "elementData" "[Ljava/lang/Object;" (.ref b) ∧ Fld Z h a1 "java/util/AbstractList" "modCount" "I" (.int (mc + (1 : Int32))) ∧ Arv Z h b k (.object "java/lang/Object") (10 : Int32) [(.ref a2), .null, .null, .null, .null, .null, .null, .null, .null, .null] .null ∧ Ovr Z k "java/lang/Object" ∧ Exa Z h b "[Ljava/lang/Object;")
theorem ef_add1_0 (m : MethodId) (x0 : Addr) (x1 : Addr) : entryFrame m #[(.ref x0), (.ref x1)] 2 = mkF m 0 #[rv x0, rv x1] [] := by first | (simp [entryFrame, mkF, argsToLocals, Value.category]; done) | rfl
set_option maxRecDepth 65536 in
set_option maxHeartbeats 40000000 in
theorem rm_add1_0 (l : Launch) (Z : State) (a0 : Array Value) (hw : own_W Z a0) {zc : Int32} {wd : Addr} {kd : ClassId} {wl : Addr} {we : Addr} {ke : ClassId} {weo : Addr} {wmo : Addr} (hO : own_Olds Z zc wd kd wl we ke weo wmo) (ws : List Jvm.Cond) (a1 : Addr) (a2 : Addr) (mc : Int32) (h0 : Heap) (O0 : Ext Z.heap h0) (fp0 : Exa Z h0 a1 "java/util/ArrayList") (fp1 : Fld Z h0 a1 "java/util/ArrayList" "size" "I" (.int (0 : Int32))) (fp2 : Fld Z h0 a1 "java/util/ArrayList" "elementData" "[Ljava/lang/Object;" (.ref wd)) (fp3 : Fld Z h0 a1 "java/util/AbstractList" "modCount" "I" (.int mc)) (fp4 : Ins Z h0 a2 "java/lang/Object" true) (big_a1 : Z.heap.size ≤ a1) :
    own_MF l Z h0 own_y7 jdk_38_method_25_code 2 (some .boolean) ({ frames := 4, cells := 1, slots := 10, locals := 56 } : Room) #[(.ref a1), (.ref a2)] (Q_add1_0 Z zc wd kd wl we ke weo wmo a1 a2 mc h0) ws := by
  refine own_met (Q := (Q_add1_0 Z zc wd kd wl we ke weo wmo a1 a2 mc h0)) _ _ (plainFor_of_name own_pn_2) ?_
  intro p e s m below meth c T X0 hx hby hml hret hlk hZ hown hnm e0
  replace hown : s.vm.findClass "java/util/ArrayList" = some m.cls := hown
  replace hnm : meth.name = "add" := hnm
  have hml : c.maxLocals = 2 := hml
  obtain ⟨oCS, oCz, oDE, oDV, oEL, oLE, oLF, oLV, oEM, oMir⟩ := id hO
  have N0 := Fr.nil Z.heap.size
  have K0 := Keep.refl h0 [a1]
  refine own_go (fun _ k => castTop (ef_add1_0 m a1 a2) k) ?_
  show own_Go p e below s _ _ _ (T.setTop (mkF m 0 #[rv a1, rv a2] []))
  refine own_go (fun _ k => XS.aloadN X0.here hx rfl (hb hby d11_0) rfl rfl (XS.dup X0.here hx rfl (hb hby d11_1) rfl rfl k)) ?_
  obtain ⟨T1, X1, e1, st1⟩ := getF X0 hx hZ hown (host := "") (Or.inl (ow64 hw)) (Via.of (ow65 hw)) e0 fp3 (g := (mkF m 2 #[rv a1, rv a2] [(.ref a1), (.ref a1)])) rfl rfl (hb hby d11_2)
  refine own_go st1 ?_
  clear st1 X0 e0
  refine own_go (fun _ k => XS.iconst X1.here hx rfl (hb hby d11_5) (XS.iadd X1.here hx rfl (hb hby d11_6) rfl k)) ?_
  show own_Go p e below s _ _ _ (T1.setTop (mkF m 7 #[rv a1, rv a2] [(.int (mc + (1 : Int32))), (.ref a1)]))
  obtain ⟨T2, h2, X2, e2, W2, st2⟩ := putF X1 hx hZ hown (host := "") (Or.inl (ow64 hw)) (Via.of (ow65 hw)) e1 fp3 fp0 (Or.inl (ow55 hw)) (ow36 hw) (ty := .int) own_fd0 rfl rfl (g := (mkF m 7 #[rv a1, rv a2] [(.int (mc + (1 : Int32))), (.ref a1)])) rfl rfl (hb hby d11_7)
  refine own_go st2 ?_
  clear st2 X1 e1
  replace N0 := Fr.snoc X2 N0 big_a1
  replace fp0 := fp0.wr W2
  replace fp1 := fp1.other W2 (.inr (own_sn0 hw))
  replace fp2 := fp2.other W2 (.inr (own_sn1 hw))
  replace fp3 := fp3.same W2
  replace O0 := own_oldWr O0 W2 big_a1
  replace K0 := K0.wr W2 (Or.inl (List.mem_of_getElem? (i := 0) rfl))
  clear W2
  refine own_go (fun _ k => XS.aloadN X2.here hx rfl (hb hby d11_10) rfl rfl (XS.aloadN X2.here hx rfl (hb hby d11_11) rfl rfl (XS.aloadN X2.here hx rfl (hb hby d11_12) rfl rfl k))) ?_
  obtain ⟨T3, X3, e3, st3⟩ := getF X2 hx hZ hown (host := "") (Or.inl (ow57 hw)) Via.refl e2 fp2 (g := (mkF m 13 #[rv a1, rv a2] [(.ref a1), (.ref a2), (.ref a1)])) rfl rfl (hb hby d11_13)
  refine own_go st3 ?_
  clear st3 X2 e2
  show own_Go p e below s _ _ _ (T3.setTop (mkF m 16 #[rv a1, rv a2] [(.ref wd), (.ref a2), (.ref a1)]))
  refine own_go (fun _ k => XS.aloadN X3.here hx rfl (hb hby d11_16) rfl rfl k) ?_
  obtain ⟨T4, X4, e4, st4⟩ := getF X3 hx hZ hown (host := "") (Or.inl (ow66 hw)) Via.refl e3 fp1 (g := (mkF m 17 #[rv a1, rv a2] [(.ref a1), (.ref wd), (.ref a2), (.ref a1)])) rfl rfl (hb hby d11_17)
  refine own_go st4 ?_
  clear st4 X3 e3
  obtain ⟨v5, T5, L5, X5, hQ5, st5⟩ := own_callP (y := own_y6) X4 hx hZ hown (ow68 hw) (ow69 hw) (ow71 hw) (ow70 hw) (ow37 hw) (ow72 hw) (rm_add3_0 l Z a0 hw hO [] a1 a2 (mc + (1 : Int32)) h2 O0 fp0 fp1 fp2 fp3 (own_insKeep fp4 K0) big_a1) 0 1 10 (by show _ ≤ 1; omega) (by show _ ≤ 10; omega) e4 fp0 (g := (mkF m 20 #[rv a1, rv a2] [(.int (0 : Int32)), (.ref wd), (.ref a2), (.ref a1)])) rfl (by rw [hml]; rfl) [(.ref a2), (.ref wd), (.int (0 : Int32))] [] (lenOf own_pd_4 rfl) rfl rfl (hb hby d11_20)
  obtain ⟨w6, w7, rfl, Nc17, Kc16, hb8, f9, f10, f11, f12, f13, f14, f15⟩ := hQ5
  refine own_go st5 ?_
  clear st5 X4 e4
  replace N0 := Fr.app N0 Nc17
  clear Nc17
  have ne18 : a1 ≠ w6 := Nat.ne_of_lt (Nat.lt_of_lt_of_le fp0.lt hb8)
  have big19 : Z.heap.size ≤ w6 := Nat.le_trans O0.1 hb8
  have sz20 : h0.size ≤ w6 := Nat.le_trans K0.1 hb8
  replace fp0 := fp0.keep Kc16
  clear fp1
  clear fp2
  clear fp3
  replace O0 := own_oldKeep O0 Kc16 (allS big_a1 all0)
  replace K0 := K0.trans Kc16 (allS (Or.inl (List.mem_of_getElem? (i := 0) rfl)) all0)
  clear Kc16
  refine own_go (fun _ k => XS.iconst X5.here hx rfl (hb hby d11_23) k) ?_
  show own_Go p e below s _ _ _ (T5.setTop (mkF m 24 #[rv a1, rv a2] [(.int (1 : Int32))]))
  refine own_retN X5 hx hlk (rfl : T5.heap = T5.heap) (t := .boolean) hret (by simp) (hb hby d11_24) (by show _ ≤ 1; omega) (by show _ ≤ 10; omega) ?_
  exact ⟨w6, w7, rfl, N0, K0, sz20, f9, f10, f11, f12, f13, f14, f15⟩
def Q_add3_1 (Z : State) (zc : Int32) (wd : Addr) (kd : ClassId) (wl : Addr) (we : Addr) (ke : ClassId) (weo : Addr) (wmo : Addr) (a1 : Addr) (a2 : Addr) (b : Addr) (k : ClassId) (mc : Int32) (el1 : Addr) (h0 : Heap) (v : Option Value) (h : Heap) (L : List Loc) : Prop := (v = none ∧ Fr Z.heap.size L ∧ Keep h0 h [a1, b] ∧ Exa Z h a1 "java/util/ArrayList" ∧ Fld Z h a1 "java/util/ArrayList" "size" "I" (.int (2 : Int32)) ∧ Fld Z h a1 "java/util/ArrayList" "elementData" "[Ljava/lang/Object;" (.ref b) ∧ Fld Z h a1 "java/util/AbstractList" "modCount" "I" (.int mc) ∧ Arv Z h b k (.object "java/lang/Object") (10 : Int32) [(.ref el1), (.ref a2), .null, .null, .null, .null, .null, .null, .null, .null] .null ∧ Ovr Z k "java/lang/Object" ∧ Exa Z h b "[Ljava/lang/Object;")
theorem ef_add3_1 (m : MethodId) (x0 : Addr) (x1 : Addr) (x2 : Addr) : entryFrame m #[(.ref x0), (.ref x1), (.ref x2), (.int (1 : Int32))] 4 = mkF m 0 #[rv x0, rv x1, rv x2, iv (1 : Int32)] [] := by first | (simp [entryFrame, mkF, argsToLocals, Value.category]; done) | rfl
set_option maxRecDepth 65536 in
set_option maxHeartbeats 40000000 in
theorem rm_add3_1 (l : Launch) (Z : State) (a0 : Array Value) (hw : own_W Z a0) {zc : Int32} {wd : Addr} {kd : ClassId} {wl : Addr} {we : Addr} {ke : ClassId} {weo : Addr} {wmo : Addr} (hO : own_Olds Z zc wd kd wl we ke weo wmo) (ws : List Jvm.Cond) (a1 : Addr) (a2 : Addr) (b : Addr) (k : ClassId) (mc : Int32) (el1 : Addr) (h0 : Heap) (O0 : Ext Z.heap h0) (fp0 : Exa Z h0 a1 "java/util/ArrayList") (fp1 : Fld Z h0 a1 "java/util/ArrayList" "size" "I" (.int (1 : Int32))) (fp2 : Fld Z h0 a1 "java/util/ArrayList" "elementData" "[Ljava/lang/Object;" (.ref b)) (fp3 : Fld Z h0 a1 "java/util/AbstractList" "modCount" "I" (.int mc)) (fp4 : Arv Z h0 b k (.object "java/lang/Object") (10 : Int32) [(.ref el1), .null, .null, .null, .null, .null, .null, .null, .null, .null] .null) (fp5 : Ovr Z k "java/lang/Object") (fp6 : Exa Z h0 b "[Ljava/lang/Object;") (fp7 : Ins Z h0 a2 "java/lang/Object" true) (big_a1 : Z.heap.size ≤ a1) (big_b : Z.heap.size ≤ b) :
    own_MF l Z h0 own_y6 jdk_38_method_24_code 4 none ({ frames := 0, cells := 0, slots := 0, locals := 0 } : Room) #[(.ref a1), (.ref a2), (.ref b), (.int (1 : Int32))] (Q_add3_1 Z zc wd kd wl we ke weo wmo a1 a2 b k mc el1 h0) ws := by
  refine own_met (Q := (Q_add3_1 Z zc wd kd wl we ke weo wmo a1 a2 b k mc el1 h0)) _ _ (plainFor_of_name own_pn_2) ?_
  intro p e s m below meth c T X0 hx hby hml hret hlk hZ hown hnm e0
  replace hown : s.vm.findClass "java/util/ArrayList" = some m.cls := hown
  replace hnm : meth.name = "add" := hnm
  have hml : c.maxLocals = 4 := hml
  obtain ⟨oCS, oCz, oDE, oDV, oEL, oLE, oLF, oLV, oEM, oMir⟩ := id hO
  have N0 := Fr.nil Z.heap.size
  have K0 := Keep.refl h0 [a1, b]
  refine own_go (fun _ k => castTop (ef_add3_1 m a1 a2 b) k) ?_
  show own_Go p e below s _ _ _ (T.setTop (mkF m 0 #[rv a1, rv a2, rv b, iv (1 : Int32)] []))
  refine own_go (fun _ k => XS.iloadN X0.here hx rfl (hb hby d12_0) rfl (XS.aloadN X0.here hx rfl (hb hby d12_1) rfl rfl k)) ?_
  show own_Go p e below s _ _ _ (T.setTop (mkF m 2 #[rv a1, rv a2, rv b, iv (1 : Int32)] [(.ref b), (.int (1 : Int32))]))
  obtain ⟨cl1, Ar1, -, S1, M1, -, -⟩ := id fp4
  refine own_go (X0.arraylength hx (by rw [e0]; exact Ar1.1) (State.isArrayOf_alike hZ.alike Ar1.2.1) (g := (mkF m 2 #[rv a1, rv a2, rv b, iv (1 : Int32)] [(.ref b), (.int (1 : Int32))])) rfl rfl (hb hby d12_2)) ?_
  rw [len_of S1 M1]
  refine own_go (fun _ k => XS.icmpYes X0.here hx rfl (pc0 := 3) (pc' := 11) rfl (hb hby d12_3) rfl (feq (by decide : ¬ ((1 : Int32) = (10 : Int32)))).2 (by decide) (by decide) (XS.aloadN X0.here hx rfl (hb hby d12_11) rfl rfl (XS.iloadN X0.here hx rfl (hb hby d12_12) rfl (XS.aloadN X0.here hx rfl (hb hby d12_13) rfl rfl k)))) ?_
  show own_Go p e below s _ _ _ (T.setTop (mkF m 14 #[rv a1, rv a2, rv b, iv (1 : Int32)] [(.ref a2), (.int (1 : Int32)), (.ref b)]))
  obtain ⟨cl2, Ar2, q2, S2, M2, P2, G2⟩ := id fp4
  have hin2 : ¬ ((1 : Int32) < 0 ∨ cl2.slots.size ≤ ((1 : Int32)).toNatClampNeg) := inb_of S2 ⟨by decide, by decide⟩
  obtain ⟨T3, h3, X3, e3, W3, st3⟩ := stR X0 hx hZ e0 Ar2 (j := (1 : Int32)) hin2 rfl (Sto.ofV Ar2 q2 fp5 (own_insKeep fp7 K0)) (g := (mkF m 14 #[rv a1, rv a2, rv b, iv (1 : Int32)] [(.ref a2), (.int (1 : Int32)), (.ref b)])) rfl rfl (hb hby d12_14)
  refine own_go st3 ?_
  clear st3 X0 e0
  have f4 : Arv Z h3 b k (.object "java/lang/Object") (10 : Int32) [(.ref el1), (.ref a2), .null, .null, .null, .null, .null, .null, .null, .null] .null := Arv.set Ar2 q2 S2 M2 P2 G2 rfl W3 1 rfl (Nat.le_of_ble_eq_true rfl)
  replace N0 := Fr.snoc X3 N0 big_b
  have ne5 : a1 ≠ b := (ne_exa fp0 fp6 (by decide))
  replace fp0 := fp0.wr W3
  replace fp1 := fp1.other W3 (Or.inl ne5)
  replace fp2 := fp2.other W3 (Or.inl ne5)
  replace fp3 := fp3.other W3 (Or.inl ne5)
  clear fp4
  replace fp6 := fp6.wr W3
  replace O0 := own_oldWr O0 W3 big_b
  replace K0 := K0.wr W3 (Or.inl (List.mem_of_getElem? (i := 1) rfl))
  clear W3
  clear Ar2 q2 S2 M2 P2 G2 hin2
  refine own_go (fun _ k => XS.aloadN X3.here hx rfl (hb hby d12_15) rfl rfl (XS.iloadN X3.here hx rfl (hb hby d12_16) rfl (XS.iconst X3.here hx rfl (hb hby d12_17) (XS.iadd X3.here hx rfl (hb hby d12_18) rfl k)))) ?_
  show own_Go p e below s _ _ _ (T3.setTop (mkF m 19 #[rv a1, rv a2, rv b, iv (1 : Int32)] [(.int (2 : Int32)), (.ref a1)]))
  obtain ⟨T6, h6, X6, e6, W6, st6⟩ := putF X3 hx hZ hown (host := "") (Or.inl (ow66 hw)) Via.refl e3 fp1 fp0 (Or.inl (ow67 hw)) (ow36 hw) (ty := .int) own_fd0 rfl rfl (g := (mkF m 19 #[rv a1, rv a2, rv b, iv (1 : Int32)] [(.int (2 : Int32)), (.ref a1)])) rfl rfl (hb hby d12_19)
  refine own_go st6 ?_
  clear st6 X3 e3
  replace N0 := Fr.snoc X6 N0 big_a1
  replace fp0 := fp0.wr W6
  replace fp1 := fp1.same W6
  replace fp2 := fp2.other W6 (.inr (own_sn2 hw).symm)
  replace fp3 := fp3.other W6 (.inr (own_sn0 hw).symm)
  replace fp6 := fp6.wr W6
  replace f4 := f4.other W6 ne5.symm
  replace O0 := own_oldWr O0 W6 big_a1
  replace K0 := K0.wr W6 (Or.inl (List.mem_of_getElem? (i := 0) rfl))
  clear W6
  show own_Go p e below s _ _ _ (T6.setTop (mkF m 22 #[rv a1, rv a2, rv b, iv (1 : Int32)] []))
  refine own_retV X6 hx hlk e6 hret (hb hby d12_22) (by show _ ≤ 0; omega) (by show _ ≤ 0; omega) ?_
  exact ⟨rfl, N0, K0, fp0, fp1, fp2, fp3, f4, fp5, fp6⟩
def Q_add1_1 (Z : State) (zc : Int32) (wd : Addr) (kd : ClassId) (wl : Addr) (we : Addr) (ke : ClassId) (weo : Addr) (wmo : Addr) (a1 : Addr) (a2 : Addr) (b : Addr) (k : ClassId) (mc : Int32) (el1 : Addr) (h0 : Heap) (v : Option Value) (h : Heap) (L : List Loc) : Prop := (v = some (.int (1 : Int32)) ∧ Fr Z.heap.size L ∧ Keep h0 h [a1, b] ∧ Exa Z h a1 "java/util/ArrayList" ∧ Fld Z h a1 "java/util/ArrayList" "size" "I" (.int (2 : Int32)) ∧ Fld Z h a1 "java/util/ArrayList" "elementData" "[Ljava/lang/Object;" (.ref b) ∧ Fld Z h a1 "java/util/AbstractList" "modCount" "I" (.int (mc + (1 : Int32))) ∧ Arv Z h b k (.object "java/lang/Object") (10 : Int32) [(.ref el1), (.ref a2), .null, .null, .null, .null, .null, .null, .null, .null] .null ∧ Ovr Z k "java/lang/Object" ∧ Exa Z h b "[Ljava/lang/Object;")
theorem ef_add1_1 (m : MethodId) (x0 : Addr) (x1 : Addr) : entryFrame m #[(.ref x0), (.ref x1)] 2 = mkF m 0 #[rv x0, rv x1] [] := by first | (simp [entryFrame, mkF, argsToLocals, Value.category]; done) | rfl
set_option maxRecDepth 65536 in
set_option maxHeartbeats 40000000 in
theorem rm_add1_1 (l : Launch) (Z : State) (a0 : Array Value) (hw : own_W Z a0) {zc : Int32} {wd : Addr} {kd : ClassId} {wl : Addr} {we : Addr} {ke : ClassId} {weo : Addr} {wmo : Addr} (hO : own_Olds Z zc wd kd wl we ke weo wmo) (ws : List Jvm.Cond) (a1 : Addr) (a2 : Addr) (b : Addr) (k : ClassId) (mc : Int32) (el1 : Addr) (h0 : Heap) (O0 : Ext Z.heap h0) (fp0 : Exa Z h0 a1 "java/util/ArrayList") (fp1 : Fld Z h0 a1 "java/util/ArrayList" "size" "I" (.int (1 : Int32))) (fp2 : Fld Z h0 a1 "java/util/ArrayList" "elementData" "[Ljava/lang/Object;" (.ref b)) (fp3 : Fld Z h0 a1 "java/util/AbstractList" "modCount" "I" (.int mc)) (fp4 : Arv Z h0 b k (.object "java/lang/Object") (10 : Int32) [(.ref el1), .null, .null, .null, .null, .null, .null, .null, .null, .null] .null) (fp5 : Ovr Z k "java/lang/Object") (fp6 : Exa Z h0 b "[Ljava/lang/Object;") (fp7 : Ins Z h0 a2 "java/lang/Object" true) (big_a1 : Z.heap.size ≤ a1) (big_b : Z.heap.size ≤ b) :
    own_MF l Z h0 own_y7 jdk_38_method_25_code 2 (some .boolean) ({ frames := 1, cells := 0, slots := 0, locals := 15 } : Room) #[(.ref a1), (.ref a2)] (Q_add1_1 Z zc wd kd wl we ke weo wmo a1 a2 b k mc el1 h0) ws := by
  refine own_met (Q := (Q_add1_1 Z zc wd kd wl we ke weo wmo a1 a2 b k mc el1 h0)) _ _ (plainFor_of_name own_pn_2) ?_
  intro p e s m below meth c T X0 hx hby hml hret hlk hZ hown hnm e0
  replace hown : s.vm.findClass "java/util/ArrayList" = some m.cls := hown
  replace hnm : meth.name = "add" := hnm
  have hml : c.maxLocals = 2 := hml
  obtain ⟨oCS, oCz, oDE, oDV, oEL, oLE, oLF, oLV, oEM, oMir⟩ := id hO
  have N0 := Fr.nil Z.heap.size
  have K0 := Keep.refl h0 [a1, b]
  refine own_go (fun _ k => castTop (ef_add1_1 m a1 a2) k) ?_
  show own_Go p e below s _ _ _ (T.setTop (mkF m 0 #[rv a1, rv a2] []))
  refine own_go (fun _ k => XS.aloadN X0.here hx rfl (hb hby d11_0) rfl rfl (XS.dup X0.here hx rfl (hb hby d11_1) rfl rfl k)) ?_
  obtain ⟨T1, X1, e1, st1⟩ := getF X0 hx hZ hown (host := "") (Or.inl (ow64 hw)) (Via.of (ow65 hw)) e0 fp3 (g := (mkF m 2 #[rv a1, rv a2] [(.ref a1), (.ref a1)])) rfl rfl (hb hby d11_2)
  refine own_go st1 ?_
  clear st1 X0 e0
  refine own_go (fun _ k => XS.iconst X1.here hx rfl (hb hby d11_5) (XS.iadd X1.here hx rfl (hb hby d11_6) rfl k)) ?_
  show own_Go p e below s _ _ _ (T1.setTop (mkF m 7 #[rv a1, rv a2] [(.int (mc + (1 : Int32))), (.ref a1)]))
  obtain ⟨T2, h2, X2, e2, W2, st2⟩ := putF X1 hx hZ hown (host := "") (Or.inl (ow64 hw)) (Via.of (ow65 hw)) e1 fp3 fp0 (Or.inl (ow55 hw)) (ow36 hw) (ty := .int) own_fd0 rfl rfl (g := (mkF m 7 #[rv a1, rv a2] [(.int (mc + (1 : Int32))), (.ref a1)])) rfl rfl (hb hby d11_7)
  refine own_go st2 ?_
  clear st2 X1 e1
  replace N0 := Fr.snoc X2 N0 big_a1
  have ne3 : b ≠ a1 := (ne_exa fp6 fp0 (by decide))
  replace fp0 := fp0.wr W2
  replace fp1 := fp1.other W2 (.inr (own_sn0 hw))
  replace fp2 := fp2.other W2 (.inr (own_sn1 hw))
  replace fp3 := fp3.same W2
  replace fp4 := fp4.other W2 ne3
  replace fp6 := fp6.wr W2
  replace O0 := own_oldWr O0 W2 big_a1
  replace K0 := K0.wr W2 (Or.inl (List.mem_of_getElem? (i := 0) rfl))
  clear W2
  refine own_go (fun _ k => XS.aloadN X2.here hx rfl (hb hby d11_10) rfl rfl (XS.aloadN X2.here hx rfl (hb hby d11_11) rfl rfl (XS.aloadN X2.here hx rfl (hb hby d11_12) rfl rfl k))) ?_
  obtain ⟨T4, X4, e4, st4⟩ := getF X2 hx hZ hown (host := "") (Or.inl (ow57 hw)) Via.refl e2 fp2 (g := (mkF m 13 #[rv a1, rv a2] [(.ref a1), (.ref a2), (.ref a1)])) rfl rfl (hb hby d11_13)
  refine own_go st4 ?_
  clear st4 X2 e2
  show own_Go p e below s _ _ _ (T4.setTop (mkF m 16 #[rv a1, rv a2] [(.ref b), (.ref a2), (.ref a1)]))
  refine own_go (fun _ k => XS.aloadN X4.here hx rfl (hb hby d11_16) rfl rfl k) ?_
  obtain ⟨T5, X5, e5, st5⟩ := getF X4 hx hZ hown (host := "") (Or.inl (ow66 hw)) Via.refl e4 fp1 (g := (mkF m 17 #[rv a1, rv a2] [(.ref a1), (.ref b), (.ref a2), (.ref a1)])) rfl rfl (hb hby d11_17)
  refine own_go st5 ?_
  clear st5 X4 e4
  obtain ⟨v6, T6, L6, X6, hQ6, st6⟩ := own_callP (y := own_y6) X5 hx hZ hown (ow68 hw) (ow69 hw) (ow71 hw) (ow70 hw) (ow37 hw) (ow72 hw) (rm_add3_1 l Z a0 hw hO [] a1 a2 b k (mc + (1 : Int32)) el1 h2 O0 fp0 fp1 fp2 fp3 fp4 fp5 fp6 (own_insKeep fp7 K0) big_a1 big_b) 0 0 0 (by show _ ≤ 0; omega) (by show _ ≤ 0; omega) e5 fp0 (g := (mkF m 20 #[rv a1, rv a2] [(.int (1 : Int32)), (.ref b), (.ref a2), (.ref a1)])) rfl (by rw [hml]; rfl) [(.ref a2), (.ref b), (.int (1 : Int32))] [] (lenOf own_pd_4 rfl) rfl rfl (hb hby d11_20)
  obtain ⟨rfl, Nc15, Kc14, f7, f8, f9, f10, f11, f12, f13⟩ := hQ6
  refine own_go st6 ?_
  clear st6 X5 e5
  replace N0 := Fr.app N0 Nc15
  clear Nc15
  replace fp0 := fp0.keep Kc14
  clear fp1
  clear fp2
  clear fp3
  clear fp4
  replace fp6 := fp6.keep Kc14
  replace O0 := own_oldKeep O0 Kc14 (allS big_a1 (allS big_b all0))
  replace K0 := K0.trans Kc14 (allS (Or.inl (List.mem_of_getElem? (i := 0) rfl)) (allS (Or.inl (List.mem_of_getElem? (i := 1) rfl)) all0))
  clear Kc14
  refine own_go (fun _ k => XS.iconst X6.here hx rfl (hb hby d11_23) k) ?_
  show own_Go p e below s _ _ _ (T6.setTop (mkF m 24 #[rv a1, rv a2] [(.int (1 : Int32))]))
  refine own_retN X6 hx hlk (rfl : T6.heap = T6.heap) (t := .boolean) hret (by simp) (hb hby d11_24) (by show _ ≤ 0; omega) (by show _ ≤ 0; omega) ?_
  exact ⟨rfl, N0, K0, f7, f8, f9, f10, f11, f12, f13⟩
def Q_add3_2 (Z : State) (zc : Int32) (wd : Addr) (kd : ClassId) (wl : Addr) (we : Addr) (ke : ClassId) (weo : Addr) (wmo : Addr) (a1 : Addr) (a2 : Addr) (b : Addr) (k : ClassId) (mc : Int32) (el1 : Addr) (el2 : Addr) (h0 : Heap) (v : Option Value) (h : Heap) (L : List Loc) : Prop := (v = none ∧ Fr Z.heap.size L ∧ Keep h0 h [a1, b] ∧ Exa Z h a1 "java/util/ArrayList" ∧ Fld Z h a1 "java/util/ArrayList" "size" "I" (.int (3 : Int32)) ∧ Fld Z h a1 "java/util/ArrayList" "elementData" "[Ljava/lang/Object;" (.ref b) ∧ Fld Z h a1 "java/util/AbstractList" "modCount" "I" (.int mc) ∧ Arv Z h b k (.object "java/lang/Object") (10 : Int32) [(.ref el1), (.ref el2), (.ref a2), .null, .null, .null, .null, .null, .null, .null] .null ∧ Ovr Z k "java/lang/Object" ∧ Exa Z h b "[Ljava/lang/Object;")
theorem ef_add3_2 (m : MethodId) (x0 : Addr) (x1 : Addr) (x2 : Addr) : entryFrame m #[(.ref x0), (.ref x1), (.ref x2), (.int (2 : Int32))] 4 = mkF m 0 #[rv x0, rv x1, rv x2, iv (2 : Int32)] [] := by first | (simp [entryFrame, mkF, argsToLocals, Value.category]; done) | rfl
set_option maxRecDepth 65536 in
set_option maxHeartbeats 40000000 in
theorem rm_add3_2 (l : Launch) (Z : State) (a0 : Array Value) (hw : own_W Z a0) {zc : Int32} {wd : Addr} {kd : ClassId} {wl : Addr} {we : Addr} {ke : ClassId} {weo : Addr} {wmo : Addr} (hO : own_Olds Z zc wd kd wl we ke weo wmo) (ws : List Jvm.Cond) (a1 : Addr) (a2 : Addr) (b : Addr) (k : ClassId) (mc : Int32) (el1 : Addr) (el2 : Addr) (h0 : Heap) (O0 : Ext Z.heap h0) (fp0 : Exa Z h0 a1 "java/util/ArrayList") (fp1 : Fld Z h0 a1 "java/util/ArrayList" "size" "I" (.int (2 : Int32))) (fp2 : Fld Z h0 a1 "java/util/ArrayList" "elementData" "[Ljava/lang/Object;" (.ref b)) (fp3 : Fld Z h0 a1 "java/util/AbstractList" "modCount" "I" (.int mc)) (fp4 : Arv Z h0 b k (.object "java/lang/Object") (10 : Int32) [(.ref el1), (.ref el2), .null, .null, .null, .null, .null, .null, .null, .null] .null) (fp5 : Ovr Z k "java/lang/Object") (fp6 : Exa Z h0 b "[Ljava/lang/Object;") (fp7 : Ins Z h0 a2 "java/lang/Object" true) (big_a1 : Z.heap.size ≤ a1) (big_b : Z.heap.size ≤ b) :
    own_MF l Z h0 own_y6 jdk_38_method_24_code 4 none ({ frames := 0, cells := 0, slots := 0, locals := 0 } : Room) #[(.ref a1), (.ref a2), (.ref b), (.int (2 : Int32))] (Q_add3_2 Z zc wd kd wl we ke weo wmo a1 a2 b k mc el1 el2 h0) ws := by
  refine own_met (Q := (Q_add3_2 Z zc wd kd wl we ke weo wmo a1 a2 b k mc el1 el2 h0)) _ _ (plainFor_of_name own_pn_2) ?_
  intro p e s m below meth c T X0 hx hby hml hret hlk hZ hown hnm e0
  replace hown : s.vm.findClass "java/util/ArrayList" = some m.cls := hown
  replace hnm : meth.name = "add" := hnm
  have hml : c.maxLocals = 4 := hml
  obtain ⟨oCS, oCz, oDE, oDV, oEL, oLE, oLF, oLV, oEM, oMir⟩ := id hO
  have N0 := Fr.nil Z.heap.size
  have K0 := Keep.refl h0 [a1, b]
  refine own_go (fun _ k => castTop (ef_add3_2 m a1 a2 b) k) ?_
  show own_Go p e below s _ _ _ (T.setTop (mkF m 0 #[rv a1, rv a2, rv b, iv (2 : Int32)] []))
  refine own_go (fun _ k => XS.iloadN X0.here hx rfl (hb hby d12_0) rfl (XS.aloadN X0.here hx rfl (hb hby d12_1) rfl rfl k)) ?_
  show own_Go p e below s _ _ _ (T.setTop (mkF m 2 #[rv a1, rv a2, rv b, iv (2 : Int32)] [(.ref b), (.int (2 : Int32))]))
  obtain ⟨cl1, Ar1, -, S1, M1, -, -⟩ := id fp4
  refine own_go (X0.arraylength hx (by rw [e0]; exact Ar1.1) (State.isArrayOf_alike hZ.alike Ar1.2.1) (g := (mkF m 2 #[rv a1, rv a2, rv b, iv (2 : Int32)] [(.ref b), (.int (2 : Int32))])) rfl rfl (hb hby d12_2)) ?_
  rw [len_of S1 M1]
  refine own_go (fun _ k => XS.icmpYes X0.here hx rfl (pc0 := 3) (pc' := 11) rfl (hb hby d12_3) rfl (feq (by decide : ¬ ((2 : Int32) = (10 : Int32)))).2 (by decide) (by decide) (XS.aloadN X0.here hx rfl (hb hby d12_11) rfl rfl (XS.iloadN X0.here hx rfl (hb hby d12_12) rfl (XS.aloadN X0.here hx rfl (hb hby d12_13) rfl rfl k)))) ?_
  show own_Go p e below s _ _ _ (T.setTop (mkF m 14 #[rv a1, rv a2, rv b, iv (2 : Int32)] [(.ref a2), (.int (2 : Int32)), (.ref b)]))
  obtain ⟨cl2, Ar2, q2, S2, M2, P2, G2⟩ := id fp4
  have hin2 : ¬ ((2 : Int32) < 0 ∨ cl2.slots.size ≤ ((2 : Int32)).toNatClampNeg) := inb_of S2 ⟨by decide, by decide⟩
  obtain ⟨T3, h3, X3, e3, W3, st3⟩ := stR X0 hx hZ e0 Ar2 (j := (2 : Int32)) hin2 rfl (Sto.ofV Ar2 q2 fp5 (own_insKeep fp7 K0)) (g := (mkF m 14 #[rv a1, rv a2, rv b, iv (2 : Int32)] [(.ref a2), (.int (2 : Int32)), (.ref b)])) rfl rfl (hb hby d12_14)
  refine own_go st3 ?_
  clear st3 X0 e0
  have f4 : Arv Z h3 b k (.object "java/lang/Object") (10 : Int32) [(.ref el1), (.ref el2), (.ref a2), .null, .null, .null, .null, .null, .null, .null] .null := Arv.set Ar2 q2 S2 M2 P2 G2 rfl W3 2 rfl (Nat.le_of_ble_eq_true rfl)
  replace N0 := Fr.snoc X3 N0 big_b
  have ne5 : a1 ≠ b := (ne_exa fp0 fp6 (by decide))
  replace fp0 := fp0.wr W3
  replace fp1 := fp1.other W3 (Or.inl ne5)
  replace fp2 := fp2.other W3 (Or.inl ne5)
  replace fp3 := fp3.other W3 (Or.inl ne5)
  clear fp4
  replace fp6 := fp6.wr W3
  replace O0 := own_oldWr O0 W3 big_b
  replace K0 := K0.wr W3 (Or.inl (List.mem_of_getElem? (i := 1) rfl))
  clear W3
  clear Ar2 q2 S2 M2 P2 G2 hin2
  refine own_go (fun _ k => XS.aloadN X3.here hx rfl (hb hby d12_15) rfl rfl (XS.iloadN X3.here hx rfl (hb hby d12_16) rfl (XS.iconst X3.here hx rfl (hb hby d12_17) (XS.iadd X3.here hx rfl (hb hby d12_18) rfl k)))) ?_
  show own_Go p e below s _ _ _ (T3.setTop (mkF m 19 #[rv a1, rv a2, rv b, iv (2 : Int32)] [(.int (3 : Int32)), (.ref a1)]))
  obtain ⟨T6, h6, X6, e6, W6, st6⟩ := putF X3 hx hZ hown (host := "") (Or.inl (ow66 hw)) Via.refl e3 fp1 fp0 (Or.inl (ow67 hw)) (ow36 hw) (ty := .int) own_fd0 rfl rfl (g := (mkF m 19 #[rv a1, rv a2, rv b, iv (2 : Int32)] [(.int (3 : Int32)), (.ref a1)])) rfl rfl (hb hby d12_19)
  refine own_go st6 ?_
  clear st6 X3 e3
  replace N0 := Fr.snoc X6 N0 big_a1
  replace fp0 := fp0.wr W6
  replace fp1 := fp1.same W6
  replace fp2 := fp2.other W6 (.inr (own_sn2 hw).symm)
  replace fp3 := fp3.other W6 (.inr (own_sn0 hw).symm)
  replace fp6 := fp6.wr W6
  replace f4 := f4.other W6 ne5.symm
  replace O0 := own_oldWr O0 W6 big_a1
  replace K0 := K0.wr W6 (Or.inl (List.mem_of_getElem? (i := 0) rfl))
  clear W6
  show own_Go p e below s _ _ _ (T6.setTop (mkF m 22 #[rv a1, rv a2, rv b, iv (2 : Int32)] []))
  refine own_retV X6 hx hlk e6 hret (hb hby d12_22) (by show _ ≤ 0; omega) (by show _ ≤ 0; omega) ?_
  exact ⟨rfl, N0, K0, fp0, fp1, fp2, fp3, f4, fp5, fp6⟩
def Q_add1_2 (Z : State) (zc : Int32) (wd : Addr) (kd : ClassId) (wl : Addr) (we : Addr) (ke : ClassId) (weo : Addr) (wmo : Addr) (a1 : Addr) (a2 : Addr) (b : Addr) (k : ClassId) (mc : Int32) (el1 : Addr) (el2 : Addr) (h0 : Heap) (v : Option Value) (h : Heap) (L : List Loc) : Prop := (v = some (.int (1 : Int32)) ∧ Fr Z.heap.size L ∧ Keep h0 h [a1, b] ∧ Exa Z h a1 "java/util/ArrayList" ∧ Fld Z h a1 "java/util/ArrayList" "size" "I" (.int (3 : Int32)) ∧ Fld Z h a1 "java/util/ArrayList" "elementData" "[Ljava/lang/Object;" (.ref b) ∧ Fld Z h a1 "java/util/AbstractList" "modCount" "I" (.int (mc + (1 : Int32))) ∧ Arv Z h b k (.object "java/lang/Object") (10 : Int32) [(.ref el1), (.ref el2), (.ref a2), .null, .null, .null, .null, .null, .null, .null] .null ∧ Ovr Z k "java/lang/Object" ∧ Exa Z h b "[Ljava/lang/Object;")
theorem ef_add1_2 (m : MethodId) (x0 : Addr) (x1 : Addr) : entryFrame m #[(.ref x0), (.ref x1)] 2 = mkF m 0 #[rv x0, rv x1] [] := by first | (simp [entryFrame, mkF, argsToLocals, Value.category]; done) | rfl
set_option maxRecDepth 65536 in
set_option maxHeartbeats 40000000 in
theorem rm_add1_2 (l : Launch) (Z : State) (a0 : Array Value) (hw : own_W Z a0) {zc : Int32} {wd : Addr} {kd : ClassId} {wl : Addr} {we : Addr} {ke : ClassId} {weo : Addr} {wmo : Addr} (hO : own_Olds Z zc wd kd wl we ke weo wmo) (ws : List Jvm.Cond) (a1 : Addr) (a2 : Addr) (b : Addr) (k : ClassId) (mc : Int32) (el1 : Addr) (el2 : Addr) (h0 : Heap) (O0 : Ext Z.heap h0) (fp0 : Exa Z h0 a1 "java/util/ArrayList") (fp1 : Fld Z h0 a1 "java/util/ArrayList" "size" "I" (.int (2 : Int32))) (fp2 : Fld Z h0 a1 "java/util/ArrayList" "elementData" "[Ljava/lang/Object;" (.ref b)) (fp3 : Fld Z h0 a1 "java/util/AbstractList" "modCount" "I" (.int mc)) (fp4 : Arv Z h0 b k (.object "java/lang/Object") (10 : Int32) [(.ref el1), (.ref el2), .null, .null, .null, .null, .null, .null, .null, .null] .null) (fp5 : Ovr Z k "java/lang/Object") (fp6 : Exa Z h0 b "[Ljava/lang/Object;") (fp7 : Ins Z h0 a2 "java/lang/Object" true) (big_a1 : Z.heap.size ≤ a1) (big_b : Z.heap.size ≤ b) :
    own_MF l Z h0 own_y7 jdk_38_method_25_code 2 (some .boolean) ({ frames := 1, cells := 0, slots := 0, locals := 15 } : Room) #[(.ref a1), (.ref a2)] (Q_add1_2 Z zc wd kd wl we ke weo wmo a1 a2 b k mc el1 el2 h0) ws := by
  refine own_met (Q := (Q_add1_2 Z zc wd kd wl we ke weo wmo a1 a2 b k mc el1 el2 h0)) _ _ (plainFor_of_name own_pn_2) ?_
  intro p e s m below meth c T X0 hx hby hml hret hlk hZ hown hnm e0
  replace hown : s.vm.findClass "java/util/ArrayList" = some m.cls := hown
  replace hnm : meth.name = "add" := hnm
  have hml : c.maxLocals = 2 := hml
  obtain ⟨oCS, oCz, oDE, oDV, oEL, oLE, oLF, oLV, oEM, oMir⟩ := id hO
  have N0 := Fr.nil Z.heap.size
  have K0 := Keep.refl h0 [a1, b]
  refine own_go (fun _ k => castTop (ef_add1_2 m a1 a2) k) ?_
  show own_Go p e below s _ _ _ (T.setTop (mkF m 0 #[rv a1, rv a2] []))
  refine own_go (fun _ k => XS.aloadN X0.here hx rfl (hb hby d11_0) rfl rfl (XS.dup X0.here hx rfl (hb hby d11_1) rfl rfl k)) ?_
  obtain ⟨T1, X1, e1, st1⟩ := getF X0 hx hZ hown (host := "") (Or.inl (ow64 hw)) (Via.of (ow65 hw)) e0 fp3 (g := (mkF m 2 #[rv a1, rv a2] [(.ref a1), (.ref a1)])) rfl rfl (hb hby d11_2)
  refine own_go st1 ?_
  clear st1 X0 e0
  refine own_go (fun _ k => XS.iconst X1.here hx rfl (hb hby d11_5) (XS.iadd X1.here hx rfl (hb hby d11_6) rfl k)) ?_
  show own_Go p e below s _ _ _ (T1.setTop (mkF m 7 #[rv a1, rv a2] [(.int (mc + (1 : Int32))), (.ref a1)]))
  obtain ⟨T2, h2, X2, e2, W2, st2⟩ := putF X1 hx hZ hown (host := "") (Or.inl (ow64 hw)) (Via.of (ow65 hw)) e1 fp3 fp0 (Or.inl (ow55 hw)) (ow36 hw) (ty := .int) own_fd0 rfl rfl (g := (mkF m 7 #[rv a1, rv a2] [(.int (mc + (1 : Int32))), (.ref a1)])) rfl rfl (hb hby d11_7)
  refine own_go st2 ?_
  clear st2 X1 e1
  replace N0 := Fr.snoc X2 N0 big_a1
  have ne3 : b ≠ a1 := (ne_exa fp6 fp0 (by decide))
  replace fp0 := fp0.wr W2
  replace fp1 := fp1.other W2 (.inr (own_sn0 hw))
  replace fp2 := fp2.other W2 (.inr (own_sn1 hw))
  replace fp3 := fp3.same W2
  replace fp4 := fp4.other W2 ne3
  replace fp6 := fp6.wr W2
  replace O0 := own_oldWr O0 W2 big_a1
  replace K0 := K0.wr W2 (Or.inl (List.mem_of_getElem? (i := 0) rfl))
  clear W2
  refine own_go (fun _ k => XS.aloadN X2.here hx rfl (hb hby d11_10) rfl rfl (XS.aloadN X2.here hx rfl (hb hby d11_11) rfl rfl (XS.aloadN X2.here hx rfl (hb hby d11_12) rfl rfl k))) ?_
  obtain ⟨T4, X4, e4, st4⟩ := getF X2 hx hZ hown (host := "") (Or.inl (ow57 hw)) Via.refl e2 fp2 (g := (mkF m 13 #[rv a1, rv a2] [(.ref a1), (.ref a2), (.ref a1)])) rfl rfl (hb hby d11_13)
  refine own_go st4 ?_
  clear st4 X2 e2
  show own_Go p e below s _ _ _ (T4.setTop (mkF m 16 #[rv a1, rv a2] [(.ref b), (.ref a2), (.ref a1)]))
  refine own_go (fun _ k => XS.aloadN X4.here hx rfl (hb hby d11_16) rfl rfl k) ?_
  obtain ⟨T5, X5, e5, st5⟩ := getF X4 hx hZ hown (host := "") (Or.inl (ow66 hw)) Via.refl e4 fp1 (g := (mkF m 17 #[rv a1, rv a2] [(.ref a1), (.ref b), (.ref a2), (.ref a1)])) rfl rfl (hb hby d11_17)
  refine own_go st5 ?_
  clear st5 X4 e4
  obtain ⟨v6, T6, L6, X6, hQ6, st6⟩ := own_callP (y := own_y6) X5 hx hZ hown (ow68 hw) (ow69 hw) (ow71 hw) (ow70 hw) (ow37 hw) (ow72 hw) (rm_add3_2 l Z a0 hw hO [] a1 a2 b k (mc + (1 : Int32)) el1 el2 h2 O0 fp0 fp1 fp2 fp3 fp4 fp5 fp6 (own_insKeep fp7 K0) big_a1 big_b) 0 0 0 (by show _ ≤ 0; omega) (by show _ ≤ 0; omega) e5 fp0 (g := (mkF m 20 #[rv a1, rv a2] [(.int (2 : Int32)), (.ref b), (.ref a2), (.ref a1)])) rfl (by rw [hml]; rfl) [(.ref a2), (.ref b), (.int (2 : Int32))] [] (lenOf own_pd_4 rfl) rfl rfl (hb hby d11_20)
  obtain ⟨rfl, Nc15, Kc14, f7, f8, f9, f10, f11, f12, f13⟩ := hQ6
  refine own_go st6 ?_
  clear st6 X5 e5
  replace N0 := Fr.app N0 Nc15
  clear Nc15
  replace fp0 := fp0.keep Kc14
  clear fp1
  clear fp2
  clear fp3
  clear fp4
  replace fp6 := fp6.keep Kc14
  replace O0 := own_oldKeep O0 Kc14 (allS big_a1 (allS big_b all0))
  replace K0 := K0.trans Kc14 (allS (Or.inl (List.mem_of_getElem? (i := 0) rfl)) (allS (Or.inl (List.mem_of_getElem? (i := 1) rfl)) all0))
  clear Kc14
  refine own_go (fun _ k => XS.iconst X6.here hx rfl (hb hby d11_23) k) ?_
  show own_Go p e below s _ _ _ (T6.setTop (mkF m 24 #[rv a1, rv a2] [(.int (1 : Int32))]))
  refine own_retN X6 hx hlk (rfl : T6.heap = T6.heap) (t := .boolean) hret (by simp) (hb hby d11_24) (by show _ ≤ 0; omega) (by show _ ≤ 0; omega) ?_
  exact ⟨rfl, N0, K0, f7, f8, f9, f10, f11, f12, f13⟩
theorem d1_0 : decode method_2_code 0 = .ok (.iconst 2, 1) := by decide +kernel
theorem d1_1 : decode method_2_code 1 = .ok (.newarray .char, 2) := by decide +kernel
theorem d1_3 : decode method_2_code 3 = .ok (.astore_n 1, 1) := by decide +kernel
theorem d1_4 : decode method_2_code 4 = .ok (.aload_n 1, 1) := by decide +kernel
theorem d1_5 : decode method_2_code 5 = .ok (.iconst 0, 1) := by decide +kernel
theorem d1_6 : decode method_2_code 6 = .ok (.iload_n 0, 1) := by decide +kernel
theorem d1_7 : decode method_2_code 7 = .ok (.sipush 255, 3) := by decide +kernel
theorem d1_10 : decode method_2_code 10 = .ok (.iand, 1) := by decide +kernel
theorem d1_11 : decode method_2_code 11 = .ok (.i2c, 1) := by decide +kernel
theorem d1_12 : decode method_2_code 12 = .ok (.castore, 1) := by decide +kernel
theorem d1_13 : decode method_2_code 13 = .ok (.aload_n 1, 1) := by decide +kernel
theorem d1_14 : decode method_2_code 14 = .ok (.iconst 1, 1) := by decide +kernel
theorem d1_15 : decode method_2_code 15 = .ok (.iload_n 0, 1) := by decide +kernel
theorem d1_16 : decode method_2_code 16 = .ok (.bipush 8, 2) := by decide +kernel
theorem d1_18 : decode method_2_code 18 = .ok (.iushr, 1) := by decide +kernel
theorem d1_19 : decode method_2_code 19 = .ok (.sipush 255, 3) := by decide +kernel
theorem d1_22 : decode method_2_code 22 = .ok (.iand, 1) := by decide +kernel
theorem d1_23 : decode method_2_code 23 = .ok (.i2c, 1) := by decide +kernel
theorem d1_24 : decode method_2_code 24 = .ok (.castore, 1) := by decide +kernel
theorem d1_25 : decode method_2_code 25 = .ok (.new 7, 3) := by decide +kernel
theorem d1_28 : decode method_2_code 28 = .ok (.dup, 1) := by decide +kernel
theorem d1_29 : decode method_2_code 29 = .ok (.aload_n 1, 1) := by decide +kernel
theorem d1_30 : decode method_2_code 30 = .ok (.invokespecial 9, 3) := by decide +kernel
theorem d1_33 : decode method_2_code 33 = .ok (.areturn, 1) := by decide +kernel
def Q_str (Z : State) (zc : Int32) (wd : Addr) (kd : ClassId) (wl : Addr) (we : Addr) (ke : ClassId) (weo : Addr) (wmo : Addr) (p1 : Int32) (h0 : Heap) (v : Option Value) (h : Heap) (L : List Loc) : Prop := (∃ b : Addr, v = some (.ref b) ∧ Fr Z.heap.size L ∧ Keep h0 h [] ∧ h0.size ≤ b ∧ Exa Z h b "java/lang/String")
theorem ef_str (m : MethodId) (x0 : Int32) : entryFrame m #[(.int x0)] 2 = mkF m 0 #[iv x0, .unset] [] := by first | (simp [entryFrame, mkF, argsToLocals, Value.category]; done) | rfl
set_option maxRecDepth 65536 in
set_option maxHeartbeats 40000000 in
theorem rm_str (l : Launch) (Z : State) (a0 : Array Value) (hw : own_W Z a0) {zc : Int32} {wd : Addr} {kd : ClassId} {wl : Addr} {we : Addr} {ke : ClassId} {weo : Addr} {wmo : Addr} (hO : own_Olds Z zc wd kd wl we ke weo wmo) (ws : List Jvm.Cond) (p1 : Int32) (h0 : Heap) (O0 : Ext Z.heap h0) :
    own_MF l Z h0 own_y9 method_2_code 2 (some (.object "java/lang/String")) ({ frames := 4, cells := 3, slots := 8, locals := 66 } : Room) #[(.int p1)] (Q_str Z zc wd kd wl we ke weo wmo p1 h0) ws := by
  refine own_met (Q := (Q_str Z zc wd kd wl we ke weo wmo p1 h0)) _ _ (plainFor_of_name own_pn_3) ?_
  intro p e s m below meth c T X0 hx hby hml hret hlk hZ hown hnm e0
  replace hown : s.vm.findClass "com/example/ibex/ibex/model/DimensionKeyPinLaw" = some m.cls := hown
  replace hnm : meth.name = "str" := hnm
  have hml : c.maxLocals = 2 := hml
  obtain ⟨oCS, oCz, oDE, oDV, oEL, oLE, oLF, oLV, oEM, oMir⟩ := id hO
  have N0 := Fr.nil Z.heap.size
  have K0 := Keep.refl h0 []
  refine own_go (fun _ k => castTop (ef_str m p1) k) ?_
  show own_Go p e below s _ _ _ (T.setTop (mkF m 0 #[iv p1, .unset] []))
  refine own_go (fun _ k => XS.iconst X0.here hx rfl (hb hby d1_0) k) ?_
  obtain ⟨T1, h1, k1, X1, e1, E1, A1, st1⟩ := newP (aty := .char) X0 hx hZ (ow5 hw) e0 (g := (mkF m 1 #[iv p1, .unset] [(.int (2 : Int32))])) rfl (hb hby d1_1) rfl (by decide) (cap := 2) (by decide) (by decide) (by show _ ≤ 3; omega) (by show _ ≤ 8; omega)
  obtain ⟨b1, g1⟩ : ∃ z, z = h0.size := ⟨_, rfl⟩
  rw [← g1] at A1 st1
  refine own_go st1 ?_
  clear st1 X0 e0
  have ge1 := Nat.le_of_eq g1.symm
  have big2 : Z.heap.size ≤ b1 := Nat.le_trans O0.1 ge1
  have sz3 : h0.size ≤ b1 := Nat.le_trans K0.1 ge1
  replace O0 := own_oldExt O0 E1
  replace K0 := K0.ext E1
  clear E1
  have f4 : Arv Z h1 b1 k1 .char (2 : Int32) [(.int (0 : Int32)), (.int (0 : Int32))] (.int (0 : Int32)) := (Arv.new A1 (by decide)).pad (pad_rep [] (.int (0 : Int32)) 2)
  refine own_go (fun _ k => XS.astoreN X1.here hx rfl (hb hby d1_3) rfl rfl (l' := #[iv p1, rv b1]) rfl (XS.aloadN X1.here hx rfl (hb hby d1_4) rfl rfl (XS.iconst X1.here hx rfl (hb hby d1_5) k))) ?_
  show own_Go p e below s _ _ _ (T1.setTop (mkF m 6 #[iv p1, rv b1] [(.int (0 : Int32)), (.ref b1)]))
  refine own_go (fun _ k => XS.iloadN X1.here hx rfl (hb hby d1_6) rfl (XS.sipush X1.here hx rfl (hb hby d1_7) (XS.iand X1.here hx rfl (hb hby d1_10) rfl (XS.i2c X1.here hx rfl (hb hby d1_11) rfl k)))) ?_
  show own_Go p e below s _ _ _ (T1.setTop (mkF m 12 #[iv p1, rv b1] [(.int ((p1 &&& (255 : Int32)).toUInt32.toUInt16.toUInt32.toInt32)), (.int (0 : Int32)), (.ref b1)]))
  rw [i2c_mask p1]
  obtain ⟨cl5, Ar5, q5, S5, M5, P5, G5⟩ := id f4
  have hin5 : ¬ ((0 : Int32) < 0 ∨ cl5.slots.size ≤ ((0 : Int32)).toNatClampNeg) := inb_of S5 ⟨by decide, by decide⟩
  obtain ⟨T6, h6, X6, e6, W6, st6⟩ := stC X1 hx hZ e1 Ar5 (j := (0 : Int32)) hin5 (g := (mkF m 12 #[iv p1, rv b1] [(.int (p1 &&& (255 : Int32))), (.int (0 : Int32)), (.ref b1)])) rfl rfl (hb hby d1_12)
  refine own_go st6 ?_
  clear st6 X1 e1
  rw [own_narM p1] at W6
  have f7 : Arv Z h6 b1 k1 .char (2 : Int32) [(.int (p1 &&& (255 : Int32))), (.int (0 : Int32))] (.int (0 : Int32)) := Arv.set Ar5 q5 S5 M5 P5 G5 (by have q := fits_nar_char (p1 &&& (255 : Int32)); rw [own_narM p1] at q; exact q) W6 0 rfl (Nat.le_of_ble_eq_true rfl)
  replace N0 := Fr.snoc X6 N0 big2
  clear f4
  replace O0 := own_oldWr O0 W6 big2
  replace K0 := K0.wr W6 (Or.inr sz3)
  clear W6
  clear Ar5 q5 S5 M5 P5 G5 hin5
  show own_Go p e below s _ _ _ (T6.setTop (mkF m 13 #[iv p1, rv b1] []))
  refine own_go (fun _ k => XS.aloadN X6.here hx rfl (hb hby d1_13) rfl rfl (XS.iconst X6.here hx rfl (hb hby d1_14) (XS.iloadN X6.here hx rfl (hb hby d1_15) rfl (XS.bipush X6.here hx rfl (hb hby d1_16) (XS.iushr X6.here hx rfl (hb hby d1_18) rfl k))))) ?_
  show own_Go p e below s _ _ _ (T6.setTop (mkF m 19 #[iv p1, rv b1] [(.int ((p1.toUInt32 >>> ((8 : Int32) &&& 31).toUInt32).toInt32)), (.int (1 : Int32)), (.ref b1)]))
  refine own_go (fun _ k => XS.sipush X6.here hx rfl (hb hby d1_19) (XS.iand X6.here hx rfl (hb hby d1_22) rfl (XS.i2c X6.here hx rfl (hb hby d1_23) rfl k))) ?_
  show own_Go p e below s _ _ _ (T6.setTop (mkF m 24 #[iv p1, rv b1] [(.int ((((p1.toUInt32 >>> ((8 : Int32) &&& 31).toUInt32).toInt32) &&& (255 : Int32)).toUInt32.toUInt16.toUInt32.toInt32)), (.int (1 : Int32)), (.ref b1)]))
  rw [i2c_mask ((p1.toUInt32 >>> ((8 : Int32) &&& 31).toUInt32).toInt32)]
  obtain ⟨cl8, Ar8, q8, S8, M8, P8, G8⟩ := id f7
  have hin8 : ¬ ((1 : Int32) < 0 ∨ cl8.slots.size ≤ ((1 : Int32)).toNatClampNeg) := inb_of S8 ⟨by decide, by decide⟩
  obtain ⟨T9, h9, X9, e9, W9, st9⟩ := stC X6 hx hZ e6 Ar8 (j := (1 : Int32)) hin8 (g := (mkF m 24 #[iv p1, rv b1] [(.int (((p1.toUInt32 >>> ((8 : Int32) &&& 31).toUInt32).toInt32) &&& (255 : Int32))), (.int (1 : Int32)), (.ref b1)])) rfl rfl (hb hby d1_24)
  refine own_go st9 ?_
  clear st9 X6 e6
  rw [own_narM ((p1.toUInt32 >>> ((8 : Int32) &&& 31).toUInt32).toInt32)] at W9
  have f10 : Arv Z h9 b1 k1 .char (2 : Int32) [(.int (p1 &&& (255 : Int32))), (.int (((p1.toUInt32 >>> ((8 : Int32) &&& 31).toUInt32).toInt32) &&& (255 : Int32)))] (.int (0 : Int32)) := Arv.set Ar8 q8 S8 M8 P8 G8 (by have q := fits_nar_char (((p1.toUInt32 >>> ((8 : Int32) &&& 31).toUInt32).toInt32) &&& (255 : Int32)); rw [own_narM ((p1.toUInt32 >>> ((8 : Int32) &&& 31).toUInt32).toInt32)] at q; exact q) W9 1 rfl (Nat.le_of_ble_eq_true rfl)
  replace N0 := Fr.snoc X9 N0 big2
  clear f7
  replace O0 := own_oldWr O0 W9 big2
  replace K0 := K0.wr W9 (Or.inr sz3)
  clear W9
  clear Ar8 q8 S8 M8 P8 G8 hin8
  obtain ⟨T11, h11, X11, e11, E11, A11, D11, -, st11⟩ := newO X9 hx hZ hown (ow6 hw) (ow7 hw) (ow8 hw) e9 (g := (mkF m 25 #[iv p1, rv b1] [])) rfl (hb hby d1_25) (by show _ ≤ 3; omega) (by show _ ≤ 8; omega)
  obtain ⟨b11, g11⟩ : ∃ z, z = h9.size := ⟨_, rfl⟩
  rw [← g11] at A11 D11 st11
  refine own_go st11 ?_
  clear st11 X9 e9
  have ge11 := Nat.le_of_eq g11.symm
  have ne12 : b1 ≠ b11 := Nat.ne_of_lt (Nat.lt_of_lt_of_le f10.lt ge11)
  have big13 : Z.heap.size ≤ b11 := Nat.le_trans O0.1 ge11
  have sz14 : h0.size ≤ b11 := Nat.le_trans K0.1 ge11
  replace f10 := f10.ext E11
  replace O0 := own_oldExt O0 E11
  replace K0 := K0.ext E11
  clear E11
  have f15 : Fld Z h11 b11 "java/lang/String" "coder" "B" (.int (0 : Int32)) := D11 (Or.inr (ow32 hw)) (ty := .byte) own_fd2
  have f16 : Fld Z h11 b11 "java/lang/String" "value" "[B" .null := D11 (Or.inr (ow34 hw)) (ty := (.array .byte)) own_fd3
  show own_Go p e below s _ _ _ (T11.setTop (mkF m 28 #[iv p1, rv b1] [(.ref b11)]))
  refine own_go (fun _ k => XS.dup X11.here hx rfl (hb hby d1_28) rfl rfl (XS.aloadN X11.here hx rfl (hb hby d1_29) rfl rfl k)) ?_
  obtain ⟨v17, T17, L17, X17, hQ17, st17⟩ := own_callIB (y := own_y8) X11 hx hZ hown (ow9 hw) (ow10 hw) (ow8 hw) (ow11 hw) 1 1 2 (StrChars.Road.backV (W := 1) hZ (own_sw1 hw) (kI := 4) (ow7 hw) (cs := ([(p1 &&& (255 : Int32)), (((p1.toUInt32 >>> ((8 : Int32) &&& 31).toUInt32).toInt32) &&& (255 : Int32))] : List Int32)) (bs := ([(p1 &&& (255 : Int32)), (((p1.toUInt32 >>> ((8 : Int32) &&& 31).toUInt32).toInt32) &&& (255 : Int32))] : List Int32).map (fun c => c.toInt8.toInt32)) (n := 2) (n0 := Z.heap.size) big13 (Nat.le_trans O0.1 (Nat.le_refl _)) A11 f16 f15 f10 (oCS.ext O0) oCz rfl rfl (by decide) (by decide) (own_cC (own_c8m p1) (own_cC (own_c8m ((p1.toUInt32 >>> ((8 : Int32) &&& 31).toUInt32).toInt32)) own_cN)) rfl (by decide) (by decide)) rfl (by show _ ≤ 3; omega) (by show _ ≤ 8; omega) e11 (g := (mkF m 30 #[iv p1, rv b1] [(.ref b1), (.ref b11), (.ref b11)])) rfl (by rw [hml]; rfl) b11 [(.ref b1)] [(.ref b11)] (lenOf own_pd_5 rfl) rfl rfl (hb hby d1_30)
  obtain ⟨rfl, Nc17, Kc17, f117, f217, t17, kb17, tb17, ts17, tn17, f317, f417⟩ := hQ17
  refine own_go st17 ?_
  clear st17 X11 e11
  replace N0 := Fr.app N0 Nc17
  clear Nc17
  have ne18 : b1 ≠ t17 := Nat.ne_of_lt (Nat.lt_of_lt_of_le f10.lt ts17)
  have ne19 : b11 ≠ t17 := Nat.ne_of_lt (Nat.lt_of_lt_of_le A11.lt ts17)
  have big20 : Z.heap.size ≤ t17 := Nat.le_trans O0.1 ts17
  have sz21 : h0.size ≤ t17 := Nat.le_trans K0.1 ts17
  replace f10 := f10.keep Kc17 (ninS ne12 nin0)
  replace A11 := A11.keep Kc17
  clear f15
  clear f16
  replace O0 := own_oldKeep O0 Kc17 (allS big13 all0)
  replace K0 := K0.trans Kc17 (allS (Or.inr sz14) all0)
  clear Kc17
  show own_Go p e below s _ _ _ (T17.setTop (mkF m 33 #[iv p1, rv b1] [(.ref b11)]))
  refine own_retA X17 hx hlk (rfl : T17.heap = T17.heap) hret rfl rfl (hb hby d1_33) (by show _ ≤ 3; omega) (by show _ ≤ 8; omega) ?_
  exact ⟨b11, rfl, N0, K0, sz14, f117⟩
theorem d25_0 : decode jdk_29_method_69_code 0 = .ok (.iload_n 0, 1) := by decide +kernel
theorem d25_1 : decode jdk_29_method_69_code 1 = .ok (.iload_n 1, 1) := by decide +kernel
theorem d25_2 : decode jdk_29_method_69_code 2 = .ok (.if_icmp .gt 7, 3) := by decide +kernel
theorem d25_5 : decode jdk_29_method_69_code 5 = .ok (.iload_n 0, 1) := by decide +kernel
theorem d25_6 : decode jdk_29_method_69_code 6 = .ok (.goto 4, 3) := by decide +kernel
theorem d25_9 : decode jdk_29_method_69_code 9 = .ok (.iload_n 1, 1) := by decide +kernel
theorem d25_10 : decode jdk_29_method_69_code 10 = .ok (.ireturn, 1) := by decide +kernel
def Q_mini (Z : State) (zc : Int32) (wd : Addr) (kd : ClassId) (wl : Addr) (we : Addr) (ke : ClassId) (weo : Addr) (wmo : Addr) (p1 : Int32) (p2 : Int32) (h0 : Heap) (v : Option Value) (h : Heap) (L : List Loc) : Prop := (v = some (.int p2) ∧ Fr Z.heap.size L ∧ p2 < p1 ∧ h = h0) ∨ (v = some (.int p1) ∧ Fr Z.heap.size L ∧ ¬ (p2 < p1) ∧ h = h0)
theorem ef_mini (m : MethodId) (x0 : Int32) (x1 : Int32) : entryFrame m #[(.int x0), (.int x1)] 2 = mkF m 0 #[iv x0, iv x1] [] := by first | (simp [entryFrame, mkF, argsToLocals, Value.category]; done) | rfl
set_option maxRecDepth 65536 in
set_option maxHeartbeats 40000000 in
theorem rm_mini (l : Launch) (Z : State) (a0 : Array Value) (hw : own_W Z a0) {zc : Int32} {wd : Addr} {kd : ClassId} {wl : Addr} {we : Addr} {ke : ClassId} {weo : Addr} {wmo : Addr} (hO : own_Olds Z zc wd kd wl we ke weo wmo) (ws : List Jvm.Cond) (p1 : Int32) (p2 : Int32) (h0 : Heap) (O0 : Ext Z.heap h0) :
    own_MF l Z h0 own_y10 jdk_29_method_69_code 2 (some .int) ({ frames := 0, cells := 0, slots := 0, locals := 0 } : Room) #[(.int p1), (.int p2)] (Q_mini Z zc wd kd wl we ke weo wmo p1 p2 h0) ws := by
  refine own_met (Q := (Q_mini Z zc wd kd wl we ke weo wmo p1 p2 h0)) _ _ (Jvm.Free.JP.mathPlain rfl (by decide +kernel)) ?_
  intro p e s m below meth c T X0 hx hby hml hret hlk hZ hown hnm e0
  replace hown : s.vm.findClass "java/lang/Math" = some m.cls := hown
  replace hnm : meth.name = "min" := hnm
  have hml : c.maxLocals = 2 := hml
  obtain ⟨oCS, oCz, oDE, oDV, oEL, oLE, oLF, oLV, oEM, oMir⟩ := id hO
  have N0 := Fr.nil Z.heap.size
  have K0 := Keep.refl h0 []
  refine own_go (fun _ k => castTop (ef_mini m p1 p2) k) ?_
  show own_Go p e below s _ _ _ (T.setTop (mkF m 0 #[iv p1, iv p2] []))
  refine own_go (fun _ k => XS.iloadN X0.here hx rfl (hb hby d25_0) rfl (XS.iloadN X0.here hx rfl (hb hby d25_1) rfl k)) ?_
  by_cases hc1 : p2 < p1
  · refine own_go (fun _ k => XS.icmpYes X0.here hx rfl (pc0 := 2) (pc' := 9) rfl (hb hby d25_2) rfl (tlt hc1).2.2.1 (by decide) (by decide) k) ?_
    show own_Go p e below s _ _ _ (T.setTop (mkF m 9 #[iv p1, iv p2] []))
    refine own_go (fun _ k => XS.iloadN X0.here hx rfl (hb hby d25_9) rfl k) ?_
    show own_Go p e below s _ _ _ (T.setTop (mkF m 10 #[iv p1, iv p2] [(.int p2)]))
    refine own_retI X0 hx hlk e0 hret (hb hby d25_10) (by show _ ≤ 0; omega) (by show _ ≤ 0; omega) ?_
    exact Or.inl ⟨rfl, N0, hc1, rfl⟩
  · refine own_go (fun _ k => XS.icmpNo X0.here hx rfl (hb hby d25_2) rfl (flt hc1).2.2.1 k) ?_
    show own_Go p e below s _ _ _ (T.setTop (mkF m 5 #[iv p1, iv p2] []))
    refine own_go (fun _ k => XS.iloadN X0.here hx rfl (hb hby d25_5) rfl (XS.goto X0.here hx rfl (pc0 := 6) (pc' := 10) rfl (hb hby d25_6) (by decide) (by decide) k)) ?_
    show own_Go p e below s _ _ _ (T.setTop (mkF m 10 #[iv p1, iv p2] [(.int p1)]))
    refine own_retI X0 hx hlk e0 hret (hb hby d25_10) (by show _ ≤ 0; omega) (by show _ ≤ 0; omega) ?_
    exact Or.inr (⟨rfl, N0, hc1, rfl⟩)
theorem d30_0 : decode jdk_31_method_10_code 0 = .ok (.aload_n 0, 1) := by decide +kernel
theorem d30_1 : decode jdk_31_method_10_code 1 = .ok (.ifnonnull 11, 3) := by decide +kernel
theorem d30_12 : decode jdk_31_method_10_code 12 = .ok (.aload_n 0, 1) := by decide +kernel
theorem d30_13 : decode jdk_31_method_10_code 13 = .ok (.areturn, 1) := by decide +kernel
def Q_rnn1 (Z : State) (zc : Int32) (wd : Addr) (kd : ClassId) (wl : Addr) (we : Addr) (ke : ClassId) (weo : Addr) (wmo : Addr) (a1 : Addr) (h0 : Heap) (v : Option Value) (h : Heap) (L : List Loc) : Prop := (v = some (.ref a1) ∧ Fr Z.heap.size L ∧ h = h0)
theorem ef_rnn1 (m : MethodId) (x0 : Addr) : entryFrame m #[(.ref x0)] 1 = mkF m 0 #[rv x0] [] := by first | (simp [entryFrame, mkF, argsToLocals, Value.category]; done) | rfl
set_option maxRecDepth 65536 in
set_option maxHeartbeats 40000000 in
theorem rm_rnn1 (l : Launch) (Z : State) (a0 : Array Value) (hw : own_W Z a0) {zc : Int32} {wd : Addr} {kd : ClassId} {wl : Addr} {we : Addr} {ke : ClassId} {weo : Addr} {wmo : Addr} (hO : own_Olds Z zc wd kd wl we ke weo wmo) (ws : List Jvm.Cond) (a1 : Addr) (h0 : Heap) (O0 : Ext Z.heap h0) :
    own_MF l Z h0 own_y11 jdk_31_method_10_code 1 (some (.object "java/lang/Object")) ({ frames := 0, cells := 0, slots := 0, locals := 0 } : Room) #[(.ref a1)] (Q_rnn1 Z zc wd kd wl we ke weo wmo a1 h0) ws := by
  refine own_met (Q := (Q_rnn1 Z zc wd kd wl we ke weo wmo a1 h0)) _ _ (plainFor_of_name own_pn_4) ?_
  intro p e s m below meth c T X0 hx hby hml hret hlk hZ hown hnm e0
  replace hown : s.vm.findClass "java/util/Objects" = some m.cls := hown
  replace hnm : meth.name = "requireNonNull" := hnm
  have hml : c.maxLocals = 1 := hml
  obtain ⟨oCS, oCz, oDE, oDV, oEL, oLE, oLF, oLV, oEM, oMir⟩ := id hO
  have N0 := Fr.nil Z.heap.size
  have K0 := Keep.refl h0 []
  refine own_go (fun _ k => castTop (ef_rnn1 m a1) k) ?_
  show own_Go p e below s _ _ _ (T.setTop (mkF m 0 #[rv a1] []))
  refine own_go (fun _ k => XS.aloadN X0.here hx rfl (hb hby d30_0) rfl rfl (XS.ifnonnullYes X0.here hx rfl (pc0 := 1) (pc' := 12) rfl (hb hby d30_1) rfl (by decide) (by decide) (XS.aloadN X0.here hx rfl (hb hby d30_12) rfl rfl k))) ?_
  show own_Go p e below s _ _ _ (T.setTop (mkF m 13 #[rv a1] [(.ref a1)]))
  refine own_retA X0 hx hlk e0 hret rfl rfl (hb hby d30_13) (by show _ ≤ 0; omega) (by show _ ≤ 0; omega) ?_
  exact ⟨rfl, N0, rfl⟩
theorem d18_0 : decode jdk_31_method_11_code 0 = .ok (.aload_n 0, 1) := by decide +kernel
theorem d18_1 : decode jdk_31_method_11_code 1 = .ok (.ifnonnull 12, 3) := by decide +kernel
theorem d18_13 : decode jdk_31_method_11_code 13 = .ok (.aload_n 0, 1) := by decide +kernel
theorem d18_14 : decode jdk_31_method_11_code 14 = .ok (.areturn, 1) := by decide +kernel
def Q_rnn2 (Z : State) (zc : Int32) (wd : Addr) (kd : ClassId) (wl : Addr) (we : Addr) (ke : ClassId) (weo : Addr) (wmo : Addr) (a1 : Addr) (a2 : Addr) (h0 : Heap) (v : Option Value) (h : Heap) (L : List Loc) : Prop := (v = some (.ref a1) ∧ Fr Z.heap.size L ∧ h = h0)
theorem ef_rnn2 (m : MethodId) (x0 : Addr) (x1 : Addr) : entryFrame m #[(.ref x0), (.ref x1)] 2 = mkF m 0 #[rv x0, rv x1] [] := by first | (simp [entryFrame, mkF, argsToLocals, Value.category]; done) | rfl
set_option maxRecDepth 65536 in
set_option maxHeartbeats 40000000 in
theorem rm_rnn2 (l : Launch) (Z : State) (a0 : Array Value) (hw : own_W Z a0) {zc : Int32} {wd : Addr} {kd : ClassId} {wl : Addr} {we : Addr} {ke : ClassId} {weo : Addr} {wmo : Addr} (hO : own_Olds Z zc wd kd wl we ke weo wmo) (ws : List Jvm.Cond) (a1 : Addr) (a2 : Addr) (h0 : Heap) (O0 : Ext Z.heap h0) :
    own_MF l Z h0 own_y12 jdk_31_method_11_code 2 (some (.object "java/lang/Object")) ({ frames := 0, cells := 0, slots := 0, locals := 0 } : Room) #[(.ref a1), (.ref a2)] (Q_rnn2 Z zc wd kd wl we ke weo wmo a1 a2 h0) ws := by
  refine own_met (Q := (Q_rnn2 Z zc wd kd wl we ke weo wmo a1 a2 h0)) _ _ (plainFor_of_name own_pn_4) ?_
  intro p e s m below meth c T X0 hx hby hml hret hlk hZ hown hnm e0
  replace hown : s.vm.findClass "java/util/Objects" = some m.cls := hown
  replace hnm : meth.name = "requireNonNull" := hnm
  have hml : c.maxLocals = 2 := hml
  obtain ⟨oCS, oCz, oDE, oDV, oEL, oLE, oLF, oLV, oEM, oMir⟩ := id hO
  have N0 := Fr.nil Z.heap.size
  have K0 := Keep.refl h0 []
  refine own_go (fun _ k => castTop (ef_rnn2 m a1 a2) k) ?_
  show own_Go p e below s _ _ _ (T.setTop (mkF m 0 #[rv a1, rv a2] []))
  refine own_go (fun _ k => XS.aloadN X0.here hx rfl (hb hby d18_0) rfl rfl (XS.ifnonnullYes X0.here hx rfl (pc0 := 1) (pc' := 13) rfl (hb hby d18_1) rfl (by decide) (by decide) (XS.aloadN X0.here hx rfl (hb hby d18_13) rfl rfl k))) ?_
  show own_Go p e below s _ _ _ (T.setTop (mkF m 14 #[rv a1, rv a2] [(.ref a1)]))
  refine own_retA X0 hx hlk e0 hret rfl rfl (hb hby d18_14) (by show _ ≤ 0; omega) (by show _ ≤ 0; omega) ?_
  exact ⟨rfl, N0, rfl⟩
theorem d24_0 : decode jdk_65_method_120_code 0 = .ok (.aload_n 2, 1) := by decide +kernel
theorem d24_1 : decode jdk_65_method_120_code 1 = .ok (.ldc 110, 2) := by decide +kernel
theorem d24_3 : decode jdk_65_method_120_code 3 = .ok (.if_acmp .ne 10, 3) := by decide +kernel
theorem d24_6 : decode jdk_65_method_120_code 6 = .ok (.iload_n 1, 1) := by decide +kernel
theorem d24_7 : decode jdk_65_method_120_code 7 = .ok (.anewarray 2, 3) := by decide +kernel
theorem d24_10 : decode jdk_65_method_120_code 10 = .ok (.goto 14, 3) := by decide +kernel
theorem d24_24 : decode jdk_65_method_120_code 24 = .ok (.astore_n 3, 1) := by decide +kernel
theorem d24_25 : decode jdk_65_method_120_code 25 = .ok (.aload_n 0, 1) := by decide +kernel
theorem d24_26 : decode jdk_65_method_120_code 26 = .ok (.iconst 0, 1) := by decide +kernel
theorem d24_27 : decode jdk_65_method_120_code 27 = .ok (.aload_n 3, 1) := by decide +kernel
theorem d24_28 : decode jdk_65_method_120_code 28 = .ok (.iconst 0, 1) := by decide +kernel
theorem d24_29 : decode jdk_65_method_120_code 29 = .ok (.aload_n 0, 1) := by decide +kernel
theorem d24_30 : decode jdk_65_method_120_code 30 = .ok (.arraylength, 1) := by decide +kernel
theorem d24_31 : decode jdk_65_method_120_code 31 = .ok (.iload_n 1, 1) := by decide +kernel
theorem d24_32 : decode jdk_65_method_120_code 32 = .ok (.invokestatic 304, 3) := by decide +kernel
theorem d24_35 : decode jdk_65_method_120_code 35 = .ok (.invokestatic 150, 3) := by decide +kernel
theorem d24_38 : decode jdk_65_method_120_code 38 = .ok (.aload_n 3, 1) := by decide +kernel
theorem d24_39 : decode jdk_65_method_120_code 39 = .ok (.areturn, 1) := by decide +kernel
def Q_cp3_1 (Z : State) (zc : Int32) (wd : Addr) (kd : ClassId) (wl : Addr) (we : Addr) (ke : ClassId) (weo : Addr) (wmo : Addr) (a1 : Addr) (k : ClassId) (el1 : Addr) (h0 : Heap) (v : Option Value) (h : Heap) (L : List Loc) : Prop := (∃ b : Addr, ∃ k2 : ClassId, v = some (.ref b) ∧ Fr Z.heap.size L ∧ Keep h0 h [] ∧ h0.size ≤ b ∧ Arv Z h b k2 (.object "java/lang/Object") (1 : Int32) [(.ref el1)] .null)
theorem ef_cp3_1 (m : MethodId) (x0 : Addr) (x2 : Addr) : entryFrame m #[(.ref x0), (.int (1 : Int32)), (.ref x2)] 4 = mkF m 0 #[rv x0, iv (1 : Int32), rv x2, .unset] [] := by first | (simp [entryFrame, mkF, argsToLocals, Value.category]; done) | rfl
set_option maxRecDepth 65536 in
set_option maxHeartbeats 40000000 in
theorem rm_cp3_1 (l : Launch) (Z : State) (a0 : Array Value) (hw : own_W Z a0) {zc : Int32} {wd : Addr} {kd : ClassId} {wl : Addr} {we : Addr} {ke : ClassId} {weo : Addr} {wmo : Addr} (hO : own_Olds Z zc wd kd wl we ke weo wmo) (ws : List Jvm.Cond) (a1 : Addr) (k : ClassId) (el1 : Addr) (h0 : Heap) (O0 : Ext Z.heap h0) (fp0 : Arv Z h0 a1 k (.object "java/lang/Object") (10 : Int32) [(.ref el1), .null, .null, .null, .null, .null, .null, .null, .null, .null] .null) (fp1 : Exa Z h0 a1 "[Ljava/lang/Object;") (fp2 : Ins Z h0 el1 "java/lang/Object" true) :
    own_MF l Z h0 own_y13 jdk_65_method_120_code 4 (some (.array (.object "java/lang/Object"))) ({ frames := 2, cells := 1, slots := 1, locals := 30 } : Room) #[(.ref a1), (.int (1 : Int32)), (.ref wmo)] (Q_cp3_1 Z zc wd kd wl we ke weo wmo a1 k el1 h0) ws := by
  refine own_met (Q := (Q_cp3_1 Z zc wd kd wl we ke weo wmo a1 k el1 h0)) _ _ (plainFor_of_name own_pn_5) ?_
  intro p e s m below meth c T X0 hx hby hml hret hlk hZ hown hnm e0
  replace hown : s.vm.findClass "java/util/Arrays" = some m.cls := hown
  replace hnm : meth.name = "copyOf" := hnm
  have hml : c.maxLocals = 4 := hml
  obtain ⟨oCS, oCz, oDE, oDV, oEL, oLE, oLF, oLV, oEM, oMir⟩ := id hO
  have N0 := Fr.nil Z.heap.size
  have K0 := Keep.refl h0 []
  refine own_go (fun _ k => castTop (ef_cp3_1 m a1 wmo) k) ?_
  show own_Go p e below s _ _ _ (T.setTop (mkF m 0 #[rv a1, iv (1 : Int32), rv wmo, .unset] []))
  refine own_go (fun _ k => XS.aloadN X0.here hx rfl (hb hby d24_0) rfl rfl k) ?_
  obtain ⟨T1, X1, e1, st1⟩ := own_ldcM X0 hx hZ hown (ow155 hw) e0 oMir (g := (mkF m 1 #[rv a1, iv (1 : Int32), rv wmo, .unset] [(.ref wmo)])) rfl (hb hby d24_1)
  refine own_go st1 ?_
  clear st1 X0 e0
  refine own_go (fun _ k => Jvm.RoadKit.acmp (g := (mkF m 3 #[rv a1, iv (1 : Int32), rv wmo, .unset] [(.ref wmo), (.ref wmo)])) X1 hx rfl rfl rfl (pc0 := 3) (pc' := 6) (same := true) rfl (hb hby d24_3) rfl (decide_eq_true rfl) (by decide) (by decide) (XS.iloadN X1.here hx rfl (hb hby d24_6) rfl k)) ?_
  obtain ⟨T2, h2, k2, X2, e2, E2, A2, O2, st2⟩ := newR X1 hx hZ hown (ow156 hw) (ow88 hw) e1 (g := (mkF m 7 #[rv a1, iv (1 : Int32), rv wmo, .unset] [(.int (1 : Int32))])) rfl (hb hby d24_7) rfl (by decide) (cap := 1) (by decide) (by decide) (by show _ ≤ 1; omega) (by show _ ≤ 1; omega)
  obtain ⟨b2, g2⟩ : ∃ z, z = h0.size := ⟨_, rfl⟩
  rw [← g2] at A2 st2
  refine own_go st2 ?_
  clear st2 X1 e1
  have ge2 := Nat.le_of_eq g2.symm
  have big3 : Z.heap.size ≤ b2 := Nat.le_trans O0.1 ge2
  have sz4 : h0.size ≤ b2 := Nat.le_trans K0.1 ge2
  replace O0 := own_oldExt O0 E2
  replace K0 := K0.ext E2
  clear E2
  have f5 : Arv Z h2 b2 k2 (.object "java/lang/Object") (1 : Int32) [.null] .null := (Arv.new A2 (by decide)).pad (pad_rep [] .null 1)
  show own_Go p e below s _ _ _ (T2.setTop (mkF m 10 #[rv a1, iv (1 : Int32), rv wmo, .unset] [(.ref b2)]))
  refine own_go (fun _ k => XS.goto X2.here hx rfl (pc0 := 10) (pc' := 24) rfl (hb hby d24_10) (by decide) (by decide) (XS.astoreN X2.here hx rfl (hb hby d24_24) rfl rfl (l' := #[rv a1, iv (1 : Int32), rv wmo, rv b2]) rfl (XS.aloadN X2.here hx rfl (hb hby d24_25) rfl rfl (XS.iconst X2.here hx rfl (hb hby d24_26) (XS.aloadN X2.here hx rfl (hb hby d24_27) rfl rfl k))))) ?_
  show own_Go p e below s _ _ _ (T2.setTop (mkF m 28 #[rv a1, iv (1 : Int32), rv wmo, rv b2] [(.ref b2), (.int (0 : Int32)), (.ref a1)]))
  refine own_go (fun _ k => XS.iconst X2.here hx rfl (hb hby d24_28) (XS.aloadN X2.here hx rfl (hb hby d24_29) rfl rfl k)) ?_
  show own_Go p e below s _ _ _ (T2.setTop (mkF m 30 #[rv a1, iv (1 : Int32), rv wmo, rv b2] [(.ref a1), (.int (0 : Int32)), (.ref b2), (.int (0 : Int32)), (.ref a1)]))
  obtain ⟨cl6, Ar6, -, S6, M6, -, -⟩ := id (fp0.keep K0 nin0)
  refine own_go (X2.arraylength hx (by rw [e2]; exact Ar6.1) (State.isArrayOf_alike hZ.alike Ar6.2.1) (g := (mkF m 30 #[rv a1, iv (1 : Int32), rv wmo, rv b2] [(.ref a1), (.int (0 : Int32)), (.ref b2), (.int (0 : Int32)), (.ref a1)])) rfl rfl (hb hby d24_30)) ?_
  rw [len_of S6 M6]
  refine own_go (fun _ k => XS.iloadN X2.here hx rfl (hb hby d24_31) rfl k) ?_
  obtain ⟨v7, T7, L7, X7, hQ7, st7⟩ := own_callS (y := own_y10) X2 hx hZ hown (ow157 hw) (ow158 hw) (ow85 hw) (ow159 hw) (rm_mini l Z a0 hw hO [] (10 : Int32) (1 : Int32) h2 O0) 4 0 0 (by show _ ≤ 1; omega) (by show _ ≤ 1; omega) e2 (g := (mkF m 32 #[rv a1, iv (1 : Int32), rv wmo, rv b2] [(.int (1 : Int32)), (.int (10 : Int32)), (.int (0 : Int32)), (.ref b2), (.int (0 : Int32)), (.ref a1)])) rfl (by rw [hml]; rfl) [(.int (10 : Int32)), (.int (1 : Int32))] [(.int (0 : Int32)), (.ref b2), (.int (0 : Int32)), (.ref a1)] (lenOf own_pd_1 rfl) rfl rfl (hb hby d24_32)
  rcases hQ7 with hQ7 | hQ7
  · obtain ⟨rfl, Nc10, hp8, Kc9⟩ := hQ7
    refine own_go st7 ?_
    clear st7 X2 e2
    replace N0 := Fr.app N0 Nc10
    clear Nc10
    show own_Go p e below s _ _ _ (T7.setTop (mkF m 35 #[rv a1, iv (1 : Int32), rv wmo, rv b2] [(.int (1 : Int32)), (.int (0 : Int32)), (.ref b2), (.int (0 : Int32)), (.ref a1)]))
    obtain ⟨cl11, Ar11, q11, S11, M11, P11, G11⟩ := id f5
    obtain ⟨T11, h11, L11, X11, e11, Nn11, Kn11, Fn11, st11⟩ := cpA X7 hx hZ hown (ow160 hw) (ow163 hw) (ow161 hw) (ow162 hw) Kc9 (fp0.keep K0 nin0) f5 (us := [(.ref el1)]) (Or.inr ⟨rfl, rfl, ⟨(Sto.ofV Ar11 q11 O2 (own_insKeep fp2 K0)), trivial⟩⟩) (by decide) (by decide) (by decide) (by decide) (by decide) rfl (by decide) N0 big3 (g := (mkF m 35 #[rv a1, iv (1 : Int32), rv wmo, rv b2] [(.int (1 : Int32)), (.int (0 : Int32)), (.ref b2), (.int (0 : Int32)), (.ref a1)])) rfl (by rw [hml]; rfl) rfl (hb hby d24_35) (by decide) (W := 0) (Nat.le_of_eq rfl) (by decide)
    refine own_go st11 ?_
    clear st11 X7 Kc9
    replace N0 := Nn11
    replace Fn11 : Arv Z h11 b2 k2 (.object "java/lang/Object") (1 : Int32) [(.ref el1)] .null := Fn11
    clear f5
    replace O0 := own_oldKeep O0 Kn11 (allS big3 all0)
    replace K0 := K0.trans Kn11 (allS (Or.inr sz4) all0)
    clear Kn11
    refine own_go (fun _ k => XS.aloadN X11.here hx rfl (hb hby d24_38) rfl rfl k) ?_
    show own_Go p e below s _ _ _ (T11.setTop (mkF m 39 #[rv a1, iv (1 : Int32), rv wmo, rv b2] [(.ref b2)]))
    refine own_retA X11 hx hlk e11 hret rfl rfl (hb hby d24_39) (by show _ ≤ 1; omega) (by show _ ≤ 1; omega) ?_
    exact ⟨b2, k2, rfl, N0, K0, sz4, Fn11⟩
  · obtain ⟨rfl, Nc14, hp12, Kc13⟩ := hQ7
    refine own_go st7 ?_
    clear st7 X2 e2
    replace N0 := Fr.app N0 Nc14
    clear Nc14
    exact absurd (by decide : (1 : Int32) < (10 : Int32)) hp12
theorem d23_0 : decode jdk_65_method_119_code 0 = .ok (.aload_n 0, 1) := by decide +kernel
theorem d23_1 : decode jdk_65_method_119_code 1 = .ok (.iload_n 1, 1) := by decide +kernel
theorem d23_2 : decode jdk_65_method_119_code 2 = .ok (.aload_n 0, 1) := by decide +kernel
theorem d23_3 : decode jdk_65_method_119_code 3 = .ok (.invokevirtual 86, 3) := by decide +kernel
theorem d23_6 : decode jdk_65_method_119_code 6 = .ok (.invokestatic 300, 3) := by decide +kernel
theorem d23_9 : decode jdk_65_method_119_code 9 = .ok (.areturn, 1) := by decide +kernel
def Q_cp2_1 (Z : State) (zc : Int32) (wd : Addr) (kd : ClassId) (wl : Addr) (we : Addr) (ke : ClassId) (weo : Addr) (wmo : Addr) (a1 : Addr) (k : ClassId) (el1 : Addr) (h0 : Heap) (v : Option Value) (h : Heap) (L : List Loc) : Prop := (∃ b : Addr, ∃ k2 : ClassId, v = some (.ref b) ∧ Fr Z.heap.size L ∧ Keep h0 h [] ∧ h0.size ≤ b ∧ Arv Z h b k2 (.object "java/lang/Object") (1 : Int32) [(.ref el1)] .null)
theorem ef_cp2_1 (m : MethodId) (x0 : Addr) : entryFrame m #[(.ref x0), (.int (1 : Int32))] 2 = mkF m 0 #[rv x0, iv (1 : Int32)] [] := by first | (simp [entryFrame, mkF, argsToLocals, Value.category]; done) | rfl
set_option maxRecDepth 65536 in
set_option maxHeartbeats 40000000 in
theorem rm_cp2_1 (l : Launch) (Z : State) (a0 : Array Value) (hw : own_W Z a0) {zc : Int32} {wd : Addr} {kd : ClassId} {wl : Addr} {we : Addr} {ke : ClassId} {weo : Addr} {wmo : Addr} (hO : own_Olds Z zc wd kd wl we ke weo wmo) (ws : List Jvm.Cond) (a1 : Addr) (k : ClassId) (el1 : Addr) (h0 : Heap) (O0 : Ext Z.heap h0) (fp0 : Arv Z h0 a1 k (.object "java/lang/Object") (10 : Int32) [(.ref el1), .null, .null, .null, .null, .null, .null, .null, .null, .null] .null) (fp1 : Exa Z h0 a1 "[Ljava/lang/Object;") (fp2 : Ins Z h0 el1 "java/lang/Object" true) :
    own_MF l Z h0 own_y14 jdk_65_method_119_code 2 (some (.array (.object "java/lang/Object"))) ({ frames := 3, cells := 1, slots := 1, locals := 45 } : Room) #[(.ref a1), (.int (1 : Int32))] (Q_cp2_1 Z zc wd kd wl we ke weo wmo a1 k el1 h0) ws := by
  refine own_met (Q := (Q_cp2_1 Z zc wd kd wl we ke weo wmo a1 k el1 h0)) _ _ (plainFor_of_name own_pn_5) ?_
  intro p e s m below meth c T X0 hx hby hml hret hlk hZ hown hnm e0
  replace hown : s.vm.findClass "java/util/Arrays" = some m.cls := hown
  replace hnm : meth.name = "copyOf" := hnm
  have hml : c.maxLocals = 2 := hml
  obtain ⟨oCS, oCz, oDE, oDV, oEL, oLE, oLF, oLV, oEM, oMir⟩ := id hO
  have N0 := Fr.nil Z.heap.size
  have K0 := Keep.refl h0 []
  refine own_go (fun _ k => castTop (ef_cp2_1 m a1) k) ?_
  show own_Go p e below s _ _ _ (T.setTop (mkF m 0 #[rv a1, iv (1 : Int32)] []))
  refine own_go (fun _ k => XS.aloadN X0.here hx rfl (hb hby d23_0) rfl rfl (XS.iloadN X0.here hx rfl (hb hby d23_1) rfl (XS.aloadN X0.here hx rfl (hb hby d23_2) rfl rfl k))) ?_
  obtain ⟨T1, X1, e1, st1⟩ := own_gcls X0 hx hZ hown (ow146 hw) (ow147 hw) (ow123 hw) (ow149 hw) (ow148 hw) (ow150 hw) e0 (fp1.keep K0) oMir (g := (mkF m 3 #[rv a1, iv (1 : Int32)] [(.ref a1), (.int (1 : Int32)), (.ref a1)])) rfl (by rw [hml]; rfl) rfl (hb hby d23_3) (by decide) (W := 2) (Nat.le_of_eq rfl) (by decide)
  refine own_go st1 ?_
  clear st1 X0 e0
  obtain ⟨v2, T2, L2, X2, hQ2, st2⟩ := own_callS (y := own_y13) X1 hx hZ hown (ow152 hw) (ow153 hw) (ow144 hw) (ow154 hw) (rm_cp3_1 l Z a0 hw hO [] a1 k el1 h0 O0 (fp0.keep K0 nin0) (fp1.keep K0) (own_insKeep fp2 K0)) 0 1 1 (by show _ ≤ 1; omega) (by show _ ≤ 1; omega) e1 (g := (mkF m 6 #[rv a1, iv (1 : Int32)] [(.ref wmo), (.int (1 : Int32)), (.ref a1)])) rfl (by rw [hml]; rfl) [(.ref a1), (.int (1 : Int32)), (.ref wmo)] [] (lenOf own_pd_6 rfl) rfl rfl (hb hby d23_6)
  obtain ⟨w3, w4, rfl, Nc8, Kc7, hb5, f6⟩ := hQ2
  refine own_go st2 ?_
  clear st2 X1 e1
  replace N0 := Fr.app N0 Nc8
  clear Nc8
  have big9 : Z.heap.size ≤ w3 := Nat.le_trans O0.1 hb5
  have sz10 : h0.size ≤ w3 := Nat.le_trans K0.1 hb5
  replace O0 := own_oldKeep O0 Kc7 all0
  replace K0 := K0.trans Kc7 all0
  clear Kc7
  show own_Go p e below s _ _ _ (T2.setTop (mkF m 9 #[rv a1, iv (1 : Int32)] [(.ref w3)]))
  refine own_retA X2 hx hlk (rfl : T2.heap = T2.heap) hret rfl rfl (hb hby d23_9) (by show _ ≤ 1; omega) (by show _ ≤ 1; omega) ?_
  exact ⟨w3, w4, rfl, N0, K0, sz10, f6⟩
theorem d22_0 : decode jdk_38_method_16_code 0 = .ok (.aload_n 0, 1) := by decide +kernel
theorem d22_1 : decode jdk_38_method_16_code 1 = .ok (.getfield 9, 3) := by decide +kernel
theorem d22_4 : decode jdk_38_method_16_code 4 = .ok (.aload_n 0, 1) := by decide +kernel
theorem d22_5 : decode jdk_38_method_16_code 5 = .ok (.getfield 48, 3) := by decide +kernel
theorem d22_8 : decode jdk_38_method_16_code 8 = .ok (.invokestatic 66, 3) := by decide +kernel
theorem d22_11 : decode jdk_38_method_16_code 11 = .ok (.areturn, 1) := by decide +kernel
def Q_toArr_1 (Z : State) (zc : Int32) (wd : Addr) (kd : ClassId) (wl : Addr) (we : Addr) (ke : ClassId) (weo : Addr) (wmo : Addr) (a1 : Addr) (k : ClassId) (cq_ : Addr) (el1 : Addr) (h0 : Heap) (v : Option Value) (h : Heap) (L : List Loc) : Prop := (∃ b : Addr, ∃ k2 : ClassId, v = some (.ref b) ∧ Fr Z.heap.size L ∧ Keep h0 h [] ∧ h0.size ≤ b ∧ Arv Z h b k2 (.object "java/lang/Object") (1 : Int32) [(.ref el1)] .null)
theorem ef_toArr_1 (m : MethodId) (x0 : Addr) : entryFrame m #[(.ref x0)] 1 = mkF m 0 #[rv x0] [] := by first | (simp [entryFrame, mkF, argsToLocals, Value.category]; done) | rfl
set_option maxRecDepth 65536 in
set_option maxHeartbeats 40000000 in
theorem rm_toArr_1 (l : Launch) (Z : State) (a0 : Array Value) (hw : own_W Z a0) {zc : Int32} {wd : Addr} {kd : ClassId} {wl : Addr} {we : Addr} {ke : ClassId} {weo : Addr} {wmo : Addr} (hO : own_Olds Z zc wd kd wl we ke weo wmo) (ws : List Jvm.Cond) (a1 : Addr) (k : ClassId) (cq_ : Addr) (el1 : Addr) (h0 : Heap) (O0 : Ext Z.heap h0) (fp0 : Exa Z h0 a1 "java/util/ArrayList") (fp1 : Fld Z h0 a1 "java/util/ArrayList" "size" "I" (.int (1 : Int32))) (fp2 : Fld Z h0 a1 "java/util/ArrayList" "elementData" "[Ljava/lang/Object;" (.ref cq_)) (fp3 : Arv Z h0 cq_ k (.object "java/lang/Object") (10 : Int32) [(.ref el1), .null, .null, .null, .null, .null, .null, .null, .null, .null] .null) (fp4 : Exa Z h0 cq_ "[Ljava/lang/Object;") (fp5 : Ins Z h0 el1 "java/lang/Object" true) :
    own_MF l Z h0 own_y15 jdk_38_method_16_code 1 (some (.array (.object "java/lang/Object"))) ({ frames := 4, cells := 1, slots := 1, locals := 58 } : Room) #[(.ref a1)] (Q_toArr_1 Z zc wd kd wl we ke weo wmo a1 k cq_ el1 h0) ws := by
  refine own_met (Q := (Q_toArr_1 Z zc wd kd wl we ke weo wmo a1 k cq_ el1 h0)) _ _ (plainFor_of_name own_pn_2) ?_
  intro p e s m below meth c T X0 hx hby hml hret hlk hZ hown hnm e0
  replace hown : s.vm.findClass "java/util/ArrayList" = some m.cls := hown
  replace hnm : meth.name = "toArray" := hnm
  have hml : c.maxLocals = 1 := hml
  obtain ⟨oCS, oCz, oDE, oDV, oEL, oLE, oLF, oLV, oEM, oMir⟩ := id hO
  have N0 := Fr.nil Z.heap.size
  have K0 := Keep.refl h0 []
  refine own_go (fun _ k => castTop (ef_toArr_1 m a1) k) ?_
  show own_Go p e below s _ _ _ (T.setTop (mkF m 0 #[rv a1] []))
  refine own_go (fun _ k => XS.aloadN X0.here hx rfl (hb hby d22_0) rfl rfl k) ?_
  obtain ⟨T1, X1, e1, st1⟩ := getF X0 hx hZ hown (host := "") (Or.inl (ow57 hw)) Via.refl e0 (fp2.keep K0 nin0) (g := (mkF m 1 #[rv a1] [(.ref a1)])) rfl rfl (hb hby d22_1)
  refine own_go st1 ?_
  clear st1 X0 e0
  refine own_go (fun _ k => XS.aloadN X1.here hx rfl (hb hby d22_4) rfl rfl k) ?_
  obtain ⟨T2, X2, e2, st2⟩ := getF X1 hx hZ hown (host := "") (Or.inl (ow66 hw)) Via.refl e1 (fp1.keep K0 nin0) (g := (mkF m 5 #[rv a1] [(.ref a1), (.ref cq_)])) rfl rfl (hb hby d22_5)
  refine own_go st2 ?_
  clear st2 X1 e1
  obtain ⟨v3, T3, L3, X3, hQ3, st3⟩ := own_callS (y := own_y14) X2 hx hZ hown (ow142 hw) (ow143 hw) (ow144 hw) (ow145 hw) (rm_cp2_1 l Z a0 hw hO [] cq_ k el1 h0 O0 (fp3.keep K0 nin0) (fp4.keep K0) (own_insKeep fp5 K0)) 0 1 1 (by show _ ≤ 1; omega) (by show _ ≤ 1; omega) e2 (g := (mkF m 8 #[rv a1] [(.int (1 : Int32)), (.ref cq_)])) rfl (by rw [hml]; rfl) [(.ref cq_), (.int (1 : Int32))] [] (lenOf own_pd_7 rfl) rfl rfl (hb hby d22_8)
  obtain ⟨w4, w5, rfl, Nc9, Kc8, hb6, f7⟩ := hQ3
  refine own_go st3 ?_
  clear st3 X2 e2
  replace N0 := Fr.app N0 Nc9
  clear Nc9
  have big10 : Z.heap.size ≤ w4 := Nat.le_trans O0.1 hb6
  have sz11 : h0.size ≤ w4 := Nat.le_trans K0.1 hb6
  replace O0 := own_oldKeep O0 Kc8 all0
  replace K0 := K0.trans Kc8 all0
  clear Kc8
  show own_Go p e below s _ _ _ (T3.setTop (mkF m 11 #[rv a1] [(.ref w4)]))
  refine own_retA X3 hx hlk (rfl : T3.heap = T3.heap) hret rfl rfl (hb hby d22_11) (by show _ ≤ 1; omega) (by show _ ≤ 1; omega) ?_
  exact ⟨w4, w5, rfl, N0, K0, sz11, f7⟩
def Q_cp3_2 (Z : State) (zc : Int32) (wd : Addr) (kd : ClassId) (wl : Addr) (we : Addr) (ke : ClassId) (weo : Addr) (wmo : Addr) (a1 : Addr) (k : ClassId) (el1 : Addr) (el2 : Addr) (h0 : Heap) (v : Option Value) (h : Heap) (L : List Loc) : Prop := (∃ b : Addr, ∃ k2 : ClassId, v = some (.ref b) ∧ Fr Z.heap.size L ∧ Keep h0 h [] ∧ h0.size ≤ b ∧ Arv Z h b k2 (.object "java/lang/Object") (2 : Int32) [(.ref el1), (.ref el2)] .null)
theorem ef_cp3_2 (m : MethodId) (x0 : Addr) (x2 : Addr) : entryFrame m #[(.ref x0), (.int (2 : Int32)), (.ref x2)] 4 = mkF m 0 #[rv x0, iv (2 : Int32), rv x2, .unset] [] := by first | (simp [entryFrame, mkF, argsToLocals, Value.category]; done) | rfl
set_option maxRecDepth 65536 in
set_option maxHeartbeats 40000000 in
theorem rm_cp3_2 (l : Launch) (Z : State) (a0 : Array Value) (hw : own_W Z a0) {zc : Int32} {wd : Addr} {kd : ClassId} {wl : Addr} {we : Addr} {ke : ClassId} {weo : Addr} {wmo : Addr} (hO : own_Olds Z zc wd kd wl we ke weo wmo) (ws : List Jvm.Cond) (a1 : Addr) (k : ClassId) (el1 : Addr) (el2 : Addr) (h0 : Heap) (O0 : Ext Z.heap h0) (fp0 : Arv Z h0 a1 k (.object "java/lang/Object") (10 : Int32) [(.ref el1), (.ref el2), .null, .null, .null, .null, .null, .null, .null, .null] .null) (fp1 : Exa Z h0 a1 "[Ljava/lang/Object;") (fp2 : Ins Z h0 el1 "java/lang/Object" true) (fp3 : Ins Z h0 el2 "java/lang/Object" true) :
    own_MF l Z h0 own_y13 jdk_65_method_120_code 4 (some (.array (.object "java/lang/Object"))) ({ frames := 2, cells := 1, slots := 2, locals := 30 } : Room) #[(.ref a1), (.int (2 : Int32)), (.ref wmo)] (Q_cp3_2 Z zc wd kd wl we ke weo wmo a1 k el1 el2 h0) ws := by
  refine own_met (Q := (Q_cp3_2 Z zc wd kd wl we ke weo wmo a1 k el1 el2 h0)) _ _ (plainFor_of_name own_pn_5) ?_
  intro p e s m below meth c T X0 hx hby hml hret hlk hZ hown hnm e0
  replace hown : s.vm.findClass "java/util/Arrays" = some m.cls := hown
  replace hnm : meth.name = "copyOf" := hnm
  have hml : c.maxLocals = 4 := hml
  obtain ⟨oCS, oCz, oDE, oDV, oEL, oLE, oLF, oLV, oEM, oMir⟩ := id hO
  have N0 := Fr.nil Z.heap.size
  have K0 := Keep.refl h0 []
  refine own_go (fun _ k => castTop (ef_cp3_2 m a1 wmo) k) ?_
  show own_Go p e below s _ _ _ (T.setTop (mkF m 0 #[rv a1, iv (2 : Int32), rv wmo, .unset] []))
  refine own_go (fun _ k => XS.aloadN X0.here hx rfl (hb hby d24_0) rfl rfl k) ?_
  obtain ⟨T1, X1, e1, st1⟩ := own_ldcM X0 hx hZ hown (ow155 hw) e0 oMir (g := (mkF m 1 #[rv a1, iv (2 : Int32), rv wmo, .unset] [(.ref wmo)])) rfl (hb hby d24_1)
  refine own_go st1 ?_
  clear st1 X0 e0
  refine own_go (fun _ k => Jvm.RoadKit.acmp (g := (mkF m 3 #[rv a1, iv (2 : Int32), rv wmo, .unset] [(.ref wmo), (.ref wmo)])) X1 hx rfl rfl rfl (pc0 := 3) (pc' := 6) (same := true) rfl (hb hby d24_3) rfl (decide_eq_true rfl) (by decide) (by decide) (XS.iloadN X1.here hx rfl (hb hby d24_6) rfl k)) ?_
  obtain ⟨T2, h2, k2, X2, e2, E2, A2, O2, st2⟩ := newR X1 hx hZ hown (ow156 hw) (ow88 hw) e1 (g := (mkF m 7 #[rv a1, iv (2 : Int32), rv wmo, .unset] [(.int (2 : Int32))])) rfl (hb hby d24_7) rfl (by decide) (cap := 2) (by decide) (by decide) (by show _ ≤ 1; omega) (by show _ ≤ 2; omega)
  obtain ⟨b2, g2⟩ : ∃ z, z = h0.size := ⟨_, rfl⟩
  rw [← g2] at A2 st2
  refine own_go st2 ?_
  clear st2 X1 e1
  have ge2 := Nat.le_of_eq g2.symm
  have big3 : Z.heap.size ≤ b2 := Nat.le_trans O0.1 ge2
  have sz4 : h0.size ≤ b2 := Nat.le_trans K0.1 ge2
  replace O0 := own_oldExt O0 E2
  replace K0 := K0.ext E2
  clear E2
  have f5 : Arv Z h2 b2 k2 (.object "java/lang/Object") (2 : Int32) [.null, .null] .null := (Arv.new A2 (by decide)).pad (pad_rep [] .null 2)
  show own_Go p e below s _ _ _ (T2.setTop (mkF m 10 #[rv a1, iv (2 : Int32), rv wmo, .unset] [(.ref b2)]))
  refine own_go (fun _ k => XS.goto X2.here hx rfl (pc0 := 10) (pc' := 24) rfl (hb hby d24_10) (by decide) (by decide) (XS.astoreN X2.here hx rfl (hb hby d24_24) rfl rfl (l' := #[rv a1, iv (2 : Int32), rv wmo, rv b2]) rfl (XS.aloadN X2.here hx rfl (hb hby d24_25) rfl rfl (XS.iconst X2.here hx rfl (hb hby d24_26) (XS.aloadN X2.here hx rfl (hb hby d24_27) rfl rfl k))))) ?_
  show own_Go p e below s _ _ _ (T2.setTop (mkF m 28 #[rv a1, iv (2 : Int32), rv wmo, rv b2] [(.ref b2), (.int (0 : Int32)), (.ref a1)]))
  refine own_go (fun _ k => XS.iconst X2.here hx rfl (hb hby d24_28) (XS.aloadN X2.here hx rfl (hb hby d24_29) rfl rfl k)) ?_
  show own_Go p e below s _ _ _ (T2.setTop (mkF m 30 #[rv a1, iv (2 : Int32), rv wmo, rv b2] [(.ref a1), (.int (0 : Int32)), (.ref b2), (.int (0 : Int32)), (.ref a1)]))
  obtain ⟨cl6, Ar6, -, S6, M6, -, -⟩ := id (fp0.keep K0 nin0)
  refine own_go (X2.arraylength hx (by rw [e2]; exact Ar6.1) (State.isArrayOf_alike hZ.alike Ar6.2.1) (g := (mkF m 30 #[rv a1, iv (2 : Int32), rv wmo, rv b2] [(.ref a1), (.int (0 : Int32)), (.ref b2), (.int (0 : Int32)), (.ref a1)])) rfl rfl (hb hby d24_30)) ?_
  rw [len_of S6 M6]
  refine own_go (fun _ k => XS.iloadN X2.here hx rfl (hb hby d24_31) rfl k) ?_
  obtain ⟨v7, T7, L7, X7, hQ7, st7⟩ := own_callS (y := own_y10) X2 hx hZ hown (ow157 hw) (ow158 hw) (ow85 hw) (ow159 hw) (rm_mini l Z a0 hw hO [] (10 : Int32) (2 : Int32) h2 O0) 4 0 0 (by show _ ≤ 1; omega) (by show _ ≤ 2; omega) e2 (g := (mkF m 32 #[rv a1, iv (2 : Int32), rv wmo, rv b2] [(.int (2 : Int32)), (.int (10 : Int32)), (.int (0 : Int32)), (.ref b2), (.int (0 : Int32)), (.ref a1)])) rfl (by rw [hml]; rfl) [(.int (10 : Int32)), (.int (2 : Int32))] [(.int (0 : Int32)), (.ref b2), (.int (0 : Int32)), (.ref a1)] (lenOf own_pd_1 rfl) rfl rfl (hb hby d24_32)
  rcases hQ7 with hQ7 | hQ7
  · obtain ⟨rfl, Nc10, hp8, Kc9⟩ := hQ7
    refine own_go st7 ?_
    clear st7 X2 e2
    replace N0 := Fr.app N0 Nc10
    clear Nc10
    show own_Go p e below s _ _ _ (T7.setTop (mkF m 35 #[rv a1, iv (2 : Int32), rv wmo, rv b2] [(.int (2 : Int32)), (.int (0 : Int32)), (.ref b2), (.int (0 : Int32)), (.ref a1)]))
    obtain ⟨cl11, Ar11, q11, S11, M11, P11, G11⟩ := id f5
    obtain ⟨T11, h11, L11, X11, e11, Nn11, Kn11, Fn11, st11⟩ := cpA X7 hx hZ hown (ow160 hw) (ow163 hw) (ow161 hw) (ow162 hw) Kc9 (fp0.keep K0 nin0) f5 (us := [(.ref el1), (.ref el2)]) (Or.inr ⟨rfl, rfl, ⟨(Sto.ofV Ar11 q11 O2 (own_insKeep fp2 K0)), (Sto.ofV Ar11 q11 O2 (own_insKeep fp3 K0)), trivial⟩⟩) (by decide) (by decide) (by decide) (by decide) (by decide) rfl (by decide) N0 big3 (g := (mkF m 35 #[rv a1, iv (2 : Int32), rv wmo, rv b2] [(.int (2 : Int32)), (.int (0 : Int32)), (.ref b2), (.int (0 : Int32)), (.ref a1)])) rfl (by rw [hml]; rfl) rfl (hb hby d24_35) (by decide) (W := 0) (Nat.le_of_eq rfl) (by decide)
    refine own_go st11 ?_
    clear st11 X7 Kc9
    replace N0 := Nn11
    replace Fn11 : Arv Z h11 b2 k2 (.object "java/lang/Object") (2 : Int32) [(.ref el1), (.ref el2)] .null := Fn11
    clear f5
    replace O0 := own_oldKeep O0 Kn11 (allS big3 all0)
    replace K0 := K0.trans Kn11 (allS (Or.inr sz4) all0)
    clear Kn11
    refine own_go (fun _ k => XS.aloadN X11.here hx rfl (hb hby d24_38) rfl rfl k) ?_
    show own_Go p e below s _ _ _ (T11.setTop (mkF m 39 #[rv a1, iv (2 : Int32), rv wmo, rv b2] [(.ref b2)]))
    refine own_retA X11 hx hlk e11 hret rfl rfl (hb hby d24_39) (by show _ ≤ 1; omega) (by show _ ≤ 2; omega) ?_
    exact ⟨b2, k2, rfl, N0, K0, sz4, Fn11⟩
  · obtain ⟨rfl, Nc14, hp12, Kc13⟩ := hQ7
    refine own_go st7 ?_
    clear st7 X2 e2
    replace N0 := Fr.app N0 Nc14
    clear Nc14
    exact absurd (by decide : (2 : Int32) < (10 : Int32)) hp12
def Q_cp2_2 (Z : State) (zc : Int32) (wd : Addr) (kd : ClassId) (wl : Addr) (we : Addr) (ke : ClassId) (weo : Addr) (wmo : Addr) (a1 : Addr) (k : ClassId) (el1 : Addr) (el2 : Addr) (h0 : Heap) (v : Option Value) (h : Heap) (L : List Loc) : Prop := (∃ b : Addr, ∃ k2 : ClassId, v = some (.ref b) ∧ Fr Z.heap.size L ∧ Keep h0 h [] ∧ h0.size ≤ b ∧ Arv Z h b k2 (.object "java/lang/Object") (2 : Int32) [(.ref el1), (.ref el2)] .null)
theorem ef_cp2_2 (m : MethodId) (x0 : Addr) : entryFrame m #[(.ref x0), (.int (2 : Int32))] 2 = mkF m 0 #[rv x0, iv (2 : Int32)] [] := by first | (simp [entryFrame, mkF, argsToLocals, Value.category]; done) | rfl
set_option maxRecDepth 65536 in
set_option maxHeartbeats 40000000 in
theorem rm_cp2_2 (l : Launch) (Z : State) (a0 : Array Value) (hw : own_W Z a0) {zc : Int32} {wd : Addr} {kd : ClassId} {wl : Addr} {we : Addr} {ke : ClassId} {weo : Addr} {wmo : Addr} (hO : own_Olds Z zc wd kd wl we ke weo wmo) (ws : List Jvm.Cond) (a1 : Addr) (k : ClassId) (el1 : Addr) (el2 : Addr) (h0 : Heap) (O0 : Ext Z.heap h0) (fp0 : Arv Z h0 a1 k (.object "java/lang/Object") (10 : Int32) [(.ref el1), (.ref el2), .null, .null, .null, .null, .null, .null, .null, .null] .null) (fp1 : Exa Z h0 a1 "[Ljava/lang/Object;") (fp2 : Ins Z h0 el1 "java/lang/Object" true) (fp3 : Ins Z h0 el2 "java/lang/Object" true) :
    own_MF l Z h0 own_y14 jdk_65_method_119_code 2 (some (.array (.object "java/lang/Object"))) ({ frames := 3, cells := 1, slots := 2, locals := 45 } : Room) #[(.ref a1), (.int (2 : Int32))] (Q_cp2_2 Z zc wd kd wl we ke weo wmo a1 k el1 el2 h0) ws := by
  refine own_met (Q := (Q_cp2_2 Z zc wd kd wl we ke weo wmo a1 k el1 el2 h0)) _ _ (plainFor_of_name own_pn_5) ?_
  intro p e s m below meth c T X0 hx hby hml hret hlk hZ hown hnm e0
  replace hown : s.vm.findClass "java/util/Arrays" = some m.cls := hown
  replace hnm : meth.name = "copyOf" := hnm
  have hml : c.maxLocals = 2 := hml
  obtain ⟨oCS, oCz, oDE, oDV, oEL, oLE, oLF, oLV, oEM, oMir⟩ := id hO
  have N0 := Fr.nil Z.heap.size
  have K0 := Keep.refl h0 []
  refine own_go (fun _ k => castTop (ef_cp2_2 m a1) k) ?_
  show own_Go p e below s _ _ _ (T.setTop (mkF m 0 #[rv a1, iv (2 : Int32)] []))
  refine own_go (fun _ k => XS.aloadN X0.here hx rfl (hb hby d23_0) rfl rfl (XS.iloadN X0.here hx rfl (hb hby d23_1) rfl (XS.aloadN X0.here hx rfl (hb hby d23_2) rfl rfl k))) ?_
  obtain ⟨T1, X1, e1, st1⟩ := own_gcls X0 hx hZ hown (ow146 hw) (ow147 hw) (ow123 hw) (ow149 hw) (ow148 hw) (ow150 hw) e0 (fp1.keep K0) oMir (g := (mkF m 3 #[rv a1, iv (2 : Int32)] [(.ref a1), (.int (2 : Int32)), (.ref a1)])) rfl (by rw [hml]; rfl) rfl (hb hby d23_3) (by decide) (W := 2) (Nat.le_of_eq rfl) (by decide)
  refine own_go st1 ?_
  clear st1 X0 e0
  obtain ⟨v2, T2, L2, X2, hQ2, st2⟩ := own_callS (y := own_y13) X1 hx hZ hown (ow152 hw) (ow153 hw) (ow144 hw) (ow154 hw) (rm_cp3_2 l Z a0 hw hO [] a1 k el1 el2 h0 O0 (fp0.keep K0 nin0) (fp1.keep K0) (own_insKeep fp2 K0) (own_insKeep fp3 K0)) 0 1 2 (by show _ ≤ 1; omega) (by show _ ≤ 2; omega) e1 (g := (mkF m 6 #[rv a1, iv (2 : Int32)] [(.ref wmo), (.int (2 : Int32)), (.ref a1)])) rfl (by rw [hml]; rfl) [(.ref a1), (.int (2 : Int32)), (.ref wmo)] [] (lenOf own_pd_6 rfl) rfl rfl (hb hby d23_6)
  obtain ⟨w3, w4, rfl, Nc8, Kc7, hb5, f6⟩ := hQ2
  refine own_go st2 ?_
  clear st2 X1 e1
  replace N0 := Fr.app N0 Nc8
  clear Nc8
  have big9 : Z.heap.size ≤ w3 := Nat.le_trans O0.1 hb5
  have sz10 : h0.size ≤ w3 := Nat.le_trans K0.1 hb5
  replace O0 := own_oldKeep O0 Kc7 all0
  replace K0 := K0.trans Kc7 all0
  clear Kc7
  show own_Go p e below s _ _ _ (T2.setTop (mkF m 9 #[rv a1, iv (2 : Int32)] [(.ref w3)]))
  refine own_retA X2 hx hlk (rfl : T2.heap = T2.heap) hret rfl rfl (hb hby d23_9) (by show _ ≤ 1; omega) (by show _ ≤ 2; omega) ?_
  exact ⟨w3, w4, rfl, N0, K0, sz10, f6⟩
def Q_toArr_2 (Z : State) (zc : Int32) (wd : Addr) (kd : ClassId) (wl : Addr) (we : Addr) (ke : ClassId) (weo : Addr) (wmo : Addr) (a1 : Addr) (k : ClassId) (cq_ : Addr) (el1 : Addr) (el2 : Addr) (h0 : Heap) (v : Option Value) (h : Heap) (L : List Loc) : Prop := (∃ b : Addr, ∃ k2 : ClassId, v = some (.ref b) ∧ Fr Z.heap.size L ∧ Keep h0 h [] ∧ h0.size ≤ b ∧ Arv Z h b k2 (.object "java/lang/Object") (2 : Int32) [(.ref el1), (.ref el2)] .null)
theorem ef_toArr_2 (m : MethodId) (x0 : Addr) : entryFrame m #[(.ref x0)] 1 = mkF m 0 #[rv x0] [] := by first | (simp [entryFrame, mkF, argsToLocals, Value.category]; done) | rfl
set_option maxRecDepth 65536 in
set_option maxHeartbeats 40000000 in
theorem rm_toArr_2 (l : Launch) (Z : State) (a0 : Array Value) (hw : own_W Z a0) {zc : Int32} {wd : Addr} {kd : ClassId} {wl : Addr} {we : Addr} {ke : ClassId} {weo : Addr} {wmo : Addr} (hO : own_Olds Z zc wd kd wl we ke weo wmo) (ws : List Jvm.Cond) (a1 : Addr) (k : ClassId) (cq_ : Addr) (el1 : Addr) (el2 : Addr) (h0 : Heap) (O0 : Ext Z.heap h0) (fp0 : Exa Z h0 a1 "java/util/ArrayList") (fp1 : Fld Z h0 a1 "java/util/ArrayList" "size" "I" (.int (2 : Int32))) (fp2 : Fld Z h0 a1 "java/util/ArrayList" "elementData" "[Ljava/lang/Object;" (.ref cq_)) (fp3 : Arv Z h0 cq_ k (.object "java/lang/Object") (10 : Int32) [(.ref el1), (.ref el2), .null, .null, .null, .null, .null, .null, .null, .null] .null) (fp4 : Exa Z h0 cq_ "[Ljava/lang/Object;") (fp5 : Ins Z h0 el1 "java/lang/Object" true) (fp6 : Ins Z h0 el2 "java/lang/Object" true) :
    own_MF l Z h0 own_y15 jdk_38_method_16_code 1 (some (.array (.object "java/lang/Object"))) ({ frames := 4, cells := 1, slots := 2, locals := 58 } : Room) #[(.ref a1)] (Q_toArr_2 Z zc wd kd wl we ke weo wmo a1 k cq_ el1 el2 h0) ws := by
  refine own_met (Q := (Q_toArr_2 Z zc wd kd wl we ke weo wmo a1 k cq_ el1 el2 h0)) _ _ (plainFor_of_name own_pn_2) ?_
  intro p e s m below meth c T X0 hx hby hml hret hlk hZ hown hnm e0
  replace hown : s.vm.findClass "java/util/ArrayList" = some m.cls := hown
  replace hnm : meth.name = "toArray" := hnm
  have hml : c.maxLocals = 1 := hml
  obtain ⟨oCS, oCz, oDE, oDV, oEL, oLE, oLF, oLV, oEM, oMir⟩ := id hO
  have N0 := Fr.nil Z.heap.size
  have K0 := Keep.refl h0 []
  refine own_go (fun _ k => castTop (ef_toArr_2 m a1) k) ?_
  show own_Go p e below s _ _ _ (T.setTop (mkF m 0 #[rv a1] []))
  refine own_go (fun _ k => XS.aloadN X0.here hx rfl (hb hby d22_0) rfl rfl k) ?_
  obtain ⟨T1, X1, e1, st1⟩ := getF X0 hx hZ hown (host := "") (Or.inl (ow57 hw)) Via.refl e0 (fp2.keep K0 nin0) (g := (mkF m 1 #[rv a1] [(.ref a1)])) rfl rfl (hb hby d22_1)
  refine own_go st1 ?_
  clear st1 X0 e0
  refine own_go (fun _ k => XS.aloadN X1.here hx rfl (hb hby d22_4) rfl rfl k) ?_
  obtain ⟨T2, X2, e2, st2⟩ := getF X1 hx hZ hown (host := "") (Or.inl (ow66 hw)) Via.refl e1 (fp1.keep K0 nin0) (g := (mkF m 5 #[rv a1] [(.ref a1), (.ref cq_)])) rfl rfl (hb hby d22_5)
  refine own_go st2 ?_
  clear st2 X1 e1
  obtain ⟨v3, T3, L3, X3, hQ3, st3⟩ := own_callS (y := own_y14) X2 hx hZ hown (ow142 hw) (ow143 hw) (ow144 hw) (ow145 hw) (rm_cp2_2 l Z a0 hw hO [] cq_ k el1 el2 h0 O0 (fp3.keep K0 nin0) (fp4.keep K0) (own_insKeep fp5 K0) (own_insKeep fp6 K0)) 0 1 2 (by show _ ≤ 1; omega) (by show _ ≤ 2; omega) e2 (g := (mkF m 8 #[rv a1] [(.int (2 : Int32)), (.ref cq_)])) rfl (by rw [hml]; rfl) [(.ref cq_), (.int (2 : Int32))] [] (lenOf own_pd_7 rfl) rfl rfl (hb hby d22_8)
  obtain ⟨w4, w5, rfl, Nc9, Kc8, hb6, f7⟩ := hQ3
  refine own_go st3 ?_
  clear st3 X2 e2
  replace N0 := Fr.app N0 Nc9
  clear Nc9
  have big10 : Z.heap.size ≤ w4 := Nat.le_trans O0.1 hb6
  have sz11 : h0.size ≤ w4 := Nat.le_trans K0.1 hb6
  replace O0 := own_oldKeep O0 Kc8 all0
  replace K0 := K0.trans Kc8 all0
  clear Kc8
  show own_Go p e below s _ _ _ (T3.setTop (mkF m 11 #[rv a1] [(.ref w4)]))
  refine own_retA X3 hx hlk (rfl : T3.heap = T3.heap) hret rfl rfl (hb hby d22_11) (by show _ ≤ 1; omega) (by show _ ≤ 2; omega) ?_
  exact ⟨w4, w5, rfl, N0, K0, sz11, f7⟩
def Q_cp3_3 (Z : State) (zc : Int32) (wd : Addr) (kd : ClassId) (wl : Addr) (we : Addr) (ke : ClassId) (weo : Addr) (wmo : Addr) (a1 : Addr) (k : ClassId) (el1 : Addr) (el2 : Addr) (el3 : Addr) (h0 : Heap) (v : Option Value) (h : Heap) (L : List Loc) : Prop := (∃ b : Addr, ∃ k2 : ClassId, v = some (.ref b) ∧ Fr Z.heap.size L ∧ Keep h0 h [] ∧ h0.size ≤ b ∧ Arv Z h b k2 (.object "java/lang/Object") (3 : Int32) [(.ref el1), (.ref el2), (.ref el3)] .null)
theorem ef_cp3_3 (m : MethodId) (x0 : Addr) (x2 : Addr) : entryFrame m #[(.ref x0), (.int (3 : Int32)), (.ref x2)] 4 = mkF m 0 #[rv x0, iv (3 : Int32), rv x2, .unset] [] := by first | (simp [entryFrame, mkF, argsToLocals, Value.category]; done) | rfl
set_option maxRecDepth 65536 in
set_option maxHeartbeats 40000000 in
theorem rm_cp3_3 (l : Launch) (Z : State) (a0 : Array Value) (hw : own_W Z a0) {zc : Int32} {wd : Addr} {kd : ClassId} {wl : Addr} {we : Addr} {ke : ClassId} {weo : Addr} {wmo : Addr} (hO : own_Olds Z zc wd kd wl we ke weo wmo) (ws : List Jvm.Cond) (a1 : Addr) (k : ClassId) (el1 : Addr) (el2 : Addr) (el3 : Addr) (h0 : Heap) (O0 : Ext Z.heap h0) (fp0 : Arv Z h0 a1 k (.object "java/lang/Object") (10 : Int32) [(.ref el1), (.ref el2), (.ref el3), .null, .null, .null, .null, .null, .null, .null] .null) (fp1 : Exa Z h0 a1 "[Ljava/lang/Object;") (fp2 : Ins Z h0 el1 "java/lang/Object" true) (fp3 : Ins Z h0 el2 "java/lang/Object" true) (fp4 : Ins Z h0 el3 "java/lang/Object" true) :
    own_MF l Z h0 own_y13 jdk_65_method_120_code 4 (some (.array (.object "java/lang/Object"))) ({ frames := 2, cells := 1, slots := 3, locals := 30 } : Room) #[(.ref a1), (.int (3 : Int32)), (.ref wmo)] (Q_cp3_3 Z zc wd kd wl we ke weo wmo a1 k el1 el2 el3 h0) ws := by
  refine own_met (Q := (Q_cp3_3 Z zc wd kd wl we ke weo wmo a1 k el1 el2 el3 h0)) _ _ (plainFor_of_name own_pn_5) ?_
  intro p e s m below meth c T X0 hx hby hml hret hlk hZ hown hnm e0
  replace hown : s.vm.findClass "java/util/Arrays" = some m.cls := hown
  replace hnm : meth.name = "copyOf" := hnm
  have hml : c.maxLocals = 4 := hml
  obtain ⟨oCS, oCz, oDE, oDV, oEL, oLE, oLF, oLV, oEM, oMir⟩ := id hO
  have N0 := Fr.nil Z.heap.size
  have K0 := Keep.refl h0 []
  refine own_go (fun _ k => castTop (ef_cp3_3 m a1 wmo) k) ?_
  show own_Go p e below s _ _ _ (T.setTop (mkF m 0 #[rv a1, iv (3 : Int32), rv wmo, .unset] []))
  refine own_go (fun _ k => XS.aloadN X0.here hx rfl (hb hby d24_0) rfl rfl k) ?_
  obtain ⟨T1, X1, e1, st1⟩ := own_ldcM X0 hx hZ hown (ow155 hw) e0 oMir (g := (mkF m 1 #[rv a1, iv (3 : Int32), rv wmo, .unset] [(.ref wmo)])) rfl (hb hby d24_1)
  refine own_go st1 ?_
  clear st1 X0 e0
  refine own_go (fun _ k => Jvm.RoadKit.acmp (g := (mkF m 3 #[rv a1, iv (3 : Int32), rv wmo, .unset] [(.ref wmo), (.ref wmo)])) X1 hx rfl rfl rfl (pc0 := 3) (pc' := 6) (same := true) rfl (hb hby d24_3) rfl (decide_eq_true rfl) (by decide) (by decide) (XS.iloadN X1.here hx rfl (hb hby d24_6) rfl k)) ?_
  obtain ⟨T2, h2, k2, X2, e2, E2, A2, O2, st2⟩ := newR X1 hx hZ hown (ow156 hw) (ow88 hw) e1 (g := (mkF m 7 #[rv a1, iv (3 : Int32), rv wmo, .unset] [(.int (3 : Int32))])) rfl (hb hby d24_7) rfl (by decide) (cap := 3) (by decide) (by decide) (by show _ ≤ 1; omega) (by show _ ≤ 3; omega)
  obtain ⟨b2, g2⟩ : ∃ z, z = h0.size := ⟨_, rfl⟩
  rw [← g2] at A2 st2
  refine own_go st2 ?_
  clear st2 X1 e1
  have ge2 := Nat.le_of_eq g2.symm
  have big3 : Z.heap.size ≤ b2 := Nat.le_trans O0.1 ge2
  have sz4 : h0.size ≤ b2 := Nat.le_trans K0.1 ge2
  replace O0 := own_oldExt O0 E2
  replace K0 := K0.ext E2
  clear E2
  have f5 : Arv Z h2 b2 k2 (.object "java/lang/Object") (3 : Int32) [.null, .null, .null] .null := (Arv.new A2 (by decide)).pad (pad_rep [] .null 3)
  show own_Go p e below s _ _ _ (T2.setTop (mkF m 10 #[rv a1, iv (3 : Int32), rv wmo, .unset] [(.ref b2)]))
  refine own_go (fun _ k => XS.goto X2.here hx rfl (pc0 := 10) (pc' := 24) rfl (hb hby d24_10) (by decide) (by decide) (XS.astoreN X2.here hx rfl (hb hby d24_24) rfl rfl (l' := #[rv a1, iv (3 : Int32), rv wmo, rv b2]) rfl (XS.aloadN X2.here hx rfl (hb hby d24_25) rfl rfl (XS.iconst X2.here hx rfl (hb hby d24_26) (XS.aloadN X2.here hx rfl (hb hby d24_27) rfl rfl k))))) ?_
  show own_Go p e below s _ _ _ (T2.setTop (mkF m 28 #[rv a1, iv (3 : Int32), rv wmo, rv b2] [(.ref b2), (.int (0 : Int32)), (.ref a1)]))
  refine own_go (fun _ k => XS.iconst X2.here hx rfl (hb hby d24_28) (XS.aloadN X2.here hx rfl (hb hby d24_29) rfl rfl k)) ?_
  show own_Go p e below s _ _ _ (T2.setTop (mkF m 30 #[rv a1, iv (3 : Int32), rv wmo, rv b2] [(.ref a1), (.int (0 : Int32)), (.ref b2), (.int (0 : Int32)), (.ref a1)]))
  obtain ⟨cl6, Ar6, -, S6, M6, -, -⟩ := id (fp0.keep K0 nin0)
  refine own_go (X2.arraylength hx (by rw [e2]; exact Ar6.1) (State.isArrayOf_alike hZ.alike Ar6.2.1) (g := (mkF m 30 #[rv a1, iv (3 : Int32), rv wmo, rv b2] [(.ref a1), (.int (0 : Int32)), (.ref b2), (.int (0 : Int32)), (.ref a1)])) rfl rfl (hb hby d24_30)) ?_
  rw [len_of S6 M6]
  refine own_go (fun _ k => XS.iloadN X2.here hx rfl (hb hby d24_31) rfl k) ?_
  obtain ⟨v7, T7, L7, X7, hQ7, st7⟩ := own_callS (y := own_y10) X2 hx hZ hown (ow157 hw) (ow158 hw) (ow85 hw) (ow159 hw) (rm_mini l Z a0 hw hO [] (10 : Int32) (3 : Int32) h2 O0) 4 0 0 (by show _ ≤ 1; omega) (by show _ ≤ 3; omega) e2 (g := (mkF m 32 #[rv a1, iv (3 : Int32), rv wmo, rv b2] [(.int (3 : Int32)), (.int (10 : Int32)), (.int (0 : Int32)), (.ref b2), (.int (0 : Int32)), (.ref a1)])) rfl (by rw [hml]; rfl) [(.int (10 : Int32)), (.int (3 : Int32))] [(.int (0 : Int32)), (.ref b2), (.int (0 : Int32)), (.ref a1)] (lenOf own_pd_1 rfl) rfl rfl (hb hby d24_32)
  rcases hQ7 with hQ7 | hQ7
  · obtain ⟨rfl, Nc10, hp8, Kc9⟩ := hQ7
    refine own_go st7 ?_
    clear st7 X2 e2
    replace N0 := Fr.app N0 Nc10
    clear Nc10
    show own_Go p e below s _ _ _ (T7.setTop (mkF m 35 #[rv a1, iv (3 : Int32), rv wmo, rv b2] [(.int (3 : Int32)), (.int (0 : Int32)), (.ref b2), (.int (0 : Int32)), (.ref a1)]))
    obtain ⟨cl11, Ar11, q11, S11, M11, P11, G11⟩ := id f5
    obtain ⟨T11, h11, L11, X11, e11, Nn11, Kn11, Fn11, st11⟩ := cpA X7 hx hZ hown (ow160 hw) (ow163 hw) (ow161 hw) (ow162 hw) Kc9 (fp0.keep K0 nin0) f5 (us := [(.ref el1), (.ref el2), (.ref el3)]) (Or.inr ⟨rfl, rfl, ⟨(Sto.ofV Ar11 q11 O2 (own_insKeep fp2 K0)), (Sto.ofV Ar11 q11 O2 (own_insKeep fp3 K0)), (Sto.ofV Ar11 q11 O2 (own_insKeep fp4 K0)), trivial⟩⟩) (by decide) (by decide) (by decide) (by decide) (by decide) rfl (by decide) N0 big3 (g := (mkF m 35 #[rv a1, iv (3 : Int32), rv wmo, rv b2] [(.int (3 : Int32)), (.int (0 : Int32)), (.ref b2), (.int (0 : Int32)), (.ref a1)])) rfl (by rw [hml]; rfl) rfl (hb hby d24_35) (by decide) (W := 0) (Nat.le_of_eq rfl) (by decide)
    refine own_go st11 ?_
    clear st11 X7 Kc9
    replace N0 := Nn11
    replace Fn11 : Arv Z h11 b2 k2 (.object "java/lang/Object") (3 : Int32) [(.ref el1), (.ref el2), (.ref el3)] .null := Fn11
    clear f5
    replace O0 := own_oldKeep O0 Kn11 (allS big3 all0)
    replace K0 := K0.trans Kn11 (allS (Or.inr sz4) all0)
    clear Kn11
    refine own_go (fun _ k => XS.aloadN X11.here hx rfl (hb hby d24_38) rfl rfl k) ?_
    show own_Go p e below s _ _ _ (T11.setTop (mkF m 39 #[rv a1, iv (3 : Int32), rv wmo, rv b2] [(.ref b2)]))
    refine own_retA X11 hx hlk e11 hret rfl rfl (hb hby d24_39) (by show _ ≤ 1; omega) (by show _ ≤ 3; omega) ?_
    exact ⟨b2, k2, rfl, N0, K0, sz4, Fn11⟩
  · obtain ⟨rfl, Nc14, hp12, Kc13⟩ := hQ7
    refine own_go st7 ?_
    clear st7 X2 e2
    replace N0 := Fr.app N0 Nc14
    clear Nc14
    exact absurd (by decide : (3 : Int32) < (10 : Int32)) hp12
def Q_cp2_3 (Z : State) (zc : Int32) (wd : Addr) (kd : ClassId) (wl : Addr) (we : Addr) (ke : ClassId) (weo : Addr) (wmo : Addr) (a1 : Addr) (k : ClassId) (el1 : Addr) (el2 : Addr) (el3 : Addr) (h0 : Heap) (v : Option Value) (h : Heap) (L : List Loc) : Prop := (∃ b : Addr, ∃ k2 : ClassId, v = some (.ref b) ∧ Fr Z.heap.size L ∧ Keep h0 h [] ∧ h0.size ≤ b ∧ Arv Z h b k2 (.object "java/lang/Object") (3 : Int32) [(.ref el1), (.ref el2), (.ref el3)] .null)
theorem ef_cp2_3 (m : MethodId) (x0 : Addr) : entryFrame m #[(.ref x0), (.int (3 : Int32))] 2 = mkF m 0 #[rv x0, iv (3 : Int32)] [] := by first | (simp [entryFrame, mkF, argsToLocals, Value.category]; done) | rfl
set_option maxRecDepth 65536 in
set_option maxHeartbeats 40000000 in
theorem rm_cp2_3 (l : Launch) (Z : State) (a0 : Array Value) (hw : own_W Z a0) {zc : Int32} {wd : Addr} {kd : ClassId} {wl : Addr} {we : Addr} {ke : ClassId} {weo : Addr} {wmo : Addr} (hO : own_Olds Z zc wd kd wl we ke weo wmo) (ws : List Jvm.Cond) (a1 : Addr) (k : ClassId) (el1 : Addr) (el2 : Addr) (el3 : Addr) (h0 : Heap) (O0 : Ext Z.heap h0) (fp0 : Arv Z h0 a1 k (.object "java/lang/Object") (10 : Int32) [(.ref el1), (.ref el2), (.ref el3), .null, .null, .null, .null, .null, .null, .null] .null) (fp1 : Exa Z h0 a1 "[Ljava/lang/Object;") (fp2 : Ins Z h0 el1 "java/lang/Object" true) (fp3 : Ins Z h0 el2 "java/lang/Object" true) (fp4 : Ins Z h0 el3 "java/lang/Object" true) :
    own_MF l Z h0 own_y14 jdk_65_method_119_code 2 (some (.array (.object "java/lang/Object"))) ({ frames := 3, cells := 1, slots := 3, locals := 45 } : Room) #[(.ref a1), (.int (3 : Int32))] (Q_cp2_3 Z zc wd kd wl we ke weo wmo a1 k el1 el2 el3 h0) ws := by
  refine own_met (Q := (Q_cp2_3 Z zc wd kd wl we ke weo wmo a1 k el1 el2 el3 h0)) _ _ (plainFor_of_name own_pn_5) ?_
  intro p e s m below meth c T X0 hx hby hml hret hlk hZ hown hnm e0
  replace hown : s.vm.findClass "java/util/Arrays" = some m.cls := hown
  replace hnm : meth.name = "copyOf" := hnm
  have hml : c.maxLocals = 2 := hml
  obtain ⟨oCS, oCz, oDE, oDV, oEL, oLE, oLF, oLV, oEM, oMir⟩ := id hO
  have N0 := Fr.nil Z.heap.size
  have K0 := Keep.refl h0 []
  refine own_go (fun _ k => castTop (ef_cp2_3 m a1) k) ?_
  show own_Go p e below s _ _ _ (T.setTop (mkF m 0 #[rv a1, iv (3 : Int32)] []))
  refine own_go (fun _ k => XS.aloadN X0.here hx rfl (hb hby d23_0) rfl rfl (XS.iloadN X0.here hx rfl (hb hby d23_1) rfl (XS.aloadN X0.here hx rfl (hb hby d23_2) rfl rfl k))) ?_
  obtain ⟨T1, X1, e1, st1⟩ := own_gcls X0 hx hZ hown (ow146 hw) (ow147 hw) (ow123 hw) (ow149 hw) (ow148 hw) (ow150 hw) e0 (fp1.keep K0) oMir (g := (mkF m 3 #[rv a1, iv (3 : Int32)] [(.ref a1), (.int (3 : Int32)), (.ref a1)])) rfl (by rw [hml]; rfl) rfl (hb hby d23_3) (by decide) (W := 2) (Nat.le_of_eq rfl) (by decide)
  refine own_go st1 ?_
  clear st1 X0 e0
  obtain ⟨v2, T2, L2, X2, hQ2, st2⟩ := own_callS (y := own_y13) X1 hx hZ hown (ow152 hw) (ow153 hw) (ow144 hw) (ow154 hw) (rm_cp3_3 l Z a0 hw hO [] a1 k el1 el2 el3 h0 O0 (fp0.keep K0 nin0) (fp1.keep K0) (own_insKeep fp2 K0) (own_insKeep fp3 K0) (own_insKeep fp4 K0)) 0 1 3 (by show _ ≤ 1; omega) (by show _ ≤ 3; omega) e1 (g := (mkF m 6 #[rv a1, iv (3 : Int32)] [(.ref wmo), (.int (3 : Int32)), (.ref a1)])) rfl (by rw [hml]; rfl) [(.ref a1), (.int (3 : Int32)), (.ref wmo)] [] (lenOf own_pd_6 rfl) rfl rfl (hb hby d23_6)
  obtain ⟨w3, w4, rfl, Nc8, Kc7, hb5, f6⟩ := hQ2
  refine own_go st2 ?_
  clear st2 X1 e1
  replace N0 := Fr.app N0 Nc8
  clear Nc8
  have big9 : Z.heap.size ≤ w3 := Nat.le_trans O0.1 hb5
  have sz10 : h0.size ≤ w3 := Nat.le_trans K0.1 hb5
  replace O0 := own_oldKeep O0 Kc7 all0
  replace K0 := K0.trans Kc7 all0
  clear Kc7
  show own_Go p e below s _ _ _ (T2.setTop (mkF m 9 #[rv a1, iv (3 : Int32)] [(.ref w3)]))
  refine own_retA X2 hx hlk (rfl : T2.heap = T2.heap) hret rfl rfl (hb hby d23_9) (by show _ ≤ 1; omega) (by show _ ≤ 3; omega) ?_
  exact ⟨w3, w4, rfl, N0, K0, sz10, f6⟩
def Q_toArr_3 (Z : State) (zc : Int32) (wd : Addr) (kd : ClassId) (wl : Addr) (we : Addr) (ke : ClassId) (weo : Addr) (wmo : Addr) (a1 : Addr) (k : ClassId) (cq_ : Addr) (el1 : Addr) (el2 : Addr) (el3 : Addr) (h0 : Heap) (v : Option Value) (h : Heap) (L : List Loc) : Prop := (∃ b : Addr, ∃ k2 : ClassId, v = some (.ref b) ∧ Fr Z.heap.size L ∧ Keep h0 h [] ∧ h0.size ≤ b ∧ Arv Z h b k2 (.object "java/lang/Object") (3 : Int32) [(.ref el1), (.ref el2), (.ref el3)] .null)
theorem ef_toArr_3 (m : MethodId) (x0 : Addr) : entryFrame m #[(.ref x0)] 1 = mkF m 0 #[rv x0] [] := by first | (simp [entryFrame, mkF, argsToLocals, Value.category]; done) | rfl
set_option maxRecDepth 65536 in
set_option maxHeartbeats 40000000 in
theorem rm_toArr_3 (l : Launch) (Z : State) (a0 : Array Value) (hw : own_W Z a0) {zc : Int32} {wd : Addr} {kd : ClassId} {wl : Addr} {we : Addr} {ke : ClassId} {weo : Addr} {wmo : Addr} (hO : own_Olds Z zc wd kd wl we ke weo wmo) (ws : List Jvm.Cond) (a1 : Addr) (k : ClassId) (cq_ : Addr) (el1 : Addr) (el2 : Addr) (el3 : Addr) (h0 : Heap) (O0 : Ext Z.heap h0) (fp0 : Exa Z h0 a1 "java/util/ArrayList") (fp1 : Fld Z h0 a1 "java/util/ArrayList" "size" "I" (.int (3 : Int32))) (fp2 : Fld Z h0 a1 "java/util/ArrayList" "elementData" "[Ljava/lang/Object;" (.ref cq_)) (fp3 : Arv Z h0 cq_ k (.object "java/lang/Object") (10 : Int32) [(.ref el1), (.ref el2), (.ref el3), .null, .null, .null, .null, .null, .null, .null] .null) (fp4 : Exa Z h0 cq_ "[Ljava/lang/Object;") (fp5 : Ins Z h0 el1 "java/lang/Object" true) (fp6 : Ins Z h0 el2 "java/lang/Object" true) (fp7 : Ins Z h0 el3 "java/lang/Object" true) :
    own_MF l Z h0 own_y15 jdk_38_method_16_code 1 (some (.array (.object "java/lang/Object"))) ({ frames := 4, cells := 1, slots := 3, locals := 58 } : Room) #[(.ref a1)] (Q_toArr_3 Z zc wd kd wl we ke weo wmo a1 k cq_ el1 el2 el3 h0) ws := by
  refine own_met (Q := (Q_toArr_3 Z zc wd kd wl we ke weo wmo a1 k cq_ el1 el2 el3 h0)) _ _ (plainFor_of_name own_pn_2) ?_
  intro p e s m below meth c T X0 hx hby hml hret hlk hZ hown hnm e0
  replace hown : s.vm.findClass "java/util/ArrayList" = some m.cls := hown
  replace hnm : meth.name = "toArray" := hnm
  have hml : c.maxLocals = 1 := hml
  obtain ⟨oCS, oCz, oDE, oDV, oEL, oLE, oLF, oLV, oEM, oMir⟩ := id hO
  have N0 := Fr.nil Z.heap.size
  have K0 := Keep.refl h0 []
  refine own_go (fun _ k => castTop (ef_toArr_3 m a1) k) ?_
  show own_Go p e below s _ _ _ (T.setTop (mkF m 0 #[rv a1] []))
  refine own_go (fun _ k => XS.aloadN X0.here hx rfl (hb hby d22_0) rfl rfl k) ?_
  obtain ⟨T1, X1, e1, st1⟩ := getF X0 hx hZ hown (host := "") (Or.inl (ow57 hw)) Via.refl e0 (fp2.keep K0 nin0) (g := (mkF m 1 #[rv a1] [(.ref a1)])) rfl rfl (hb hby d22_1)
  refine own_go st1 ?_
  clear st1 X0 e0
  refine own_go (fun _ k => XS.aloadN X1.here hx rfl (hb hby d22_4) rfl rfl k) ?_
  obtain ⟨T2, X2, e2, st2⟩ := getF X1 hx hZ hown (host := "") (Or.inl (ow66 hw)) Via.refl e1 (fp1.keep K0 nin0) (g := (mkF m 5 #[rv a1] [(.ref a1), (.ref cq_)])) rfl rfl (hb hby d22_5)
  refine own_go st2 ?_
  clear st2 X1 e1
  obtain ⟨v3, T3, L3, X3, hQ3, st3⟩ := own_callS (y := own_y14) X2 hx hZ hown (ow142 hw) (ow143 hw) (ow144 hw) (ow145 hw) (rm_cp2_3 l Z a0 hw hO [] cq_ k el1 el2 el3 h0 O0 (fp3.keep K0 nin0) (fp4.keep K0) (own_insKeep fp5 K0) (own_insKeep fp6 K0) (own_insKeep fp7 K0)) 0 1 3 (by show _ ≤ 1; omega) (by show _ ≤ 3; omega) e2 (g := (mkF m 8 #[rv a1] [(.int (3 : Int32)), (.ref cq_)])) rfl (by rw [hml]; rfl) [(.ref cq_), (.int (3 : Int32))] [] (lenOf own_pd_7 rfl) rfl rfl (hb hby d22_8)
  obtain ⟨w4, w5, rfl, Nc9, Kc8, hb6, f7⟩ := hQ3
  refine own_go st3 ?_
  clear st3 X2 e2
  replace N0 := Fr.app N0 Nc9
  clear Nc9
  have big10 : Z.heap.size ≤ w4 := Nat.le_trans O0.1 hb6
  have sz11 : h0.size ≤ w4 := Nat.le_trans K0.1 hb6
  replace O0 := own_oldKeep O0 Kc8 all0
  replace K0 := K0.trans Kc8 all0
  clear Kc8
  show own_Go p e below s _ _ _ (T3.setTop (mkF m 11 #[rv a1] [(.ref w4)]))
  refine own_retA X3 hx hlk (rfl : T3.heap = T3.heap) hret rfl rfl (hb hby d22_11) (by show _ ≤ 1; omega) (by show _ ≤ 3; omega) ?_
  exact ⟨w4, w5, rfl, N0, K0, sz11, f7⟩
theorem d21_0 : decode jdk_38_method_9_code 0 = .ok (.aload_n 0, 1) := by decide +kernel
theorem d21_1 : decode jdk_38_method_9_code 1 = .ok (.getfield 48, 3) := by decide +kernel
theorem d21_4 : decode jdk_38_method_9_code 4 = .ok (.ifCond .ne 7, 3) := by decide +kernel
theorem d21_7 : decode jdk_38_method_9_code 7 = .ok (.iconst 1, 1) := by decide +kernel
theorem d21_8 : decode jdk_38_method_9_code 8 = .ok (.goto 4, 3) := by decide +kernel
theorem d21_12 : decode jdk_38_method_9_code 12 = .ok (.ireturn, 1) := by decide +kernel
def Q_alEmpty0 (Z : State) (zc : Int32) (wd : Addr) (kd : ClassId) (wl : Addr) (we : Addr) (ke : ClassId) (weo : Addr) (wmo : Addr) (a1 : Addr) (h0 : Heap) (v : Option Value) (h : Heap) (L : List Loc) : Prop := (v = some (.int (1 : Int32)) ∧ Fr Z.heap.size L ∧ h = h0)
theorem ef_alEmpty0 (m : MethodId) (x0 : Addr) : entryFrame m #[(.ref x0)] 1 = mkF m 0 #[rv x0] [] := by first | (simp [entryFrame, mkF, argsToLocals, Value.category]; done) | rfl
set_option maxRecDepth 65536 in
set_option maxHeartbeats 40000000 in
theorem rm_alEmpty0 (l : Launch) (Z : State) (a0 : Array Value) (hw : own_W Z a0) {zc : Int32} {wd : Addr} {kd : ClassId} {wl : Addr} {we : Addr} {ke : ClassId} {weo : Addr} {wmo : Addr} (hO : own_Olds Z zc wd kd wl we ke weo wmo) (ws : List Jvm.Cond) (a1 : Addr) (h0 : Heap) (O0 : Ext Z.heap h0) (fp0 : Fld Z h0 a1 "java/util/ArrayList" "size" "I" (.int (0 : Int32))) :
    own_MF l Z h0 own_y16 jdk_38_method_9_code 1 (some .boolean) ({ frames := 0, cells := 0, slots := 0, locals := 0 } : Room) #[(.ref a1)] (Q_alEmpty0 Z zc wd kd wl we ke weo wmo a1 h0) ws := by
  refine own_met (Q := (Q_alEmpty0 Z zc wd kd wl we ke weo wmo a1 h0)) _ _ (plainFor_of_name own_pn_2) ?_
  intro p e s m below meth c T X0 hx hby hml hret hlk hZ hown hnm e0
  replace hown : s.vm.findClass "java/util/ArrayList" = some m.cls := hown
  replace hnm : meth.name = "isEmpty" := hnm
  have hml : c.maxLocals = 1 := hml
  obtain ⟨oCS, oCz, oDE, oDV, oEL, oLE, oLF, oLV, oEM, oMir⟩ := id hO
  have N0 := Fr.nil Z.heap.size
  have K0 := Keep.refl h0 []
  refine own_go (fun _ k => castTop (ef_alEmpty0 m a1) k) ?_
  show own_Go p e below s _ _ _ (T.setTop (mkF m 0 #[rv a1] []))
  refine own_go (fun _ k => XS.aloadN X0.here hx rfl (hb hby d21_0) rfl rfl k) ?_
  obtain ⟨T1, X1, e1, st1⟩ := getF X0 hx hZ hown (host := "") (Or.inl (ow66 hw)) Via.refl e0 (fp0.keep K0 nin0) (g := (mkF m 1 #[rv a1] [(.ref a1)])) rfl rfl (hb hby d21_1)
  refine own_go st1 ?_
  clear st1 X0 e0
  refine own_go (fun _ k => XS.ifNo X1.here hx rfl (hb hby d21_4) rfl ((if0 _ _).trans (teq (by decide : (0 : Int32) = (0 : Int32))).2) (XS.iconst X1.here hx rfl (hb hby d21_7) (XS.goto X1.here hx rfl (pc0 := 8) (pc' := 12) rfl (hb hby d21_8) (by decide) (by decide) k))) ?_
  show own_Go p e below s _ _ _ (T1.setTop (mkF m 12 #[rv a1] [(.int (1 : Int32))]))
  refine own_retN X1 hx hlk e1 (t := .boolean) hret (by simp) (hb hby d21_12) (by show _ ≤ 0; omega) (by show _ ≤ 0; omega) ?_
  exact ⟨rfl, N0, rfl⟩
theorem d21_11 : decode jdk_38_method_9_code 11 = .ok (.iconst 0, 1) := by decide +kernel
def Q_alEmpty1 (Z : State) (zc : Int32) (wd : Addr) (kd : ClassId) (wl : Addr) (we : Addr) (ke : ClassId) (weo : Addr) (wmo : Addr) (a1 : Addr) (w : Int32) (h0 : Heap) (v : Option Value) (h : Heap) (L : List Loc) : Prop := (v = some (.int (0 : Int32)) ∧ Fr Z.heap.size L ∧ h = h0)
theorem ef_alEmpty1 (m : MethodId) (x0 : Addr) : entryFrame m #[(.ref x0)] 1 = mkF m 0 #[rv x0] [] := by first | (simp [entryFrame, mkF, argsToLocals, Value.category]; done) | rfl
set_option maxRecDepth 65536 in
set_option maxHeartbeats 40000000 in
theorem rm_alEmpty1 (l : Launch) (Z : State) (a0 : Array Value) (hw : own_W Z a0) {zc : Int32} {wd : Addr} {kd : ClassId} {wl : Addr} {we : Addr} {ke : ClassId} {weo : Addr} {wmo : Addr} (hO : own_Olds Z zc wd kd wl we ke weo wmo) (ws : List Jvm.Cond) (a1 : Addr) (w : Int32) (h0 : Heap) (O0 : Ext Z.heap h0) (fp0 : Fld Z h0 a1 "java/util/ArrayList" "size" "I" (.int w)) (hw0 : ¬ (w = (0 : Int32))) :
    own_MF l Z h0 own_y16 jdk_38_method_9_code 1 (some .boolean) ({ frames := 0, cells := 0, slots := 0, locals := 0 } : Room) #[(.ref a1)] (Q_alEmpty1 Z zc wd kd wl we ke weo wmo a1 w h0) ws := by
  refine own_met (Q := (Q_alEmpty1 Z zc wd kd wl we ke weo wmo a1 w h0)) _ _ (plainFor_of_name own_pn_2) ?_
  intro p e s m below meth c T X0 hx hby hml hret hlk hZ hown hnm e0
  replace hown : s.vm.findClass "java/util/ArrayList" = some m.cls := hown
  replace hnm : meth.name = "isEmpty" := hnm
  have hml : c.maxLocals = 1 := hml
  obtain ⟨oCS, oCz, oDE, oDV, oEL, oLE, oLF, oLV, oEM, oMir⟩ := id hO
  have N0 := Fr.nil Z.heap.size
  have K0 := Keep.refl h0 []
  refine own_go (fun _ k => castTop (ef_alEmpty1 m a1) k) ?_
  show own_Go p e below s _ _ _ (T.setTop (mkF m 0 #[rv a1] []))
  refine own_go (fun _ k => XS.aloadN X0.here hx rfl (hb hby d21_0) rfl rfl k) ?_
  obtain ⟨T1, X1, e1, st1⟩ := getF X0 hx hZ hown (host := "") (Or.inl (ow66 hw)) Via.refl e0 (fp0.keep K0 nin0) (g := (mkF m 1 #[rv a1] [(.ref a1)])) rfl rfl (hb hby d21_1)
  refine own_go st1 ?_
  clear st1 X0 e0
  refine own_go (fun _ k => XS.ifYes X1.here hx rfl (pc0 := 4) (pc' := 11) rfl (hb hby d21_4) rfl ((if0 _ _).trans (feq hw0).2) (by decide) (by decide) (XS.iconst X1.here hx rfl (hb hby d21_11) k)) ?_
  show own_Go p e below s _ _ _ (T1.setTop (mkF m 12 #[rv a1] [(.int (0 : Int32))]))
  refine own_retN X1 hx hlk e1 (t := .boolean) hret (by simp) (hb hby d21_12) (by show _ ≤ 0; omega) (by show _ ≤ 0; omega) ?_
  exact ⟨rfl, N0, rfl⟩
theorem d29_0 : decode jdk_47_method_1_code 0 = .ok (.aload_n 0, 1) := by decide +kernel
theorem d29_1 : decode jdk_47_method_1_code 1 = .ok (.invokespecial 1, 3) := by decide +kernel
theorem d29_4 : decode jdk_47_method_1_code 4 = .ok (.return_, 1) := by decide +kernel
def Q_aicinit (Z : State) (zc : Int32) (wd : Addr) (kd : ClassId) (wl : Addr) (we : Addr) (ke : ClassId) (weo : Addr) (wmo : Addr) (a1 : Addr) (h0 : Heap) (v : Option Value) (h : Heap) (L : List Loc) : Prop := (v = none ∧ Fr Z.heap.size L ∧ h = h0)
theorem ef_aicinit (m : MethodId) (x0 : Addr) : entryFrame m #[(.ref x0)] 1 = mkF m 0 #[rv x0] [] := by first | (simp [entryFrame, mkF, argsToLocals, Value.category]; done) | rfl
set_option maxRecDepth 65536 in
set_option maxHeartbeats 40000000 in
theorem rm_aicinit (l : Launch) (Z : State) (a0 : Array Value) (hw : own_W Z a0) {zc : Int32} {wd : Addr} {kd : ClassId} {wl : Addr} {we : Addr} {ke : ClassId} {weo : Addr} {wmo : Addr} (hO : own_Olds Z zc wd kd wl we ke weo wmo) (ws : List Jvm.Cond) (a1 : Addr) (h0 : Heap) (O0 : Ext Z.heap h0) :
    own_MF l Z h0 own_y17 jdk_47_method_1_code 1 none ({ frames := 2, cells := 0, slots := 0, locals := 24 } : Room) #[(.ref a1)] (Q_aicinit Z zc wd kd wl we ke weo wmo a1 h0) ws := by
  refine own_met (Q := (Q_aicinit Z zc wd kd wl we ke weo wmo a1 h0)) _ _ (plainFor_of_name own_pn_6) ?_
  intro p e s m below meth c T X0 hx hby hml hret hlk hZ hown hnm e0
  replace hown : s.vm.findClass "java/util/ImmutableCollections$AbstractImmutableCollection" = some m.cls := hown
  replace hnm : meth.name = "<init>" := hnm
  have hml : c.maxLocals = 1 := hml
  obtain ⟨oCS, oCz, oDE, oDV, oEL, oLE, oLF, oLV, oEM, oMir⟩ := id hO
  have N0 := Fr.nil Z.heap.size
  have K0 := Keep.refl h0 []
  refine own_go (fun _ k => castTop (ef_aicinit m a1) k) ?_
  show own_Go p e below s _ _ _ (T.setTop (mkF m 0 #[rv a1] []))
  refine own_go (fun _ k => XS.aloadN X0.here hx rfl (hb hby d29_0) rfl rfl k) ?_
  obtain ⟨v1, T1, L1, X1, hQ1, st1⟩ := own_callI (y := own_y0) X0 hx hZ hown (ow186 hw) (ow48 hw) (ow51 hw) (ow52 hw) (rm_alcinit l Z a0 hw hO [] a1 h0 O0) 0 0 0 rfl (by show _ ≤ 0; omega) (by show _ ≤ 0; omega) e0 (g := (mkF m 1 #[rv a1] [(.ref a1)])) rfl (by rw [hml]; rfl) a1 [] [] (lenOf own_pd_0 rfl) rfl rfl (hb hby d29_1)
  obtain ⟨rfl, Nc3, Kc2⟩ := hQ1
  refine own_go st1 ?_
  clear st1 X0 e0
  replace N0 := Fr.app N0 Nc3
  clear Nc3
  show own_Go p e below s _ _ _ (T1.setTop (mkF m 4 #[rv a1] []))
  refine own_retV X1 hx hlk Kc2 hret (hb hby d29_4) (by show _ ≤ 0; omega) (by show _ ≤ 0; omega) ?_
  exact ⟨rfl, N0, rfl⟩
theorem d28_0 : decode jdk_46_method_1_code 0 = .ok (.aload_n 0, 1) := by decide +kernel
theorem d28_1 : decode jdk_46_method_1_code 1 = .ok (.invokespecial 1, 3) := by decide +kernel
theorem d28_4 : decode jdk_46_method_1_code 4 = .ok (.return_, 1) := by decide +kernel
def Q_ailinit (Z : State) (zc : Int32) (wd : Addr) (kd : ClassId) (wl : Addr) (we : Addr) (ke : ClassId) (weo : Addr) (wmo : Addr) (a1 : Addr) (h0 : Heap) (v : Option Value) (h : Heap) (L : List Loc) : Prop := (v = none ∧ Fr Z.heap.size L ∧ h = h0)
theorem ef_ailinit (m : MethodId) (x0 : Addr) : entryFrame m #[(.ref x0)] 1 = mkF m 0 #[rv x0] [] := by first | (simp [entryFrame, mkF, argsToLocals, Value.category]; done) | rfl
set_option maxRecDepth 65536 in
set_option maxHeartbeats 40000000 in
theorem rm_ailinit (l : Launch) (Z : State) (a0 : Array Value) (hw : own_W Z a0) {zc : Int32} {wd : Addr} {kd : ClassId} {wl : Addr} {we : Addr} {ke : ClassId} {weo : Addr} {wmo : Addr} (hO : own_Olds Z zc wd kd wl we ke weo wmo) (ws : List Jvm.Cond) (a1 : Addr) (h0 : Heap) (O0 : Ext Z.heap h0) :
    own_MF l Z h0 own_y18 jdk_46_method_1_code 1 none ({ frames := 3, cells := 0, slots := 0, locals := 36 } : Room) #[(.ref a1)] (Q_ailinit Z zc wd kd wl we ke weo wmo a1 h0) ws := by
  refine own_met (Q := (Q_ailinit Z zc wd kd wl we ke weo wmo a1 h0)) _ _ (plainFor_of_name own_pn_7) ?_
  intro p e s m below meth c T X0 hx hby hml hret hlk hZ hown hnm e0
  replace hown : s.vm.findClass "java/util/ImmutableCollections$AbstractImmutableList" = some m.cls := hown
  replace hnm : meth.name = "<init>" := hnm
  have hml : c.maxLocals = 1 := hml
  obtain ⟨oCS, oCz, oDE, oDV, oEL, oLE, oLF, oLV, oEM, oMir⟩ := id hO
  have N0 := Fr.nil Z.heap.size
  have K0 := Keep.refl h0 []
  refine own_go (fun _ k => castTop (ef_ailinit m a1) k) ?_
  show own_Go p e below s _ _ _ (T.setTop (mkF m 0 #[rv a1] []))
  refine own_go (fun _ k => XS.aloadN X0.here hx rfl (hb hby d28_0) rfl rfl k) ?_
  obtain ⟨v1, T1, L1, X1, hQ1, st1⟩ := own_callI (y := own_y17) X0 hx hZ hown (ow180 hw) (ow181 hw) (ow184 hw) (ow185 hw) (rm_aicinit l Z a0 hw hO [] a1 h0 O0) 0 0 0 rfl (by show _ ≤ 0; omega) (by show _ ≤ 0; omega) e0 (g := (mkF m 1 #[rv a1] [(.ref a1)])) rfl (by rw [hml]; rfl) a1 [] [] (lenOf own_pd_0 rfl) rfl rfl (hb hby d28_1)
  obtain ⟨rfl, Nc3, Kc2⟩ := hQ1
  refine own_go st1 ?_
  clear st1 X0 e0
  replace N0 := Fr.app N0 Nc3
  clear Nc3
  show own_Go p e below s _ _ _ (T1.setTop (mkF m 4 #[rv a1] []))
  refine own_retV X1 hx hlk Kc2 hret (hb hby d28_4) (by show _ ≤ 0; omega) (by show _ ≤ 0; omega) ?_
  exact ⟨rfl, N0, rfl⟩
theorem d27_0 : decode jdk_44_method_1_code 0 = .ok (.aload_n 0, 1) := by decide +kernel
theorem d27_1 : decode jdk_44_method_1_code 1 = .ok (.invokespecial 1, 3) := by decide +kernel
theorem d27_4 : decode jdk_44_method_1_code 4 = .ok (.aload_n 0, 1) := by decide +kernel
theorem d27_5 : decode jdk_44_method_1_code 5 = .ok (.aload_n 1, 1) := by decide +kernel
theorem d27_6 : decode jdk_44_method_1_code 6 = .ok (.invokestatic 7, 3) := by decide +kernel
theorem d27_9 : decode jdk_44_method_1_code 9 = .ok (.putfield 13, 3) := by decide +kernel
theorem d27_12 : decode jdk_44_method_1_code 12 = .ok (.aload_n 0, 1) := by decide +kernel
theorem d27_13 : decode jdk_44_method_1_code 13 = .ok (.getstatic 19, 3) := by decide +kernel
theorem d27_16 : decode jdk_44_method_1_code 16 = .ok (.putfield 24, 3) := by decide +kernel
theorem d27_19 : decode jdk_44_method_1_code 19 = .ok (.return_, 1) := by decide +kernel
def Q_l1init (Z : State) (zc : Int32) (wd : Addr) (kd : ClassId) (wl : Addr) (we : Addr) (ke : ClassId) (weo : Addr) (wmo : Addr) (a1 : Addr) (a2 : Addr) (h0 : Heap) (v : Option Value) (h : Heap) (L : List Loc) : Prop := (v = none ∧ Fr Z.heap.size L ∧ Keep h0 h [a1] ∧ Exa Z h a1 "java/util/ImmutableCollections$List12" ∧ Fld Z h a1 "java/util/ImmutableCollections$List12" "e0" "Ljava/lang/Object;" (.ref a2) ∧ Fld Z h a1 "java/util/ImmutableCollections$List12" "e1" "Ljava/lang/Object;" (.ref weo))
theorem ef_l1init (m : MethodId) (x0 : Addr) (x1 : Addr) : entryFrame m #[(.ref x0), (.ref x1)] 2 = mkF m 0 #[rv x0, rv x1] [] := by first | (simp [entryFrame, mkF, argsToLocals, Value.category]; done) | rfl
set_option maxRecDepth 65536 in
set_option maxHeartbeats 40000000 in
theorem rm_l1init (l : Launch) (Z : State) (a0 : Array Value) (hw : own_W Z a0) {zc : Int32} {wd : Addr} {kd : ClassId} {wl : Addr} {we : Addr} {ke : ClassId} {weo : Addr} {wmo : Addr} (hO : own_Olds Z zc wd kd wl we ke weo wmo) (ws : List Jvm.Cond) (a1 : Addr) (a2 : Addr) (h0 : Heap) (O0 : Ext Z.heap h0) (fp0 : Exa Z h0 a1 "java/util/ImmutableCollections$List12") (fp1 : Fld Z h0 a1 "java/util/ImmutableCollections$List12" "e0" "Ljava/lang/Object;" .null) (fp2 : Fld Z h0 a1 "java/util/ImmutableCollections$List12" "e1" "Ljava/lang/Object;" .null) (big_a1 : Z.heap.size ≤ a1) :
    own_MF l Z h0 own_y19 jdk_44_method_1_code 2 none ({ frames := 4, cells := 0, slots := 0, locals := 48 } : Room) #[(.ref a1), (.ref a2)] (Q_l1init Z zc wd kd wl we ke weo wmo a1 a2 h0) ws := by
  refine own_met (Q := (Q_l1init Z zc wd kd wl we ke weo wmo a1 a2 h0)) _ _ (plainFor_of_name own_pn_8) ?_
  intro p e s m below meth c T X0 hx hby hml hret hlk hZ hown hnm e0
  replace hown : s.vm.findClass "java/util/ImmutableCollections$List12" = some m.cls := hown
  replace hnm : meth.name = "<init>" := hnm
  have hml : c.maxLocals = 2 := hml
  obtain ⟨oCS, oCz, oDE, oDV, oEL, oLE, oLF, oLV, oEM, oMir⟩ := id hO
  have N0 := Fr.nil Z.heap.size
  have K0 := Keep.refl h0 [a1]
  refine own_go (fun _ k => castTop (ef_l1init m a1 a2) k) ?_
  show own_Go p e below s _ _ _ (T.setTop (mkF m 0 #[rv a1, rv a2] []))
  refine own_go (fun _ k => XS.aloadN X0.here hx rfl (hb hby d27_0) rfl rfl k) ?_
  obtain ⟨v1, T1, L1, X1, hQ1, st1⟩ := own_callI (y := own_y18) X0 hx hZ hown (ow174 hw) (ow175 hw) (ow178 hw) (ow179 hw) (rm_ailinit l Z a0 hw hO [] a1 h0 O0) 0 0 0 rfl (by show _ ≤ 0; omega) (by show _ ≤ 0; omega) e0 (g := (mkF m 1 #[rv a1, rv a2] [(.ref a1)])) rfl (by rw [hml]; rfl) a1 [] [] (lenOf own_pd_0 rfl) rfl rfl (hb hby d27_1)
  obtain ⟨rfl, Nc3, Kc2⟩ := hQ1
  refine own_go st1 ?_
  clear st1 X0 e0
  replace N0 := Fr.app N0 Nc3
  clear Nc3
  refine own_go (fun _ k => XS.aloadN X1.here hx rfl (hb hby d27_4) rfl rfl (XS.aloadN X1.here hx rfl (hb hby d27_5) rfl rfl k)) ?_
  obtain ⟨v4, T4, L4, X4, hQ4, st4⟩ := own_callS (y := own_y11) X1 hx hZ hown (ow188 hw) (ow189 hw) (ow107 hw) (ow190 hw) (rm_rnn1 l Z a0 hw hO [] a2 h0 O0) 1 0 0 (by show _ ≤ 0; omega) (by show _ ≤ 0; omega) Kc2 (g := (mkF m 6 #[rv a1, rv a2] [(.ref a2), (.ref a1)])) rfl (by rw [hml]; rfl) [(.ref a2)] [(.ref a1)] (lenOf own_pd_8 rfl) rfl rfl (hb hby d27_6)
  obtain ⟨rfl, Nc6, Kc5⟩ := hQ4
  refine own_go st4 ?_
  clear st4 X1 Kc2
  replace N0 := Fr.app N0 Nc6
  clear Nc6
  show own_Go p e below s _ _ _ (T4.setTop (mkF m 9 #[rv a1, rv a2] [(.ref a2), (.ref a1)]))
  obtain ⟨T7, h7, X7, e7, W7, st7⟩ := putF X4 hx hZ hown (host := "") (Or.inl (ow191 hw)) Via.refl Kc5 fp1 fp0 (Or.inr ⟨(ow192 hw), rfl, hnm⟩) (ow168 hw) (ty := (.object "java/lang/Object")) own_fd4 rfl rfl (g := (mkF m 9 #[rv a1, rv a2] [(.ref a2), (.ref a1)])) rfl rfl (hb hby d27_9)
  refine own_go st7 ?_
  clear st7 X4 Kc5
  replace N0 := Fr.snoc X7 N0 big_a1
  replace fp0 := fp0.wr W7
  replace fp1 := fp1.same W7
  replace fp2 := fp2.other W7 (.inr (own_sn3 hw))
  replace O0 := own_oldWr O0 W7 big_a1
  replace K0 := K0.wr W7 (Or.inl (List.mem_of_getElem? (i := 0) rfl))
  clear W7
  refine own_go (fun _ k => XS.aloadN X7.here hx rfl (hb hby d27_12) rfl rfl k) ?_
  obtain ⟨T8, X8, e8, st8⟩ := getS2 X7 hx hZ hown (Or.inr (ow193 hw)) Via.refl e7 (oEM.ext O0) (g := (mkF m 13 #[rv a1, rv a2] [(.ref a1)])) rfl (hb hby d27_13)
  refine own_go st8 ?_
  clear st8 X7 e7
  obtain ⟨T9, h9, X9, e9, W9, st9⟩ := putF X8 hx hZ hown (host := "") (Or.inl (ow194 hw)) Via.refl e8 fp2 fp0 (Or.inr ⟨(ow195 hw), rfl, hnm⟩) (ow168 hw) (ty := (.object "java/lang/Object")) own_fd4 rfl rfl (g := (mkF m 16 #[rv a1, rv a2] [(.ref weo), (.ref a1)])) rfl rfl (hb hby d27_16)
  refine own_go st9 ?_
  clear st9 X8 e8
  replace N0 := Fr.snoc X9 N0 big_a1
  replace fp0 := fp0.wr W9
  replace fp1 := fp1.other W9 (.inr (own_sn3 hw).symm)
  replace fp2 := fp2.same W9
  replace O0 := own_oldWr O0 W9 big_a1
  replace K0 := K0.wr W9 (Or.inl (List.mem_of_getElem? (i := 0) rfl))
  clear W9
  show own_Go p e below s _ _ _ (T9.setTop (mkF m 19 #[rv a1, rv a2] []))
  refine own_retV X9 hx hlk e9 hret (hb hby d27_19) (by show _ ≤ 0; omega) (by show _ ≤ 0; omega) ?_
  exact ⟨rfl, N0, K0, fp0, fp1, fp2⟩
theorem d40_0 : decode jdk_44_method_2_code 0 = .ok (.aload_n 0, 1) := by decide +kernel
theorem d40_1 : decode jdk_44_method_2_code 1 = .ok (.invokespecial 1, 3) := by decide +kernel
theorem d40_4 : decode jdk_44_method_2_code 4 = .ok (.aload_n 0, 1) := by decide +kernel
theorem d40_5 : decode jdk_44_method_2_code 5 = .ok (.aload_n 1, 1) := by decide +kernel
theorem d40_6 : decode jdk_44_method_2_code 6 = .ok (.invokestatic 7, 3) := by decide +kernel
theorem d40_9 : decode jdk_44_method_2_code 9 = .ok (.putfield 13, 3) := by decide +kernel
theorem d40_12 : decode jdk_44_method_2_code 12 = .ok (.aload_n 0, 1) := by decide +kernel
theorem d40_13 : decode jdk_44_method_2_code 13 = .ok (.aload_n 2, 1) := by decide +kernel
theorem d40_14 : decode jdk_44_method_2_code 14 = .ok (.invokestatic 7, 3) := by decide +kernel
theorem d40_17 : decode jdk_44_method_2_code 17 = .ok (.putfield 24, 3) := by decide +kernel
theorem d40_20 : decode jdk_44_method_2_code 20 = .ok (.return_, 1) := by decide +kernel
def Q_l2init (Z : State) (zc : Int32) (wd : Addr) (kd : ClassId) (wl : Addr) (we : Addr) (ke : ClassId) (weo : Addr) (wmo : Addr) (a1 : Addr) (a2 : Addr) (a3 : Addr) (h0 : Heap) (v : Option Value) (h : Heap) (L : List Loc) : Prop := (v = none ∧ Fr Z.heap.size L ∧ Keep h0 h [a1] ∧ Exa Z h a1 "java/util/ImmutableCollections$List12" ∧ Fld Z h a1 "java/util/ImmutableCollections$List12" "e0" "Ljava/lang/Object;" (.ref a2) ∧ Fld Z h a1 "java/util/ImmutableCollections$List12" "e1" "Ljava/lang/Object;" (.ref a3))
theorem ef_l2init (m : MethodId) (x0 : Addr) (x1 : Addr) (x2 : Addr) : entryFrame m #[(.ref x0), (.ref x1), (.ref x2)] 3 = mkF m 0 #[rv x0, rv x1, rv x2] [] := by first | (simp [entryFrame, mkF, argsToLocals, Value.category]; done) | rfl
set_option maxRecDepth 65536 in
set_option maxHeartbeats 40000000 in
theorem rm_l2init (l : Launch) (Z : State) (a0 : Array Value) (hw : own_W Z a0) {zc : Int32} {wd : Addr} {kd : ClassId} {wl : Addr} {we : Addr} {ke : ClassId} {weo : Addr} {wmo : Addr} (hO : own_Olds Z zc wd kd wl we ke weo wmo) (ws : List Jvm.Cond) (a1 : Addr) (a2 : Addr) (a3 : Addr) (h0 : Heap) (O0 : Ext Z.heap h0) (fp0 : Exa Z h0 a1 "java/util/ImmutableCollections$List12") (fp1 : Fld Z h0 a1 "java/util/ImmutableCollections$List12" "e0" "Ljava/lang/Object;" .null) (fp2 : Fld Z h0 a1 "java/util/ImmutableCollections$List12" "e1" "Ljava/lang/Object;" .null) (big_a1 : Z.heap.size ≤ a1) :
    own_MF l Z h0 own_y20 jdk_44_method_2_code 3 none ({ frames := 4, cells := 0, slots := 0, locals := 48 } : Room) #[(.ref a1), (.ref a2), (.ref a3)] (Q_l2init Z zc wd kd wl we ke weo wmo a1 a2 a3 h0) ws := by
  refine own_met (Q := (Q_l2init Z zc wd kd wl we ke weo wmo a1 a2 a3 h0)) _ _ (plainFor_of_name own_pn_8) ?_
  intro p e s m below meth c T X0 hx hby hml hret hlk hZ hown hnm e0
  replace hown : s.vm.findClass "java/util/ImmutableCollections$List12" = some m.cls := hown
  replace hnm : meth.name = "<init>" := hnm
  have hml : c.maxLocals = 3 := hml
  obtain ⟨oCS, oCz, oDE, oDV, oEL, oLE, oLF, oLV, oEM, oMir⟩ := id hO
  have N0 := Fr.nil Z.heap.size
  have K0 := Keep.refl h0 [a1]
  refine own_go (fun _ k => castTop (ef_l2init m a1 a2 a3) k) ?_
  show own_Go p e below s _ _ _ (T.setTop (mkF m 0 #[rv a1, rv a2, rv a3] []))
  refine own_go (fun _ k => XS.aloadN X0.here hx rfl (hb hby d40_0) rfl rfl k) ?_
  obtain ⟨v1, T1, L1, X1, hQ1, st1⟩ := own_callI (y := own_y18) X0 hx hZ hown (ow174 hw) (ow175 hw) (ow178 hw) (ow179 hw) (rm_ailinit l Z a0 hw hO [] a1 h0 O0) 0 0 0 rfl (by show _ ≤ 0; omega) (by show _ ≤ 0; omega) e0 (g := (mkF m 1 #[rv a1, rv a2, rv a3] [(.ref a1)])) rfl (by rw [hml]; rfl) a1 [] [] (lenOf own_pd_0 rfl) rfl rfl (hb hby d40_1)
  obtain ⟨rfl, Nc3, Kc2⟩ := hQ1
  refine own_go st1 ?_
  clear st1 X0 e0
  replace N0 := Fr.app N0 Nc3
  clear Nc3
  refine own_go (fun _ k => XS.aloadN X1.here hx rfl (hb hby d40_4) rfl rfl (XS.aloadN X1.here hx rfl (hb hby d40_5) rfl rfl k)) ?_
  obtain ⟨v4, T4, L4, X4, hQ4, st4⟩ := own_callS (y := own_y11) X1 hx hZ hown (ow188 hw) (ow189 hw) (ow107 hw) (ow190 hw) (rm_rnn1 l Z a0 hw hO [] a2 h0 O0) 1 0 0 (by show _ ≤ 0; omega) (by show _ ≤ 0; omega) Kc2 (g := (mkF m 6 #[rv a1, rv a2, rv a3] [(.ref a2), (.ref a1)])) rfl (by rw [hml]; rfl) [(.ref a2)] [(.ref a1)] (lenOf own_pd_8 rfl) rfl rfl (hb hby d40_6)
  obtain ⟨rfl, Nc6, Kc5⟩ := hQ4
  refine own_go st4 ?_
  clear st4 X1 Kc2
  replace N0 := Fr.app N0 Nc6
  clear Nc6
  show own_Go p e below s _ _ _ (T4.setTop (mkF m 9 #[rv a1, rv a2, rv a3] [(.ref a2), (.ref a1)]))
  obtain ⟨T7, h7, X7, e7, W7, st7⟩ := putF X4 hx hZ hown (host := "") (Or.inl (ow191 hw)) Via.refl Kc5 fp1 fp0 (Or.inr ⟨(ow192 hw), rfl, hnm⟩) (ow168 hw) (ty := (.object "java/lang/Object")) own_fd4 rfl rfl (g := (mkF m 9 #[rv a1, rv a2, rv a3] [(.ref a2), (.ref a1)])) rfl rfl (hb hby d40_9)
  refine own_go st7 ?_
  clear st7 X4 Kc5
  replace N0 := Fr.snoc X7 N0 big_a1
  replace fp0 := fp0.wr W7
  replace fp1 := fp1.same W7
  replace fp2 := fp2.other W7 (.inr (own_sn3 hw))
  replace O0 := own_oldWr O0 W7 big_a1
  replace K0 := K0.wr W7 (Or.inl (List.mem_of_getElem? (i := 0) rfl))
  clear W7
  refine own_go (fun _ k => XS.aloadN X7.here hx rfl (hb hby d40_12) rfl rfl (XS.aloadN X7.here hx rfl (hb hby d40_13) rfl rfl k)) ?_
  obtain ⟨v8, T8, L8, X8, hQ8, st8⟩ := own_callS (y := own_y11) X7 hx hZ hown (ow188 hw) (ow189 hw) (ow107 hw) (ow190 hw) (rm_rnn1 l Z a0 hw hO [] a3 h7 O0) 1 0 0 (by show _ ≤ 0; omega) (by show _ ≤ 0; omega) e7 (g := (mkF m 14 #[rv a1, rv a2, rv a3] [(.ref a3), (.ref a1)])) rfl (by rw [hml]; rfl) [(.ref a3)] [(.ref a1)] (lenOf own_pd_8 rfl) rfl rfl (hb hby d40_14)
  obtain ⟨rfl, Nc10, Kc9⟩ := hQ8
  refine own_go st8 ?_
  clear st8 X7 e7
  replace N0 := Fr.app N0 Nc10
  clear Nc10
  obtain ⟨T11, h11, X11, e11, W11, st11⟩ := putF X8 hx hZ hown (host := "") (Or.inl (ow194 hw)) Via.refl Kc9 fp2 fp0 (Or.inr ⟨(ow195 hw), rfl, hnm⟩) (ow168 hw) (ty := (.object "java/lang/Object")) own_fd4 rfl rfl (g := (mkF m 17 #[rv a1, rv a2, rv a3] [(.ref a3), (.ref a1)])) rfl rfl (hb hby d40_17)
  refine own_go st11 ?_
  clear st11 X8 Kc9
  replace N0 := Fr.snoc X11 N0 big_a1
  replace fp0 := fp0.wr W11
  replace fp1 := fp1.other W11 (.inr (own_sn3 hw).symm)
  replace fp2 := fp2.same W11
  replace O0 := own_oldWr O0 W11 big_a1
  replace K0 := K0.wr W11 (Or.inl (List.mem_of_getElem? (i := 0) rfl))
  clear W11
  show own_Go p e below s _ _ _ (T11.setTop (mkF m 20 #[rv a1, rv a2, rv a3] []))
  refine own_retV X11 hx hlk e11 hret (hb hby d40_20) (by show _ ≤ 0; omega) (by show _ ≤ 0; omega) ?_
  exact ⟨rfl, N0, K0, fp0, fp1, fp2⟩
theorem d37_0 : decode jdk_45_method_1_code 0 = .ok (.aload_n 0, 1) := by decide +kernel
theorem d37_1 : decode jdk_45_method_1_code 1 = .ok (.invokespecial 1, 3) := by decide +kernel
theorem d37_4 : decode jdk_45_method_1_code 4 = .ok (.aload_n 0, 1) := by decide +kernel
theorem d37_5 : decode jdk_45_method_1_code 5 = .ok (.aload_n 1, 1) := by decide +kernel
theorem d37_6 : decode jdk_45_method_1_code 6 = .ok (.putfield 7, 3) := by decide +kernel
theorem d37_9 : decode jdk_45_method_1_code 9 = .ok (.aload_n 0, 1) := by decide +kernel
theorem d37_10 : decode jdk_45_method_1_code 10 = .ok (.iload_n 2, 1) := by decide +kernel
theorem d37_11 : decode jdk_45_method_1_code 11 = .ok (.putfield 13, 3) := by decide +kernel
theorem d37_14 : decode jdk_45_method_1_code 14 = .ok (.return_, 1) := by decide +kernel
def Q_lninit (Z : State) (zc : Int32) (wd : Addr) (kd : ClassId) (wl : Addr) (we : Addr) (ke : ClassId) (weo : Addr) (wmo : Addr) (a1 : Addr) (a2 : Addr) (h0 : Heap) (v : Option Value) (h : Heap) (L : List Loc) : Prop := (v = none ∧ Fr Z.heap.size L ∧ Keep h0 h [a1] ∧ Exa Z h a1 "java/util/ImmutableCollections$ListN" ∧ Fld Z h a1 "java/util/ImmutableCollections$ListN" "elements" "[Ljava/lang/Object;" (.ref a2) ∧ Fld Z h a1 "java/util/ImmutableCollections$ListN" "allowNulls" "Z" (.int (0 : Int32)))
theorem ef_lninit (m : MethodId) (x0 : Addr) (x1 : Addr) : entryFrame m #[(.ref x0), (.ref x1), (.int (0 : Int32))] 3 = mkF m 0 #[rv x0, rv x1, iv (0 : Int32)] [] := by first | (simp [entryFrame, mkF, argsToLocals, Value.category]; done) | rfl
set_option maxRecDepth 65536 in
set_option maxHeartbeats 40000000 in
theorem rm_lninit (l : Launch) (Z : State) (a0 : Array Value) (hw : own_W Z a0) {zc : Int32} {wd : Addr} {kd : ClassId} {wl : Addr} {we : Addr} {ke : ClassId} {weo : Addr} {wmo : Addr} (hO : own_Olds Z zc wd kd wl we ke weo wmo) (ws : List Jvm.Cond) (a1 : Addr) (a2 : Addr) (h0 : Heap) (O0 : Ext Z.heap h0) (fp0 : Exa Z h0 a1 "java/util/ImmutableCollections$ListN") (fp1 : Fld Z h0 a1 "java/util/ImmutableCollections$ListN" "elements" "[Ljava/lang/Object;" .null) (fp2 : Fld Z h0 a1 "java/util/ImmutableCollections$ListN" "allowNulls" "Z" (.int (0 : Int32))) (big_a1 : Z.heap.size ≤ a1) :
    own_MF l Z h0 own_y21 jdk_45_method_1_code 3 none ({ frames := 4, cells := 0, slots := 0, locals := 48 } : Room) #[(.ref a1), (.ref a2), (.int (0 : Int32))] (Q_lninit Z zc wd kd wl we ke weo wmo a1 a2 h0) ws := by
  refine own_met (Q := (Q_lninit Z zc wd kd wl we ke weo wmo a1 a2 h0)) _ _ (plainFor_of_name own_pn_9) ?_
  intro p e s m below meth c T X0 hx hby hml hret hlk hZ hown hnm e0
  replace hown : s.vm.findClass "java/util/ImmutableCollections$ListN" = some m.cls := hown
  replace hnm : meth.name = "<init>" := hnm
  have hml : c.maxLocals = 3 := hml
  obtain ⟨oCS, oCz, oDE, oDV, oEL, oLE, oLF, oLV, oEM, oMir⟩ := id hO
  have N0 := Fr.nil Z.heap.size
  have K0 := Keep.refl h0 [a1]
  refine own_go (fun _ k => castTop (ef_lninit m a1 a2) k) ?_
  show own_Go p e below s _ _ _ (T.setTop (mkF m 0 #[rv a1, rv a2, iv (0 : Int32)] []))
  refine own_go (fun _ k => XS.aloadN X0.here hx rfl (hb hby d37_0) rfl rfl k) ?_
  obtain ⟨v1, T1, L1, X1, hQ1, st1⟩ := own_callI (y := own_y18) X0 hx hZ hown (ow249 hw) (ow175 hw) (ow178 hw) (ow179 hw) (rm_ailinit l Z a0 hw hO [] a1 h0 O0) 0 0 0 rfl (by show _ ≤ 0; omega) (by show _ ≤ 0; omega) e0 (g := (mkF m 1 #[rv a1, rv a2, iv (0 : Int32)] [(.ref a1)])) rfl (by rw [hml]; rfl) a1 [] [] (lenOf own_pd_0 rfl) rfl rfl (hb hby d37_1)
  obtain ⟨rfl, Nc3, Kc2⟩ := hQ1
  refine own_go st1 ?_
  clear st1 X0 e0
  replace N0 := Fr.app N0 Nc3
  clear Nc3
  refine own_go (fun _ k => XS.aloadN X1.here hx rfl (hb hby d37_4) rfl rfl (XS.aloadN X1.here hx rfl (hb hby d37_5) rfl rfl k)) ?_
  obtain ⟨T4, h4, X4, e4, W4, st4⟩ := putF X1 hx hZ hown (host := "") (Or.inl (ow253 hw)) Via.refl Kc2 fp1 fp0 (Or.inr ⟨(ow254 hw), rfl, hnm⟩) (ow243 hw) (ty := (.array (.object "java/lang/Object"))) own_fd1 rfl rfl (g := (mkF m 6 #[rv a1, rv a2, iv (0 : Int32)] [(.ref a2), (.ref a1)])) rfl rfl (hb hby d37_6)
  refine own_go st4 ?_
  clear st4 X1 Kc2
  replace N0 := Fr.snoc X4 N0 big_a1
  replace fp0 := fp0.wr W4
  replace fp1 := fp1.same W4
  replace fp2 := fp2.other W4 (.inr (own_sn4 hw))
  replace O0 := own_oldWr O0 W4 big_a1
  replace K0 := K0.wr W4 (Or.inl (List.mem_of_getElem? (i := 0) rfl))
  clear W4
  show own_Go p e below s _ _ _ (T4.setTop (mkF m 9 #[rv a1, rv a2, iv (0 : Int32)] []))
  refine own_go (fun _ k => XS.aloadN X4.here hx rfl (hb hby d37_9) rfl rfl (XS.iloadN X4.here hx rfl (hb hby d37_10) rfl k)) ?_
  obtain ⟨T5, h5, X5, e5, W5, st5⟩ := putFN X4 hx hZ hown (ow255 hw) Via.refl e4 fp2 fp0 (Or.inr ⟨(ow256 hw), rfl, hnm⟩) (ow243 hw) (ty := .boolean) (v' := (.int (0 : Int32))) own_fd5 rfl (by decide) (g := (mkF m 11 #[rv a1, rv a2, iv (0 : Int32)] [(.int (0 : Int32)), (.ref a1)])) rfl rfl (hb hby d37_11)
  refine own_go st5 ?_
  clear st5 X4 e4
  replace N0 := Fr.snoc X5 N0 big_a1
  replace fp0 := fp0.wr W5
  replace fp1 := fp1.other W5 (.inr (own_sn4 hw).symm)
  replace fp2 := fp2.same W5
  replace O0 := own_oldWr O0 W5 big_a1
  replace K0 := K0.wr W5 (Or.inl (List.mem_of_getElem? (i := 0) rfl))
  clear W5
  show own_Go p e below s _ _ _ (T5.setTop (mkF m 14 #[rv a1, rv a2, iv (0 : Int32)] []))
  refine own_retV X5 hx hlk e5 hret (hb hby d37_14) (by show _ ≤ 0; omega) (by show _ ≤ 0; omega) ?_
  exact ⟨rfl, N0, K0, fp0, fp1, fp2⟩
theorem d36_0 : decode jdk_56_method_4_code 0 = .ok (.aload_n 0, 1) := by decide +kernel
theorem d36_1 : decode jdk_56_method_4_code 1 = .ok (.arraylength, 1) := by decide +kernel
theorem d36_2 : decode jdk_56_method_4_code 2 = .ok (.anewarray 2, 3) := by decide +kernel
theorem d36_5 : decode jdk_56_method_4_code 5 = .ok (.astore_n 1, 1) := by decide +kernel
theorem d36_6 : decode jdk_56_method_4_code 6 = .ok (.iconst 0, 1) := by decide +kernel
theorem d36_7 : decode jdk_56_method_4_code 7 = .ok (.istore_n 2, 1) := by decide +kernel
theorem d36_8 : decode jdk_56_method_4_code 8 = .ok (.iload_n 2, 1) := by decide +kernel
theorem d36_9 : decode jdk_56_method_4_code 9 = .ok (.aload_n 0, 1) := by decide +kernel
theorem d36_10 : decode jdk_56_method_4_code 10 = .ok (.arraylength, 1) := by decide +kernel
theorem d36_11 : decode jdk_56_method_4_code 11 = .ok (.if_icmp .ge 18, 3) := by decide +kernel
theorem d36_14 : decode jdk_56_method_4_code 14 = .ok (.aload_n 1, 1) := by decide +kernel
theorem d36_15 : decode jdk_56_method_4_code 15 = .ok (.iload_n 2, 1) := by decide +kernel
theorem d36_16 : decode jdk_56_method_4_code 16 = .ok (.aload_n 0, 1) := by decide +kernel
theorem d36_17 : decode jdk_56_method_4_code 17 = .ok (.iload_n 2, 1) := by decide +kernel
theorem d36_18 : decode jdk_56_method_4_code 18 = .ok (.aaload, 1) := by decide +kernel
theorem d36_19 : decode jdk_56_method_4_code 19 = .ok (.invokestatic 37, 3) := by decide +kernel
theorem d36_22 : decode jdk_56_method_4_code 22 = .ok (.aastore, 1) := by decide +kernel
theorem d36_23 : decode jdk_56_method_4_code 23 = .ok (.iinc 2 1, 3) := by decide +kernel
theorem d36_26 : decode jdk_56_method_4_code 26 = .ok (.goto (-18), 3) := by decide +kernel
theorem d36_29 : decode jdk_56_method_4_code 29 = .ok (.new 12, 3) := by decide +kernel
theorem d36_32 : decode jdk_56_method_4_code 32 = .ok (.dup, 1) := by decide +kernel
theorem d36_33 : decode jdk_56_method_4_code 33 = .ok (.aload_n 1, 1) := by decide +kernel
theorem d36_34 : decode jdk_56_method_4_code 34 = .ok (.iconst 0, 1) := by decide +kernel
theorem d36_35 : decode jdk_56_method_4_code 35 = .ok (.invokespecial 43, 3) := by decide +kernel
theorem d36_38 : decode jdk_56_method_4_code 38 = .ok (.areturn, 1) := by decide +kernel
def Q_lfa3 (Z : State) (zc : Int32) (wd : Addr) (kd : ClassId) (wl : Addr) (we : Addr) (ke : ClassId) (weo : Addr) (wmo : Addr) (a1 : Addr) (k : ClassId) (el1 : Addr) (el2 : Addr) (el3 : Addr) (h0 : Heap) (v : Option Value) (h : Heap) (L : List Loc) : Prop := (∃ b : Addr, ∃ cq_ : Addr, ∃ k3 : ClassId, v = some (.ref b) ∧ Fr Z.heap.size L ∧ Keep h0 h [] ∧ h0.size ≤ b ∧ Exa Z h b "java/util/ImmutableCollections$ListN" ∧ Fld Z h b "java/util/ImmutableCollections$ListN" "elements" "[Ljava/lang/Object;" (.ref cq_) ∧ Arv Z h cq_ k3 (.object "java/lang/Object") (3 : Int32) [(.ref el1), (.ref el2), (.ref el3)] .null)
theorem ef_lfa3 (m : MethodId) (x0 : Addr) : entryFrame m #[(.ref x0)] 3 = mkF m 0 #[rv x0, .unset, .unset] [] := by first | (simp [entryFrame, mkF, argsToLocals, Value.category]; done) | rfl
set_option maxRecDepth 65536 in
set_option maxHeartbeats 40000000 in
theorem rm_lfa3 (l : Launch) (Z : State) (a0 : Array Value) (hw : own_W Z a0) {zc : Int32} {wd : Addr} {kd : ClassId} {wl : Addr} {we : Addr} {ke : ClassId} {weo : Addr} {wmo : Addr} (hO : own_Olds Z zc wd kd wl we ke weo wmo) (ws : List Jvm.Cond) (a1 : Addr) (k : ClassId) (el1 : Addr) (el2 : Addr) (el3 : Addr) (h0 : Heap) (O0 : Ext Z.heap h0) (fp0 : Arv Z h0 a1 k (.object "java/lang/Object") (3 : Int32) [(.ref el1), (.ref el2), (.ref el3)] .null) (fp1 : Ins Z h0 el1 "java/lang/Object" true) (fp2 : Ins Z h0 el2 "java/lang/Object" true) (fp3 : Ins Z h0 el3 "java/lang/Object" true) :
    own_MF l Z h0 own_y22 jdk_56_method_4_code 3 (some (.object "java/util/List")) ({ frames := 5, cells := 2, slots := 5, locals := 63 } : Room) #[(.ref a1)] (Q_lfa3 Z zc wd kd wl we ke weo wmo a1 k el1 el2 el3 h0) ws := by
  refine own_met (Q := (Q_lfa3 Z zc wd kd wl we ke weo wmo a1 k el1 el2 el3 h0)) _ _ (plainFor_of_name own_pn_10) ?_
  intro p e s m below meth c T X0 hx hby hml hret hlk hZ hown hnm e0
  replace hown : s.vm.findClass "java/util/ImmutableCollections" = some m.cls := hown
  replace hnm : meth.name = "listFromArray" := hnm
  have hml : c.maxLocals = 3 := hml
  obtain ⟨oCS, oCz, oDE, oDV, oEL, oLE, oLF, oLV, oEM, oMir⟩ := id hO
  have N0 := Fr.nil Z.heap.size
  have K0 := Keep.refl h0 []
  refine own_go (fun _ k => castTop (ef_lfa3 m a1) k) ?_
  show own_Go p e below s _ _ _ (T.setTop (mkF m 0 #[rv a1, .unset, .unset] []))
  refine own_go (fun _ k => XS.aloadN X0.here hx rfl (hb hby d36_0) rfl rfl k) ?_
  show own_Go p e below s _ _ _ (T.setTop (mkF m 1 #[rv a1, .unset, .unset] [(.ref a1)]))
  obtain ⟨cl1, Ar1, -, S1, M1, -, -⟩ := id (fp0.keep K0 nin0)
  refine own_go (X0.arraylength hx (by rw [e0]; exact Ar1.1) (State.isArrayOf_alike hZ.alike Ar1.2.1) (g := (mkF m 1 #[rv a1, .unset, .unset] [(.ref a1)])) rfl rfl (hb hby d36_1)) ?_
  rw [len_of S1 M1]
  obtain ⟨T2, h2, k2, X2, e2, E2, A2, O2, st2⟩ := newR X0 hx hZ hown (ow241 hw) (ow88 hw) e0 (g := (mkF m 2 #[rv a1, .unset, .unset] [(.int (3 : Int32))])) rfl (hb hby d36_2) rfl (by decide) (cap := 3) (by decide) (by decide) (by show _ ≤ 2; omega) (by show _ ≤ 5; omega)
  obtain ⟨b2, g2⟩ : ∃ z, z = h0.size := ⟨_, rfl⟩
  rw [← g2] at A2 st2
  refine own_go st2 ?_
  clear st2 X0 e0
  have ge2 := Nat.le_of_eq g2.symm
  have big3 : Z.heap.size ≤ b2 := Nat.le_trans O0.1 ge2
  have sz4 : h0.size ≤ b2 := Nat.le_trans K0.1 ge2
  replace O0 := own_oldExt O0 E2
  replace K0 := K0.ext E2
  clear E2
  have f5 : Arv Z h2 b2 k2 (.object "java/lang/Object") (3 : Int32) [.null, .null, .null] .null := (Arv.new A2 (by decide)).pad (pad_rep [] .null 3)
  refine own_go (fun _ k => XS.astoreN X2.here hx rfl (hb hby d36_5) rfl rfl (l' := #[rv a1, rv b2, .unset]) rfl (XS.iconst X2.here hx rfl (hb hby d36_6) (XS.istoreN X2.here hx rfl (hb hby d36_7) rfl (l' := #[rv a1, rv b2, iv (0 : Int32)]) rfl k))) ?_
  show own_Go p e below s _ _ _ (T2.setTop (mkF m 8 #[rv a1, rv b2, iv (0 : Int32)] []))
  refine own_go (fun _ k => XS.iloadN X2.here hx rfl (hb hby d36_8) rfl (XS.aloadN X2.here hx rfl (hb hby d36_9) rfl rfl k)) ?_
  show own_Go p e below s _ _ _ (T2.setTop (mkF m 10 #[rv a1, rv b2, iv (0 : Int32)] [(.ref a1), (.int (0 : Int32))]))
  obtain ⟨cl6, Ar6, -, S6, M6, -, -⟩ := id (fp0.keep K0 nin0)
  refine own_go (X2.arraylength hx (by rw [e2]; exact Ar6.1) (State.isArrayOf_alike hZ.alike Ar6.2.1) (g := (mkF m 10 #[rv a1, rv b2, iv (0 : Int32)] [(.ref a1), (.int (0 : Int32))])) rfl rfl (hb hby d36_10)) ?_
  rw [len_of S6 M6]
  refine own_go (fun _ k => XS.icmpNo X2.here hx rfl (hb hby d36_11) rfl (tlt (by decide : (0 : Int32) < (3 : Int32))).2.1 (XS.aloadN X2.here hx rfl (hb hby d36_14) rfl rfl (XS.iloadN X2.here hx rfl (hb hby d36_15) rfl (XS.aloadN X2.here hx rfl (hb hby d36_16) rfl rfl k)))) ?_
  show own_Go p e below s _ _ _ (T2.setTop (mkF m 17 #[rv a1, rv b2, iv (0 : Int32)] [(.ref a1), (.int (0 : Int32)), (.ref b2)]))
  refine own_go (fun _ k => XS.iloadN X2.here hx rfl (hb hby d36_17) rfl k) ?_
  obtain ⟨cl7, Ar7, -, S7, -, P7, -⟩ := id (fp0.keep K0 nin0)
  have hin7 : ¬ ((0 : Int32) < 0 ∨ cl7.slots.size ≤ ((0 : Int32)).toNatClampNeg) := inb_of S7 ⟨by decide, by decide⟩
  refine own_go (X2.aaload hx (j := (0 : Int32)) (v := (.ref el1)) (by rw [e2]; exact Ar7.1) (State.isArrayOf_alike hZ.alike Ar7.2.1) rfl Ar7.2.2 hin7 (P7.at hin7 rfl) (g := (mkF m 18 #[rv a1, rv b2, iv (0 : Int32)] [(.int (0 : Int32)), (.ref a1), (.int (0 : Int32)), (.ref b2)])) rfl rfl (hb hby d36_18)) ?_
  obtain ⟨v8, T8, L8, X8, hQ8, st8⟩ := own_callS (y := own_y11) X2 hx hZ hown (ow242 hw) (ow189 hw) (ow107 hw) (ow190 hw) (rm_rnn1 l Z a0 hw hO [] el1 h2 O0) 2 0 0 (by show _ ≤ 2; omega) (by show _ ≤ 5; omega) e2 (g := (mkF m 19 #[rv a1, rv b2, iv (0 : Int32)] [(.ref el1), (.int (0 : Int32)), (.ref b2)])) rfl (by rw [hml]; rfl) [(.ref el1)] [(.int (0 : Int32)), (.ref b2)] (lenOf own_pd_8 rfl) rfl rfl (hb hby d36_19)
  obtain ⟨rfl, Nc10, Kc9⟩ := hQ8
  refine own_go st8 ?_
  clear st8 X2 e2
  replace N0 := Fr.app N0 Nc10
  clear Nc10
  obtain ⟨cl11, Ar11, q11, S11, M11, P11, G11⟩ := id f5
  have hin11 : ¬ ((0 : Int32) < 0 ∨ cl11.slots.size ≤ ((0 : Int32)).toNatClampNeg) := inb_of S11 ⟨by decide, by decide⟩
  obtain ⟨T12, h12, X12, e12, W12, st12⟩ := stR X8 hx hZ Kc9 Ar11 (j := (0 : Int32)) hin11 rfl (Sto.ofV Ar11 q11 O2 (own_insKeep fp1 K0)) (g := (mkF m 22 #[rv a1, rv b2, iv (0 : Int32)] [(.ref el1), (.int (0 : Int32)), (.ref b2)])) rfl rfl (hb hby d36_22)
  refine own_go st12 ?_
  clear st12 X8 Kc9
  have f13 : Arv Z h12 b2 k2 (.object "java/lang/Object") (3 : Int32) [(.ref el1), .null, .null] .null := Arv.set Ar11 q11 S11 M11 P11 G11 rfl W12 0 rfl (Nat.le_of_ble_eq_true rfl)
  replace N0 := Fr.snoc X12 N0 big3
  clear f5
  replace O0 := own_oldWr O0 W12 big3
  replace K0 := K0.wr W12 (Or.inr sz4)
  clear W12
  clear Ar11 q11 S11 M11 P11 G11 hin11
  refine own_go (fun _ k => XS.iinc X12.here hx rfl (hb hby d36_23) rfl (l' := #[rv a1, rv b2, iv (1 : Int32)]) rfl k) ?_
  show own_Go p e below s _ _ _ (T12.setTop (mkF m 26 #[rv a1, rv b2, iv (1 : Int32)] []))
  refine own_go (fun _ k => XS.goto X12.here hx rfl (pc0 := 26) (pc' := 8) rfl (hb hby d36_26) (by decide) (by decide) (XS.iloadN X12.here hx rfl (hb hby d36_8) rfl (XS.aloadN X12.here hx rfl (hb hby d36_9) rfl rfl k))) ?_
  show own_Go p e below s _ _ _ (T12.setTop (mkF m 10 #[rv a1, rv b2, iv (1 : Int32)] [(.ref a1), (.int (1 : Int32))]))
  obtain ⟨cl14, Ar14, -, S14, M14, -, -⟩ := id (fp0.keep K0 nin0)
  refine own_go (X12.arraylength hx (by rw [e12]; exact Ar14.1) (State.isArrayOf_alike hZ.alike Ar14.2.1) (g := (mkF m 10 #[rv a1, rv b2, iv (1 : Int32)] [(.ref a1), (.int (1 : Int32))])) rfl rfl (hb hby d36_10)) ?_
  rw [len_of S14 M14]
  refine own_go (fun _ k => XS.icmpNo X12.here hx rfl (hb hby d36_11) rfl (tlt (by decide : (1 : Int32) < (3 : Int32))).2.1 (XS.aloadN X12.here hx rfl (hb hby d36_14) rfl rfl (XS.iloadN X12.here hx rfl (hb hby d36_15) rfl (XS.aloadN X12.here hx rfl (hb hby d36_16) rfl rfl k)))) ?_
  show own_Go p e below s _ _ _ (T12.setTop (mkF m 17 #[rv a1, rv b2, iv (1 : Int32)] [(.ref a1), (.int (1 : Int32)), (.ref b2)]))
  refine own_go (fun _ k => XS.iloadN X12.here hx rfl (hb hby d36_17) rfl k) ?_
  obtain ⟨cl15, Ar15, -, S15, -, P15, -⟩ := id (fp0.keep K0 nin0)
  have hin15 : ¬ ((1 : Int32) < 0 ∨ cl15.slots.size ≤ ((1 : Int32)).toNatClampNeg) := inb_of S15 ⟨by decide, by decide⟩
  refine own_go (X12.aaload hx (j := (1 : Int32)) (v := (.ref el2)) (by rw [e12]; exact Ar15.1) (State.isArrayOf_alike hZ.alike Ar15.2.1) rfl Ar15.2.2 hin15 (P15.at hin15 rfl) (g := (mkF m 18 #[rv a1, rv b2, iv (1 : Int32)] [(.int (1 : Int32)), (.ref a1), (.int (1 : Int32)), (.ref b2)])) rfl rfl (hb hby d36_18)) ?_
  obtain ⟨v16, T16, L16, X16, hQ16, st16⟩ := own_callS (y := own_y11) X12 hx hZ hown (ow242 hw) (ow189 hw) (ow107 hw) (ow190 hw) (rm_rnn1 l Z a0 hw hO [] el2 h12 O0) 2 0 0 (by show _ ≤ 2; omega) (by show _ ≤ 5; omega) e12 (g := (mkF m 19 #[rv a1, rv b2, iv (1 : Int32)] [(.ref el2), (.int (1 : Int32)), (.ref b2)])) rfl (by rw [hml]; rfl) [(.ref el2)] [(.int (1 : Int32)), (.ref b2)] (lenOf own_pd_8 rfl) rfl rfl (hb hby d36_19)
  obtain ⟨rfl, Nc18, Kc17⟩ := hQ16
  refine own_go st16 ?_
  clear st16 X12 e12
  replace N0 := Fr.app N0 Nc18
  clear Nc18
  obtain ⟨cl19, Ar19, q19, S19, M19, P19, G19⟩ := id f13
  have hin19 : ¬ ((1 : Int32) < 0 ∨ cl19.slots.size ≤ ((1 : Int32)).toNatClampNeg) := inb_of S19 ⟨by decide, by decide⟩
  obtain ⟨T20, h20, X20, e20, W20, st20⟩ := stR X16 hx hZ Kc17 Ar19 (j := (1 : Int32)) hin19 rfl (Sto.ofV Ar19 q19 O2 (own_insKeep fp2 K0)) (g := (mkF m 22 #[rv a1, rv b2, iv (1 : Int32)] [(.ref el2), (.int (1 : Int32)), (.ref b2)])) rfl rfl (hb hby d36_22)
  refine own_go st20 ?_
  clear st20 X16 Kc17
  have f21 : Arv Z h20 b2 k2 (.object "java/lang/Object") (3 : Int32) [(.ref el1), (.ref el2), .null] .null := Arv.set Ar19 q19 S19 M19 P19 G19 rfl W20 1 rfl (Nat.le_of_ble_eq_true rfl)
  replace N0 := Fr.snoc X20 N0 big3
  clear f13
  replace O0 := own_oldWr O0 W20 big3
  replace K0 := K0.wr W20 (Or.inr sz4)
  clear W20
  clear Ar19 q19 S19 M19 P19 G19 hin19
  refine own_go (fun _ k => XS.iinc X20.here hx rfl (hb hby d36_23) rfl (l' := #[rv a1, rv b2, iv (2 : Int32)]) rfl k) ?_
  show own_Go p e below s _ _ _ (T20.setTop (mkF m 26 #[rv a1, rv b2, iv (2 : Int32)] []))
  refine own_go (fun _ k => XS.goto X20.here hx rfl (pc0 := 26) (pc' := 8) rfl (hb hby d36_26) (by decide) (by decide) (XS.iloadN X20.here hx rfl (hb hby d36_8) rfl (XS.aloadN X20.here hx rfl (hb hby d36_9) rfl rfl k))) ?_
  show own_Go p e below s _ _ _ (T20.setTop (mkF m 10 #[rv a1, rv b2, iv (2 : Int32)] [(.ref a1), (.int (2 : Int32))]))
  obtain ⟨cl22, Ar22, -, S22, M22, -, -⟩ := id (fp0.keep K0 nin0)
  refine own_go (X20.arraylength hx (by rw [e20]; exact Ar22.1) (State.isArrayOf_alike hZ.alike Ar22.2.1) (g := (mkF m 10 #[rv a1, rv b2, iv (2 : Int32)] [(.ref a1), (.int (2 : Int32))])) rfl rfl (hb hby d36_10)) ?_
  rw [len_of S22 M22]
  refine own_go (fun _ k => XS.icmpNo X20.here hx rfl (hb hby d36_11) rfl (tlt (by decide : (2 : Int32) < (3 : Int32))).2.1 (XS.aloadN X20.here hx rfl (hb hby d36_14) rfl rfl (XS.iloadN X20.here hx rfl (hb hby d36_15) rfl (XS.aloadN X20.here hx rfl (hb hby d36_16) rfl rfl k)))) ?_
  show own_Go p e below s _ _ _ (T20.setTop (mkF m 17 #[rv a1, rv b2, iv (2 : Int32)] [(.ref a1), (.int (2 : Int32)), (.ref b2)]))
  refine own_go (fun _ k => XS.iloadN X20.here hx rfl (hb hby d36_17) rfl k) ?_
  obtain ⟨cl23, Ar23, -, S23, -, P23, -⟩ := id (fp0.keep K0 nin0)
  have hin23 : ¬ ((2 : Int32) < 0 ∨ cl23.slots.size ≤ ((2 : Int32)).toNatClampNeg) := inb_of S23 ⟨by decide, by decide⟩
  refine own_go (X20.aaload hx (j := (2 : Int32)) (v := (.ref el3)) (by rw [e20]; exact Ar23.1) (State.isArrayOf_alike hZ.alike Ar23.2.1) rfl Ar23.2.2 hin23 (P23.at hin23 rfl) (g := (mkF m 18 #[rv a1, rv b2, iv (2 : Int32)] [(.int (2 : Int32)), (.ref a1), (.int (2 : Int32)), (.ref b2)])) rfl rfl (hb hby d36_18)) ?_
  obtain ⟨v24, T24, L24, X24, hQ24, st24⟩ := own_callS (y := own_y11) X20 hx hZ hown (ow242 hw) (ow189 hw) (ow107 hw) (ow190 hw) (rm_rnn1 l Z a0 hw hO [] el3 h20 O0) 2 0 0 (by show _ ≤ 2; omega) (by show _ ≤ 5; omega) e20 (g := (mkF m 19 #[rv a1, rv b2, iv (2 : Int32)] [(.ref el3), (.int (2 : Int32)), (.ref b2)])) rfl (by rw [hml]; rfl) [(.ref el3)] [(.int (2 : Int32)), (.ref b2)] (lenOf own_pd_8 rfl) rfl rfl (hb hby d36_19)
  obtain ⟨rfl, Nc26, Kc25⟩ := hQ24
  refine own_go st24 ?_
  clear st24 X20 e20
  replace N0 := Fr.app N0 Nc26
  clear Nc26
  obtain ⟨cl27, Ar27, q27, S27, M27, P27, G27⟩ := id f21
  have hin27 : ¬ ((2 : Int32) < 0 ∨ cl27.slots.size ≤ ((2 : Int32)).toNatClampNeg) := inb_of S27 ⟨by decide, by decide⟩
  obtain ⟨T28, h28, X28, e28, W28, st28⟩ := stR X24 hx hZ Kc25 Ar27 (j := (2 : Int32)) hin27 rfl (Sto.ofV Ar27 q27 O2 (own_insKeep fp3 K0)) (g := (mkF m 22 #[rv a1, rv b2, iv (2 : Int32)] [(.ref el3), (.int (2 : Int32)), (.ref b2)])) rfl rfl (hb hby d36_22)
  refine own_go st28 ?_
  clear st28 X24 Kc25
  have f29 : Arv Z h28 b2 k2 (.object "java/lang/Object") (3 : Int32) [(.ref el1), (.ref el2), (.ref el3)] .null := Arv.set Ar27 q27 S27 M27 P27 G27 rfl W28 2 rfl (Nat.le_of_ble_eq_true rfl)
  replace N0 := Fr.snoc X28 N0 big3
  clear f21
  replace O0 := own_oldWr O0 W28 big3
  replace K0 := K0.wr W28 (Or.inr sz4)
  clear W28
  clear Ar27 q27 S27 M27 P27 G27 hin27
  refine own_go (fun _ k => XS.iinc X28.here hx rfl (hb hby d36_23) rfl (l' := #[rv a1, rv b2, iv (3 : Int32)]) rfl k) ?_
  show own_Go p e below s _ _ _ (T28.setTop (mkF m 26 #[rv a1, rv b2, iv (3 : Int32)] []))
  refine own_go (fun _ k => XS.goto X28.here hx rfl (pc0 := 26) (pc' := 8) rfl (hb hby d36_26) (by decide) (by decide) (XS.iloadN X28.here hx rfl (hb hby d36_8) rfl (XS.aloadN X28.here hx rfl (hb hby d36_9) rfl rfl k))) ?_
  show own_Go p e below s _ _ _ (T28.setTop (mkF m 10 #[rv a1, rv b2, iv (3 : Int32)] [(.ref a1), (.int (3 : Int32))]))
  obtain ⟨cl30, Ar30, -, S30, M30, -, -⟩ := id (fp0.keep K0 nin0)
  refine own_go (X28.arraylength hx (by rw [e28]; exact Ar30.1) (State.isArrayOf_alike hZ.alike Ar30.2.1) (g := (mkF m 10 #[rv a1, rv b2, iv (3 : Int32)] [(.ref a1), (.int (3 : Int32))])) rfl rfl (hb hby d36_10)) ?_
  rw [len_of S30 M30]
  refine own_go (fun _ k => XS.icmpYes X28.here hx rfl (pc0 := 11) (pc' := 29) rfl (hb hby d36_11) rfl (flt (by decide : ¬ ((3 : Int32) < (3 : Int32)))).2.1 (by decide) (by decide) k) ?_
  obtain ⟨T31, h31, X31, e31, E31, A31, D31, -, st31⟩ := newO X28 hx hZ hown (ow124 hw) (ow243 hw) (ow244 hw) e28 (g := (mkF m 29 #[rv a1, rv b2, iv (3 : Int32)] [])) rfl (hb hby d36_29) (by show _ ≤ 2; omega) (by show _ ≤ 5; omega)
  obtain ⟨b31, g31⟩ : ∃ z, z = h28.size := ⟨_, rfl⟩
  rw [← g31] at A31 D31 st31
  refine own_go st31 ?_
  clear st31 X28 e28
  have ge31 := Nat.le_of_eq g31.symm
  have ne32 : b2 ≠ b31 := Nat.ne_of_lt (Nat.lt_of_lt_of_le f29.lt ge31)
  have big33 : Z.heap.size ≤ b31 := Nat.le_trans O0.1 ge31
  have sz34 : h0.size ≤ b31 := Nat.le_trans K0.1 ge31
  replace f29 := f29.ext E31
  replace O0 := own_oldExt O0 E31
  replace K0 := K0.ext E31
  clear E31
  have f35 : Fld Z h31 b31 "java/util/ImmutableCollections$ListN" "elements" "[Ljava/lang/Object;" .null := D31 (Or.inr (ow254 hw)) (ty := (.array (.object "java/lang/Object"))) own_fd1
  have f36 : Fld Z h31 b31 "java/util/ImmutableCollections$ListN" "allowNulls" "Z" (.int (0 : Int32)) := D31 (Or.inr (ow256 hw)) (ty := .boolean) own_fd5
  refine own_go (fun _ k => XS.dup X31.here hx rfl (hb hby d36_32) rfl rfl (XS.aloadN X31.here hx rfl (hb hby d36_33) rfl rfl k)) ?_
  show own_Go p e below s _ _ _ (T31.setTop (mkF m 34 #[rv a1, rv b2, iv (3 : Int32)] [(.ref b2), (.ref b31), (.ref b31)]))
  refine own_go (fun _ k => XS.iconst X31.here hx rfl (hb hby d36_34) k) ?_
  obtain ⟨v37, T37, L37, X37, hQ37, st37⟩ := own_callIN (y := own_y21) X31 hx hZ hown (ow245 hw) (ow246 hw) (ow244 hw) (ow248 hw) (rm_lninit l Z a0 hw hO [] b31 b2 h31 O0 A31 f35 f36 big33) 1 0 0 rfl (by show _ ≤ 2; omega) (by show _ ≤ 5; omega) e31 (g := (mkF m 35 #[rv a1, rv b2, iv (3 : Int32)] [(.int (0 : Int32)), (.ref b2), (.ref b31), (.ref b31)])) rfl (by rw [hml]; rfl) b31 [(.ref b2), (.int (0 : Int32))] [(.ref b31)] (lenOf own_pd_9 rfl) rfl rfl (hb hby d36_35)
  obtain ⟨rfl, Nc42, Kc41, f38, f39, f40⟩ := hQ37
  refine own_go st37 ?_
  clear st37 X31 e31
  replace N0 := Fr.app N0 Nc42
  clear Nc42
  replace f29 := f29.keep Kc41 (ninS ne32 nin0)
  replace A31 := A31.keep Kc41
  clear f35
  clear f36
  replace O0 := own_oldKeep O0 Kc41 (allS big33 all0)
  replace K0 := K0.trans Kc41 (allS (Or.inr sz34) all0)
  clear Kc41
  show own_Go p e below s _ _ _ (T37.setTop (mkF m 38 #[rv a1, rv b2, iv (3 : Int32)] [(.ref b31)]))
  refine own_retA X37 hx hlk (rfl : T37.heap = T37.heap) hret rfl rfl (hb hby d36_38) (by show _ ≤ 2; omega) (by show _ ≤ 5; omega) ?_
  exact ⟨b31, b2, k2, rfl, N0, K0, sz34, f38, f39, f29⟩
theorem d31_0 : decode jdk_40_method_36_code 0 = .ok (.getstatic 90, 3) := by decide +kernel
theorem d31_3 : decode jdk_40_method_36_code 3 = .ok (.areturn, 1) := by decide +kernel
def Q_listOf0 (Z : State) (zc : Int32) (wd : Addr) (kd : ClassId) (wl : Addr) (we : Addr) (ke : ClassId) (weo : Addr) (wmo : Addr) (h0 : Heap) (v : Option Value) (h : Heap) (L : List Loc) : Prop := (v = some (.ref wl) ∧ Fr Z.heap.size L ∧ h = h0)
theorem ef_listOf0 (m : MethodId) : entryFrame m #[] 0 = mkF m 0 #[] [] := by first | (simp [entryFrame, mkF, argsToLocals, Value.category]; done) | rfl
set_option maxRecDepth 65536 in
set_option maxHeartbeats 40000000 in
theorem rm_listOf0 (l : Launch) (Z : State) (a0 : Array Value) (hw : own_W Z a0) {zc : Int32} {wd : Addr} {kd : ClassId} {wl : Addr} {we : Addr} {ke : ClassId} {weo : Addr} {wmo : Addr} (hO : own_Olds Z zc wd kd wl we ke weo wmo) (ws : List Jvm.Cond)  (h0 : Heap) (O0 : Ext Z.heap h0) :
    own_MF l Z h0 own_y23 jdk_40_method_36_code 0 (some (.object "java/util/List")) ({ frames := 0, cells := 0, slots := 0, locals := 0 } : Room) #[] (Q_listOf0 Z zc wd kd wl we ke weo wmo h0) ws := by
  refine own_met (Q := (Q_listOf0 Z zc wd kd wl we ke weo wmo h0)) _ _ (plainFor_of_name own_pn_11) ?_
  intro p e s m below meth c T X0 hx hby hml hret hlk hZ hown hnm e0
  replace hown : s.vm.findClass "java/util/List" = some m.cls := hown
  replace hnm : meth.name = "of" := hnm
  have hml : c.maxLocals = 0 := hml
  obtain ⟨oCS, oCz, oDE, oDV, oEL, oLE, oLF, oLV, oEM, oMir⟩ := id hO
  have N0 := Fr.nil Z.heap.size
  have K0 := Keep.refl h0 []
  refine own_go (fun _ k => castTop (ef_listOf0 m ) k) ?_
  show own_Go p e below s _ _ _ (T.setTop (mkF m 0 #[] []))
  obtain ⟨T1, X1, e1, st1⟩ := getS2 X0 hx hZ hown (host := "") (Or.inl (ow199 hw)) Via.refl e0 (oEL.ext O0) (g := (mkF m 0 #[] [])) rfl (hb hby d31_0)
  refine own_go st1 ?_
  clear st1 X0 e0
  show own_Go p e below s _ _ _ (T1.setTop (mkF m 3 #[] [(.ref wl)]))
  refine own_retA X1 hx hlk e1 hret rfl rfl (hb hby d31_3) (by show _ ≤ 0; omega) (by show _ ≤ 0; omega) ?_
  exact ⟨rfl, N0, rfl⟩
theorem d26_0 : decode jdk_40_method_47_code 0 = .ok (.aload_n 0, 1) := by decide +kernel
theorem d26_1 : decode jdk_40_method_47_code 1 = .ok (.arraylength, 1) := by decide +kernel
theorem d26_2 : decode jdk_40_method_47_code 2 = .ok (.tableswitch 57 0 2 #[26, 32, 43], 26) := by decide +kernel
theorem d26_34 : decode jdk_40_method_47_code 34 = .ok (.new 96, 3) := by decide +kernel
theorem d26_37 : decode jdk_40_method_47_code 37 = .ok (.dup, 1) := by decide +kernel
theorem d26_38 : decode jdk_40_method_47_code 38 = .ok (.aload_n 0, 1) := by decide +kernel
theorem d26_39 : decode jdk_40_method_47_code 39 = .ok (.iconst 0, 1) := by decide +kernel
theorem d26_40 : decode jdk_40_method_47_code 40 = .ok (.aaload, 1) := by decide +kernel
theorem d26_41 : decode jdk_40_method_47_code 41 = .ok (.invokespecial 98, 3) := by decide +kernel
theorem d26_44 : decode jdk_40_method_47_code 44 = .ok (.areturn, 1) := by decide +kernel
def Q_listOf_1 (Z : State) (zc : Int32) (wd : Addr) (kd : ClassId) (wl : Addr) (we : Addr) (ke : ClassId) (weo : Addr) (wmo : Addr) (a1 : Addr) (k : ClassId) (el1 : Addr) (h0 : Heap) (v : Option Value) (h : Heap) (L : List Loc) : Prop := (∃ b : Addr, v = some (.ref b) ∧ Fr Z.heap.size L ∧ Keep h0 h [] ∧ h0.size ≤ b ∧ Exa Z h b "java/util/ImmutableCollections$List12" ∧ Fld Z h b "java/util/ImmutableCollections$List12" "e0" "Ljava/lang/Object;" (.ref el1))
theorem ef_listOf_1 (m : MethodId) (x0 : Addr) : entryFrame m #[(.ref x0)] 2 = mkF m 0 #[rv x0, .unset] [] := by first | (simp [entryFrame, mkF, argsToLocals, Value.category]; done) | rfl
set_option maxRecDepth 65536 in
set_option maxHeartbeats 40000000 in
theorem rm_listOf_1 (l : Launch) (Z : State) (a0 : Array Value) (hw : own_W Z a0) {zc : Int32} {wd : Addr} {kd : ClassId} {wl : Addr} {we : Addr} {ke : ClassId} {weo : Addr} {wmo : Addr} (hO : own_Olds Z zc wd kd wl we ke weo wmo) (ws : List Jvm.Cond) (a1 : Addr) (k : ClassId) (el1 : Addr) (h0 : Heap) (O0 : Ext Z.heap h0) (fp0 : Arv Z h0 a1 k (.object "java/lang/Object") (1 : Int32) [(.ref el1)] .null) (fp1 : Ins Z h0 el1 "java/lang/Object" true) :
    own_MF l Z h0 own_y24 jdk_40_method_47_code 2 (some (.object "java/util/List")) ({ frames := 5, cells := 1, slots := 2, locals := 62 } : Room) #[(.ref a1)] (Q_listOf_1 Z zc wd kd wl we ke weo wmo a1 k el1 h0) ws := by
  refine own_met (Q := (Q_listOf_1 Z zc wd kd wl we ke weo wmo a1 k el1 h0)) _ _ (plainFor_of_name own_pn_11) ?_
  intro p e s m below meth c T X0 hx hby hml hret hlk hZ hown hnm e0
  replace hown : s.vm.findClass "java/util/List" = some m.cls := hown
  replace hnm : meth.name = "of" := hnm
  have hml : c.maxLocals = 2 := hml
  obtain ⟨oCS, oCz, oDE, oDV, oEL, oLE, oLF, oLV, oEM, oMir⟩ := id hO
  have N0 := Fr.nil Z.heap.size
  have K0 := Keep.refl h0 []
  refine own_go (fun _ k => castTop (ef_listOf_1 m a1) k) ?_
  show own_Go p e below s _ _ _ (T.setTop (mkF m 0 #[rv a1, .unset] []))
  refine own_go (fun _ k => XS.aloadN X0.here hx rfl (hb hby d26_0) rfl rfl k) ?_
  show own_Go p e below s _ _ _ (T.setTop (mkF m 1 #[rv a1, .unset] [(.ref a1)]))
  obtain ⟨cl1, Ar1, -, S1, M1, -, -⟩ := id (fp0.keep K0 nin0)
  refine own_go (X0.arraylength hx (by rw [e0]; exact Ar1.1) (State.isArrayOf_alike hZ.alike Ar1.2.1) (g := (mkF m 1 #[rv a1, .unset] [(.ref a1)])) rfl rfl (hb hby d26_1)) ?_
  rw [len_of S1 M1]
  refine own_go (fun _ k => XS.tswIn X0.here hx rfl (pc0 := 2) (pc' := 34) rfl (hb hby d26_2) rfl (by decide) rfl (by decide) (by decide) k) ?_
  obtain ⟨T2, h2, X2, e2, E2, A2, D2, -, st2⟩ := newO X0 hx hZ hown (ow167 hw) (ow168 hw) (ow169 hw) e0 (g := (mkF m 34 #[rv a1, .unset] [])) rfl (hb hby d26_34) (by show _ ≤ 1; omega) (by show _ ≤ 2; omega)
  obtain ⟨b2, g2⟩ : ∃ z, z = h0.size := ⟨_, rfl⟩
  rw [← g2] at A2 D2 st2
  refine own_go st2 ?_
  clear st2 X0 e0
  have ge2 := Nat.le_of_eq g2.symm
  have big3 : Z.heap.size ≤ b2 := Nat.le_trans O0.1 ge2
  have sz4 : h0.size ≤ b2 := Nat.le_trans K0.1 ge2
  replace O0 := own_oldExt O0 E2
  replace K0 := K0.ext E2
  clear E2
  have f5 : Fld Z h2 b2 "java/util/ImmutableCollections$List12" "e0" "Ljava/lang/Object;" .null := D2 (Or.inr (ow192 hw)) (ty := (.object "java/lang/Object")) own_fd4
  have f6 : Fld Z h2 b2 "java/util/ImmutableCollections$List12" "e1" "Ljava/lang/Object;" .null := D2 (Or.inr (ow195 hw)) (ty := (.object "java/lang/Object")) own_fd4
  refine own_go (fun _ k => XS.dup X2.here hx rfl (hb hby d26_37) rfl rfl (XS.aloadN X2.here hx rfl (hb hby d26_38) rfl rfl k)) ?_
  show own_Go p e below s _ _ _ (T2.setTop (mkF m 39 #[rv a1, .unset] [(.ref a1), (.ref b2), (.ref b2)]))
  refine own_go (fun _ k => XS.iconst X2.here hx rfl (hb hby d26_39) k) ?_
  obtain ⟨cl7, Ar7, -, S7, -, P7, -⟩ := id (fp0.keep K0 nin0)
  have hin7 : ¬ ((0 : Int32) < 0 ∨ cl7.slots.size ≤ ((0 : Int32)).toNatClampNeg) := inb_of S7 ⟨by decide, by decide⟩
  refine own_go (X2.aaload hx (j := (0 : Int32)) (v := (.ref el1)) (by rw [e2]; exact Ar7.1) (State.isArrayOf_alike hZ.alike Ar7.2.1) rfl Ar7.2.2 hin7 (P7.at hin7 rfl) (g := (mkF m 40 #[rv a1, .unset] [(.int (0 : Int32)), (.ref a1), (.ref b2), (.ref b2)])) rfl rfl (hb hby d26_40)) ?_
  obtain ⟨v8, T8, L8, X8, hQ8, st8⟩ := own_callI (y := own_y19) X2 hx hZ hown (ow170 hw) (ow171 hw) (ow169 hw) (ow173 hw) (rm_l1init l Z a0 hw hO [] b2 el1 h2 O0 A2 f5 f6 big3) 1 0 0 rfl (by show _ ≤ 1; omega) (by show _ ≤ 2; omega) e2 (g := (mkF m 41 #[rv a1, .unset] [(.ref el1), (.ref b2), (.ref b2)])) rfl (by rw [hml]; rfl) b2 [(.ref el1)] [(.ref b2)] (lenOf own_pd_10 rfl) rfl rfl (hb hby d26_41)
  obtain ⟨rfl, Nc13, Kc12, f9, f10, f11⟩ := hQ8
  refine own_go st8 ?_
  clear st8 X2 e2
  replace N0 := Fr.app N0 Nc13
  clear Nc13
  replace A2 := A2.keep Kc12
  clear f5
  clear f6
  replace O0 := own_oldKeep O0 Kc12 (allS big3 all0)
  replace K0 := K0.trans Kc12 (allS (Or.inr sz4) all0)
  clear Kc12
  show own_Go p e below s _ _ _ (T8.setTop (mkF m 44 #[rv a1, .unset] [(.ref b2)]))
  refine own_retA X8 hx hlk (rfl : T8.heap = T8.heap) hret rfl rfl (hb hby d26_44) (by show _ ≤ 1; omega) (by show _ ≤ 2; omega) ?_
  exact ⟨b2, rfl, N0, K0, sz4, f9, f10⟩
theorem d26_45 : decode jdk_40_method_47_code 45 = .ok (.new 96, 3) := by decide +kernel
theorem d26_48 : decode jdk_40_method_47_code 48 = .ok (.dup, 1) := by decide +kernel
theorem d26_49 : decode jdk_40_method_47_code 49 = .ok (.aload_n 0, 1) := by decide +kernel
theorem d26_50 : decode jdk_40_method_47_code 50 = .ok (.iconst 0, 1) := by decide +kernel
theorem d26_51 : decode jdk_40_method_47_code 51 = .ok (.aaload, 1) := by decide +kernel
theorem d26_52 : decode jdk_40_method_47_code 52 = .ok (.aload_n 0, 1) := by decide +kernel
theorem d26_53 : decode jdk_40_method_47_code 53 = .ok (.iconst 1, 1) := by decide +kernel
theorem d26_54 : decode jdk_40_method_47_code 54 = .ok (.aaload, 1) := by decide +kernel
theorem d26_55 : decode jdk_40_method_47_code 55 = .ok (.invokespecial 100, 3) := by decide +kernel
theorem d26_58 : decode jdk_40_method_47_code 58 = .ok (.areturn, 1) := by decide +kernel
def Q_listOf_2 (Z : State) (zc : Int32) (wd : Addr) (kd : ClassId) (wl : Addr) (we : Addr) (ke : ClassId) (weo : Addr) (wmo : Addr) (a1 : Addr) (k : ClassId) (el1 : Addr) (el2 : Addr) (h0 : Heap) (v : Option Value) (h : Heap) (L : List Loc) : Prop := (∃ b : Addr, v = some (.ref b) ∧ Fr Z.heap.size L ∧ Keep h0 h [] ∧ h0.size ≤ b ∧ Exa Z h b "java/util/ImmutableCollections$List12" ∧ Fld Z h b "java/util/ImmutableCollections$List12" "e0" "Ljava/lang/Object;" (.ref el1))
theorem ef_listOf_2 (m : MethodId) (x0 : Addr) : entryFrame m #[(.ref x0)] 2 = mkF m 0 #[rv x0, .unset] [] := by first | (simp [entryFrame, mkF, argsToLocals, Value.category]; done) | rfl
set_option maxRecDepth 65536 in
set_option maxHeartbeats 40000000 in
theorem rm_listOf_2 (l : Launch) (Z : State) (a0 : Array Value) (hw : own_W Z a0) {zc : Int32} {wd : Addr} {kd : ClassId} {wl : Addr} {we : Addr} {ke : ClassId} {weo : Addr} {wmo : Addr} (hO : own_Olds Z zc wd kd wl we ke weo wmo) (ws : List Jvm.Cond) (a1 : Addr) (k : ClassId) (el1 : Addr) (el2 : Addr) (h0 : Heap) (O0 : Ext Z.heap h0) (fp0 : Arv Z h0 a1 k (.object "java/lang/Object") (2 : Int32) [(.ref el1), (.ref el2)] .null) (fp1 : Ins Z h0 el1 "java/lang/Object" true) (fp2 : Ins Z h0 el2 "java/lang/Object" true) :
    own_MF l Z h0 own_y24 jdk_40_method_47_code 2 (some (.object "java/util/List")) ({ frames := 5, cells := 1, slots := 2, locals := 63 } : Room) #[(.ref a1)] (Q_listOf_2 Z zc wd kd wl we ke weo wmo a1 k el1 el2 h0) ws := by
  refine own_met (Q := (Q_listOf_2 Z zc wd kd wl we ke weo wmo a1 k el1 el2 h0)) _ _ (plainFor_of_name own_pn_11) ?_
  intro p e s m below meth c T X0 hx hby hml hret hlk hZ hown hnm e0
  replace hown : s.vm.findClass "java/util/List" = some m.cls := hown
  replace hnm : meth.name = "of" := hnm
  have hml : c.maxLocals = 2 := hml
  obtain ⟨oCS, oCz, oDE, oDV, oEL, oLE, oLF, oLV, oEM, oMir⟩ := id hO
  have N0 := Fr.nil Z.heap.size
  have K0 := Keep.refl h0 []
  refine own_go (fun _ k => castTop (ef_listOf_2 m a1) k) ?_
  show own_Go p e below s _ _ _ (T.setTop (mkF m 0 #[rv a1, .unset] []))
  refine own_go (fun _ k => XS.aloadN X0.here hx rfl (hb hby d26_0) rfl rfl k) ?_
  show own_Go p e below s _ _ _ (T.setTop (mkF m 1 #[rv a1, .unset] [(.ref a1)]))
  obtain ⟨cl1, Ar1, -, S1, M1, -, -⟩ := id (fp0.keep K0 nin0)
  refine own_go (X0.arraylength hx (by rw [e0]; exact Ar1.1) (State.isArrayOf_alike hZ.alike Ar1.2.1) (g := (mkF m 1 #[rv a1, .unset] [(.ref a1)])) rfl rfl (hb hby d26_1)) ?_
  rw [len_of S1 M1]
  refine own_go (fun _ k => XS.tswIn X0.here hx rfl (pc0 := 2) (pc' := 45) rfl (hb hby d26_2) rfl (by decide) rfl (by decide) (by decide) k) ?_
  obtain ⟨T2, h2, X2, e2, E2, A2, D2, -, st2⟩ := newO X0 hx hZ hown (ow167 hw) (ow168 hw) (ow169 hw) e0 (g := (mkF m 45 #[rv a1, .unset] [])) rfl (hb hby d26_45) (by show _ ≤ 1; omega) (by show _ ≤ 2; omega)
  obtain ⟨b2, g2⟩ : ∃ z, z = h0.size := ⟨_, rfl⟩
  rw [← g2] at A2 D2 st2
  refine own_go st2 ?_
  clear st2 X0 e0
  have ge2 := Nat.le_of_eq g2.symm
  have big3 : Z.heap.size ≤ b2 := Nat.le_trans O0.1 ge2
  have sz4 : h0.size ≤ b2 := Nat.le_trans K0.1 ge2
  replace O0 := own_oldExt O0 E2
  replace K0 := K0.ext E2
  clear E2
  have f5 : Fld Z h2 b2 "java/util/ImmutableCollections$List12" "e0" "Ljava/lang/Object;" .null := D2 (Or.inr (ow192 hw)) (ty := (.object "java/lang/Object")) own_fd4
  have f6 : Fld Z h2 b2 "java/util/ImmutableCollections$List12" "e1" "Ljava/lang/Object;" .null := D2 (Or.inr (ow195 hw)) (ty := (.object "java/lang/Object")) own_fd4
  refine own_go (fun _ k => XS.dup X2.here hx rfl (hb hby d26_48) rfl rfl (XS.aloadN X2.here hx rfl (hb hby d26_49) rfl rfl k)) ?_
  show own_Go p e below s _ _ _ (T2.setTop (mkF m 50 #[rv a1, .unset] [(.ref a1), (.ref b2), (.ref b2)]))
  refine own_go (fun _ k => XS.iconst X2.here hx rfl (hb hby d26_50) k) ?_
  obtain ⟨cl7, Ar7, -, S7, -, P7, -⟩ := id (fp0.keep K0 nin0)
  have hin7 : ¬ ((0 : Int32) < 0 ∨ cl7.slots.size ≤ ((0 : Int32)).toNatClampNeg) := inb_of S7 ⟨by decide, by decide⟩
  refine own_go (X2.aaload hx (j := (0 : Int32)) (v := (.ref el1)) (by rw [e2]; exact Ar7.1) (State.isArrayOf_alike hZ.alike Ar7.2.1) rfl Ar7.2.2 hin7 (P7.at hin7 rfl) (g := (mkF m 51 #[rv a1, .unset] [(.int (0 : Int32)), (.ref a1), (.ref b2), (.ref b2)])) rfl rfl (hb hby d26_51)) ?_
  refine own_go (fun _ k => XS.aloadN X2.here hx rfl (hb hby d26_52) rfl rfl (XS.iconst X2.here hx rfl (hb hby d26_53) k)) ?_
  obtain ⟨cl8, Ar8, -, S8, -, P8, -⟩ := id (fp0.keep K0 nin0)
  have hin8 : ¬ ((1 : Int32) < 0 ∨ cl8.slots.size ≤ ((1 : Int32)).toNatClampNeg) := inb_of S8 ⟨by decide, by decide⟩
  refine own_go (X2.aaload hx (j := (1 : Int32)) (v := (.ref el2)) (by rw [e2]; exact Ar8.1) (State.isArrayOf_alike hZ.alike Ar8.2.1) rfl Ar8.2.2 hin8 (P8.at hin8 rfl) (g := (mkF m 54 #[rv a1, .unset] [(.int (1 : Int32)), (.ref a1), (.ref el1), (.ref b2), (.ref b2)])) rfl rfl (hb hby d26_54)) ?_
  show own_Go p e below s _ _ _ (T2.setTop (mkF m 55 #[rv a1, .unset] [(.ref el2), (.ref el1), (.ref b2), (.ref b2)]))
  obtain ⟨v9, T9, L9, X9, hQ9, st9⟩ := own_callI (y := own_y20) X2 hx hZ hown (ow268 hw) (ow269 hw) (ow169 hw) (ow270 hw) (rm_l2init l Z a0 hw hO [] b2 el1 el2 h2 O0 A2 f5 f6 big3) 1 0 0 rfl (by show _ ≤ 1; omega) (by show _ ≤ 2; omega) e2 (g := (mkF m 55 #[rv a1, .unset] [(.ref el2), (.ref el1), (.ref b2), (.ref b2)])) rfl (by rw [hml]; rfl) b2 [(.ref el1), (.ref el2)] [(.ref b2)] (lenOf own_pd_11 rfl) rfl rfl (hb hby d26_55)
  obtain ⟨rfl, Nc14, Kc13, f10, f11, f12⟩ := hQ9
  refine own_go st9 ?_
  clear st9 X2 e2
  replace N0 := Fr.app N0 Nc14
  clear Nc14
  replace A2 := A2.keep Kc13
  clear f5
  clear f6
  replace O0 := own_oldKeep O0 Kc13 (allS big3 all0)
  replace K0 := K0.trans Kc13 (allS (Or.inr sz4) all0)
  clear Kc13
  show own_Go p e below s _ _ _ (T9.setTop (mkF m 58 #[rv a1, .unset] [(.ref b2)]))
  refine own_retA X9 hx hlk (rfl : T9.heap = T9.heap) hret rfl rfl (hb hby d26_58) (by show _ ≤ 1; omega) (by show _ ≤ 2; omega) ?_
  exact ⟨b2, rfl, N0, K0, sz4, f10, f11⟩
theorem d26_59 : decode jdk_40_method_47_code 59 = .ok (.aload_n 0, 1) := by decide +kernel
theorem d26_60 : decode jdk_40_method_47_code 60 = .ok (.invokestatic 109, 3) := by decide +kernel
theorem d26_63 : decode jdk_40_method_47_code 63 = .ok (.areturn, 1) := by decide +kernel
def Q_listOf_3 (Z : State) (zc : Int32) (wd : Addr) (kd : ClassId) (wl : Addr) (we : Addr) (ke : ClassId) (weo : Addr) (wmo : Addr) (a1 : Addr) (k : ClassId) (el1 : Addr) (el2 : Addr) (el3 : Addr) (h0 : Heap) (v : Option Value) (h : Heap) (L : List Loc) : Prop := (∃ b : Addr, ∃ cq_ : Addr, ∃ k3 : ClassId, v = some (.ref b) ∧ Fr Z.heap.size L ∧ Keep h0 h [] ∧ h0.size ≤ b ∧ Exa Z h b "java/util/ImmutableCollections$ListN" ∧ Fld Z h b "java/util/ImmutableCollections$ListN" "elements" "[Ljava/lang/Object;" (.ref cq_) ∧ Arv Z h cq_ k3 (.object "java/lang/Object") (3 : Int32) [(.ref el1), (.ref el2), (.ref el3)] .null)
theorem ef_listOf_3 (m : MethodId) (x0 : Addr) : entryFrame m #[(.ref x0)] 2 = mkF m 0 #[rv x0, .unset] [] := by first | (simp [entryFrame, mkF, argsToLocals, Value.category]; done) | rfl
set_option maxRecDepth 65536 in
set_option maxHeartbeats 40000000 in
theorem rm_listOf_3 (l : Launch) (Z : State) (a0 : Array Value) (hw : own_W Z a0) {zc : Int32} {wd : Addr} {kd : ClassId} {wl : Addr} {we : Addr} {ke : ClassId} {weo : Addr} {wmo : Addr} (hO : own_Olds Z zc wd kd wl we ke weo wmo) (ws : List Jvm.Cond) (a1 : Addr) (k : ClassId) (el1 : Addr) (el2 : Addr) (el3 : Addr) (h0 : Heap) (O0 : Ext Z.heap h0) (fp0 : Arv Z h0 a1 k (.object "java/lang/Object") (3 : Int32) [(.ref el1), (.ref el2), (.ref el3)] .null) (fp1 : Ins Z h0 el1 "java/lang/Object" true) (fp2 : Ins Z h0 el2 "java/lang/Object" true) (fp3 : Ins Z h0 el3 "java/lang/Object" true) :
    own_MF l Z h0 own_y24 jdk_40_method_47_code 2 (some (.object "java/util/List")) ({ frames := 6, cells := 2, slots := 5, locals := 77 } : Room) #[(.ref a1)] (Q_listOf_3 Z zc wd kd wl we ke weo wmo a1 k el1 el2 el3 h0) ws := by
  refine own_met (Q := (Q_listOf_3 Z zc wd kd wl we ke weo wmo a1 k el1 el2 el3 h0)) _ _ (plainFor_of_name own_pn_11) ?_
  intro p e s m below meth c T X0 hx hby hml hret hlk hZ hown hnm e0
  replace hown : s.vm.findClass "java/util/List" = some m.cls := hown
  replace hnm : meth.name = "of" := hnm
  have hml : c.maxLocals = 2 := hml
  obtain ⟨oCS, oCz, oDE, oDV, oEL, oLE, oLF, oLV, oEM, oMir⟩ := id hO
  have N0 := Fr.nil Z.heap.size
  have K0 := Keep.refl h0 []
  refine own_go (fun _ k => castTop (ef_listOf_3 m a1) k) ?_
  show own_Go p e below s _ _ _ (T.setTop (mkF m 0 #[rv a1, .unset] []))
  refine own_go (fun _ k => XS.aloadN X0.here hx rfl (hb hby d26_0) rfl rfl k) ?_
  show own_Go p e below s _ _ _ (T.setTop (mkF m 1 #[rv a1, .unset] [(.ref a1)]))
  obtain ⟨cl1, Ar1, -, S1, M1, -, -⟩ := id (fp0.keep K0 nin0)
  refine own_go (X0.arraylength hx (by rw [e0]; exact Ar1.1) (State.isArrayOf_alike hZ.alike Ar1.2.1) (g := (mkF m 1 #[rv a1, .unset] [(.ref a1)])) rfl rfl (hb hby d26_1)) ?_
  rw [len_of S1 M1]
  refine own_go (fun _ k => XS.tswOut X0.here hx rfl (pc0 := 2) (pc' := 59) rfl (hb hby d26_2) rfl (by decide) (by decide) (by decide) (XS.aloadN X0.here hx rfl (hb hby d26_59) rfl rfl k)) ?_
  obtain ⟨v2, T2, L2, X2, hQ2, st2⟩ := own_callS (y := own_y22) X0 hx hZ hown (ow238 hw) (ow239 hw) (ow117 hw) (ow240 hw) (rm_lfa3 l Z a0 hw hO [] a1 k el1 el2 el3 h0 O0 (fp0.keep K0 nin0) (own_insKeep fp1 K0) (own_insKeep fp2 K0) (own_insKeep fp3 K0)) 0 2 5 (by show _ ≤ 2; omega) (by show _ ≤ 5; omega) e0 (g := (mkF m 60 #[rv a1, .unset] [(.ref a1)])) rfl (by rw [hml]; rfl) [(.ref a1)] [] (lenOf own_pd_12 rfl) rfl rfl (hb hby d26_60)
  obtain ⟨w3, w4, w5, rfl, Nc11, Kc10, hb6, f7, f8, f9⟩ := hQ2
  refine own_go st2 ?_
  clear st2 X0 e0
  replace N0 := Fr.app N0 Nc11
  clear Nc11
  have big12 : Z.heap.size ≤ w3 := Nat.le_trans O0.1 hb6
  have sz13 : h0.size ≤ w3 := Nat.le_trans K0.1 hb6
  replace O0 := own_oldKeep O0 Kc10 all0
  replace K0 := K0.trans Kc10 all0
  clear Kc10
  show own_Go p e below s _ _ _ (T2.setTop (mkF m 63 #[rv a1, .unset] [(.ref w3)]))
  refine own_retA X2 hx hlk (rfl : T2.heap = T2.heap) hret rfl rfl (hb hby d26_63) (by show _ ≤ 2; omega) (by show _ ≤ 5; omega) ?_
  exact ⟨w3, w4, w5, rfl, N0, K0, sz13, f7, f8, f9⟩
theorem d20_0 : decode jdk_56_method_3_code 0 = .ok (.aload_n 0, 1) := by decide +kernel
theorem d20_1 : decode jdk_56_method_3_code 1 = .ok (.instanceof 10, 3) := by decide +kernel
theorem d20_4 : decode jdk_56_method_3_code 4 = .ok (.ifCond .ne 22, 3) := by decide +kernel
theorem d20_7 : decode jdk_56_method_3_code 7 = .ok (.aload_n 0, 1) := by decide +kernel
theorem d20_8 : decode jdk_56_method_3_code 8 = .ok (.instanceof 12, 3) := by decide +kernel
theorem d20_11 : decode jdk_56_method_3_code 11 = .ok (.ifCond .eq 20, 3) := by decide +kernel
theorem d20_31 : decode jdk_56_method_3_code 31 = .ok (.aload_n 0, 1) := by decide +kernel
theorem d20_32 : decode jdk_56_method_3_code 32 = .ok (.invokeinterface 20 1, 5) := by decide +kernel
theorem d20_37 : decode jdk_56_method_3_code 37 = .ok (.ifCond .eq 7, 3) := by decide +kernel
theorem d20_40 : decode jdk_56_method_3_code 40 = .ok (.invokestatic 26, 3) := by decide +kernel
theorem d20_43 : decode jdk_56_method_3_code 43 = .ok (.areturn, 1) := by decide +kernel
def Q_lcopy_0 (Z : State) (zc : Int32) (wd : Addr) (kd : ClassId) (wl : Addr) (we : Addr) (ke : ClassId) (weo : Addr) (wmo : Addr) (a1 : Addr) (h0 : Heap) (v : Option Value) (h : Heap) (L : List Loc) : Prop := (v = some (.ref wl) ∧ Fr Z.heap.size L ∧ h = h0)
theorem ef_lcopy_0 (m : MethodId) (x0 : Addr) : entryFrame m #[(.ref x0)] 2 = mkF m 0 #[rv x0, .unset] [] := by first | (simp [entryFrame, mkF, argsToLocals, Value.category]; done) | rfl
set_option maxRecDepth 65536 in
set_option maxHeartbeats 40000000 in
theorem rm_lcopy_0 (l : Launch) (Z : State) (a0 : Array Value) (hw : own_W Z a0) {zc : Int32} {wd : Addr} {kd : ClassId} {wl : Addr} {we : Addr} {ke : ClassId} {weo : Addr} {wmo : Addr} (hO : own_Olds Z zc wd kd wl we ke weo wmo) (ws : List Jvm.Cond) (a1 : Addr) (h0 : Heap) (O0 : Ext Z.heap h0) (fp0 : Exa Z h0 a1 "java/util/ArrayList") (fp1 : Fld Z h0 a1 "java/util/ArrayList" "size" "I" (.int (0 : Int32))) :
    own_MF l Z h0 own_y26 jdk_56_method_3_code 2 (some (.object "java/util/List")) ({ frames := 1, cells := 0, slots := 0, locals := 12 } : Room) #[(.ref a1)] (Q_lcopy_0 Z zc wd kd wl we ke weo wmo a1 h0) ws := by
  refine own_met (Q := (Q_lcopy_0 Z zc wd kd wl we ke weo wmo a1 h0)) _ _ (plainFor_of_name own_pn_10) ?_
  intro p e s m below meth c T X0 hx hby hml hret hlk hZ hown hnm e0
  replace hown : s.vm.findClass "java/util/ImmutableCollections" = some m.cls := hown
  replace hnm : meth.name = "listCopy" := hnm
  have hml : c.maxLocals = 2 := hml
  obtain ⟨oCS, oCz, oDE, oDV, oEL, oLE, oLF, oLV, oEM, oMir⟩ := id hO
  have N0 := Fr.nil Z.heap.size
  have K0 := Keep.refl h0 []
  refine own_go (fun _ k => castTop (ef_lcopy_0 m a1) k) ?_
  show own_Go p e below s _ _ _ (T.setTop (mkF m 0 #[rv a1, .unset] []))
  refine own_go (fun _ k => XS.aloadN X0.here hx rfl (hb hby d20_0) rfl rfl k) ?_
  obtain ⟨T1, X1, e1, st1⟩ := instNo X0 hx hZ hown (ow119 hw) e0 (fp0.keep K0) (own_noI (ow120 hw) (ow168 hw) (NS.step (ow120 hw) (NS.step (ow121 hw) (NS.step (ow122 hw) (own_rootI (ow123 hw) (ow168 hw) (by decide)) (by decide)) (by decide)) (by decide)) (by decide)) (g := (mkF m 1 #[rv a1, .unset] [(.ref a1)])) rfl rfl (hb hby d20_1)
  refine own_go st1 ?_
  clear st1 X0 e0
  refine own_go (fun _ k => XS.ifNo X1.here hx rfl (hb hby d20_4) rfl ((if0 _ _).trans (teq (by decide : (0 : Int32) = (0 : Int32))).2) (XS.aloadN X1.here hx rfl (hb hby d20_7) rfl rfl k)) ?_
  obtain ⟨T2, X2, e2, st2⟩ := instNo X1 hx hZ hown (ow124 hw) e1 (fp0.keep K0) (own_noI (ow120 hw) (ow243 hw) (NS.step (ow120 hw) (NS.step (ow121 hw) (NS.step (ow122 hw) (own_rootI (ow123 hw) (ow243 hw) (by decide)) (by decide)) (by decide)) (by decide)) (by decide)) (g := (mkF m 8 #[rv a1, .unset] [(.ref a1)])) rfl rfl (hb hby d20_8)
  refine own_go st2 ?_
  clear st2 X1 e1
  show own_Go p e below s _ _ _ (T2.setTop (mkF m 11 #[rv a1, .unset] [(.int (0 : Int32))]))
  refine own_go (fun _ k => XS.ifYes X2.here hx rfl (pc0 := 11) (pc' := 31) rfl (hb hby d20_11) rfl ((if0 _ _).trans (teq (by decide : (0 : Int32) = (0 : Int32))).1) (by decide) (by decide) (XS.aloadN X2.here hx rfl (hb hby d20_31) rfl rfl k)) ?_
  obtain ⟨v3, T3, L3, X3, hQ3, st3⟩ := own_callF (xi := own_y25) (y := own_y16) X2 hx hZ hown (ow125 hw) (ow126 hw) (ow127 hw) (ow128 hw) (ow129 hw) (ow130 hw) (ow131 hw) (ow132 hw) (ow37 hw) (ow133 hw) (by decide) (rm_alEmpty0 l Z a0 hw hO [] a1 h0 O0 (fp1.keep K0 nin0)) 0 0 0 (by show _ ≤ 0; omega) (by show _ ≤ 0; omega) e2 (fp0.keep K0) (g := (mkF m 32 #[rv a1, .unset] [(.ref a1)])) rfl (by rw [hml]; rfl) [] [] (lenOf own_pd_13 rfl) rfl rfl (hb hby d20_32)
  obtain ⟨rfl, Nc5, Kc4⟩ := hQ3
  refine own_go st3 ?_
  clear st3 X2 e2
  replace N0 := Fr.app N0 Nc5
  clear Nc5
  refine own_go (fun _ k => XS.ifNo X3.here hx rfl (hb hby d20_37) rfl ((if0 _ _).trans (feq (by decide : ¬ ((1 : Int32) = (0 : Int32)))).1) k) ?_
  obtain ⟨v6, T6, L6, X6, hQ6, st6⟩ := own_callS (y := own_y23) X3 hx hZ hown (ow196 hw) (ow197 hw) (ow113 hw) (ow198 hw) (rm_listOf0 l Z a0 hw hO []  h0 O0) 0 0 0 (by show _ ≤ 0; omega) (by show _ ≤ 0; omega) Kc4 (g := (mkF m 40 #[rv a1, .unset] [])) rfl (by rw [hml]; rfl) [] [] (lenOf own_pd_14 rfl) rfl rfl (hb hby d20_40)
  obtain ⟨rfl, Nc8, Kc7⟩ := hQ6
  refine own_go st6 ?_
  clear st6 X3 Kc4
  replace N0 := Fr.app N0 Nc8
  clear Nc8
  show own_Go p e below s _ _ _ (T6.setTop (mkF m 43 #[rv a1, .unset] [(.ref wl)]))
  refine own_retA X6 hx hlk Kc7 hret rfl rfl (hb hby d20_43) (by show _ ≤ 0; omega) (by show _ ≤ 0; omega) ?_
  exact ⟨rfl, N0, rfl⟩
theorem d19_0 : decode jdk_40_method_48_code 0 = .ok (.aload_n 0, 1) := by decide +kernel
theorem d19_1 : decode jdk_40_method_48_code 1 = .ok (.invokestatic 112, 3) := by decide +kernel
theorem d19_4 : decode jdk_40_method_48_code 4 = .ok (.areturn, 1) := by decide +kernel
def Q_copyOf_0 (Z : State) (zc : Int32) (wd : Addr) (kd : ClassId) (wl : Addr) (we : Addr) (ke : ClassId) (weo : Addr) (wmo : Addr) (a1 : Addr) (h0 : Heap) (v : Option Value) (h : Heap) (L : List Loc) : Prop := (v = some (.ref wl) ∧ Fr Z.heap.size L ∧ h = h0)
theorem ef_copyOf_0 (m : MethodId) (x0 : Addr) : entryFrame m #[(.ref x0)] 1 = mkF m 0 #[rv x0] [] := by first | (simp [entryFrame, mkF, argsToLocals, Value.category]; done) | rfl
set_option maxRecDepth 65536 in
set_option maxHeartbeats 40000000 in
theorem rm_copyOf_0 (l : Launch) (Z : State) (a0 : Array Value) (hw : own_W Z a0) {zc : Int32} {wd : Addr} {kd : ClassId} {wl : Addr} {we : Addr} {ke : ClassId} {weo : Addr} {wmo : Addr} (hO : own_Olds Z zc wd kd wl we ke weo wmo) (ws : List Jvm.Cond) (a1 : Addr) (h0 : Heap) (O0 : Ext Z.heap h0) (fp0 : Exa Z h0 a1 "java/util/ArrayList") (fp1 : Fld Z h0 a1 "java/util/ArrayList" "size" "I" (.int (0 : Int32))) :
    own_MF l Z h0 own_y27 jdk_40_method_48_code 1 (some (.object "java/util/List")) ({ frames := 2, cells := 0, slots := 0, locals := 25 } : Room) #[(.ref a1)] (Q_copyOf_0 Z zc wd kd wl we ke weo wmo a1 h0) ws := by
  refine own_met (Q := (Q_copyOf_0 Z zc wd kd wl we ke weo wmo a1 h0)) _ _ (plainFor_of_name own_pn_11) ?_
  intro p e s m below meth c T X0 hx hby hml hret hlk hZ hown hnm e0
  replace hown : s.vm.findClass "java/util/List" = some m.cls := hown
  replace hnm : meth.name = "copyOf" := hnm
  have hml : c.maxLocals = 1 := hml
  obtain ⟨oCS, oCz, oDE, oDV, oEL, oLE, oLF, oLV, oEM, oMir⟩ := id hO
  have N0 := Fr.nil Z.heap.size
  have K0 := Keep.refl h0 []
  refine own_go (fun _ k => castTop (ef_copyOf_0 m a1) k) ?_
  show own_Go p e below s _ _ _ (T.setTop (mkF m 0 #[rv a1] []))
  refine own_go (fun _ k => XS.aloadN X0.here hx rfl (hb hby d19_0) rfl rfl k) ?_
  obtain ⟨v1, T1, L1, X1, hQ1, st1⟩ := own_callS (y := own_y26) X0 hx hZ hown (ow115 hw) (ow116 hw) (ow117 hw) (ow118 hw) (rm_lcopy_0 l Z a0 hw hO [] a1 h0 O0 (fp0.keep K0) (fp1.keep K0 nin0)) 0 0 0 (by show _ ≤ 0; omega) (by show _ ≤ 0; omega) e0 (g := (mkF m 1 #[rv a1] [(.ref a1)])) rfl (by rw [hml]; rfl) [(.ref a1)] [] (lenOf own_pd_15 rfl) rfl rfl (hb hby d19_1)
  obtain ⟨rfl, Nc3, Kc2⟩ := hQ1
  refine own_go st1 ?_
  clear st1 X0 e0
  replace N0 := Fr.app N0 Nc3
  clear Nc3
  show own_Go p e below s _ _ _ (T1.setTop (mkF m 4 #[rv a1] [(.ref wl)]))
  refine own_retA X1 hx hlk Kc2 hret rfl rfl (hb hby d19_4) (by show _ ≤ 0; omega) (by show _ ≤ 0; omega) ?_
  exact ⟨rfl, N0, rfl⟩
theorem d20_44 : decode jdk_56_method_3_code 44 = .ok (.aload_n 0, 1) := by decide +kernel
theorem d20_45 : decode jdk_56_method_3_code 45 = .ok (.invokeinterface 30 1, 5) := by decide +kernel
theorem d20_50 : decode jdk_56_method_3_code 50 = .ok (.invokestatic 34, 3) := by decide +kernel
theorem d20_53 : decode jdk_56_method_3_code 53 = .ok (.areturn, 1) := by decide +kernel
def Q_lcopy_1 (Z : State) (zc : Int32) (wd : Addr) (kd : ClassId) (wl : Addr) (we : Addr) (ke : ClassId) (weo : Addr) (wmo : Addr) (a1 : Addr) (b0 : Addr) (k0 : ClassId) (el1 : Addr) (h0 : Heap) (v : Option Value) (h : Heap) (L : List Loc) : Prop := (∃ b : Addr, v = some (.ref b) ∧ Fr Z.heap.size L ∧ Keep h0 h [] ∧ h0.size ≤ b ∧ Exa Z h b "java/util/ImmutableCollections$List12" ∧ Fld Z h b "java/util/ImmutableCollections$List12" "e0" "Ljava/lang/Object;" (.ref el1))
theorem ef_lcopy_1 (m : MethodId) (x0 : Addr) : entryFrame m #[(.ref x0)] 2 = mkF m 0 #[rv x0, .unset] [] := by first | (simp [entryFrame, mkF, argsToLocals, Value.category]; done) | rfl
set_option maxRecDepth 65536 in
set_option maxHeartbeats 40000000 in
theorem rm_lcopy_1 (l : Launch) (Z : State) (a0 : Array Value) (hw : own_W Z a0) {zc : Int32} {wd : Addr} {kd : ClassId} {wl : Addr} {we : Addr} {ke : ClassId} {weo : Addr} {wmo : Addr} (hO : own_Olds Z zc wd kd wl we ke weo wmo) (ws : List Jvm.Cond) (a1 : Addr) (b0 : Addr) (k0 : ClassId) (el1 : Addr) (h0 : Heap) (O0 : Ext Z.heap h0) (fp0 : Exa Z h0 a1 "java/util/ArrayList") (fp1 : Fld Z h0 a1 "java/util/ArrayList" "size" "I" (.int (1 : Int32))) (fp2 : Fld Z h0 a1 "java/util/ArrayList" "elementData" "[Ljava/lang/Object;" (.ref b0)) (fp3 : Arv Z h0 b0 k0 (.object "java/lang/Object") (10 : Int32) [(.ref el1), .null, .null, .null, .null, .null, .null, .null, .null, .null] .null) (fp4 : Exa Z h0 b0 "[Ljava/lang/Object;") (fp5 : Ins Z h0 el1 "java/lang/Object" true) :
    own_MF l Z h0 own_y26 jdk_56_method_3_code 2 (some (.object "java/util/List")) ({ frames := 6, cells := 2, slots := 3, locals := 75 } : Room) #[(.ref a1)] (Q_lcopy_1 Z zc wd kd wl we ke weo wmo a1 b0 k0 el1 h0) ws := by
  refine own_met (Q := (Q_lcopy_1 Z zc wd kd wl we ke weo wmo a1 b0 k0 el1 h0)) _ _ (plainFor_of_name own_pn_10) ?_
  intro p e s m below meth c T X0 hx hby hml hret hlk hZ hown hnm e0
  replace hown : s.vm.findClass "java/util/ImmutableCollections" = some m.cls := hown
  replace hnm : meth.name = "listCopy" := hnm
  have hml : c.maxLocals = 2 := hml
  obtain ⟨oCS, oCz, oDE, oDV, oEL, oLE, oLF, oLV, oEM, oMir⟩ := id hO
  have N0 := Fr.nil Z.heap.size
  have K0 := Keep.refl h0 []
  refine own_go (fun _ k => castTop (ef_lcopy_1 m a1) k) ?_
  show own_Go p e below s _ _ _ (T.setTop (mkF m 0 #[rv a1, .unset] []))
  refine own_go (fun _ k => XS.aloadN X0.here hx rfl (hb hby d20_0) rfl rfl k) ?_
  obtain ⟨T1, X1, e1, st1⟩ := instNo X0 hx hZ hown (ow119 hw) e0 (fp0.keep K0) (own_noI (ow120 hw) (ow168 hw) (NS.step (ow120 hw) (NS.step (ow121 hw) (NS.step (ow122 hw) (own_rootI (ow123 hw) (ow168 hw) (by decide)) (by decide)) (by decide)) (by decide)) (by decide)) (g := (mkF m 1 #[rv a1, .unset] [(.ref a1)])) rfl rfl (hb hby d20_1)
  refine own_go st1 ?_
  clear st1 X0 e0
  refine own_go (fun _ k => XS.ifNo X1.here hx rfl (hb hby d20_4) rfl ((if0 _ _).trans (teq (by decide : (0 : Int32) = (0 : Int32))).2) (XS.aloadN X1.here hx rfl (hb hby d20_7) rfl rfl k)) ?_
  obtain ⟨T2, X2, e2, st2⟩ := instNo X1 hx hZ hown (ow124 hw) e1 (fp0.keep K0) (own_noI (ow120 hw) (ow243 hw) (NS.step (ow120 hw) (NS.step (ow121 hw) (NS.step (ow122 hw) (own_rootI (ow123 hw) (ow243 hw) (by decide)) (by decide)) (by decide)) (by decide)) (by decide)) (g := (mkF m 8 #[rv a1, .unset] [(.ref a1)])) rfl rfl (hb hby d20_8)
  refine own_go st2 ?_
  clear st2 X1 e1
  show own_Go p e below s _ _ _ (T2.setTop (mkF m 11 #[rv a1, .unset] [(.int (0 : Int32))]))
  refine own_go (fun _ k => XS.ifYes X2.here hx rfl (pc0 := 11) (pc' := 31) rfl (hb hby d20_11) rfl ((if0 _ _).trans (teq (by decide : (0 : Int32) = (0 : Int32))).1) (by decide) (by decide) (XS.aloadN X2.here hx rfl (hb hby d20_31) rfl rfl k)) ?_
  obtain ⟨v3, T3, L3, X3, hQ3, st3⟩ := own_callF (xi := own_y25) (y := own_y16) X2 hx hZ hown (ow125 hw) (ow126 hw) (ow127 hw) (ow128 hw) (ow129 hw) (ow130 hw) (ow131 hw) (ow132 hw) (ow37 hw) (ow133 hw) (by decide) (rm_alEmpty1 l Z a0 hw hO [] a1 (1 : Int32) h0 O0 (fp1.keep K0 nin0) (by decide : ¬ ((1 : Int32) = (0 : Int32)))) 0 0 0 (by show _ ≤ 2; omega) (by show _ ≤ 3; omega) e2 (fp0.keep K0) (g := (mkF m 32 #[rv a1, .unset] [(.ref a1)])) rfl (by rw [hml]; rfl) [] [] (lenOf own_pd_13 rfl) rfl rfl (hb hby d20_32)
  obtain ⟨rfl, Nc5, Kc4⟩ := hQ3
  refine own_go st3 ?_
  clear st3 X2 e2
  replace N0 := Fr.app N0 Nc5
  clear Nc5
  refine own_go (fun _ k => XS.ifYes X3.here hx rfl (pc0 := 37) (pc' := 44) rfl (hb hby d20_37) rfl ((if0 _ _).trans (teq (by decide : (0 : Int32) = (0 : Int32))).1) (by decide) (by decide) (XS.aloadN X3.here hx rfl (hb hby d20_44) rfl rfl k)) ?_
  show own_Go p e below s _ _ _ (T3.setTop (mkF m 45 #[rv a1, .unset] [(.ref a1)]))
  obtain ⟨v6, T6, L6, X6, hQ6, st6⟩ := own_callF (xi := own_y28) (y := own_y15) X3 hx hZ hown (ow134 hw) (ow135 hw) (ow136 hw) (ow137 hw) (ow138 hw) (ow139 hw) (ow140 hw) (ow132 hw) (ow37 hw) (ow141 hw) (by decide) (rm_toArr_1 l Z a0 hw hO [] a1 k0 b0 el1 h0 O0 (fp0.keep K0) (fp1.keep K0 nin0) (fp2.keep K0 nin0) (fp3.keep K0 nin0) (fp4.keep K0) (own_insKeep fp5 K0)) 0 1 1 (by show _ ≤ 2; omega) (by show _ ≤ 3; omega) Kc4 (fp0.keep K0) (g := (mkF m 45 #[rv a1, .unset] [(.ref a1)])) rfl (by rw [hml]; rfl) [] [] (lenOf own_pd_3 rfl) rfl rfl (hb hby d20_45)
  obtain ⟨w7, w8, rfl, Nc12, Kc11, hb9, f10⟩ := hQ6
  refine own_go st6 ?_
  clear st6 X3 Kc4
  replace N0 := Fr.app N0 Nc12
  clear Nc12
  have big13 : Z.heap.size ≤ w7 := Nat.le_trans O0.1 hb9
  have sz14 : h0.size ≤ w7 := Nat.le_trans K0.1 hb9
  replace O0 := own_oldKeep O0 Kc11 all0
  replace K0 := K0.trans Kc11 all0
  clear Kc11
  obtain ⟨v15, T15, L15, X15, hQ15, st15⟩ := own_callS (y := own_y24) X6 hx hZ hown (ow164 hw) (ow165 hw) (ow113 hw) (ow166 hw) (rm_listOf_1 l Z a0 hw hO [] w7 w8 el1 T6.heap O0 f10 (own_insKeep fp5 K0)) 0 1 2 (by show _ ≤ 2; omega) (by show _ ≤ 3; omega) (rfl : T6.heap = T6.heap) (g := (mkF m 50 #[rv a1, .unset] [(.ref w7)])) rfl (by rw [hml]; rfl) [(.ref w7)] [] (lenOf own_pd_12 rfl) rfl rfl (hb hby d20_50)
  obtain ⟨w16, rfl, Nc21, Kc20, hb17, f18, f19⟩ := hQ15
  refine own_go st15 ?_
  clear st15 X6
  replace N0 := Fr.app N0 Nc21
  clear Nc21
  have ne22 : w7 ≠ w16 := Nat.ne_of_lt (Nat.lt_of_lt_of_le f10.lt hb17)
  have big23 : Z.heap.size ≤ w16 := Nat.le_trans O0.1 hb17
  have sz24 : h0.size ≤ w16 := Nat.le_trans K0.1 hb17
  replace f10 := f10.keep Kc20 nin0
  replace O0 := own_oldKeep O0 Kc20 all0
  replace K0 := K0.trans Kc20 all0
  clear Kc20
  show own_Go p e below s _ _ _ (T15.setTop (mkF m 53 #[rv a1, .unset] [(.ref w16)]))
  refine own_retA X15 hx hlk (rfl : T15.heap = T15.heap) hret rfl rfl (hb hby d20_53) (by show _ ≤ 2; omega) (by show _ ≤ 3; omega) ?_
  exact ⟨w16, rfl, N0, K0, sz24, f18, f19⟩
def Q_copyOf_1 (Z : State) (zc : Int32) (wd : Addr) (kd : ClassId) (wl : Addr) (we : Addr) (ke : ClassId) (weo : Addr) (wmo : Addr) (a1 : Addr) (b0 : Addr) (k0 : ClassId) (el1 : Addr) (h0 : Heap) (v : Option Value) (h : Heap) (L : List Loc) : Prop := (∃ b : Addr, v = some (.ref b) ∧ Fr Z.heap.size L ∧ Keep h0 h [] ∧ h0.size ≤ b ∧ Exa Z h b "java/util/ImmutableCollections$List12" ∧ Fld Z h b "java/util/ImmutableCollections$List12" "e0" "Ljava/lang/Object;" (.ref el1))
theorem ef_copyOf_1 (m : MethodId) (x0 : Addr) : entryFrame m #[(.ref x0)] 1 = mkF m 0 #[rv x0] [] := by first | (simp [entryFrame, mkF, argsToLocals, Value.category]; done) | rfl
set_option maxRecDepth 65536 in
set_option maxHeartbeats 40000000 in
theorem rm_copyOf_1 (l : Launch) (Z : State) (a0 : Array Value) (hw : own_W Z a0) {zc : Int32} {wd : Addr} {kd : ClassId} {wl : Addr} {we : Addr} {ke : ClassId} {weo : Addr} {wmo : Addr} (hO : own_Olds Z zc wd kd wl we ke weo wmo) (ws : List Jvm.Cond) (a1 : Addr) (b0 : Addr) (k0 : ClassId) (el1 : Addr) (h0 : Heap) (O0 : Ext Z.heap h0) (fp0 : Exa Z h0 a1 "java/util/ArrayList") (fp1 : Fld Z h0 a1 "java/util/ArrayList" "size" "I" (.int (1 : Int32))) (fp2 : Fld Z h0 a1 "java/util/ArrayList" "elementData" "[Ljava/lang/Object;" (.ref b0)) (fp3 : Arv Z h0 b0 k0 (.object "java/lang/Object") (10 : Int32) [(.ref el1), .null, .null, .null, .null, .null, .null, .null, .null, .null] .null) (fp4 : Exa Z h0 b0 "[Ljava/lang/Object;") (fp5 : Ins Z h0 el1 "java/lang/Object" true) :
    own_MF l Z h0 own_y27 jdk_40_method_48_code 1 (some (.object "java/util/List")) ({ frames := 7, cells := 2, slots := 3, locals := 88 } : Room) #[(.ref a1)] (Q_copyOf_1 Z zc wd kd wl we ke weo wmo a1 b0 k0 el1 h0) ws := by
  refine own_met (Q := (Q_copyOf_1 Z zc wd kd wl we ke weo wmo a1 b0 k0 el1 h0)) _ _ (plainFor_of_name own_pn_11) ?_
  intro p e s m below meth c T X0 hx hby hml hret hlk hZ hown hnm e0
  replace hown : s.vm.findClass "java/util/List" = some m.cls := hown
  replace hnm : meth.name = "copyOf" := hnm
  have hml : c.maxLocals = 1 := hml
  obtain ⟨oCS, oCz, oDE, oDV, oEL, oLE, oLF, oLV, oEM, oMir⟩ := id hO
  have N0 := Fr.nil Z.heap.size
  have K0 := Keep.refl h0 []
  refine own_go (fun _ k => castTop (ef_copyOf_1 m a1) k) ?_
  show own_Go p e below s _ _ _ (T.setTop (mkF m 0 #[rv a1] []))
  refine own_go (fun _ k => XS.aloadN X0.here hx rfl (hb hby d19_0) rfl rfl k) ?_
  obtain ⟨v1, T1, L1, X1, hQ1, st1⟩ := own_callS (y := own_y26) X0 hx hZ hown (ow115 hw) (ow116 hw) (ow117 hw) (ow118 hw) (rm_lcopy_1 l Z a0 hw hO [] a1 b0 k0 el1 h0 O0 (fp0.keep K0) (fp1.keep K0 nin0) (fp2.keep K0 nin0) (fp3.keep K0 nin0) (fp4.keep K0) (own_insKeep fp5 K0)) 0 2 3 (by show _ ≤ 2; omega) (by show _ ≤ 3; omega) e0 (g := (mkF m 1 #[rv a1] [(.ref a1)])) rfl (by rw [hml]; rfl) [(.ref a1)] [] (lenOf own_pd_15 rfl) rfl rfl (hb hby d19_1)
  obtain ⟨w2, rfl, Nc7, Kc6, hb3, f4, f5⟩ := hQ1
  refine own_go st1 ?_
  clear st1 X0 e0
  replace N0 := Fr.app N0 Nc7
  clear Nc7
  have big8 : Z.heap.size ≤ w2 := Nat.le_trans O0.1 hb3
  have sz9 : h0.size ≤ w2 := Nat.le_trans K0.1 hb3
  replace O0 := own_oldKeep O0 Kc6 all0
  replace K0 := K0.trans Kc6 all0
  clear Kc6
  show own_Go p e below s _ _ _ (T1.setTop (mkF m 4 #[rv a1] [(.ref w2)]))
  refine own_retA X1 hx hlk (rfl : T1.heap = T1.heap) hret rfl rfl (hb hby d19_4) (by show _ ≤ 2; omega) (by show _ ≤ 3; omega) ?_
  exact ⟨w2, rfl, N0, K0, sz9, f4, f5⟩
def Q_lcopy_2 (Z : State) (zc : Int32) (wd : Addr) (kd : ClassId) (wl : Addr) (we : Addr) (ke : ClassId) (weo : Addr) (wmo : Addr) (a1 : Addr) (b0 : Addr) (k0 : ClassId) (el1 : Addr) (el2 : Addr) (h0 : Heap) (v : Option Value) (h : Heap) (L : List Loc) : Prop := (∃ b : Addr, v = some (.ref b) ∧ Fr Z.heap.size L ∧ Keep h0 h [] ∧ h0.size ≤ b ∧ Exa Z h b "java/util/ImmutableCollections$List12" ∧ Fld Z h b "java/util/ImmutableCollections$List12" "e0" "Ljava/lang/Object;" (.ref el1))
theorem ef_lcopy_2 (m : MethodId) (x0 : Addr) : entryFrame m #[(.ref x0)] 2 = mkF m 0 #[rv x0, .unset] [] := by first | (simp [entryFrame, mkF, argsToLocals, Value.category]; done) | rfl
set_option maxRecDepth 65536 in
set_option maxHeartbeats 40000000 in
theorem rm_lcopy_2 (l : Launch) (Z : State) (a0 : Array Value) (hw : own_W Z a0) {zc : Int32} {wd : Addr} {kd : ClassId} {wl : Addr} {we : Addr} {ke : ClassId} {weo : Addr} {wmo : Addr} (hO : own_Olds Z zc wd kd wl we ke weo wmo) (ws : List Jvm.Cond) (a1 : Addr) (b0 : Addr) (k0 : ClassId) (el1 : Addr) (el2 : Addr) (h0 : Heap) (O0 : Ext Z.heap h0) (fp0 : Exa Z h0 a1 "java/util/ArrayList") (fp1 : Fld Z h0 a1 "java/util/ArrayList" "size" "I" (.int (2 : Int32))) (fp2 : Fld Z h0 a1 "java/util/ArrayList" "elementData" "[Ljava/lang/Object;" (.ref b0)) (fp3 : Arv Z h0 b0 k0 (.object "java/lang/Object") (10 : Int32) [(.ref el1), (.ref el2), .null, .null, .null, .null, .null, .null, .null, .null] .null) (fp4 : Exa Z h0 b0 "[Ljava/lang/Object;") (fp5 : Ins Z h0 el1 "java/lang/Object" true) (fp6 : Ins Z h0 el2 "java/lang/Object" true) :
    own_MF l Z h0 own_y26 jdk_56_method_3_code 2 (some (.object "java/util/List")) ({ frames := 6, cells := 2, slots := 4, locals := 76 } : Room) #[(.ref a1)] (Q_lcopy_2 Z zc wd kd wl we ke weo wmo a1 b0 k0 el1 el2 h0) ws := by
  refine own_met (Q := (Q_lcopy_2 Z zc wd kd wl we ke weo wmo a1 b0 k0 el1 el2 h0)) _ _ (plainFor_of_name own_pn_10) ?_
  intro p e s m below meth c T X0 hx hby hml hret hlk hZ hown hnm e0
  replace hown : s.vm.findClass "java/util/ImmutableCollections" = some m.cls := hown
  replace hnm : meth.name = "listCopy" := hnm
  have hml : c.maxLocals = 2 := hml
  obtain ⟨oCS, oCz, oDE, oDV, oEL, oLE, oLF, oLV, oEM, oMir⟩ := id hO
  have N0 := Fr.nil Z.heap.size
  have K0 := Keep.refl h0 []
  refine own_go (fun _ k => castTop (ef_lcopy_2 m a1) k) ?_
  show own_Go p e below s _ _ _ (T.setTop (mkF m 0 #[rv a1, .unset] []))
  refine own_go (fun _ k => XS.aloadN X0.here hx rfl (hb hby d20_0) rfl rfl k) ?_
  obtain ⟨T1, X1, e1, st1⟩ := instNo X0 hx hZ hown (ow119 hw) e0 (fp0.keep K0) (own_noI (ow120 hw) (ow168 hw) (NS.step (ow120 hw) (NS.step (ow121 hw) (NS.step (ow122 hw) (own_rootI (ow123 hw) (ow168 hw) (by decide)) (by decide)) (by decide)) (by decide)) (by decide)) (g := (mkF m 1 #[rv a1, .unset] [(.ref a1)])) rfl rfl (hb hby d20_1)
  refine own_go st1 ?_
  clear st1 X0 e0
  refine own_go (fun _ k => XS.ifNo X1.here hx rfl (hb hby d20_4) rfl ((if0 _ _).trans (teq (by decide : (0 : Int32) = (0 : Int32))).2) (XS.aloadN X1.here hx rfl (hb hby d20_7) rfl rfl k)) ?_
  obtain ⟨T2, X2, e2, st2⟩ := instNo X1 hx hZ hown (ow124 hw) e1 (fp0.keep K0) (own_noI (ow120 hw) (ow243 hw) (NS.step (ow120 hw) (NS.step (ow121 hw) (NS.step (ow122 hw) (own_rootI (ow123 hw) (ow243 hw) (by decide)) (by decide)) (by decide)) (by decide)) (by decide)) (g := (mkF m 8 #[rv a1, .unset] [(.ref a1)])) rfl rfl (hb hby d20_8)
  refine own_go st2 ?_
  clear st2 X1 e1
  show own_Go p e below s _ _ _ (T2.setTop (mkF m 11 #[rv a1, .unset] [(.int (0 : Int32))]))
  refine own_go (fun _ k => XS.ifYes X2.here hx rfl (pc0 := 11) (pc' := 31) rfl (hb hby d20_11) rfl ((if0 _ _).trans (teq (by decide : (0 : Int32) = (0 : Int32))).1) (by decide) (by decide) (XS.aloadN X2.here hx rfl (hb hby d20_31) rfl rfl k)) ?_
  obtain ⟨v3, T3, L3, X3, hQ3, st3⟩ := own_callF (xi := own_y25) (y := own_y16) X2 hx hZ hown (ow125 hw) (ow126 hw) (ow127 hw) (ow128 hw) (ow129 hw) (ow130 hw) (ow131 hw) (ow132 hw) (ow37 hw) (ow133 hw) (by decide) (rm_alEmpty1 l Z a0 hw hO [] a1 (2 : Int32) h0 O0 (fp1.keep K0 nin0) (by decide : ¬ ((2 : Int32) = (0 : Int32)))) 0 0 0 (by show _ ≤ 2; omega) (by show _ ≤ 4; omega) e2 (fp0.keep K0) (g := (mkF m 32 #[rv a1, .unset] [(.ref a1)])) rfl (by rw [hml]; rfl) [] [] (lenOf own_pd_13 rfl) rfl rfl (hb hby d20_32)
  obtain ⟨rfl, Nc5, Kc4⟩ := hQ3
  refine own_go st3 ?_
  clear st3 X2 e2
  replace N0 := Fr.app N0 Nc5
  clear Nc5
  refine own_go (fun _ k => XS.ifYes X3.here hx rfl (pc0 := 37) (pc' := 44) rfl (hb hby d20_37) rfl ((if0 _ _).trans (teq (by decide : (0 : Int32) = (0 : Int32))).1) (by decide) (by decide) (XS.aloadN X3.here hx rfl (hb hby d20_44) rfl rfl k)) ?_
  show own_Go p e below s _ _ _ (T3.setTop (mkF m 45 #[rv a1, .unset] [(.ref a1)]))
  obtain ⟨v6, T6, L6, X6, hQ6, st6⟩ := own_callF (xi := own_y28) (y := own_y15) X3 hx hZ hown (ow134 hw) (ow135 hw) (ow136 hw) (ow137 hw) (ow138 hw) (ow139 hw) (ow140 hw) (ow132 hw) (ow37 hw) (ow141 hw) (by decide) (rm_toArr_2 l Z a0 hw hO [] a1 k0 b0 el1 el2 h0 O0 (fp0.keep K0) (fp1.keep K0 nin0) (fp2.keep K0 nin0) (fp3.keep K0 nin0) (fp4.keep K0) (own_insKeep fp5 K0) (own_insKeep fp6 K0)) 0 1 2 (by show _ ≤ 2; omega) (by show _ ≤ 4; omega) Kc4 (fp0.keep K0) (g := (mkF m 45 #[rv a1, .unset] [(.ref a1)])) rfl (by rw [hml]; rfl) [] [] (lenOf own_pd_3 rfl) rfl rfl (hb hby d20_45)
  obtain ⟨w7, w8, rfl, Nc12, Kc11, hb9, f10⟩ := hQ6
  refine own_go st6 ?_
  clear st6 X3 Kc4
  replace N0 := Fr.app N0 Nc12
  clear Nc12
  have big13 : Z.heap.size ≤ w7 := Nat.le_trans O0.1 hb9
  have sz14 : h0.size ≤ w7 := Nat.le_trans K0.1 hb9
  replace O0 := own_oldKeep O0 Kc11 all0
  replace K0 := K0.trans Kc11 all0
  clear Kc11
  obtain ⟨v15, T15, L15, X15, hQ15, st15⟩ := own_callS (y := own_y24) X6 hx hZ hown (ow164 hw) (ow165 hw) (ow113 hw) (ow166 hw) (rm_listOf_2 l Z a0 hw hO [] w7 w8 el1 el2 T6.heap O0 f10 (own_insKeep fp5 K0) (own_insKeep fp6 K0)) 0 1 2 (by show _ ≤ 2; omega) (by show _ ≤ 4; omega) (rfl : T6.heap = T6.heap) (g := (mkF m 50 #[rv a1, .unset] [(.ref w7)])) rfl (by rw [hml]; rfl) [(.ref w7)] [] (lenOf own_pd_12 rfl) rfl rfl (hb hby d20_50)
  obtain ⟨w16, rfl, Nc21, Kc20, hb17, f18, f19⟩ := hQ15
  refine own_go st15 ?_
  clear st15 X6
  replace N0 := Fr.app N0 Nc21
  clear Nc21
  have ne22 : w7 ≠ w16 := Nat.ne_of_lt (Nat.lt_of_lt_of_le f10.lt hb17)
  have big23 : Z.heap.size ≤ w16 := Nat.le_trans O0.1 hb17
  have sz24 : h0.size ≤ w16 := Nat.le_trans K0.1 hb17
  replace f10 := f10.keep Kc20 nin0
  replace O0 := own_oldKeep O0 Kc20 all0
  replace K0 := K0.trans Kc20 all0
  clear Kc20
  show own_Go p e below s _ _ _ (T15.setTop (mkF m 53 #[rv a1, .unset] [(.ref w16)]))
  refine own_retA X15 hx hlk (rfl : T15.heap = T15.heap) hret rfl rfl (hb hby d20_53) (by show _ ≤ 2; omega) (by show _ ≤ 4; omega) ?_
  exact ⟨w16, rfl, N0, K0, sz24, f18, f19⟩
def Q_copyOf_2 (Z : State) (zc : Int32) (wd : Addr) (kd : ClassId) (wl : Addr) (we : Addr) (ke : ClassId) (weo : Addr) (wmo : Addr) (a1 : Addr) (b0 : Addr) (k0 : ClassId) (el1 : Addr) (el2 : Addr) (h0 : Heap) (v : Option Value) (h : Heap) (L : List Loc) : Prop := (∃ b : Addr, v = some (.ref b) ∧ Fr Z.heap.size L ∧ Keep h0 h [] ∧ h0.size ≤ b ∧ Exa Z h b "java/util/ImmutableCollections$List12" ∧ Fld Z h b "java/util/ImmutableCollections$List12" "e0" "Ljava/lang/Object;" (.ref el1))
theorem ef_copyOf_2 (m : MethodId) (x0 : Addr) : entryFrame m #[(.ref x0)] 1 = mkF m 0 #[rv x0] [] := by first | (simp [entryFrame, mkF, argsToLocals, Value.category]; done) | rfl
set_option maxRecDepth 65536 in
set_option maxHeartbeats 40000000 in
theorem rm_copyOf_2 (l : Launch) (Z : State) (a0 : Array Value) (hw : own_W Z a0) {zc : Int32} {wd : Addr} {kd : ClassId} {wl : Addr} {we : Addr} {ke : ClassId} {weo : Addr} {wmo : Addr} (hO : own_Olds Z zc wd kd wl we ke weo wmo) (ws : List Jvm.Cond) (a1 : Addr) (b0 : Addr) (k0 : ClassId) (el1 : Addr) (el2 : Addr) (h0 : Heap) (O0 : Ext Z.heap h0) (fp0 : Exa Z h0 a1 "java/util/ArrayList") (fp1 : Fld Z h0 a1 "java/util/ArrayList" "size" "I" (.int (2 : Int32))) (fp2 : Fld Z h0 a1 "java/util/ArrayList" "elementData" "[Ljava/lang/Object;" (.ref b0)) (fp3 : Arv Z h0 b0 k0 (.object "java/lang/Object") (10 : Int32) [(.ref el1), (.ref el2), .null, .null, .null, .null, .null, .null, .null, .null] .null) (fp4 : Exa Z h0 b0 "[Ljava/lang/Object;") (fp5 : Ins Z h0 el1 "java/lang/Object" true) (fp6 : Ins Z h0 el2 "java/lang/Object" true) :
    own_MF l Z h0 own_y27 jdk_40_method_48_code 1 (some (.object "java/util/List")) ({ frames := 7, cells := 2, slots := 4, locals := 89 } : Room) #[(.ref a1)] (Q_copyOf_2 Z zc wd kd wl we ke weo wmo a1 b0 k0 el1 el2 h0) ws := by
  refine own_met (Q := (Q_copyOf_2 Z zc wd kd wl we ke weo wmo a1 b0 k0 el1 el2 h0)) _ _ (plainFor_of_name own_pn_11) ?_
  intro p e s m below meth c T X0 hx hby hml hret hlk hZ hown hnm e0
  replace hown : s.vm.findClass "java/util/List" = some m.cls := hown
  replace hnm : meth.name = "copyOf" := hnm
  have hml : c.maxLocals = 1 := hml
  obtain ⟨oCS, oCz, oDE, oDV, oEL, oLE, oLF, oLV, oEM, oMir⟩ := id hO
  have N0 := Fr.nil Z.heap.size
  have K0 := Keep.refl h0 []
  refine own_go (fun _ k => castTop (ef_copyOf_2 m a1) k) ?_
  show own_Go p e below s _ _ _ (T.setTop (mkF m 0 #[rv a1] []))
  refine own_go (fun _ k => XS.aloadN X0.here hx rfl (hb hby d19_0) rfl rfl k) ?_
  obtain ⟨v1, T1, L1, X1, hQ1, st1⟩ := own_callS (y := own_y26) X0 hx hZ hown (ow115 hw) (ow116 hw) (ow117 hw) (ow118 hw) (rm_lcopy_2 l Z a0 hw hO [] a1 b0 k0 el1 el2 h0 O0 (fp0.keep K0) (fp1.keep K0 nin0) (fp2.keep K0 nin0) (fp3.keep K0 nin0) (fp4.keep K0) (own_insKeep fp5 K0) (own_insKeep fp6 K0)) 0 2 4 (by show _ ≤ 2; omega) (by show _ ≤ 4; omega) e0 (g := (mkF m 1 #[rv a1] [(.ref a1)])) rfl (by rw [hml]; rfl) [(.ref a1)] [] (lenOf own_pd_15 rfl) rfl rfl (hb hby d19_1)
  obtain ⟨w2, rfl, Nc7, Kc6, hb3, f4, f5⟩ := hQ1
  refine own_go st1 ?_
  clear st1 X0 e0
  replace N0 := Fr.app N0 Nc7
  clear Nc7
  have big8 : Z.heap.size ≤ w2 := Nat.le_trans O0.1 hb3
  have sz9 : h0.size ≤ w2 := Nat.le_trans K0.1 hb3
  replace O0 := own_oldKeep O0 Kc6 all0
  replace K0 := K0.trans Kc6 all0
  clear Kc6
  show own_Go p e below s _ _ _ (T1.setTop (mkF m 4 #[rv a1] [(.ref w2)]))
  refine own_retA X1 hx hlk (rfl : T1.heap = T1.heap) hret rfl rfl (hb hby d19_4) (by show _ ≤ 2; omega) (by show _ ≤ 4; omega) ?_
  exact ⟨w2, rfl, N0, K0, sz9, f4, f5⟩
def Q_lcopy_3 (Z : State) (zc : Int32) (wd : Addr) (kd : ClassId) (wl : Addr) (we : Addr) (ke : ClassId) (weo : Addr) (wmo : Addr) (a1 : Addr) (b0 : Addr) (k0 : ClassId) (el1 : Addr) (el2 : Addr) (el3 : Addr) (h0 : Heap) (v : Option Value) (h : Heap) (L : List Loc) : Prop := (∃ b : Addr, ∃ cq_ : Addr, ∃ k3 : ClassId, v = some (.ref b) ∧ Fr Z.heap.size L ∧ Keep h0 h [] ∧ h0.size ≤ b ∧ Exa Z h b "java/util/ImmutableCollections$ListN" ∧ Fld Z h b "java/util/ImmutableCollections$ListN" "elements" "[Ljava/lang/Object;" (.ref cq_) ∧ Arv Z h cq_ k3 (.object "java/lang/Object") (3 : Int32) [(.ref el1), (.ref el2), (.ref el3)] .null)
theorem ef_lcopy_3 (m : MethodId) (x0 : Addr) : entryFrame m #[(.ref x0)] 2 = mkF m 0 #[rv x0, .unset] [] := by first | (simp [entryFrame, mkF, argsToLocals, Value.category]; done) | rfl
set_option maxRecDepth 65536 in
set_option maxHeartbeats 40000000 in
theorem rm_lcopy_3 (l : Launch) (Z : State) (a0 : Array Value) (hw : own_W Z a0) {zc : Int32} {wd : Addr} {kd : ClassId} {wl : Addr} {we : Addr} {ke : ClassId} {weo : Addr} {wmo : Addr} (hO : own_Olds Z zc wd kd wl we ke weo wmo) (ws : List Jvm.Cond) (a1 : Addr) (b0 : Addr) (k0 : ClassId) (el1 : Addr) (el2 : Addr) (el3 : Addr) (h0 : Heap) (O0 : Ext Z.heap h0) (fp0 : Exa Z h0 a1 "java/util/ArrayList") (fp1 : Fld Z h0 a1 "java/util/ArrayList" "size" "I" (.int (3 : Int32))) (fp2 : Fld Z h0 a1 "java/util/ArrayList" "elementData" "[Ljava/lang/Object;" (.ref b0)) (fp3 : Arv Z h0 b0 k0 (.object "java/lang/Object") (10 : Int32) [(.ref el1), (.ref el2), (.ref el3), .null, .null, .null, .null, .null, .null, .null] .null) (fp4 : Exa Z h0 b0 "[Ljava/lang/Object;") (fp5 : Ins Z h0 el1 "java/lang/Object" true) (fp6 : Ins Z h0 el2 "java/lang/Object" true) (fp7 : Ins Z h0 el3 "java/lang/Object" true) :
    own_MF l Z h0 own_y26 jdk_56_method_3_code 2 (some (.object "java/util/List")) ({ frames := 7, cells := 3, slots := 8, locals := 90 } : Room) #[(.ref a1)] (Q_lcopy_3 Z zc wd kd wl we ke weo wmo a1 b0 k0 el1 el2 el3 h0) ws := by
  refine own_met (Q := (Q_lcopy_3 Z zc wd kd wl we ke weo wmo a1 b0 k0 el1 el2 el3 h0)) _ _ (plainFor_of_name own_pn_10) ?_
  intro p e s m below meth c T X0 hx hby hml hret hlk hZ hown hnm e0
  replace hown : s.vm.findClass "java/util/ImmutableCollections" = some m.cls := hown
  replace hnm : meth.name = "listCopy" := hnm
  have hml : c.maxLocals = 2 := hml
  obtain ⟨oCS, oCz, oDE, oDV, oEL, oLE, oLF, oLV, oEM, oMir⟩ := id hO
  have N0 := Fr.nil Z.heap.size
  have K0 := Keep.refl h0 []
  refine own_go (fun _ k => castTop (ef_lcopy_3 m a1) k) ?_
  show own_Go p e below s _ _ _ (T.setTop (mkF m 0 #[rv a1, .unset] []))
  refine own_go (fun _ k => XS.aloadN X0.here hx rfl (hb hby d20_0) rfl rfl k) ?_
  obtain ⟨T1, X1, e1, st1⟩ := instNo X0 hx hZ hown (ow119 hw) e0 (fp0.keep K0) (own_noI (ow120 hw) (ow168 hw) (NS.step (ow120 hw) (NS.step (ow121 hw) (NS.step (ow122 hw) (own_rootI (ow123 hw) (ow168 hw) (by decide)) (by decide)) (by decide)) (by decide)) (by decide)) (g := (mkF m 1 #[rv a1, .unset] [(.ref a1)])) rfl rfl (hb hby d20_1)
  refine own_go st1 ?_
  clear st1 X0 e0
  refine own_go (fun _ k => XS.ifNo X1.here hx rfl (hb hby d20_4) rfl ((if0 _ _).trans (teq (by decide : (0 : Int32) = (0 : Int32))).2) (XS.aloadN X1.here hx rfl (hb hby d20_7) rfl rfl k)) ?_
  obtain ⟨T2, X2, e2, st2⟩ := instNo X1 hx hZ hown (ow124 hw) e1 (fp0.keep K0) (own_noI (ow120 hw) (ow243 hw) (NS.step (ow120 hw) (NS.step (ow121 hw) (NS.step (ow122 hw) (own_rootI (ow123 hw) (ow243 hw) (by decide)) (by decide)) (by decide)) (by decide)) (by decide)) (g := (mkF m 8 #[rv a1, .unset] [(.ref a1)])) rfl rfl (hb hby d20_8)
  refine own_go st2 ?_
  clear st2 X1 e1
  show own_Go p e below s _ _ _ (T2.setTop (mkF m 11 #[rv a1, .unset] [(.int (0 : Int32))]))
  refine own_go (fun _ k => XS.ifYes X2.here hx rfl (pc0 := 11) (pc' := 31) rfl (hb hby d20_11) rfl ((if0 _ _).trans (teq (by decide : (0 : Int32) = (0 : Int32))).1) (by decide) (by decide) (XS.aloadN X2.here hx rfl (hb hby d20_31) rfl rfl k)) ?_
  obtain ⟨v3, T3, L3, X3, hQ3, st3⟩ := own_callF (xi := own_y25) (y := own_y16) X2 hx hZ hown (ow125 hw) (ow126 hw) (ow127 hw) (ow128 hw) (ow129 hw) (ow130 hw) (ow131 hw) (ow132 hw) (ow37 hw) (ow133 hw) (by decide) (rm_alEmpty1 l Z a0 hw hO [] a1 (3 : Int32) h0 O0 (fp1.keep K0 nin0) (by decide : ¬ ((3 : Int32) = (0 : Int32)))) 0 0 0 (by show _ ≤ 3; omega) (by show _ ≤ 8; omega) e2 (fp0.keep K0) (g := (mkF m 32 #[rv a1, .unset] [(.ref a1)])) rfl (by rw [hml]; rfl) [] [] (lenOf own_pd_13 rfl) rfl rfl (hb hby d20_32)
  obtain ⟨rfl, Nc5, Kc4⟩ := hQ3
  refine own_go st3 ?_
  clear st3 X2 e2
  replace N0 := Fr.app N0 Nc5
  clear Nc5
  refine own_go (fun _ k => XS.ifYes X3.here hx rfl (pc0 := 37) (pc' := 44) rfl (hb hby d20_37) rfl ((if0 _ _).trans (teq (by decide : (0 : Int32) = (0 : Int32))).1) (by decide) (by decide) (XS.aloadN X3.here hx rfl (hb hby d20_44) rfl rfl k)) ?_
  show own_Go p e below s _ _ _ (T3.setTop (mkF m 45 #[rv a1, .unset] [(.ref a1)]))
  obtain ⟨v6, T6, L6, X6, hQ6, st6⟩ := own_callF (xi := own_y28) (y := own_y15) X3 hx hZ hown (ow134 hw) (ow135 hw) (ow136 hw) (ow137 hw) (ow138 hw) (ow139 hw) (ow140 hw) (ow132 hw) (ow37 hw) (ow141 hw) (by decide) (rm_toArr_3 l Z a0 hw hO [] a1 k0 b0 el1 el2 el3 h0 O0 (fp0.keep K0) (fp1.keep K0 nin0) (fp2.keep K0 nin0) (fp3.keep K0 nin0) (fp4.keep K0) (own_insKeep fp5 K0) (own_insKeep fp6 K0) (own_insKeep fp7 K0)) 0 1 3 (by show _ ≤ 3; omega) (by show _ ≤ 8; omega) Kc4 (fp0.keep K0) (g := (mkF m 45 #[rv a1, .unset] [(.ref a1)])) rfl (by rw [hml]; rfl) [] [] (lenOf own_pd_3 rfl) rfl rfl (hb hby d20_45)
  obtain ⟨w7, w8, rfl, Nc12, Kc11, hb9, f10⟩ := hQ6
  refine own_go st6 ?_
  clear st6 X3 Kc4
  replace N0 := Fr.app N0 Nc12
  clear Nc12
  have big13 : Z.heap.size ≤ w7 := Nat.le_trans O0.1 hb9
  have sz14 : h0.size ≤ w7 := Nat.le_trans K0.1 hb9
  replace O0 := own_oldKeep O0 Kc11 all0
  replace K0 := K0.trans Kc11 all0
  clear Kc11
  obtain ⟨v15, T15, L15, X15, hQ15, st15⟩ := own_callS (y := own_y24) X6 hx hZ hown (ow164 hw) (ow165 hw) (ow113 hw) (ow166 hw) (rm_listOf_3 l Z a0 hw hO [] w7 w8 el1 el2 el3 T6.heap O0 f10 (own_insKeep fp5 K0) (own_insKeep fp6 K0) (own_insKeep fp7 K0)) 0 2 5 (by show _ ≤ 3; omega) (by show _ ≤ 8; omega) (rfl : T6.heap = T6.heap) (g := (mkF m 50 #[rv a1, .unset] [(.ref w7)])) rfl (by rw [hml]; rfl) [(.ref w7)] [] (lenOf own_pd_12 rfl) rfl rfl (hb hby d20_50)
  obtain ⟨w16, w17, w18, rfl, Nc24, Kc23, hb19, f20, f21, f22⟩ := hQ15
  refine own_go st15 ?_
  clear st15 X6
  replace N0 := Fr.app N0 Nc24
  clear Nc24
  have ne25 : w7 ≠ w16 := Nat.ne_of_lt (Nat.lt_of_lt_of_le f10.lt hb19)
  have big26 : Z.heap.size ≤ w16 := Nat.le_trans O0.1 hb19
  have sz27 : h0.size ≤ w16 := Nat.le_trans K0.1 hb19
  replace f10 := f10.keep Kc23 nin0
  replace O0 := own_oldKeep O0 Kc23 all0
  replace K0 := K0.trans Kc23 all0
  clear Kc23
  show own_Go p e below s _ _ _ (T15.setTop (mkF m 53 #[rv a1, .unset] [(.ref w16)]))
  refine own_retA X15 hx hlk (rfl : T15.heap = T15.heap) hret rfl rfl (hb hby d20_53) (by show _ ≤ 3; omega) (by show _ ≤ 8; omega) ?_
  exact ⟨w16, w17, w18, rfl, N0, K0, sz27, f20, f21, f22⟩
def Q_copyOf_3 (Z : State) (zc : Int32) (wd : Addr) (kd : ClassId) (wl : Addr) (we : Addr) (ke : ClassId) (weo : Addr) (wmo : Addr) (a1 : Addr) (b0 : Addr) (k0 : ClassId) (el1 : Addr) (el2 : Addr) (el3 : Addr) (h0 : Heap) (v : Option Value) (h : Heap) (L : List Loc) : Prop := (∃ b : Addr, ∃ cq_ : Addr, ∃ k3 : ClassId, v = some (.ref b) ∧ Fr Z.heap.size L ∧ Keep h0 h [] ∧ h0.size ≤ b ∧ Exa Z h b "java/util/ImmutableCollections$ListN" ∧ Fld Z h b "java/util/ImmutableCollections$ListN" "elements" "[Ljava/lang/Object;" (.ref cq_) ∧ Arv Z h cq_ k3 (.object "java/lang/Object") (3 : Int32) [(.ref el1), (.ref el2), (.ref el3)] .null)
theorem ef_copyOf_3 (m : MethodId) (x0 : Addr) : entryFrame m #[(.ref x0)] 1 = mkF m 0 #[rv x0] [] := by first | (simp [entryFrame, mkF, argsToLocals, Value.category]; done) | rfl
set_option maxRecDepth 65536 in
set_option maxHeartbeats 40000000 in
theorem rm_copyOf_3 (l : Launch) (Z : State) (a0 : Array Value) (hw : own_W Z a0) {zc : Int32} {wd : Addr} {kd : ClassId} {wl : Addr} {we : Addr} {ke : ClassId} {weo : Addr} {wmo : Addr} (hO : own_Olds Z zc wd kd wl we ke weo wmo) (ws : List Jvm.Cond) (a1 : Addr) (b0 : Addr) (k0 : ClassId) (el1 : Addr) (el2 : Addr) (el3 : Addr) (h0 : Heap) (O0 : Ext Z.heap h0) (fp0 : Exa Z h0 a1 "java/util/ArrayList") (fp1 : Fld Z h0 a1 "java/util/ArrayList" "size" "I" (.int (3 : Int32))) (fp2 : Fld Z h0 a1 "java/util/ArrayList" "elementData" "[Ljava/lang/Object;" (.ref b0)) (fp3 : Arv Z h0 b0 k0 (.object "java/lang/Object") (10 : Int32) [(.ref el1), (.ref el2), (.ref el3), .null, .null, .null, .null, .null, .null, .null] .null) (fp4 : Exa Z h0 b0 "[Ljava/lang/Object;") (fp5 : Ins Z h0 el1 "java/lang/Object" true) (fp6 : Ins Z h0 el2 "java/lang/Object" true) (fp7 : Ins Z h0 el3 "java/lang/Object" true) :
    own_MF l Z h0 own_y27 jdk_40_method_48_code 1 (some (.object "java/util/List")) ({ frames := 8, cells := 3, slots := 8, locals := 103 } : Room) #[(.ref a1)] (Q_copyOf_3 Z zc wd kd wl we ke weo wmo a1 b0 k0 el1 el2 el3 h0) ws := by
  refine own_met (Q := (Q_copyOf_3 Z zc wd kd wl we ke weo wmo a1 b0 k0 el1 el2 el3 h0)) _ _ (plainFor_of_name own_pn_11) ?_
  intro p e s m below meth c T X0 hx hby hml hret hlk hZ hown hnm e0
  replace hown : s.vm.findClass "java/util/List" = some m.cls := hown
  replace hnm : meth.name = "copyOf" := hnm
  have hml : c.maxLocals = 1 := hml
  obtain ⟨oCS, oCz, oDE, oDV, oEL, oLE, oLF, oLV, oEM, oMir⟩ := id hO
  have N0 := Fr.nil Z.heap.size
  have K0 := Keep.refl h0 []
  refine own_go (fun _ k => castTop (ef_copyOf_3 m a1) k) ?_
  show own_Go p e below s _ _ _ (T.setTop (mkF m 0 #[rv a1] []))
  refine own_go (fun _ k => XS.aloadN X0.here hx rfl (hb hby d19_0) rfl rfl k) ?_
  obtain ⟨v1, T1, L1, X1, hQ1, st1⟩ := own_callS (y := own_y26) X0 hx hZ hown (ow115 hw) (ow116 hw) (ow117 hw) (ow118 hw) (rm_lcopy_3 l Z a0 hw hO [] a1 b0 k0 el1 el2 el3 h0 O0 (fp0.keep K0) (fp1.keep K0 nin0) (fp2.keep K0 nin0) (fp3.keep K0 nin0) (fp4.keep K0) (own_insKeep fp5 K0) (own_insKeep fp6 K0) (own_insKeep fp7 K0)) 0 3 8 (by show _ ≤ 3; omega) (by show _ ≤ 8; omega) e0 (g := (mkF m 1 #[rv a1] [(.ref a1)])) rfl (by rw [hml]; rfl) [(.ref a1)] [] (lenOf own_pd_15 rfl) rfl rfl (hb hby d19_1)
  obtain ⟨w2, w3, w4, rfl, Nc10, Kc9, hb5, f6, f7, f8⟩ := hQ1
  refine own_go st1 ?_
  clear st1 X0 e0
  replace N0 := Fr.app N0 Nc10
  clear Nc10
  have big11 : Z.heap.size ≤ w2 := Nat.le_trans O0.1 hb5
  have sz12 : h0.size ≤ w2 := Nat.le_trans K0.1 hb5
  replace O0 := own_oldKeep O0 Kc9 all0
  replace K0 := K0.trans Kc9 all0
  clear Kc9
  show own_Go p e below s _ _ _ (T1.setTop (mkF m 4 #[rv a1] [(.ref w2)]))
  refine own_retA X1 hx hlk (rfl : T1.heap = T1.heap) hret rfl rfl (hb hby d19_4) (by show _ ≤ 3; omega) (by show _ ≤ 8; omega) ?_
  exact ⟨w2, w3, w4, rfl, N0, K0, sz12, f6, f7, f8⟩
theorem d32_0 : decode jdk_44_method_4_code 0 = .ok (.iconst 0, 1) := by decide +kernel
theorem d32_1 : decode jdk_44_method_4_code 1 = .ok (.ireturn, 1) := by decide +kernel
def Q_l12e (Z : State) (zc : Int32) (wd : Addr) (kd : ClassId) (wl : Addr) (we : Addr) (ke : ClassId) (weo : Addr) (wmo : Addr) (a1 : Addr) (h0 : Heap) (v : Option Value) (h : Heap) (L : List Loc) : Prop := (v = some (.int (0 : Int32)) ∧ Fr Z.heap.size L ∧ h = h0)
theorem ef_l12e (m : MethodId) (x0 : Addr) : entryFrame m #[(.ref x0)] 1 = mkF m 0 #[rv x0] [] := by first | (simp [entryFrame, mkF, argsToLocals, Value.category]; done) | rfl
set_option maxRecDepth 65536 in
set_option maxHeartbeats 40000000 in
theorem rm_l12e (l : Launch) (Z : State) (a0 : Array Value) (hw : own_W Z a0) {zc : Int32} {wd : Addr} {kd : ClassId} {wl : Addr} {we : Addr} {ke : ClassId} {weo : Addr} {wmo : Addr} (hO : own_Olds Z zc wd kd wl we ke weo wmo) (ws : List Jvm.Cond) (a1 : Addr) (h0 : Heap) (O0 : Ext Z.heap h0) :
    own_MF l Z h0 own_y29 jdk_44_method_4_code 1 (some .boolean) ({ frames := 0, cells := 0, slots := 0, locals := 0 } : Room) #[(.ref a1)] (Q_l12e Z zc wd kd wl we ke weo wmo a1 h0) ws := by
  refine own_met (Q := (Q_l12e Z zc wd kd wl we ke weo wmo a1 h0)) _ _ (plainFor_of_name own_pn_8) ?_
  intro p e s m below meth c T X0 hx hby hml hret hlk hZ hown hnm e0
  replace hown : s.vm.findClass "java/util/ImmutableCollections$List12" = some m.cls := hown
  replace hnm : meth.name = "isEmpty" := hnm
  have hml : c.maxLocals = 1 := hml
  obtain ⟨oCS, oCz, oDE, oDV, oEL, oLE, oLF, oLV, oEM, oMir⟩ := id hO
  have N0 := Fr.nil Z.heap.size
  have K0 := Keep.refl h0 []
  refine own_go (fun _ k => castTop (ef_l12e m a1) k) ?_
  show own_Go p e below s _ _ _ (T.setTop (mkF m 0 #[rv a1] []))
  refine own_go (fun _ k => XS.iconst X0.here hx rfl (hb hby d32_0) k) ?_
  show own_Go p e below s _ _ _ (T.setTop (mkF m 1 #[rv a1] [(.int (0 : Int32))]))
  refine own_retN X0 hx hlk e0 (t := .boolean) hret (by simp) (hb hby d32_1) (by show _ ≤ 0; omega) (by show _ ≤ 0; omega) ?_
  exact ⟨rfl, N0, rfl⟩
theorem d38_0 : decode jdk_45_method_2_code 0 = .ok (.aload_n 0, 1) := by decide +kernel
theorem d38_1 : decode jdk_45_method_2_code 1 = .ok (.getfield 7, 3) := by decide +kernel
theorem d38_4 : decode jdk_45_method_2_code 4 = .ok (.arraylength, 1) := by decide +kernel
theorem d38_5 : decode jdk_45_method_2_code 5 = .ok (.ifCond .ne 7, 3) := by decide +kernel
theorem d38_12 : decode jdk_45_method_2_code 12 = .ok (.iconst 0, 1) := by decide +kernel
theorem d38_13 : decode jdk_45_method_2_code 13 = .ok (.ireturn, 1) := by decide +kernel
def Q_lne (Z : State) (zc : Int32) (wd : Addr) (kd : ClassId) (wl : Addr) (we : Addr) (ke : ClassId) (weo : Addr) (wmo : Addr) (a1 : Addr) (cq_ : Addr) (k : ClassId) (el1 : Addr) (el2 : Addr) (el3 : Addr) (h0 : Heap) (v : Option Value) (h : Heap) (L : List Loc) : Prop := (v = some (.int (0 : Int32)) ∧ Fr Z.heap.size L ∧ h = h0)
theorem ef_lne (m : MethodId) (x0 : Addr) : entryFrame m #[(.ref x0)] 1 = mkF m 0 #[rv x0] [] := by first | (simp [entryFrame, mkF, argsToLocals, Value.category]; done) | rfl
set_option maxRecDepth 65536 in
set_option maxHeartbeats 40000000 in
theorem rm_lne (l : Launch) (Z : State) (a0 : Array Value) (hw : own_W Z a0) {zc : Int32} {wd : Addr} {kd : ClassId} {wl : Addr} {we : Addr} {ke : ClassId} {weo : Addr} {wmo : Addr} (hO : own_Olds Z zc wd kd wl we ke weo wmo) (ws : List Jvm.Cond) (a1 : Addr) (cq_ : Addr) (k : ClassId) (el1 : Addr) (el2 : Addr) (el3 : Addr) (h0 : Heap) (O0 : Ext Z.heap h0) (fp0 : Fld Z h0 a1 "java/util/ImmutableCollections$ListN" "elements" "[Ljava/lang/Object;" (.ref cq_)) (fp1 : Arv Z h0 cq_ k (.object "java/lang/Object") (3 : Int32) [(.ref el1), (.ref el2), (.ref el3)] .null) :
    own_MF l Z h0 own_y30 jdk_45_method_2_code 1 (some .boolean) ({ frames := 0, cells := 0, slots := 0, locals := 0 } : Room) #[(.ref a1)] (Q_lne Z zc wd kd wl we ke weo wmo a1 cq_ k el1 el2 el3 h0) ws := by
  refine own_met (Q := (Q_lne Z zc wd kd wl we ke weo wmo a1 cq_ k el1 el2 el3 h0)) _ _ (plainFor_of_name own_pn_9) ?_
  intro p e s m below meth c T X0 hx hby hml hret hlk hZ hown hnm e0
  replace hown : s.vm.findClass "java/util/ImmutableCollections$ListN" = some m.cls := hown
  replace hnm : meth.name = "isEmpty" := hnm
  have hml : c.maxLocals = 1 := hml
  obtain ⟨oCS, oCz, oDE, oDV, oEL, oLE, oLF, oLV, oEM, oMir⟩ := id hO
  have N0 := Fr.nil Z.heap.size
  have K0 := Keep.refl h0 []
  refine own_go (fun _ k => castTop (ef_lne m a1) k) ?_
  show own_Go p e below s _ _ _ (T.setTop (mkF m 0 #[rv a1] []))
  refine own_go (fun _ k => XS.aloadN X0.here hx rfl (hb hby d38_0) rfl rfl k) ?_
  obtain ⟨T1, X1, e1, st1⟩ := getF X0 hx hZ hown (host := "") (Or.inl (ow253 hw)) Via.refl e0 (fp0.keep K0 nin0) (g := (mkF m 1 #[rv a1] [(.ref a1)])) rfl rfl (hb hby d38_1)
  refine own_go st1 ?_
  clear st1 X0 e0
  show own_Go p e below s _ _ _ (T1.setTop (mkF m 4 #[rv a1] [(.ref cq_)]))
  obtain ⟨cl2, Ar2, -, S2, M2, -, -⟩ := id (fp1.keep K0 nin0)
  refine own_go (X1.arraylength hx (by rw [e1]; exact Ar2.1) (State.isArrayOf_alike hZ.alike Ar2.2.1) (g := (mkF m 4 #[rv a1] [(.ref cq_)])) rfl rfl (hb hby d38_4)) ?_
  rw [len_of S2 M2]
  refine own_go (fun _ k => XS.ifYes X1.here hx rfl (pc0 := 5) (pc' := 12) rfl (hb hby d38_5) rfl ((if0 _ _).trans (feq (by decide : ¬ ((3 : Int32) = (0 : Int32)))).2) (by decide) (by decide) (XS.iconst X1.here hx rfl (hb hby d38_12) k)) ?_
  show own_Go p e below s _ _ _ (T1.setTop (mkF m 13 #[rv a1] [(.int (0 : Int32))]))
  refine own_retN X1 hx hlk e1 (t := .boolean) hret (by simp) (hb hby d38_13) (by show _ ≤ 0; omega) (by show _ ≤ 0; omega) ?_
  exact ⟨rfl, N0, rfl⟩
theorem d34_0 : decode jdk_44_method_5_code 0 = .ok (.iload_n 1, 1) := by decide +kernel
theorem d34_1 : decode jdk_44_method_5_code 1 = .ok (.ifCond .ne 8, 3) := by decide +kernel
theorem d34_4 : decode jdk_44_method_5_code 4 = .ok (.aload_n 0, 1) := by decide +kernel
theorem d34_5 : decode jdk_44_method_5_code 5 = .ok (.getfield 13, 3) := by decide +kernel
theorem d34_8 : decode jdk_44_method_5_code 8 = .ok (.areturn, 1) := by decide +kernel
def Q_l12g (Z : State) (zc : Int32) (wd : Addr) (kd : ClassId) (wl : Addr) (we : Addr) (ke : ClassId) (weo : Addr) (wmo : Addr) (a1 : Addr) (w : Addr) (h0 : Heap) (v : Option Value) (h : Heap) (L : List Loc) : Prop := (v = some (.ref w) ∧ Fr Z.heap.size L ∧ h = h0)
theorem ef_l12g (m : MethodId) (x0 : Addr) : entryFrame m #[(.ref x0), (.int (0 : Int32))] 2 = mkF m 0 #[rv x0, iv (0 : Int32)] [] := by first | (simp [entryFrame, mkF, argsToLocals, Value.category]; done) | rfl
set_option maxRecDepth 65536 in
set_option maxHeartbeats 40000000 in
theorem rm_l12g (l : Launch) (Z : State) (a0 : Array Value) (hw : own_W Z a0) {zc : Int32} {wd : Addr} {kd : ClassId} {wl : Addr} {we : Addr} {ke : ClassId} {weo : Addr} {wmo : Addr} (hO : own_Olds Z zc wd kd wl we ke weo wmo) (ws : List Jvm.Cond) (a1 : Addr) (w : Addr) (h0 : Heap) (O0 : Ext Z.heap h0) (fp0 : Fld Z h0 a1 "java/util/ImmutableCollections$List12" "e0" "Ljava/lang/Object;" (.ref w)) :
    own_MF l Z h0 own_y31 jdk_44_method_5_code 2 (some (.object "java/lang/Object")) ({ frames := 0, cells := 0, slots := 0, locals := 0 } : Room) #[(.ref a1), (.int (0 : Int32))] (Q_l12g Z zc wd kd wl we ke weo wmo a1 w h0) ws := by
  refine own_met (Q := (Q_l12g Z zc wd kd wl we ke weo wmo a1 w h0)) _ _ (plainFor_of_name own_pn_8) ?_
  intro p e s m below meth c T X0 hx hby hml hret hlk hZ hown hnm e0
  replace hown : s.vm.findClass "java/util/ImmutableCollections$List12" = some m.cls := hown
  replace hnm : meth.name = "get" := hnm
  have hml : c.maxLocals = 2 := hml
  obtain ⟨oCS, oCz, oDE, oDV, oEL, oLE, oLF, oLV, oEM, oMir⟩ := id hO
  have N0 := Fr.nil Z.heap.size
  have K0 := Keep.refl h0 []
  refine own_go (fun _ k => castTop (ef_l12g m a1) k) ?_
  show own_Go p e below s _ _ _ (T.setTop (mkF m 0 #[rv a1, iv (0 : Int32)] []))
  refine own_go (fun _ k => XS.iloadN X0.here hx rfl (hb hby d34_0) rfl (XS.ifNo X0.here hx rfl (hb hby d34_1) rfl ((if0 _ _).trans (teq (by decide : (0 : Int32) = (0 : Int32))).2) (XS.aloadN X0.here hx rfl (hb hby d34_4) rfl rfl k))) ?_
  obtain ⟨T1, X1, e1, st1⟩ := getF X0 hx hZ hown (host := "") (Or.inl (ow191 hw)) Via.refl e0 (fp0.keep K0 nin0) (g := (mkF m 5 #[rv a1, iv (0 : Int32)] [(.ref a1)])) rfl rfl (hb hby d34_5)
  refine own_go st1 ?_
  clear st1 X0 e0
  show own_Go p e below s _ _ _ (T1.setTop (mkF m 8 #[rv a1, iv (0 : Int32)] [(.ref w)]))
  refine own_retA X1 hx hlk e1 hret rfl rfl (hb hby d34_8) (by show _ ≤ 0; omega) (by show _ ≤ 0; omega) ?_
  exact ⟨rfl, N0, rfl⟩
theorem d39_0 : decode jdk_45_method_4_code 0 = .ok (.aload_n 0, 1) := by decide +kernel
theorem d39_1 : decode jdk_45_method_4_code 1 = .ok (.getfield 7, 3) := by decide +kernel
theorem d39_4 : decode jdk_45_method_4_code 4 = .ok (.iload_n 1, 1) := by decide +kernel
theorem d39_5 : decode jdk_45_method_4_code 5 = .ok (.aaload, 1) := by decide +kernel
theorem d39_6 : decode jdk_45_method_4_code 6 = .ok (.areturn, 1) := by decide +kernel
def Q_lng (Z : State) (zc : Int32) (wd : Addr) (kd : ClassId) (wl : Addr) (we : Addr) (ke : ClassId) (weo : Addr) (wmo : Addr) (a1 : Addr) (cq_ : Addr) (k : ClassId) (el1 : Addr) (el2 : Addr) (el3 : Addr) (h0 : Heap) (v : Option Value) (h : Heap) (L : List Loc) : Prop := (v = some (.ref el1) ∧ Fr Z.heap.size L ∧ h = h0)
theorem ef_lng (m : MethodId) (x0 : Addr) : entryFrame m #[(.ref x0), (.int (0 : Int32))] 2 = mkF m 0 #[rv x0, iv (0 : Int32)] [] := by first | (simp [entryFrame, mkF, argsToLocals, Value.category]; done) | rfl
set_option maxRecDepth 65536 in
set_option maxHeartbeats 40000000 in
theorem rm_lng (l : Launch) (Z : State) (a0 : Array Value) (hw : own_W Z a0) {zc : Int32} {wd : Addr} {kd : ClassId} {wl : Addr} {we : Addr} {ke : ClassId} {weo : Addr} {wmo : Addr} (hO : own_Olds Z zc wd kd wl we ke weo wmo) (ws : List Jvm.Cond) (a1 : Addr) (cq_ : Addr) (k : ClassId) (el1 : Addr) (el2 : Addr) (el3 : Addr) (h0 : Heap) (O0 : Ext Z.heap h0) (fp0 : Fld Z h0 a1 "java/util/ImmutableCollections$ListN" "elements" "[Ljava/lang/Object;" (.ref cq_)) (fp1 : Arv Z h0 cq_ k (.object "java/lang/Object") (3 : Int32) [(.ref el1), (.ref el2), (.ref el3)] .null) :
    own_MF l Z h0 own_y32 jdk_45_method_4_code 2 (some (.object "java/lang/Object")) ({ frames := 0, cells := 0, slots := 0, locals := 0 } : Room) #[(.ref a1), (.int (0 : Int32))] (Q_lng Z zc wd kd wl we ke weo wmo a1 cq_ k el1 el2 el3 h0) ws := by
  refine own_met (Q := (Q_lng Z zc wd kd wl we ke weo wmo a1 cq_ k el1 el2 el3 h0)) _ _ (plainFor_of_name own_pn_9) ?_
  intro p e s m below meth c T X0 hx hby hml hret hlk hZ hown hnm e0
  replace hown : s.vm.findClass "java/util/ImmutableCollections$ListN" = some m.cls := hown
  replace hnm : meth.name = "get" := hnm
  have hml : c.maxLocals = 2 := hml
  obtain ⟨oCS, oCz, oDE, oDV, oEL, oLE, oLF, oLV, oEM, oMir⟩ := id hO
  have N0 := Fr.nil Z.heap.size
  have K0 := Keep.refl h0 []
  refine own_go (fun _ k => castTop (ef_lng m a1) k) ?_
  show own_Go p e below s _ _ _ (T.setTop (mkF m 0 #[rv a1, iv (0 : Int32)] []))
  refine own_go (fun _ k => XS.aloadN X0.here hx rfl (hb hby d39_0) rfl rfl k) ?_
  obtain ⟨T1, X1, e1, st1⟩ := getF X0 hx hZ hown (host := "") (Or.inl (ow253 hw)) Via.refl e0 (fp0.keep K0 nin0) (g := (mkF m 1 #[rv a1, iv (0 : Int32)] [(.ref a1)])) rfl rfl (hb hby d39_1)
  refine own_go st1 ?_
  clear st1 X0 e0
  refine own_go (fun _ k => XS.iloadN X1.here hx rfl (hb hby d39_4) rfl k) ?_
  obtain ⟨cl2, Ar2, -, S2, -, P2, -⟩ := id (fp1.keep K0 nin0)
  have hin2 : ¬ ((0 : Int32) < 0 ∨ cl2.slots.size ≤ ((0 : Int32)).toNatClampNeg) := inb_of S2 ⟨by decide, by decide⟩
  refine own_go (X1.aaload hx (j := (0 : Int32)) (v := (.ref el1)) (by rw [e1]; exact Ar2.1) (State.isArrayOf_alike hZ.alike Ar2.2.1) rfl Ar2.2.2 hin2 (P2.at hin2 rfl) (g := (mkF m 5 #[rv a1, iv (0 : Int32)] [(.int (0 : Int32)), (.ref cq_)])) rfl rfl (hb hby d39_5)) ?_
  show own_Go p e below s _ _ _ (T1.setTop (mkF m 6 #[rv a1, iv (0 : Int32)] [(.ref el1)]))
  refine own_retA X1 hx hlk e1 hret rfl rfl (hb hby d39_6) (by show _ ≤ 0; omega) (by show _ ≤ 0; omega) ?_
  exact ⟨rfl, N0, rfl⟩
theorem d17_0 : decode jdk_30_method_1_code 0 = .ok (.aload_n 0, 1) := by decide +kernel
theorem d17_1 : decode jdk_30_method_1_code 1 = .ok (.invokespecial 1, 3) := by decide +kernel
theorem d17_4 : decode jdk_30_method_1_code 4 = .ok (.return_, 1) := by decide +kernel
def Q_recinit (Z : State) (zc : Int32) (wd : Addr) (kd : ClassId) (wl : Addr) (we : Addr) (ke : ClassId) (weo : Addr) (wmo : Addr) (a1 : Addr) (h0 : Heap) (v : Option Value) (h : Heap) (L : List Loc) : Prop := (v = none ∧ Fr Z.heap.size L ∧ h = h0)
theorem ef_recinit (m : MethodId) (x0 : Addr) : entryFrame m #[(.ref x0)] 1 = mkF m 0 #[rv x0] [] := by first | (simp [entryFrame, mkF, argsToLocals, Value.category]; done) | rfl
set_option maxRecDepth 65536 in
set_option maxHeartbeats 40000000 in
theorem rm_recinit (l : Launch) (Z : State) (a0 : Array Value) (hw : own_W Z a0) {zc : Int32} {wd : Addr} {kd : ClassId} {wl : Addr} {we : Addr} {ke : ClassId} {weo : Addr} {wmo : Addr} (hO : own_Olds Z zc wd kd wl we ke weo wmo) (ws : List Jvm.Cond) (a1 : Addr) (h0 : Heap) (O0 : Ext Z.heap h0) :
    own_MF l Z h0 own_y33 jdk_30_method_1_code 1 none ({ frames := 1, cells := 0, slots := 0, locals := 12 } : Room) #[(.ref a1)] (Q_recinit Z zc wd kd wl we ke weo wmo a1 h0) ws := by
  refine own_met (Q := (Q_recinit Z zc wd kd wl we ke weo wmo a1 h0)) _ _ (plainFor_of_name own_pn_12) ?_
  intro p e s m below meth c T X0 hx hby hml hret hlk hZ hown hnm e0
  replace hown : s.vm.findClass "java/lang/Record" = some m.cls := hown
  replace hnm : meth.name = "<init>" := hnm
  have hml : c.maxLocals = 1 := hml
  obtain ⟨oCS, oCz, oDE, oDV, oEL, oLE, oLF, oLV, oEM, oMir⟩ := id hO
  have N0 := Fr.nil Z.heap.size
  have K0 := Keep.refl h0 []
  refine own_go (fun _ k => castTop (ef_recinit m a1) k) ?_
  show own_Go p e below s _ _ _ (T.setTop (mkF m 0 #[rv a1] []))
  refine own_go (fun _ k => XS.aloadN X0.here hx rfl (hb hby d17_0) rfl rfl k) ?_
  obtain ⟨T1, X1, e1, st1⟩ := initO X0 hx hZ hown (ow101 hw) (ow17 hw) (ow18 hw) e0 (g := (mkF m 1 #[rv a1] [(.ref a1)])) rfl (by rw [hml]; rfl) rfl (hb hby d17_1) (by decide) (W := 0) (by show 2 * 0 + _ ≤ _; exact Nat.le_of_eq rfl) (by decide)
  refine own_go st1 ?_
  clear st1 X0 e0
  show own_Go p e below s _ _ _ (T1.setTop (mkF m 4 #[rv a1] []))
  refine own_retV X1 hx hlk e1 hret (hb hby d17_4) (by show _ ≤ 0; omega) (by show _ ≤ 0; omega) ?_
  exact ⟨rfl, N0, rfl⟩
theorem d16_0 : decode prog_71_method_1_code 0 = .ok (.aload_n 0, 1) := by decide +kernel
theorem d16_1 : decode prog_71_method_1_code 1 = .ok (.invokespecial 1, 3) := by decide +kernel
theorem d16_4 : decode prog_71_method_1_code 4 = .ok (.aload_n 1, 1) := by decide +kernel
theorem d16_5 : decode prog_71_method_1_code 5 = .ok (.ldc 7, 2) := by decide +kernel
theorem d16_7 : decode prog_71_method_1_code 7 = .ok (.invokestatic 9, 3) := by decide +kernel
theorem d16_10 : decode prog_71_method_1_code 10 = .ok (.pop, 1) := by decide +kernel
theorem d16_11 : decode prog_71_method_1_code 11 = .ok (.aload_n 2, 1) := by decide +kernel
theorem d16_12 : decode prog_71_method_1_code 12 = .ok (.ldc 15, 2) := by decide +kernel
theorem d16_14 : decode prog_71_method_1_code 14 = .ok (.invokestatic 9, 3) := by decide +kernel
theorem d16_17 : decode prog_71_method_1_code 17 = .ok (.pop, 1) := by decide +kernel
theorem d16_18 : decode prog_71_method_1_code 18 = .ok (.aload_n 3, 1) := by decide +kernel
theorem d16_19 : decode prog_71_method_1_code 19 = .ok (.ldc 17, 2) := by decide +kernel
theorem d16_21 : decode prog_71_method_1_code 21 = .ok (.invokestatic 9, 3) := by decide +kernel
theorem d16_24 : decode prog_71_method_1_code 24 = .ok (.pop, 1) := by decide +kernel
theorem d16_25 : decode prog_71_method_1_code 25 = .ok (.aload 4, 2) := by decide +kernel
theorem d16_27 : decode prog_71_method_1_code 27 = .ok (.invokestatic 19, 3) := by decide +kernel
theorem d16_30 : decode prog_71_method_1_code 30 = .ok (.astore 4, 2) := by decide +kernel
theorem d16_32 : decode prog_71_method_1_code 32 = .ok (.aload 5, 2) := by decide +kernel
theorem d16_34 : decode prog_71_method_1_code 34 = .ok (.invokestatic 19, 3) := by decide +kernel
theorem d16_37 : decode prog_71_method_1_code 37 = .ok (.astore 5, 2) := by decide +kernel
theorem d16_39 : decode prog_71_method_1_code 39 = .ok (.aload 4, 2) := by decide +kernel
theorem d16_41 : decode prog_71_method_1_code 41 = .ok (.invokeinterface 25 1, 5) := by decide +kernel
theorem d16_46 : decode prog_71_method_1_code 46 = .ok (.ifCond .eq 17, 3) := by decide +kernel
theorem d16_63 : decode prog_71_method_1_code 63 = .ok (.aload_n 0, 1) := by decide +kernel
theorem d16_64 : decode prog_71_method_1_code 64 = .ok (.aload_n 1, 1) := by decide +kernel
theorem d16_65 : decode prog_71_method_1_code 65 = .ok (.putfield 38, 3) := by decide +kernel
theorem d16_68 : decode prog_71_method_1_code 68 = .ok (.aload_n 0, 1) := by decide +kernel
theorem d16_69 : decode prog_71_method_1_code 69 = .ok (.aload_n 2, 1) := by decide +kernel
theorem d16_70 : decode prog_71_method_1_code 70 = .ok (.putfield 43, 3) := by decide +kernel
theorem d16_73 : decode prog_71_method_1_code 73 = .ok (.aload_n 0, 1) := by decide +kernel
theorem d16_74 : decode prog_71_method_1_code 74 = .ok (.aload_n 3, 1) := by decide +kernel
theorem d16_75 : decode prog_71_method_1_code 75 = .ok (.putfield 45, 3) := by decide +kernel
theorem d16_78 : decode prog_71_method_1_code 78 = .ok (.aload_n 0, 1) := by decide +kernel
theorem d16_79 : decode prog_71_method_1_code 79 = .ok (.aload 4, 2) := by decide +kernel
theorem d16_81 : decode prog_71_method_1_code 81 = .ok (.putfield 47, 3) := by decide +kernel
theorem d16_84 : decode prog_71_method_1_code 84 = .ok (.aload_n 0, 1) := by decide +kernel
theorem d16_85 : decode prog_71_method_1_code 85 = .ok (.aload 5, 2) := by decide +kernel
theorem d16_87 : decode prog_71_method_1_code 87 = .ok (.putfield 51, 3) := by decide +kernel
theorem d16_90 : decode prog_71_method_1_code 90 = .ok (.return_, 1) := by decide +kernel
def Q_dim_1_0 (Z : State) (zc : Int32) (wd : Addr) (kd : ClassId) (wl : Addr) (we : Addr) (ke : ClassId) (weo : Addr) (wmo : Addr) (a1 : Addr) (a2 : Addr) (a3 : Addr) (a4 : Addr) (a5 : Addr) (a6 : Addr) (b0 : Addr) (k0 : ClassId) (el1 : Addr) (h0 : Heap) (v : Option Value) (h : Heap) (L : List Loc) : Prop := (∃ b : Addr, v = none ∧ Fr Z.heap.size L ∧ Keep h0 h [a1] ∧ Exa Z h a1 "com/example/ibex/ibex/model/Dimension" ∧ Fld Z h a1 "com/example/ibex/ibex/model/Dimension" "levels" "Ljava/util/List;" (.ref b) ∧ Exa Z h b "java/util/ImmutableCollections$List12" ∧ Fld Z h b "java/util/ImmutableCollections$List12" "e0" "Ljava/lang/Object;" (.ref el1))
theorem ef_dim_1_0 (m : MethodId) (x0 : Addr) (x1 : Addr) (x2 : Addr) (x3 : Addr) (x4 : Addr) (x5 : Addr) : entryFrame m #[(.ref x0), (.ref x1), (.ref x2), (.ref x3), (.ref x4), (.ref x5)] 6 = mkF m 0 #[rv x0, rv x1, rv x2, rv x3, rv x4, rv x5] [] := by first | (simp [entryFrame, mkF, argsToLocals, Value.category]; done) | rfl
set_option maxRecDepth 65536 in
set_option maxHeartbeats 40000000 in
theorem rm_dim_1_0 (l : Launch) (Z : State) (a0 : Array Value) (hw : own_W Z a0) {zc : Int32} {wd : Addr} {kd : ClassId} {wl : Addr} {we : Addr} {ke : ClassId} {weo : Addr} {wmo : Addr} (hO : own_Olds Z zc wd kd wl we ke weo wmo) (ws : List Jvm.Cond) (a1 : Addr) (a2 : Addr) (a3 : Addr) (a4 : Addr) (a5 : Addr) (a6 : Addr) (b0 : Addr) (k0 : ClassId) (el1 : Addr) (h0 : Heap) (O0 : Ext Z.heap h0) (fp0 : Exa Z h0 a1 "com/example/ibex/ibex/model/Dimension") (fp1 : Fld Z h0 a1 "com/example/ibex/ibex/model/Dimension" "name" "Ljava/lang/String;" .null) (fp2 : Fld Z h0 a1 "com/example/ibex/ibex/model/Dimension" "table" "Ljava/lang/String;" .null) (fp3 : Fld Z h0 a1 "com/example/ibex/ibex/model/Dimension" "foreignKey" "Ljava/lang/String;" .null) (fp4 : Fld Z h0 a1 "com/example/ibex/ibex/model/Dimension" "levels" "Ljava/util/List;" .null) (fp5 : Fld Z h0 a1 "com/example/ibex/ibex/model/Dimension" "attributes" "Ljava/util/List;" .null) (fp6 : Exa Z h0 a5 "java/util/ArrayList") (fp7 : Fld Z h0 a5 "java/util/ArrayList" "size" "I" (.int (1 : Int32))) (fp8 : Fld Z h0 a5 "java/util/ArrayList" "elementData" "[Ljava/lang/Object;" (.ref b0)) (fp9 : Arv Z h0 b0 k0 (.object "java/lang/Object") (10 : Int32) [(.ref el1), .null, .null, .null, .null, .null, .null, .null, .null, .null] .null) (fp10 : Exa Z h0 b0 "[Ljava/lang/Object;") (fp11 : Ins Z h0 el1 "java/lang/Object" true) (fp12 : Exa Z h0 a6 "java/util/ArrayList") (fp13 : Fld Z h0 a6 "java/util/ArrayList" "size" "I" (.int (0 : Int32))) (big_a1 : Z.heap.size ≤ a1) :
    MetFree l own_y35 (head1 (Jvm.Cond.code own_y35 prog_71_method_1_code 6 none :: ws) ({ frames := 8, cells := 8, slots := 91, locals := 100 } : Room)) (fun a U => a = #[(.ref a1), (.ref a2), (.ref a3), (.ref a4), (.ref a5), (.ref a6)] ∧ Z.Warmed39 U.vm ∧ U.heap = h0 ∧ own_J Z U.vm U.heap) (fun _ _ _ _ _ => True) (fun _ U o U' => ∃ v L, o = .returned v ∧ ((Q_dim_1_0 Z zc wd kd wl we ke weo wmo a1 a2 a3 a4 a5 a6 b0 k0 el1 h0) v U'.heap L ∧ own_J Z U'.vm U'.heap) ∧ ReturnedEndW U o U' L ({ frames := 8, cells := 8, slots := 91, locals := 100 } : Room).cells ({ frames := 8, cells := 8, slots := 91, locals := 100 } : Room).slots) := by
  refine own_metW (Q := (Q_dim_1_0 Z zc wd kd wl we ke weo wmo a1 a2 a3 a4 a5 a6 b0 k0 el1 h0)) _ _ (plainFor_of_name own_pn_13) ?_
  intro p e s vm0 m below meth c T X0 hS hJ hJ0 hZ0 hI hs0 hx hby hml hret hlk hZ hown hnm e0
  replace hown : (s.setVm vm0).vm.findClass "com/example/ibex/ibex/model/Dimension" = some m.cls := hown
  replace hnm : meth.name = "<init>" := hnm
  have hml : c.maxLocals = 6 := hml
  obtain ⟨oCS, oCz, oDE, oDV, oEL, oLE, oLF, oLV, oEM, oMir⟩ := id hO
  have N0 := Fr.nil Z.heap.size
  have hL := own_Lhw hw
  have K0 := Keep.refl h0 [a1]
  refine own_goW (fun _ k => castTop (ef_dim_1_0 m a1 a2 a3 a4 a5 a6) k) ?_
  have ne1 : a5 ≠ a1 := (ne_exa fp6 fp0 (by decide))
  have ne2 : b0 ≠ a1 := (ne_exa fp10 fp0 (by decide))
  have ne3 : a6 ≠ a1 := (ne_exa fp12 fp0 (by decide))
  show own_GoW p e below s _ _ _ _ (T.setTop (mkF m 0 #[rv a1, rv a2, rv a3, rv a4, rv a5, rv a6] []))
  refine own_goW (fun _ k => XS.aloadN X0.here hx rfl (hb hby d16_0) rfl rfl k) ?_
  obtain ⟨v4, T4, L4, X4, hQ4, st4⟩ := own_callI (y := own_y33) X0 hx hZ hown (ow96 hw) (ow97 hw) (ow99 hw) (ow100 hw) (rm_recinit l Z a0 hw hO [] a1 h0 O0) 0 0 0 rfl (by show _ ≤ 8; omega) (by show _ ≤ 91; omega) e0 (g := (mkF m 1 #[rv a1, rv a2, rv a3, rv a4, rv a5, rv a6] [(.ref a1)])) rfl (by rw [hml]; rfl) a1 [] [] (lenOf own_pd_0 rfl) rfl rfl (hb hby d16_1)
  obtain ⟨rfl, Nc6, Kc5⟩ := hQ4
  refine own_goW st4 ?_
  clear st4 X0 e0
  replace N0 := Fr.app N0 Nc6
  clear Nc6
  refine own_goW (fun _ k => XS.aloadN X4.here hx rfl (hb hby d16_4) rfl rfl k) ?_
  obtain ⟨b7, T7, h7, k7, X7, e7, E7, hSn, hkn, hZn, hownn, st7⟩ := ldcS X4 hx hZ hown (ow102 hw) (own_wS hw) Kc5 hS (Nat.le_refl _) (g := (mkF m 5 #[rv a1, rv a2, rv a3, rv a4, rv a5, rv a6] [(.ref a2)])) rfl (hb hby d16_5) (n := 16) (by decide) (by decide) (by show _ ≤ 8; omega) (by show _ ≤ 91; omega)
  refine own_goW st7 ?_
  clear st7 
  replace hS := own_since hSn hkn
  replace hZ := hZn
  replace hown := hownn
  replace hJ : own_J Z T7.vm h7 := trivial
  clear hSn hZn hownn
  replace fp0 := fp0.ext E7
  replace fp1 := fp1.ext E7
  replace fp2 := fp2.ext E7
  replace fp3 := fp3.ext E7
  replace fp4 := fp4.ext E7
  replace fp5 := fp5.ext E7
  replace O0 := own_oldExt O0 E7
  replace K0 := K0.ext E7
  clear E7
  obtain ⟨v8, T8, L8, X8, hQ8, st8⟩ := own_callS (y := own_y12) X7 hx hZ hown (ow105 hw) (ow106 hw) (ow107 hw) (ow108 hw) (rm_rnn2 l Z a0 hw hO [] a2 b7 h7 O0) 0 0 0 (by show _ ≤ 8; omega) (by show _ ≤ 91; omega) e7 (g := (mkF m 7 #[rv a1, rv a2, rv a3, rv a4, rv a5, rv a6] [(.ref b7), (.ref a2)])) rfl (by rw [hml]; rfl) [(.ref a2), (.ref b7)] [] (lenOf own_pd_16 rfl) rfl rfl (hb hby d16_7)
  obtain ⟨rfl, Nc10, Kc9⟩ := hQ8
  refine own_goW st8 ?_
  clear st8 X7 e7
  replace N0 := Fr.app N0 Nc10
  clear Nc10
  show own_GoW p e below s _ _ _ _ (T8.setTop (mkF m 10 #[rv a1, rv a2, rv a3, rv a4, rv a5, rv a6] [(.ref a2)]))
  refine own_goW (fun _ k => XS.pop X8.here hx rfl (hb hby d16_10) rfl rfl (XS.aloadN X8.here hx rfl (hb hby d16_11) rfl rfl k)) ?_
  obtain ⟨b11, T11, h11, k11, X11, e11, E11, hSn, hkn, hZn, hownn, st11⟩ := ldcS X8 hx hZ hown (ow109 hw) (own_wS hw) Kc9 hS (Nat.le_refl _) (g := (mkF m 12 #[rv a1, rv a2, rv a3, rv a4, rv a5, rv a6] [(.ref a3)])) rfl (hb hby d16_12) (n := 20) (by decide) (by decide) (by show _ ≤ 8; omega) (by show _ ≤ 91; omega)
  refine own_goW st11 ?_
  clear st11 
  replace hS := own_since hSn hkn
  replace hZ := hZn
  replace hown := hownn
  replace hJ : own_J Z T11.vm h11 := trivial
  clear hSn hZn hownn
  replace fp0 := fp0.ext E11
  replace fp1 := fp1.ext E11
  replace fp2 := fp2.ext E11
  replace fp3 := fp3.ext E11
  replace fp4 := fp4.ext E11
  replace fp5 := fp5.ext E11
  replace O0 := own_oldExt O0 E11
  replace K0 := K0.ext E11
  clear E11
  obtain ⟨v12, T12, L12, X12, hQ12, st12⟩ := own_callS (y := own_y12) X11 hx hZ hown (ow105 hw) (ow106 hw) (ow107 hw) (ow108 hw) (rm_rnn2 l Z a0 hw hO [] a3 b11 h11 O0) 0 0 0 (by show _ ≤ 8; omega) (by show _ ≤ 91; omega) e11 (g := (mkF m 14 #[rv a1, rv a2, rv a3, rv a4, rv a5, rv a6] [(.ref b11), (.ref a3)])) rfl (by rw [hml]; rfl) [(.ref a3), (.ref b11)] [] (lenOf own_pd_16 rfl) rfl rfl (hb hby d16_14)
  obtain ⟨rfl, Nc14, Kc13⟩ := hQ12
  refine own_goW st12 ?_
  clear st12 X11 e11
  replace N0 := Fr.app N0 Nc14
  clear Nc14
  refine own_goW (fun _ k => XS.pop X12.here hx rfl (hb hby d16_17) rfl rfl k) ?_
  show own_GoW p e below s _ _ _ _ (T12.setTop (mkF m 18 #[rv a1, rv a2, rv a3, rv a4, rv a5, rv a6] []))
  refine own_goW (fun _ k => XS.aloadN X12.here hx rfl (hb hby d16_18) rfl rfl k) ?_
  obtain ⟨b15, T15, h15, k15, X15, e15, E15, hSn, hkn, hZn, hownn, st15⟩ := ldcS X12 hx hZ hown (ow110 hw) (own_wS hw) Kc13 hS (Nat.le_refl _) (g := (mkF m 19 #[rv a1, rv a2, rv a3, rv a4, rv a5, rv a6] [(.ref a4)])) rfl (hb hby d16_19) (n := 40) (by decide) (by decide) (by show _ ≤ 8; omega) (by show _ ≤ 91; omega)
  refine own_goW st15 ?_
  clear st15 
  replace hS := own_since hSn hkn
  replace hZ := hZn
  replace hown := hownn
  replace hJ : own_J Z T15.vm h15 := trivial
  clear hSn hZn hownn
  replace fp0 := fp0.ext E15
  replace fp1 := fp1.ext E15
  replace fp2 := fp2.ext E15
  replace fp3 := fp3.ext E15
  replace fp4 := fp4.ext E15
  replace fp5 := fp5.ext E15
  replace O0 := own_oldExt O0 E15
  replace K0 := K0.ext E15
  clear E15
  obtain ⟨v16, T16, L16, X16, hQ16, st16⟩ := own_callS (y := own_y12) X15 hx hZ hown (ow105 hw) (ow106 hw) (ow107 hw) (ow108 hw) (rm_rnn2 l Z a0 hw hO [] a4 b15 h15 O0) 0 0 0 (by show _ ≤ 8; omega) (by show _ ≤ 91; omega) e15 (g := (mkF m 21 #[rv a1, rv a2, rv a3, rv a4, rv a5, rv a6] [(.ref b15), (.ref a4)])) rfl (by rw [hml]; rfl) [(.ref a4), (.ref b15)] [] (lenOf own_pd_16 rfl) rfl rfl (hb hby d16_21)
  obtain ⟨rfl, Nc18, Kc17⟩ := hQ16
  refine own_goW st16 ?_
  clear st16 X15 e15
  replace N0 := Fr.app N0 Nc18
  clear Nc18
  refine own_goW (fun _ k => XS.pop X16.here hx rfl (hb hby d16_24) rfl rfl (XS.aload X16.here hx rfl (hb hby d16_25) rfl rfl k)) ?_
  show own_GoW p e below s _ _ _ _ (T16.setTop (mkF m 27 #[rv a1, rv a2, rv a3, rv a4, rv a5, rv a6] [(.ref a5)]))
  obtain ⟨v19, T19, L19, X19, hQ19, st19⟩ := own_callS (y := own_y27) X16 hx hZ hown (ow111 hw) (ow112 hw) (ow113 hw) (ow114 hw) (rm_copyOf_1 l Z a0 hw hO [] a5 b0 k0 el1 h15 O0 (fp6.keep K0) (fp7.keep K0 (ninS ne1 nin0)) (fp8.keep K0 (ninS ne1 nin0)) (fp9.keep K0 (ninS ne2 nin0)) (fp10.keep K0) (own_insKeep fp11 K0)) 0 2 3 (by show _ ≤ 8; omega) (by show _ ≤ 91; omega) Kc17 (g := (mkF m 27 #[rv a1, rv a2, rv a3, rv a4, rv a5, rv a6] [(.ref a5)])) rfl (by rw [hml]; rfl) [(.ref a5)] [] (lenOf own_pd_15 rfl) rfl rfl (hb hby d16_27)
  obtain ⟨w20, rfl, Nc25, Kc24, hb21, f22, f23⟩ := hQ19
  refine own_goW st19 ?_
  clear st19 X16 Kc17
  replace N0 := Fr.app N0 Nc25
  clear Nc25
  have ne26 : a1 ≠ w20 := Nat.ne_of_lt (Nat.lt_of_lt_of_le fp0.lt hb21)
  have big27 : Z.heap.size ≤ w20 := Nat.le_trans O0.1 hb21
  have sz28 : h0.size ≤ w20 := Nat.le_trans K0.1 hb21
  replace hS := own_since hS Kc24.1
  replace hJ := own_Jany hJ T19.heap
  replace fp0 := fp0.keep Kc24
  replace fp1 := fp1.keep Kc24 nin0
  replace fp2 := fp2.keep Kc24 nin0
  replace fp3 := fp3.keep Kc24 nin0
  replace fp4 := fp4.keep Kc24 nin0
  replace fp5 := fp5.keep Kc24 nin0
  replace O0 := own_oldKeep O0 Kc24 all0
  replace K0 := K0.trans Kc24 all0
  clear Kc24
  refine own_goW (fun _ k => XS.astore X19.here hx rfl (hb hby d16_30) rfl rfl (l' := #[rv a1, rv a2, rv a3, rv a4, rv w20, rv a6]) rfl (XS.aload X19.here hx rfl (hb hby d16_32) rfl rfl k)) ?_
  obtain ⟨v29, T29, L29, X29, hQ29, st29⟩ := own_callS (y := own_y27) X19 hx hZ hown (ow111 hw) (ow112 hw) (ow113 hw) (ow114 hw) (rm_copyOf_0 l Z a0 hw hO [] a6 T19.heap O0 (fp12.keep K0) (fp13.keep K0 (ninS ne3 nin0))) 0 0 0 (by show _ ≤ 8; omega) (by show _ ≤ 91; omega) (rfl : T19.heap = T19.heap) (g := (mkF m 34 #[rv a1, rv a2, rv a3, rv a4, rv w20, rv a6] [(.ref a6)])) rfl (by rw [hml]; rfl) [(.ref a6)] [] (lenOf own_pd_15 rfl) rfl rfl (hb hby d16_34)
  obtain ⟨rfl, Nc31, Kc30⟩ := hQ29
  refine own_goW st29 ?_
  clear st29 X19
  replace N0 := Fr.app N0 Nc31
  clear Nc31
  refine own_goW (fun _ k => XS.astore X29.here hx rfl (hb hby d16_37) rfl rfl (l' := #[rv a1, rv a2, rv a3, rv a4, rv w20, rv wl]) rfl k) ?_
  show own_GoW p e below s _ _ _ _ (T29.setTop (mkF m 39 #[rv a1, rv a2, rv a3, rv a4, rv w20, rv wl] []))
  refine own_goW (fun _ k => XS.aload X29.here hx rfl (hb hby d16_39) rfl rfl k) ?_
  obtain ⟨v32, T32, L32, X32, hQ32, st32⟩ := own_callF (xi := own_y34) (y := own_y29) X29 hx hZ hown (ow200 hw) (ow201 hw) (ow202 hw) (ow203 hw) (ow204 hw) (ow205 hw) (ow206 hw) (ow207 hw) (ow169 hw) (ow208 hw) (by decide) (rm_l12e l Z a0 hw hO [] w20 T19.heap O0) 0 0 0 (by show _ ≤ 8; omega) (by show _ ≤ 91; omega) Kc30 f22 (g := (mkF m 41 #[rv a1, rv a2, rv a3, rv a4, rv w20, rv wl] [(.ref w20)])) rfl (by rw [hml]; rfl) [] [] (lenOf own_pd_13 rfl) rfl rfl (hb hby d16_41)
  obtain ⟨rfl, Nc34, Kc33⟩ := hQ32
  refine own_goW st32 ?_
  clear st32 X29 Kc30
  replace N0 := Fr.app N0 Nc34
  clear Nc34
  refine own_goW (fun _ k => XS.ifYes X32.here hx rfl (pc0 := 46) (pc' := 63) rfl (hb hby d16_46) rfl ((if0 _ _).trans (teq (by decide : (0 : Int32) = (0 : Int32))).1) (by decide) (by decide) (XS.aloadN X32.here hx rfl (hb hby d16_63) rfl rfl (XS.aloadN X32.here hx rfl (hb hby d16_64) rfl rfl k))) ?_
  show own_GoW p e below s _ _ _ _ (T32.setTop (mkF m 65 #[rv a1, rv a2, rv a3, rv a4, rv w20, rv wl] [(.ref a2), (.ref a1)]))
  obtain ⟨T35, h35, X35, e35, W35, st35⟩ := putF X32 hx hZ hown (host := "") (Or.inl (ow209 hw)) Via.refl Kc33 fp1 fp0 (Or.inr ⟨(ow210 hw), rfl, hnm⟩) (ow91 hw) (ty := (.object "java/lang/String")) own_fd6 rfl rfl (g := (mkF m 65 #[rv a1, rv a2, rv a3, rv a4, rv w20, rv wl] [(.ref a2), (.ref a1)])) rfl rfl (hb hby d16_65)
  refine own_goW st35 ?_
  clear st35 X32 Kc33
  replace N0 := Fr.snoc X35 N0 big_a1
  replace hJ := own_Jany hJ h35
  replace fp0 := fp0.wr W35
  replace fp1 := fp1.same W35
  replace fp2 := fp2.other W35 (.inr (own_sn5 hw))
  replace fp3 := fp3.other W35 (.inr (own_sn6 hw))
  replace fp4 := fp4.other W35 (.inr (own_sn7 hw))
  replace fp5 := fp5.other W35 (.inr (own_sn8 hw))
  replace f22 := f22.wr W35
  replace f23 := f23.other W35 (Or.inl ne26.symm)
  replace O0 := own_oldWr O0 W35 big_a1
  replace K0 := K0.wr W35 (Or.inl (List.mem_of_getElem? (i := 0) rfl))
  replace hS := own_since hS (Nat.le_of_eq W35.size.symm)
  clear W35
  refine own_goW (fun _ k => XS.aloadN X35.here hx rfl (hb hby d16_68) rfl rfl (XS.aloadN X35.here hx rfl (hb hby d16_69) rfl rfl k)) ?_
  obtain ⟨T36, h36, X36, e36, W36, st36⟩ := putF X35 hx hZ hown (host := "") (Or.inl (ow211 hw)) Via.refl e35 fp2 fp0 (Or.inr ⟨(ow212 hw), rfl, hnm⟩) (ow91 hw) (ty := (.object "java/lang/String")) own_fd6 rfl rfl (g := (mkF m 70 #[rv a1, rv a2, rv a3, rv a4, rv w20, rv wl] [(.ref a3), (.ref a1)])) rfl rfl (hb hby d16_70)
  refine own_goW st36 ?_
  clear st36 X35 e35
  replace N0 := Fr.snoc X36 N0 big_a1
  replace hJ := own_Jany hJ h36
  replace fp0 := fp0.wr W36
  replace fp1 := fp1.other W36 (.inr (own_sn5 hw).symm)
  replace fp2 := fp2.same W36
  replace fp3 := fp3.other W36 (.inr (own_sn9 hw))
  replace fp4 := fp4.other W36 (.inr (own_sn10 hw))
  replace fp5 := fp5.other W36 (.inr (own_sn11 hw))
  replace f22 := f22.wr W36
  replace f23 := f23.other W36 (Or.inl ne26.symm)
  replace O0 := own_oldWr O0 W36 big_a1
  replace K0 := K0.wr W36 (Or.inl (List.mem_of_getElem? (i := 0) rfl))
  replace hS := own_since hS (Nat.le_of_eq W36.size.symm)
  clear W36
  refine own_goW (fun _ k => XS.aloadN X36.here hx rfl (hb hby d16_73) rfl rfl k) ?_
  show own_GoW p e below s _ _ _ _ (T36.setTop (mkF m 74 #[rv a1, rv a2, rv a3, rv a4, rv w20, rv wl] [(.ref a1)]))
  refine own_goW (fun _ k => XS.aloadN X36.here hx rfl (hb hby d16_74) rfl rfl k) ?_
  obtain ⟨T37, h37, X37, e37, W37, st37⟩ := putF X36 hx hZ hown (host := "") (Or.inl (ow213 hw)) Via.refl e36 fp3 fp0 (Or.inr ⟨(ow214 hw), rfl, hnm⟩) (ow91 hw) (ty := (.object "java/lang/String")) own_fd6 rfl rfl (g := (mkF m 75 #[rv a1, rv a2, rv a3, rv a4, rv w20, rv wl] [(.ref a4), (.ref a1)])) rfl rfl (hb hby d16_75)
  refine own_goW st37 ?_
  clear st37 X36 e36
  replace N0 := Fr.snoc X37 N0 big_a1
  replace hJ := own_Jany hJ h37
  replace fp0 := fp0.wr W37
  replace fp1 := fp1.other W37 (.inr (own_sn6 hw).symm)
  replace fp2 := fp2.other W37 (.inr (own_sn9 hw).symm)
  replace fp3 := fp3.same W37
  replace fp4 := fp4.other W37 (.inr (own_sn12 hw))
  replace fp5 := fp5.other W37 (.inr (own_sn13 hw))
  replace f22 := f22.wr W37
  replace f23 := f23.other W37 (Or.inl ne26.symm)
  replace O0 := own_oldWr O0 W37 big_a1
  replace K0 := K0.wr W37 (Or.inl (List.mem_of_getElem? (i := 0) rfl))
  replace hS := own_since hS (Nat.le_of_eq W37.size.symm)
  clear W37
  refine own_goW (fun _ k => XS.aloadN X37.here hx rfl (hb hby d16_78) rfl rfl (XS.aload X37.here hx rfl (hb hby d16_79) rfl rfl k)) ?_
  obtain ⟨T38, h38, X38, e38, W38, st38⟩ := putF X37 hx hZ hown (host := "") (Or.inl (ow215 hw)) Via.refl e37 fp4 fp0 (Or.inr ⟨(ow216 hw), rfl, hnm⟩) (ow91 hw) (ty := (.object "java/util/List")) own_fd7 rfl rfl (g := (mkF m 81 #[rv a1, rv a2, rv a3, rv a4, rv w20, rv wl] [(.ref w20), (.ref a1)])) rfl rfl (hb hby d16_81)
  refine own_goW st38 ?_
  clear st38 X37 e37
  replace N0 := Fr.snoc X38 N0 big_a1
  replace hJ := own_Jany hJ h38
  replace fp0 := fp0.wr W38
  replace fp1 := fp1.other W38 (.inr (own_sn7 hw).symm)
  replace fp2 := fp2.other W38 (.inr (own_sn10 hw).symm)
  replace fp3 := fp3.other W38 (.inr (own_sn12 hw).symm)
  replace fp4 := fp4.same W38
  replace fp5 := fp5.other W38 (.inr (own_sn14 hw))
  replace f22 := f22.wr W38
  replace f23 := f23.other W38 (Or.inl ne26.symm)
  replace O0 := own_oldWr O0 W38 big_a1
  replace K0 := K0.wr W38 (Or.inl (List.mem_of_getElem? (i := 0) rfl))
  replace hS := own_since hS (Nat.le_of_eq W38.size.symm)
  clear W38
  show own_GoW p e below s _ _ _ _ (T38.setTop (mkF m 84 #[rv a1, rv a2, rv a3, rv a4, rv w20, rv wl] []))
  refine own_goW (fun _ k => XS.aloadN X38.here hx rfl (hb hby d16_84) rfl rfl (XS.aload X38.here hx rfl (hb hby d16_85) rfl rfl k)) ?_
  obtain ⟨T39, h39, X39, e39, W39, st39⟩ := putF X38 hx hZ hown (host := "") (Or.inl (ow217 hw)) Via.refl e38 fp5 fp0 (Or.inr ⟨(ow218 hw), rfl, hnm⟩) (ow91 hw) (ty := (.object "java/util/List")) own_fd7 rfl rfl (g := (mkF m 87 #[rv a1, rv a2, rv a3, rv a4, rv w20, rv wl] [(.ref wl), (.ref a1)])) rfl rfl (hb hby d16_87)
  refine own_goW st39 ?_
  clear st39 X38 e38
  replace N0 := Fr.snoc X39 N0 big_a1
  replace hJ := own_Jany hJ h39
  replace fp0 := fp0.wr W39
  replace fp1 := fp1.other W39 (.inr (own_sn8 hw).symm)
  replace fp2 := fp2.other W39 (.inr (own_sn11 hw).symm)
  replace fp3 := fp3.other W39 (.inr (own_sn13 hw).symm)
  replace fp4 := fp4.other W39 (.inr (own_sn14 hw).symm)
  replace fp5 := fp5.same W39
  replace f22 := f22.wr W39
  replace f23 := f23.other W39 (Or.inl ne26.symm)
  replace O0 := own_oldWr O0 W39 big_a1
  replace K0 := K0.wr W39 (Or.inl (List.mem_of_getElem? (i := 0) rfl))
  replace hS := own_since hS (Nat.le_of_eq W39.size.symm)
  clear W39
  show own_GoW p e below s _ _ _ _ (T39.setTop (mkF m 90 #[rv a1, rv a2, rv a3, rv a4, rv w20, rv wl] []))
  refine own_retVW X39 hS hL hZ hJ hx hlk e39 hret (hb hby d16_90) (by show _ ≤ 8; omega) (by show _ ≤ 91; omega) ?_
  exact ⟨w20, rfl, N0, K0, fp0, fp4, f22, f23⟩
def Q_dim_1_1 (Z : State) (zc : Int32) (wd : Addr) (kd : ClassId) (wl : Addr) (we : Addr) (ke : ClassId) (weo : Addr) (wmo : Addr) (a1 : Addr) (a2 : Addr) (a3 : Addr) (a4 : Addr) (a5 : Addr) (a6 : Addr) (b0 : Addr) (k0 : ClassId) (el1 : Addr) (b1_ : Addr) (k1_ : ClassId) (gl1 : Addr) (h0 : Heap) (v : Option Value) (h : Heap) (L : List Loc) : Prop := (∃ b : Addr, v = none ∧ Fr Z.heap.size L ∧ Keep h0 h [a1] ∧ Exa Z h a1 "com/example/ibex/ibex/model/Dimension" ∧ Fld Z h a1 "com/example/ibex/ibex/model/Dimension" "levels" "Ljava/util/List;" (.ref b) ∧ Exa Z h b "java/util/ImmutableCollections$List12" ∧ Fld Z h b "java/util/ImmutableCollections$List12" "e0" "Ljava/lang/Object;" (.ref el1))
theorem ef_dim_1_1 (m : MethodId) (x0 : Addr) (x1 : Addr) (x2 : Addr) (x3 : Addr) (x4 : Addr) (x5 : Addr) : entryFrame m #[(.ref x0), (.ref x1), (.ref x2), (.ref x3), (.ref x4), (.ref x5)] 6 = mkF m 0 #[rv x0, rv x1, rv x2, rv x3, rv x4, rv x5] [] := by first | (simp [entryFrame, mkF, argsToLocals, Value.category]; done) | rfl
set_option maxRecDepth 65536 in
set_option maxHeartbeats 40000000 in
theorem rm_dim_1_1 (l : Launch) (Z : State) (a0 : Array Value) (hw : own_W Z a0) {zc : Int32} {wd : Addr} {kd : ClassId} {wl : Addr} {we : Addr} {ke : ClassId} {weo : Addr} {wmo : Addr} (hO : own_Olds Z zc wd kd wl we ke weo wmo) (ws : List Jvm.Cond) (a1 : Addr) (a2 : Addr) (a3 : Addr) (a4 : Addr) (a5 : Addr) (a6 : Addr) (b0 : Addr) (k0 : ClassId) (el1 : Addr) (b1_ : Addr) (k1_ : ClassId) (gl1 : Addr) (h0 : Heap) (O0 : Ext Z.heap h0) (fp0 : Exa Z h0 a1 "com/example/ibex/ibex/model/Dimension") (fp1 : Fld Z h0 a1 "com/example/ibex/ibex/model/Dimension" "name" "Ljava/lang/String;" .null) (fp2 : Fld Z h0 a1 "com/example/ibex/ibex/model/Dimension" "table" "Ljava/lang/String;" .null) (fp3 : Fld Z h0 a1 "com/example/ibex/ibex/model/Dimension" "foreignKey" "Ljava/lang/String;" .null) (fp4 : Fld Z h0 a1 "com/example/ibex/ibex/model/Dimension" "levels" "Ljava/util/List;" .null) (fp5 : Fld Z h0 a1 "com/example/ibex/ibex/model/Dimension" "attributes" "Ljava/util/List;" .null) (fp6 : Exa Z h0 a5 "java/util/ArrayList") (fp7 : Fld Z h0 a5 "java/util/ArrayList" "size" "I" (.int (1 : Int32))) (fp8 : Fld Z h0 a5 "java/util/ArrayList" "elementData" "[Ljava/lang/Object;" (.ref b0)) (fp9 : Arv Z h0 b0 k0 (.object "java/lang/Object") (10 : Int32) [(.ref el1), .null, .null, .null, .null, .null, .null, .null, .null, .null] .null) (fp10 : Exa Z h0 b0 "[Ljava/lang/Object;") (fp11 : Ins Z h0 el1 "java/lang/Object" true) (fp12 : Exa Z h0 a6 "java/util/ArrayList") (fp13 : Fld Z h0 a6 "java/util/ArrayList" "size" "I" (.int (1 : Int32))) (fp14 : Fld Z h0 a6 "java/util/ArrayList" "elementData" "[Ljava/lang/Object;" (.ref b1_)) (fp15 : Arv Z h0 b1_ k1_ (.object "java/lang/Object") (10 : Int32) [(.ref gl1), .null, .null, .null, .null, .null, .null, .null, .null, .null] .null) (fp16 : Exa Z h0 b1_ "[Ljava/lang/Object;") (fp17 : Ins Z h0 gl1 "java/lang/Object" true) (big_a1 : Z.heap.size ≤ a1) :
    MetFree l own_y35 (head1 (Jvm.Cond.code own_y35 prog_71_method_1_code 6 none :: ws) ({ frames := 8, cells := 10, slots := 94, locals := 100 } : Room)) (fun a U => a = #[(.ref a1), (.ref a2), (.ref a3), (.ref a4), (.ref a5), (.ref a6)] ∧ Z.Warmed39 U.vm ∧ U.heap = h0 ∧ own_J Z U.vm U.heap) (fun _ _ _ _ _ => True) (fun _ U o U' => ∃ v L, o = .returned v ∧ ((Q_dim_1_1 Z zc wd kd wl we ke weo wmo a1 a2 a3 a4 a5 a6 b0 k0 el1 b1_ k1_ gl1 h0) v U'.heap L ∧ own_J Z U'.vm U'.heap) ∧ ReturnedEndW U o U' L ({ frames := 8, cells := 10, slots := 94, locals := 100 } : Room).cells ({ frames := 8, cells := 10, slots := 94, locals := 100 } : Room).slots) := by
  refine own_metW (Q := (Q_dim_1_1 Z zc wd kd wl we ke weo wmo a1 a2 a3 a4 a5 a6 b0 k0 el1 b1_ k1_ gl1 h0)) _ _ (plainFor_of_name own_pn_13) ?_
  intro p e s vm0 m below meth c T X0 hS hJ hJ0 hZ0 hI hs0 hx hby hml hret hlk hZ hown hnm e0
  replace hown : (s.setVm vm0).vm.findClass "com/example/ibex/ibex/model/Dimension" = some m.cls := hown
  replace hnm : meth.name = "<init>" := hnm
  have hml : c.maxLocals = 6 := hml
  obtain ⟨oCS, oCz, oDE, oDV, oEL, oLE, oLF, oLV, oEM, oMir⟩ := id hO
  have N0 := Fr.nil Z.heap.size
  have hL := own_Lhw hw
  have K0 := Keep.refl h0 [a1]
  refine own_goW (fun _ k => castTop (ef_dim_1_1 m a1 a2 a3 a4 a5 a6) k) ?_
  have ne1 : a5 ≠ a1 := (ne_exa fp6 fp0 (by decide))
  have ne2 : b0 ≠ a1 := (ne_exa fp10 fp0 (by decide))
  have ne3 : a6 ≠ a1 := (ne_exa fp12 fp0 (by decide))
  have ne4 : b1_ ≠ a1 := (ne_exa fp16 fp0 (by decide))
  show own_GoW p e below s _ _ _ _ (T.setTop (mkF m 0 #[rv a1, rv a2, rv a3, rv a4, rv a5, rv a6] []))
  refine own_goW (fun _ k => XS.aloadN X0.here hx rfl (hb hby d16_0) rfl rfl k) ?_
  obtain ⟨v5, T5, L5, X5, hQ5, st5⟩ := own_callI (y := own_y33) X0 hx hZ hown (ow96 hw) (ow97 hw) (ow99 hw) (ow100 hw) (rm_recinit l Z a0 hw hO [] a1 h0 O0) 0 0 0 rfl (by show _ ≤ 10; omega) (by show _ ≤ 94; omega) e0 (g := (mkF m 1 #[rv a1, rv a2, rv a3, rv a4, rv a5, rv a6] [(.ref a1)])) rfl (by rw [hml]; rfl) a1 [] [] (lenOf own_pd_0 rfl) rfl rfl (hb hby d16_1)
  obtain ⟨rfl, Nc7, Kc6⟩ := hQ5
  refine own_goW st5 ?_
  clear st5 X0 e0
  replace N0 := Fr.app N0 Nc7
  clear Nc7
  refine own_goW (fun _ k => XS.aloadN X5.here hx rfl (hb hby d16_4) rfl rfl k) ?_
  obtain ⟨b8, T8, h8, k8, X8, e8, E8, hSn, hkn, hZn, hownn, st8⟩ := ldcS X5 hx hZ hown (ow102 hw) (own_wS hw) Kc6 hS (Nat.le_refl _) (g := (mkF m 5 #[rv a1, rv a2, rv a3, rv a4, rv a5, rv a6] [(.ref a2)])) rfl (hb hby d16_5) (n := 16) (by decide) (by decide) (by show _ ≤ 10; omega) (by show _ ≤ 94; omega)
  refine own_goW st8 ?_
  clear st8 
  replace hS := own_since hSn hkn
  replace hZ := hZn
  replace hown := hownn
  replace hJ : own_J Z T8.vm h8 := trivial
  clear hSn hZn hownn
  replace fp0 := fp0.ext E8
  replace fp1 := fp1.ext E8
  replace fp2 := fp2.ext E8
  replace fp3 := fp3.ext E8
  replace fp4 := fp4.ext E8
  replace fp5 := fp5.ext E8
  replace O0 := own_oldExt O0 E8
  replace K0 := K0.ext E8
  clear E8
  obtain ⟨v9, T9, L9, X9, hQ9, st9⟩ := own_callS (y := own_y12) X8 hx hZ hown (ow105 hw) (ow106 hw) (ow107 hw) (ow108 hw) (rm_rnn2 l Z a0 hw hO [] a2 b8 h8 O0) 0 0 0 (by show _ ≤ 10; omega) (by show _ ≤ 94; omega) e8 (g := (mkF m 7 #[rv a1, rv a2, rv a3, rv a4, rv a5, rv a6] [(.ref b8), (.ref a2)])) rfl (by rw [hml]; rfl) [(.ref a2), (.ref b8)] [] (lenOf own_pd_16 rfl) rfl rfl (hb hby d16_7)
  obtain ⟨rfl, Nc11, Kc10⟩ := hQ9
  refine own_goW st9 ?_
  clear st9 X8 e8
  replace N0 := Fr.app N0 Nc11
  clear Nc11
  show own_GoW p e below s _ _ _ _ (T9.setTop (mkF m 10 #[rv a1, rv a2, rv a3, rv a4, rv a5, rv a6] [(.ref a2)]))
  refine own_goW (fun _ k => XS.pop X9.here hx rfl (hb hby d16_10) rfl rfl (XS.aloadN X9.here hx rfl (hb hby d16_11) rfl rfl k)) ?_
  obtain ⟨b12, T12, h12, k12, X12, e12, E12, hSn, hkn, hZn, hownn, st12⟩ := ldcS X9 hx hZ hown (ow109 hw) (own_wS hw) Kc10 hS (Nat.le_refl _) (g := (mkF m 12 #[rv a1, rv a2, rv a3, rv a4, rv a5, rv a6] [(.ref a3)])) rfl (hb hby d16_12) (n := 20) (by decide) (by decide) (by show _ ≤ 10; omega) (by show _ ≤ 94; omega)
  refine own_goW st12 ?_
  clear st12 
  replace hS := own_since hSn hkn
  replace hZ := hZn
  replace hown := hownn
  replace hJ : own_J Z T12.vm h12 := trivial
  clear hSn hZn hownn
  replace fp0 := fp0.ext E12
  replace fp1 := fp1.ext E12
  replace fp2 := fp2.ext E12
  replace fp3 := fp3.ext E12
  replace fp4 := fp4.ext E12
  replace fp5 := fp5.ext E12
  replace O0 := own_oldExt O0 E12
  replace K0 := K0.ext E12
  clear E12
  obtain ⟨v13, T13, L13, X13, hQ13, st13⟩ := own_callS (y := own_y12) X12 hx hZ hown (ow105 hw) (ow106 hw) (ow107 hw) (ow108 hw) (rm_rnn2 l Z a0 hw hO [] a3 b12 h12 O0) 0 0 0 (by show _ ≤ 10; omega) (by show _ ≤ 94; omega) e12 (g := (mkF m 14 #[rv a1, rv a2, rv a3, rv a4, rv a5, rv a6] [(.ref b12), (.ref a3)])) rfl (by rw [hml]; rfl) [(.ref a3), (.ref b12)] [] (lenOf own_pd_16 rfl) rfl rfl (hb hby d16_14)
  obtain ⟨rfl, Nc15, Kc14⟩ := hQ13
  refine own_goW st13 ?_
  clear st13 X12 e12
  replace N0 := Fr.app N0 Nc15
  clear Nc15
  refine own_goW (fun _ k => XS.pop X13.here hx rfl (hb hby d16_17) rfl rfl k) ?_
  show own_GoW p e below s _ _ _ _ (T13.setTop (mkF m 18 #[rv a1, rv a2, rv a3, rv a4, rv a5, rv a6] []))
  refine own_goW (fun _ k => XS.aloadN X13.here hx rfl (hb hby d16_18) rfl rfl k) ?_
  obtain ⟨b16, T16, h16, k16, X16, e16, E16, hSn, hkn, hZn, hownn, st16⟩ := ldcS X13 hx hZ hown (ow110 hw) (own_wS hw) Kc14 hS (Nat.le_refl _) (g := (mkF m 19 #[rv a1, rv a2, rv a3, rv a4, rv a5, rv a6] [(.ref a4)])) rfl (hb hby d16_19) (n := 40) (by decide) (by decide) (by show _ ≤ 10; omega) (by show _ ≤ 94; omega)
  refine own_goW st16 ?_
  clear st16 
  replace hS := own_since hSn hkn
  replace hZ := hZn
  replace hown := hownn
  replace hJ : own_J Z T16.vm h16 := trivial
  clear hSn hZn hownn
  replace fp0 := fp0.ext E16
  replace fp1 := fp1.ext E16
  replace fp2 := fp2.ext E16
  replace fp3 := fp3.ext E16
  replace fp4 := fp4.ext E16
  replace fp5 := fp5.ext E16
  replace O0 := own_oldExt O0 E16
  replace K0 := K0.ext E16
  clear E16
  obtain ⟨v17, T17, L17, X17, hQ17, st17⟩ := own_callS (y := own_y12) X16 hx hZ hown (ow105 hw) (ow106 hw) (ow107 hw) (ow108 hw) (rm_rnn2 l Z a0 hw hO [] a4 b16 h16 O0) 0 0 0 (by show _ ≤ 10; omega) (by show _ ≤ 94; omega) e16 (g := (mkF m 21 #[rv a1, rv a2, rv a3, rv a4, rv a5, rv a6] [(.ref b16), (.ref a4)])) rfl (by rw [hml]; rfl) [(.ref a4), (.ref b16)] [] (lenOf own_pd_16 rfl) rfl rfl (hb hby d16_21)
  obtain ⟨rfl, Nc19, Kc18⟩ := hQ17
  refine own_goW st17 ?_
  clear st17 X16 e16
  replace N0 := Fr.app N0 Nc19
  clear Nc19
  refine own_goW (fun _ k => XS.pop X17.here hx rfl (hb hby d16_24) rfl rfl (XS.aload X17.here hx rfl (hb hby d16_25) rfl rfl k)) ?_
  show own_GoW p e below s _ _ _ _ (T17.setTop (mkF m 27 #[rv a1, rv a2, rv a3, rv a4, rv a5, rv a6] [(.ref a5)]))
  obtain ⟨v20, T20, L20, X20, hQ20, st20⟩ := own_callS (y := own_y27) X17 hx hZ hown (ow111 hw) (ow112 hw) (ow113 hw) (ow114 hw) (rm_copyOf_1 l Z a0 hw hO [] a5 b0 k0 el1 h16 O0 (fp6.keep K0) (fp7.keep K0 (ninS ne1 nin0)) (fp8.keep K0 (ninS ne1 nin0)) (fp9.keep K0 (ninS ne2 nin0)) (fp10.keep K0) (own_insKeep fp11 K0)) 0 2 3 (by show _ ≤ 10; omega) (by show _ ≤ 94; omega) Kc18 (g := (mkF m 27 #[rv a1, rv a2, rv a3, rv a4, rv a5, rv a6] [(.ref a5)])) rfl (by rw [hml]; rfl) [(.ref a5)] [] (lenOf own_pd_15 rfl) rfl rfl (hb hby d16_27)
  obtain ⟨w21, rfl, Nc26, Kc25, hb22, f23, f24⟩ := hQ20
  refine own_goW st20 ?_
  clear st20 X17 Kc18
  replace N0 := Fr.app N0 Nc26
  clear Nc26
  have ne27 : a1 ≠ w21 := Nat.ne_of_lt (Nat.lt_of_lt_of_le fp0.lt hb22)
  have big28 : Z.heap.size ≤ w21 := Nat.le_trans O0.1 hb22
  have sz29 : h0.size ≤ w21 := Nat.le_trans K0.1 hb22
  replace hS := own_since hS Kc25.1
  replace hJ := own_Jany hJ T20.heap
  replace fp0 := fp0.keep Kc25
  replace fp1 := fp1.keep Kc25 nin0
  replace fp2 := fp2.keep Kc25 nin0
  replace fp3 := fp3.keep Kc25 nin0
  replace fp4 := fp4.keep Kc25 nin0
  replace fp5 := fp5.keep Kc25 nin0
  replace O0 := own_oldKeep O0 Kc25 all0
  replace K0 := K0.trans Kc25 all0
  clear Kc25
  refine own_goW (fun _ k => XS.astore X20.here hx rfl (hb hby d16_30) rfl rfl (l' := #[rv a1, rv a2, rv a3, rv a4, rv w21, rv a6]) rfl (XS.aload X20.here hx rfl (hb hby d16_32) rfl rfl k)) ?_
  obtain ⟨v30, T30, L30, X30, hQ30, st30⟩ := own_callS (y := own_y27) X20 hx hZ hown (ow111 hw) (ow112 hw) (ow113 hw) (ow114 hw) (rm_copyOf_1 l Z a0 hw hO [] a6 b1_ k1_ gl1 T20.heap O0 (fp12.keep K0) (fp13.keep K0 (ninS ne3 nin0)) (fp14.keep K0 (ninS ne3 nin0)) (fp15.keep K0 (ninS ne4 nin0)) (fp16.keep K0) (own_insKeep fp17 K0)) 0 2 3 (by show _ ≤ 10; omega) (by show _ ≤ 94; omega) (rfl : T20.heap = T20.heap) (g := (mkF m 34 #[rv a1, rv a2, rv a3, rv a4, rv w21, rv a6] [(.ref a6)])) rfl (by rw [hml]; rfl) [(.ref a6)] [] (lenOf own_pd_15 rfl) rfl rfl (hb hby d16_34)
  obtain ⟨w31, rfl, Nc36, Kc35, hb32, f33, f34⟩ := hQ30
  refine own_goW st30 ?_
  clear st30 X20
  replace N0 := Fr.app N0 Nc36
  clear Nc36
  have ne37 : a1 ≠ w31 := Nat.ne_of_lt (Nat.lt_of_lt_of_le fp0.lt hb32)
  have ne38 : w21 ≠ w31 := Nat.ne_of_lt (Nat.lt_of_lt_of_le f23.lt hb32)
  have big39 : Z.heap.size ≤ w31 := Nat.le_trans O0.1 hb32
  have sz40 : h0.size ≤ w31 := Nat.le_trans K0.1 hb32
  replace hS := own_since hS Kc35.1
  replace hJ := own_Jany hJ T30.heap
  replace fp0 := fp0.keep Kc35
  replace fp1 := fp1.keep Kc35 nin0
  replace fp2 := fp2.keep Kc35 nin0
  replace fp3 := fp3.keep Kc35 nin0
  replace fp4 := fp4.keep Kc35 nin0
  replace fp5 := fp5.keep Kc35 nin0
  replace f23 := f23.keep Kc35
  replace f24 := f24.keep Kc35 nin0
  replace O0 := own_oldKeep O0 Kc35 all0
  replace K0 := K0.trans Kc35 all0
  clear Kc35
  refine own_goW (fun _ k => XS.astore X30.here hx rfl (hb hby d16_37) rfl rfl (l' := #[rv a1, rv a2, rv a3, rv a4, rv w21, rv w31]) rfl k) ?_
  show own_GoW p e below s _ _ _ _ (T30.setTop (mkF m 39 #[rv a1, rv a2, rv a3, rv a4, rv w21, rv w31] []))
  refine own_goW (fun _ k => XS.aload X30.here hx rfl (hb hby d16_39) rfl rfl k) ?_
  obtain ⟨v41, T41, L41, X41, hQ41, st41⟩ := own_callF (xi := own_y34) (y := own_y29) X30 hx hZ hown (ow200 hw) (ow201 hw) (ow202 hw) (ow203 hw) (ow204 hw) (ow205 hw) (ow206 hw) (ow207 hw) (ow169 hw) (ow208 hw) (by decide) (rm_l12e l Z a0 hw hO [] w21 T30.heap O0) 0 0 0 (by show _ ≤ 10; omega) (by show _ ≤ 94; omega) (rfl : T30.heap = T30.heap) f23 (g := (mkF m 41 #[rv a1, rv a2, rv a3, rv a4, rv w21, rv w31] [(.ref w21)])) rfl (by rw [hml]; rfl) [] [] (lenOf own_pd_13 rfl) rfl rfl (hb hby d16_41)
  obtain ⟨rfl, Nc43, Kc42⟩ := hQ41
  refine own_goW st41 ?_
  clear st41 X30
  replace N0 := Fr.app N0 Nc43
  clear Nc43
  refine own_goW (fun _ k => XS.ifYes X41.here hx rfl (pc0 := 46) (pc' := 63) rfl (hb hby d16_46) rfl ((if0 _ _).trans (teq (by decide : (0 : Int32) = (0 : Int32))).1) (by decide) (by decide) (XS.aloadN X41.here hx rfl (hb hby d16_63) rfl rfl (XS.aloadN X41.here hx rfl (hb hby d16_64) rfl rfl k))) ?_
  show own_GoW p e below s _ _ _ _ (T41.setTop (mkF m 65 #[rv a1, rv a2, rv a3, rv a4, rv w21, rv w31] [(.ref a2), (.ref a1)]))
  obtain ⟨T44, h44, X44, e44, W44, st44⟩ := putF X41 hx hZ hown (host := "") (Or.inl (ow209 hw)) Via.refl Kc42 fp1 fp0 (Or.inr ⟨(ow210 hw), rfl, hnm⟩) (ow91 hw) (ty := (.object "java/lang/String")) own_fd6 rfl rfl (g := (mkF m 65 #[rv a1, rv a2, rv a3, rv a4, rv w21, rv w31] [(.ref a2), (.ref a1)])) rfl rfl (hb hby d16_65)
  refine own_goW st44 ?_
  clear st44 X41 Kc42
  replace N0 := Fr.snoc X44 N0 big_a1
  replace hJ := own_Jany hJ h44
  replace fp0 := fp0.wr W44
  replace fp1 := fp1.same W44
  replace fp2 := fp2.other W44 (.inr (own_sn5 hw))
  replace fp3 := fp3.other W44 (.inr (own_sn6 hw))
  replace fp4 := fp4.other W44 (.inr (own_sn7 hw))
  replace fp5 := fp5.other W44 (.inr (own_sn8 hw))
  replace f23 := f23.wr W44
  replace f24 := f24.other W44 (Or.inl ne27.symm)
  replace f33 := f33.wr W44
  replace f34 := f34.other W44 (Or.inl ne37.symm)
  replace O0 := own_oldWr O0 W44 big_a1
  replace K0 := K0.wr W44 (Or.inl (List.mem_of_getElem? (i := 0) rfl))
  replace hS := own_since hS (Nat.le_of_eq W44.size.symm)
  clear W44
  refine own_goW (fun _ k => XS.aloadN X44.here hx rfl (hb hby d16_68) rfl rfl (XS.aloadN X44.here hx rfl (hb hby d16_69) rfl rfl k)) ?_
  obtain ⟨T45, h45, X45, e45, W45, st45⟩ := putF X44 hx hZ hown (host := "") (Or.inl (ow211 hw)) Via.refl e44 fp2 fp0 (Or.inr ⟨(ow212 hw), rfl, hnm⟩) (ow91 hw) (ty := (.object "java/lang/String")) own_fd6 rfl rfl (g := (mkF m 70 #[rv a1, rv a2, rv a3, rv a4, rv w21, rv w31] [(.ref a3), (.ref a1)])) rfl rfl (hb hby d16_70)
  refine own_goW st45 ?_
  clear st45 X44 e44
  replace N0 := Fr.snoc X45 N0 big_a1
  replace hJ := own_Jany hJ h45
  replace fp0 := fp0.wr W45
  replace fp1 := fp1.other W45 (.inr (own_sn5 hw).symm)
  replace fp2 := fp2.same W45
  replace fp3 := fp3.other W45 (.inr (own_sn9 hw))
  replace fp4 := fp4.other W45 (.inr (own_sn10 hw))
  replace fp5 := fp5.other W45 (.inr (own_sn11 hw))
  replace f23 := f23.wr W45
  replace f24 := f24.other W45 (Or.inl ne27.symm)
  replace f33 := f33.wr W45
  replace f34 := f34.other W45 (Or.inl ne37.symm)
  replace O0 := own_oldWr O0 W45 big_a1
  replace K0 := K0.wr W45 (Or.inl (List.mem_of_getElem? (i := 0) rfl))
  replace hS := own_since hS (Nat.le_of_eq W45.size.symm)
  clear W45
  refine own_goW (fun _ k => XS.aloadN X45.here hx rfl (hb hby d16_73) rfl rfl k) ?_
  show own_GoW p e below s _ _ _ _ (T45.setTop (mkF m 74 #[rv a1, rv a2, rv a3, rv a4, rv w21, rv w31] [(.ref a1)]))
  refine own_goW (fun _ k => XS.aloadN X45.here hx rfl (hb hby d16_74) rfl rfl k) ?_
  obtain ⟨T46, h46, X46, e46, W46, st46⟩ := putF X45 hx hZ hown (host := "") (Or.inl (ow213 hw)) Via.refl e45 fp3 fp0 (Or.inr ⟨(ow214 hw), rfl, hnm⟩) (ow91 hw) (ty := (.object "java/lang/String")) own_fd6 rfl rfl (g := (mkF m 75 #[rv a1, rv a2, rv a3, rv a4, rv w21, rv w31] [(.ref a4), (.ref a1)])) rfl rfl (hb hby d16_75)
  refine own_goW st46 ?_
  clear st46 X45 e45
  replace N0 := Fr.snoc X46 N0 big_a1
  replace hJ := own_Jany hJ h46
  replace fp0 := fp0.wr W46
  replace fp1 := fp1.other W46 (.inr (own_sn6 hw).symm)
  replace fp2 := fp2.other W46 (.inr (own_sn9 hw).symm)
  replace fp3 := fp3.same W46
  replace fp4 := fp4.other W46 (.inr (own_sn12 hw))
  replace fp5 := fp5.other W46 (.inr (own_sn13 hw))
  replace f23 := f23.wr W46
  replace f24 := f24.other W46 (Or.inl ne27.symm)
  replace f33 := f33.wr W46
  replace f34 := f34.other W46 (Or.inl ne37.symm)
  replace O0 := own_oldWr O0 W46 big_a1
  replace K0 := K0.wr W46 (Or.inl (List.mem_of_getElem? (i := 0) rfl))
  replace hS := own_since hS (Nat.le_of_eq W46.size.symm)
  clear W46
  refine own_goW (fun _ k => XS.aloadN X46.here hx rfl (hb hby d16_78) rfl rfl (XS.aload X46.here hx rfl (hb hby d16_79) rfl rfl k)) ?_
  obtain ⟨T47, h47, X47, e47, W47, st47⟩ := putF X46 hx hZ hown (host := "") (Or.inl (ow215 hw)) Via.refl e46 fp4 fp0 (Or.inr ⟨(ow216 hw), rfl, hnm⟩) (ow91 hw) (ty := (.object "java/util/List")) own_fd7 rfl rfl (g := (mkF m 81 #[rv a1, rv a2, rv a3, rv a4, rv w21, rv w31] [(.ref w21), (.ref a1)])) rfl rfl (hb hby d16_81)
  refine own_goW st47 ?_
  clear st47 X46 e46
  replace N0 := Fr.snoc X47 N0 big_a1
  replace hJ := own_Jany hJ h47
  replace fp0 := fp0.wr W47
  replace fp1 := fp1.other W47 (.inr (own_sn7 hw).symm)
  replace fp2 := fp2.other W47 (.inr (own_sn10 hw).symm)
  replace fp3 := fp3.other W47 (.inr (own_sn12 hw).symm)
  replace fp4 := fp4.same W47
  replace fp5 := fp5.other W47 (.inr (own_sn14 hw))
  replace f23 := f23.wr W47
  replace f24 := f24.other W47 (Or.inl ne27.symm)
  replace f33 := f33.wr W47
  replace f34 := f34.other W47 (Or.inl ne37.symm)
  replace O0 := own_oldWr O0 W47 big_a1
  replace K0 := K0.wr W47 (Or.inl (List.mem_of_getElem? (i := 0) rfl))
  replace hS := own_since hS (Nat.le_of_eq W47.size.symm)
  clear W47
  show own_GoW p e below s _ _ _ _ (T47.setTop (mkF m 84 #[rv a1, rv a2, rv a3, rv a4, rv w21, rv w31] []))
  refine own_goW (fun _ k => XS.aloadN X47.here hx rfl (hb hby d16_84) rfl rfl (XS.aload X47.here hx rfl (hb hby d16_85) rfl rfl k)) ?_
  obtain ⟨T48, h48, X48, e48, W48, st48⟩ := putF X47 hx hZ hown (host := "") (Or.inl (ow217 hw)) Via.refl e47 fp5 fp0 (Or.inr ⟨(ow218 hw), rfl, hnm⟩) (ow91 hw) (ty := (.object "java/util/List")) own_fd7 rfl rfl (g := (mkF m 87 #[rv a1, rv a2, rv a3, rv a4, rv w21, rv w31] [(.ref w31), (.ref a1)])) rfl rfl (hb hby d16_87)
  refine own_goW st48 ?_
  clear st48 X47 e47
  replace N0 := Fr.snoc X48 N0 big_a1
  replace hJ := own_Jany hJ h48
  replace fp0 := fp0.wr W48
  replace fp1 := fp1.other W48 (.inr (own_sn8 hw).symm)
  replace fp2 := fp2.other W48 (.inr (own_sn11 hw).symm)
  replace fp3 := fp3.other W48 (.inr (own_sn13 hw).symm)
  replace fp4 := fp4.other W48 (.inr (own_sn14 hw).symm)
  replace fp5 := fp5.same W48
  replace f23 := f23.wr W48
  replace f24 := f24.other W48 (Or.inl ne27.symm)
  replace f33 := f33.wr W48
  replace f34 := f34.other W48 (Or.inl ne37.symm)
  replace O0 := own_oldWr O0 W48 big_a1
  replace K0 := K0.wr W48 (Or.inl (List.mem_of_getElem? (i := 0) rfl))
  replace hS := own_since hS (Nat.le_of_eq W48.size.symm)
  clear W48
  show own_GoW p e below s _ _ _ _ (T48.setTop (mkF m 90 #[rv a1, rv a2, rv a3, rv a4, rv w21, rv w31] []))
  refine own_retVW X48 hS hL hZ hJ hx hlk e48 hret (hb hby d16_90) (by show _ ≤ 10; omega) (by show _ ≤ 94; omega) ?_
  exact ⟨w21, rfl, N0, K0, fp0, fp4, f23, f24⟩
def Q_dim_2_0 (Z : State) (zc : Int32) (wd : Addr) (kd : ClassId) (wl : Addr) (we : Addr) (ke : ClassId) (weo : Addr) (wmo : Addr) (a1 : Addr) (a2 : Addr) (a3 : Addr) (a4 : Addr) (a5 : Addr) (a6 : Addr) (b0 : Addr) (k0 : ClassId) (el1 : Addr) (el2 : Addr) (h0 : Heap) (v : Option Value) (h : Heap) (L : List Loc) : Prop := (∃ b : Addr, v = none ∧ Fr Z.heap.size L ∧ Keep h0 h [a1] ∧ Exa Z h a1 "com/example/ibex/ibex/model/Dimension" ∧ Fld Z h a1 "com/example/ibex/ibex/model/Dimension" "levels" "Ljava/util/List;" (.ref b) ∧ Exa Z h b "java/util/ImmutableCollections$List12" ∧ Fld Z h b "java/util/ImmutableCollections$List12" "e0" "Ljava/lang/Object;" (.ref el1))
theorem ef_dim_2_0 (m : MethodId) (x0 : Addr) (x1 : Addr) (x2 : Addr) (x3 : Addr) (x4 : Addr) (x5 : Addr) : entryFrame m #[(.ref x0), (.ref x1), (.ref x2), (.ref x3), (.ref x4), (.ref x5)] 6 = mkF m 0 #[rv x0, rv x1, rv x2, rv x3, rv x4, rv x5] [] := by first | (simp [entryFrame, mkF, argsToLocals, Value.category]; done) | rfl
set_option maxRecDepth 65536 in
set_option maxHeartbeats 40000000 in
theorem rm_dim_2_0 (l : Launch) (Z : State) (a0 : Array Value) (hw : own_W Z a0) {zc : Int32} {wd : Addr} {kd : ClassId} {wl : Addr} {we : Addr} {ke : ClassId} {weo : Addr} {wmo : Addr} (hO : own_Olds Z zc wd kd wl we ke weo wmo) (ws : List Jvm.Cond) (a1 : Addr) (a2 : Addr) (a3 : Addr) (a4 : Addr) (a5 : Addr) (a6 : Addr) (b0 : Addr) (k0 : ClassId) (el1 : Addr) (el2 : Addr) (h0 : Heap) (O0 : Ext Z.heap h0) (fp0 : Exa Z h0 a1 "com/example/ibex/ibex/model/Dimension") (fp1 : Fld Z h0 a1 "com/example/ibex/ibex/model/Dimension" "name" "Ljava/lang/String;" .null) (fp2 : Fld Z h0 a1 "com/example/ibex/ibex/model/Dimension" "table" "Ljava/lang/String;" .null) (fp3 : Fld Z h0 a1 "com/example/ibex/ibex/model/Dimension" "foreignKey" "Ljava/lang/String;" .null) (fp4 : Fld Z h0 a1 "com/example/ibex/ibex/model/Dimension" "levels" "Ljava/util/List;" .null) (fp5 : Fld Z h0 a1 "com/example/ibex/ibex/model/Dimension" "attributes" "Ljava/util/List;" .null) (fp6 : Exa Z h0 a5 "java/util/ArrayList") (fp7 : Fld Z h0 a5 "java/util/ArrayList" "size" "I" (.int (2 : Int32))) (fp8 : Fld Z h0 a5 "java/util/ArrayList" "elementData" "[Ljava/lang/Object;" (.ref b0)) (fp9 : Arv Z h0 b0 k0 (.object "java/lang/Object") (10 : Int32) [(.ref el1), (.ref el2), .null, .null, .null, .null, .null, .null, .null, .null] .null) (fp10 : Exa Z h0 b0 "[Ljava/lang/Object;") (fp11 : Ins Z h0 el1 "java/lang/Object" true) (fp12 : Ins Z h0 el2 "java/lang/Object" true) (fp13 : Exa Z h0 a6 "java/util/ArrayList") (fp14 : Fld Z h0 a6 "java/util/ArrayList" "size" "I" (.int (0 : Int32))) (big_a1 : Z.heap.size ≤ a1) :
    MetFree l own_y35 (head1 (Jvm.Cond.code own_y35 prog_71_method_1_code 6 none :: ws) ({ frames := 8, cells := 8, slots := 92, locals := 101 } : Room)) (fun a U => a = #[(.ref a1), (.ref a2), (.ref a3), (.ref a4), (.ref a5), (.ref a6)] ∧ Z.Warmed39 U.vm ∧ U.heap = h0 ∧ own_J Z U.vm U.heap) (fun _ _ _ _ _ => True) (fun _ U o U' => ∃ v L, o = .returned v ∧ ((Q_dim_2_0 Z zc wd kd wl we ke weo wmo a1 a2 a3 a4 a5 a6 b0 k0 el1 el2 h0) v U'.heap L ∧ own_J Z U'.vm U'.heap) ∧ ReturnedEndW U o U' L ({ frames := 8, cells := 8, slots := 92, locals := 101 } : Room).cells ({ frames := 8, cells := 8, slots := 92, locals := 101 } : Room).slots) := by
  refine own_metW (Q := (Q_dim_2_0 Z zc wd kd wl we ke weo wmo a1 a2 a3 a4 a5 a6 b0 k0 el1 el2 h0)) _ _ (plainFor_of_name own_pn_13) ?_
  intro p e s vm0 m below meth c T X0 hS hJ hJ0 hZ0 hI hs0 hx hby hml hret hlk hZ hown hnm e0
  replace hown : (s.setVm vm0).vm.findClass "com/example/ibex/ibex/model/Dimension" = some m.cls := hown
  replace hnm : meth.name = "<init>" := hnm
  have hml : c.maxLocals = 6 := hml
  obtain ⟨oCS, oCz, oDE, oDV, oEL, oLE, oLF, oLV, oEM, oMir⟩ := id hO
  have N0 := Fr.nil Z.heap.size
  have hL := own_Lhw hw
  have K0 := Keep.refl h0 [a1]
  refine own_goW (fun _ k => castTop (ef_dim_2_0 m a1 a2 a3 a4 a5 a6) k) ?_
  have ne1 : a5 ≠ a1 := (ne_exa fp6 fp0 (by decide))
  have ne2 : b0 ≠ a1 := (ne_exa fp10 fp0 (by decide))
  have ne3 : a6 ≠ a1 := (ne_exa fp13 fp0 (by decide))
  show own_GoW p e below s _ _ _ _ (T.setTop (mkF m 0 #[rv a1, rv a2, rv a3, rv a4, rv a5, rv a6] []))
  refine own_goW (fun _ k => XS.aloadN X0.here hx rfl (hb hby d16_0) rfl rfl k) ?_
  obtain ⟨v4, T4, L4, X4, hQ4, st4⟩ := own_callI (y := own_y33) X0 hx hZ hown (ow96 hw) (ow97 hw) (ow99 hw) (ow100 hw) (rm_recinit l Z a0 hw hO [] a1 h0 O0) 0 0 0 rfl (by show _ ≤ 8; omega) (by show _ ≤ 92; omega) e0 (g := (mkF m 1 #[rv a1, rv a2, rv a3, rv a4, rv a5, rv a6] [(.ref a1)])) rfl (by rw [hml]; rfl) a1 [] [] (lenOf own_pd_0 rfl) rfl rfl (hb hby d16_1)
  obtain ⟨rfl, Nc6, Kc5⟩ := hQ4
  refine own_goW st4 ?_
  clear st4 X0 e0
  replace N0 := Fr.app N0 Nc6
  clear Nc6
  refine own_goW (fun _ k => XS.aloadN X4.here hx rfl (hb hby d16_4) rfl rfl k) ?_
  obtain ⟨b7, T7, h7, k7, X7, e7, E7, hSn, hkn, hZn, hownn, st7⟩ := ldcS X4 hx hZ hown (ow102 hw) (own_wS hw) Kc5 hS (Nat.le_refl _) (g := (mkF m 5 #[rv a1, rv a2, rv a3, rv a4, rv a5, rv a6] [(.ref a2)])) rfl (hb hby d16_5) (n := 16) (by decide) (by decide) (by show _ ≤ 8; omega) (by show _ ≤ 92; omega)
  refine own_goW st7 ?_
  clear st7 
  replace hS := own_since hSn hkn
  replace hZ := hZn
  replace hown := hownn
  replace hJ : own_J Z T7.vm h7 := trivial
  clear hSn hZn hownn
  replace fp0 := fp0.ext E7
  replace fp1 := fp1.ext E7
  replace fp2 := fp2.ext E7
  replace fp3 := fp3.ext E7
  replace fp4 := fp4.ext E7
  replace fp5 := fp5.ext E7
  replace O0 := own_oldExt O0 E7
  replace K0 := K0.ext E7
  clear E7
  obtain ⟨v8, T8, L8, X8, hQ8, st8⟩ := own_callS (y := own_y12) X7 hx hZ hown (ow105 hw) (ow106 hw) (ow107 hw) (ow108 hw) (rm_rnn2 l Z a0 hw hO [] a2 b7 h7 O0) 0 0 0 (by show _ ≤ 8; omega) (by show _ ≤ 92; omega) e7 (g := (mkF m 7 #[rv a1, rv a2, rv a3, rv a4, rv a5, rv a6] [(.ref b7), (.ref a2)])) rfl (by rw [hml]; rfl) [(.ref a2), (.ref b7)] [] (lenOf own_pd_16 rfl) rfl rfl (hb hby d16_7)
  obtain ⟨rfl, Nc10, Kc9⟩ := hQ8
  refine own_goW st8 ?_
  clear st8 X7 e7
  replace N0 := Fr.app N0 Nc10
  clear Nc10
  show own_GoW p e below s _ _ _ _ (T8.setTop (mkF m 10 #[rv a1, rv a2, rv a3, rv a4, rv a5, rv a6] [(.ref a2)]))
  refine own_goW (fun _ k => XS.pop X8.here hx rfl (hb hby d16_10) rfl rfl (XS.aloadN X8.here hx rfl (hb hby d16_11) rfl rfl k)) ?_
  obtain ⟨b11, T11, h11, k11, X11, e11, E11, hSn, hkn, hZn, hownn, st11⟩ := ldcS X8 hx hZ hown (ow109 hw) (own_wS hw) Kc9 hS (Nat.le_refl _) (g := (mkF m 12 #[rv a1, rv a2, rv a3, rv a4, rv a5, rv a6] [(.ref a3)])) rfl (hb hby d16_12) (n := 20) (by decide) (by decide) (by show _ ≤ 8; omega) (by show _ ≤ 92; omega)
  refine own_goW st11 ?_
  clear st11 
  replace hS := own_since hSn hkn
  replace hZ := hZn
  replace hown := hownn
  replace hJ : own_J Z T11.vm h11 := trivial
  clear hSn hZn hownn
  replace fp0 := fp0.ext E11
  replace fp1 := fp1.ext E11
  replace fp2 := fp2.ext E11
  replace fp3 := fp3.ext E11
  replace fp4 := fp4.ext E11
  replace fp5 := fp5.ext E11
  replace O0 := own_oldExt O0 E11
  replace K0 := K0.ext E11
  clear E11
  obtain ⟨v12, T12, L12, X12, hQ12, st12⟩ := own_callS (y := own_y12) X11 hx hZ hown (ow105 hw) (ow106 hw) (ow107 hw) (ow108 hw) (rm_rnn2 l Z a0 hw hO [] a3 b11 h11 O0) 0 0 0 (by show _ ≤ 8; omega) (by show _ ≤ 92; omega) e11 (g := (mkF m 14 #[rv a1, rv a2, rv a3, rv a4, rv a5, rv a6] [(.ref b11), (.ref a3)])) rfl (by rw [hml]; rfl) [(.ref a3), (.ref b11)] [] (lenOf own_pd_16 rfl) rfl rfl (hb hby d16_14)
  obtain ⟨rfl, Nc14, Kc13⟩ := hQ12
  refine own_goW st12 ?_
  clear st12 X11 e11
  replace N0 := Fr.app N0 Nc14
  clear Nc14
  refine own_goW (fun _ k => XS.pop X12.here hx rfl (hb hby d16_17) rfl rfl k) ?_
  show own_GoW p e below s _ _ _ _ (T12.setTop (mkF m 18 #[rv a1, rv a2, rv a3, rv a4, rv a5, rv a6] []))
  refine own_goW (fun _ k => XS.aloadN X12.here hx rfl (hb hby d16_18) rfl rfl k) ?_
  obtain ⟨b15, T15, h15, k15, X15, e15, E15, hSn, hkn, hZn, hownn, st15⟩ := ldcS X12 hx hZ hown (ow110 hw) (own_wS hw) Kc13 hS (Nat.le_refl _) (g := (mkF m 19 #[rv a1, rv a2, rv a3, rv a4, rv a5, rv a6] [(.ref a4)])) rfl (hb hby d16_19) (n := 40) (by decide) (by decide) (by show _ ≤ 8; omega) (by show _ ≤ 92; omega)
  refine own_goW st15 ?_
  clear st15 
  replace hS := own_since hSn hkn
  replace hZ := hZn
  replace hown := hownn
  replace hJ : own_J Z T15.vm h15 := trivial
  clear hSn hZn hownn
  replace fp0 := fp0.ext E15
  replace fp1 := fp1.ext E15
  replace fp2 := fp2.ext E15
  replace fp3 := fp3.ext E15
  replace fp4 := fp4.ext E15
  replace fp5 := fp5.ext E15
  replace O0 := own_oldExt O0 E15
  replace K0 := K0.ext E15
  clear E15
  obtain ⟨v16, T16, L16, X16, hQ16, st16⟩ := own_callS (y := own_y12) X15 hx hZ hown (ow105 hw) (ow106 hw) (ow107 hw) (ow108 hw) (rm_rnn2 l Z a0 hw hO [] a4 b15 h15 O0) 0 0 0 (by show _ ≤ 8; omega) (by show _ ≤ 92; omega) e15 (g := (mkF m 21 #[rv a1, rv a2, rv a3, rv a4, rv a5, rv a6] [(.ref b15), (.ref a4)])) rfl (by rw [hml]; rfl) [(.ref a4), (.ref b15)] [] (lenOf own_pd_16 rfl) rfl rfl (hb hby d16_21)
  obtain ⟨rfl, Nc18, Kc17⟩ := hQ16
  refine own_goW st16 ?_
  clear st16 X15 e15
  replace N0 := Fr.app N0 Nc18
  clear Nc18
  refine own_goW (fun _ k => XS.pop X16.here hx rfl (hb hby d16_24) rfl rfl (XS.aload X16.here hx rfl (hb hby d16_25) rfl rfl k)) ?_
  show own_GoW p e below s _ _ _ _ (T16.setTop (mkF m 27 #[rv a1, rv a2, rv a3, rv a4, rv a5, rv a6] [(.ref a5)]))
  obtain ⟨v19, T19, L19, X19, hQ19, st19⟩ := own_callS (y := own_y27) X16 hx hZ hown (ow111 hw) (ow112 hw) (ow113 hw) (ow114 hw) (rm_copyOf_2 l Z a0 hw hO [] a5 b0 k0 el1 el2 h15 O0 (fp6.keep K0) (fp7.keep K0 (ninS ne1 nin0)) (fp8.keep K0 (ninS ne1 nin0)) (fp9.keep K0 (ninS ne2 nin0)) (fp10.keep K0) (own_insKeep fp11 K0) (own_insKeep fp12 K0)) 0 2 4 (by show _ ≤ 8; omega) (by show _ ≤ 92; omega) Kc17 (g := (mkF m 27 #[rv a1, rv a2, rv a3, rv a4, rv a5, rv a6] [(.ref a5)])) rfl (by rw [hml]; rfl) [(.ref a5)] [] (lenOf own_pd_15 rfl) rfl rfl (hb hby d16_27)
  obtain ⟨w20, rfl, Nc25, Kc24, hb21, f22, f23⟩ := hQ19
  refine own_goW st19 ?_
  clear st19 X16 Kc17
  replace N0 := Fr.app N0 Nc25
  clear Nc25
  have ne26 : a1 ≠ w20 := Nat.ne_of_lt (Nat.lt_of_lt_of_le fp0.lt hb21)
  have big27 : Z.heap.size ≤ w20 := Nat.le_trans O0.1 hb21
  have sz28 : h0.size ≤ w20 := Nat.le_trans K0.1 hb21
  replace hS := own_since hS Kc24.1
  replace hJ := own_Jany hJ T19.heap
  replace fp0 := fp0.keep Kc24
  replace fp1 := fp1.keep Kc24 nin0
  replace fp2 := fp2.keep Kc24 nin0
  replace fp3 := fp3.keep Kc24 nin0
  replace fp4 := fp4.keep Kc24 nin0
  replace fp5 := fp5.keep Kc24 nin0
  replace O0 := own_oldKeep O0 Kc24 all0
  replace K0 := K0.trans Kc24 all0
  clear Kc24
  refine own_goW (fun _ k => XS.astore X19.here hx rfl (hb hby d16_30) rfl rfl (l' := #[rv a1, rv a2, rv a3, rv a4, rv w20, rv a6]) rfl (XS.aload X19.here hx rfl (hb hby d16_32) rfl rfl k)) ?_
  obtain ⟨v29, T29, L29, X29, hQ29, st29⟩ := own_callS (y := own_y27) X19 hx hZ hown (ow111 hw) (ow112 hw) (ow113 hw) (ow114 hw) (rm_copyOf_0 l Z a0 hw hO [] a6 T19.heap O0 (fp13.keep K0) (fp14.keep K0 (ninS ne3 nin0))) 0 0 0 (by show _ ≤ 8; omega) (by show _ ≤ 92; omega) (rfl : T19.heap = T19.heap) (g := (mkF m 34 #[rv a1, rv a2, rv a3, rv a4, rv w20, rv a6] [(.ref a6)])) rfl (by rw [hml]; rfl) [(.ref a6)] [] (lenOf own_pd_15 rfl) rfl rfl (hb hby d16_34)
  obtain ⟨rfl, Nc31, Kc30⟩ := hQ29
  refine own_goW st29 ?_
  clear st29 X19
  replace N0 := Fr.app N0 Nc31
  clear Nc31
  refine own_goW (fun _ k => XS.astore X29.here hx rfl (hb hby d16_37) rfl rfl (l' := #[rv a1, rv a2, rv a3, rv a4, rv w20, rv wl]) rfl k) ?_
  show own_GoW p e below s _ _ _ _ (T29.setTop (mkF m 39 #[rv a1, rv a2, rv a3, rv a4, rv w20, rv wl] []))
  refine own_goW (fun _ k => XS.aload X29.here hx rfl (hb hby d16_39) rfl rfl k) ?_
  obtain ⟨v32, T32, L32, X32, hQ32, st32⟩ := own_callF (xi := own_y34) (y := own_y29) X29 hx hZ hown (ow200 hw) (ow201 hw) (ow202 hw) (ow203 hw) (ow204 hw) (ow205 hw) (ow206 hw) (ow207 hw) (ow169 hw) (ow208 hw) (by decide) (rm_l12e l Z a0 hw hO [] w20 T19.heap O0) 0 0 0 (by show _ ≤ 8; omega) (by show _ ≤ 92; omega) Kc30 f22 (g := (mkF m 41 #[rv a1, rv a2, rv a3, rv a4, rv w20, rv wl] [(.ref w20)])) rfl (by rw [hml]; rfl) [] [] (lenOf own_pd_13 rfl) rfl rfl (hb hby d16_41)
  obtain ⟨rfl, Nc34, Kc33⟩ := hQ32
  refine own_goW st32 ?_
  clear st32 X29 Kc30
  replace N0 := Fr.app N0 Nc34
  clear Nc34
  refine own_goW (fun _ k => XS.ifYes X32.here hx rfl (pc0 := 46) (pc' := 63) rfl (hb hby d16_46) rfl ((if0 _ _).trans (teq (by decide : (0 : Int32) = (0 : Int32))).1) (by decide) (by decide) (XS.aloadN X32.here hx rfl (hb hby d16_63) rfl rfl (XS.aloadN X32.here hx rfl (hb hby d16_64) rfl rfl k))) ?_
  show own_GoW p e below s _ _ _ _ (T32.setTop (mkF m 65 #[rv a1, rv a2, rv a3, rv a4, rv w20, rv wl] [(.ref a2), (.ref a1)]))
  obtain ⟨T35, h35, X35, e35, W35, st35⟩ := putF X32 hx hZ hown (host := "") (Or.inl (ow209 hw)) Via.refl Kc33 fp1 fp0 (Or.inr ⟨(ow210 hw), rfl, hnm⟩) (ow91 hw) (ty := (.object "java/lang/String")) own_fd6 rfl rfl (g := (mkF m 65 #[rv a1, rv a2, rv a3, rv a4, rv w20, rv wl] [(.ref a2), (.ref a1)])) rfl rfl (hb hby d16_65)
  refine own_goW st35 ?_
  clear st35 X32 Kc33
  replace N0 := Fr.snoc X35 N0 big_a1
  replace hJ := own_Jany hJ h35
  replace fp0 := fp0.wr W35
  replace fp1 := fp1.same W35
  replace fp2 := fp2.other W35 (.inr (own_sn5 hw))
  replace fp3 := fp3.other W35 (.inr (own_sn6 hw))
  replace fp4 := fp4.other W35 (.inr (own_sn7 hw))
  replace fp5 := fp5.other W35 (.inr (own_sn8 hw))
  replace f22 := f22.wr W35
  replace f23 := f23.other W35 (Or.inl ne26.symm)
  replace O0 := own_oldWr O0 W35 big_a1
  replace K0 := K0.wr W35 (Or.inl (List.mem_of_getElem? (i := 0) rfl))
  replace hS := own_since hS (Nat.le_of_eq W35.size.symm)
  clear W35
  refine own_goW (fun _ k => XS.aloadN X35.here hx rfl (hb hby d16_68) rfl rfl (XS.aloadN X35.here hx rfl (hb hby d16_69) rfl rfl k)) ?_
  obtain ⟨T36, h36, X36, e36, W36, st36⟩ := putF X35 hx hZ hown (host := "") (Or.inl (ow211 hw)) Via.refl e35 fp2 fp0 (Or.inr ⟨(ow212 hw), rfl, hnm⟩) (ow91 hw) (ty := (.object "java/lang/String")) own_fd6 rfl rfl (g := (mkF m 70 #[rv a1, rv a2, rv a3, rv a4, rv w20, rv wl] [(.ref a3), (.ref a1)])) rfl rfl (hb hby d16_70)
  refine own_goW st36 ?_
  clear st36 X35 e35
  replace N0 := Fr.snoc X36 N0 big_a1
  replace hJ := own_Jany hJ h36
  replace fp0 := fp0.wr W36
  replace fp1 := fp1.other W36 (.inr (own_sn5 hw).symm)
  replace fp2 := fp2.same W36
  replace fp3 := fp3.other W36 (.inr (own_sn9 hw))
  replace fp4 := fp4.other W36 (.inr (own_sn10 hw))
  replace fp5 := fp5.other W36 (.inr (own_sn11 hw))
  replace f22 := f22.wr W36
  replace f23 := f23.other W36 (Or.inl ne26.symm)
  replace O0 := own_oldWr O0 W36 big_a1
  replace K0 := K0.wr W36 (Or.inl (List.mem_of_getElem? (i := 0) rfl))
  replace hS := own_since hS (Nat.le_of_eq W36.size.symm)
  clear W36
  refine own_goW (fun _ k => XS.aloadN X36.here hx rfl (hb hby d16_73) rfl rfl k) ?_
  show own_GoW p e below s _ _ _ _ (T36.setTop (mkF m 74 #[rv a1, rv a2, rv a3, rv a4, rv w20, rv wl] [(.ref a1)]))
  refine own_goW (fun _ k => XS.aloadN X36.here hx rfl (hb hby d16_74) rfl rfl k) ?_
  obtain ⟨T37, h37, X37, e37, W37, st37⟩ := putF X36 hx hZ hown (host := "") (Or.inl (ow213 hw)) Via.refl e36 fp3 fp0 (Or.inr ⟨(ow214 hw), rfl, hnm⟩) (ow91 hw) (ty := (.object "java/lang/String")) own_fd6 rfl rfl (g := (mkF m 75 #[rv a1, rv a2, rv a3, rv a4, rv w20, rv wl] [(.ref a4), (.ref a1)])) rfl rfl (hb hby d16_75)
  refine own_goW st37 ?_
  clear st37 X36 e36
  replace N0 := Fr.snoc X37 N0 big_a1
  replace hJ := own_Jany hJ h37
  replace fp0 := fp0.wr W37
  replace fp1 := fp1.other W37 (.inr (own_sn6 hw).symm)
  replace fp2 := fp2.other W37 (.inr (own_sn9 hw).symm)
  replace fp3 := fp3.same W37
  replace fp4 := fp4.other W37 (.inr (own_sn12 hw))
  replace fp5 := fp5.other W37 (.inr (own_sn13 hw))
  replace f22 := f22.wr W37
  replace f23 := f23.other W37 (Or.inl ne26.symm)
  replace O0 := own_oldWr O0 W37 big_a1
  replace K0 := K0.wr W37 (Or.inl (List.mem_of_getElem? (i := 0) rfl))
  replace hS := own_since hS (Nat.le_of_eq W37.size.symm)
  clear W37
  refine own_goW (fun _ k => XS.aloadN X37.here hx rfl (hb hby d16_78) rfl rfl (XS.aload X37.here hx rfl (hb hby d16_79) rfl rfl k)) ?_
  obtain ⟨T38, h38, X38, e38, W38, st38⟩ := putF X37 hx hZ hown (host := "") (Or.inl (ow215 hw)) Via.refl e37 fp4 fp0 (Or.inr ⟨(ow216 hw), rfl, hnm⟩) (ow91 hw) (ty := (.object "java/util/List")) own_fd7 rfl rfl (g := (mkF m 81 #[rv a1, rv a2, rv a3, rv a4, rv w20, rv wl] [(.ref w20), (.ref a1)])) rfl rfl (hb hby d16_81)
  refine own_goW st38 ?_
  clear st38 X37 e37
  replace N0 := Fr.snoc X38 N0 big_a1
  replace hJ := own_Jany hJ h38
  replace fp0 := fp0.wr W38
  replace fp1 := fp1.other W38 (.inr (own_sn7 hw).symm)
  replace fp2 := fp2.other W38 (.inr (own_sn10 hw).symm)
  replace fp3 := fp3.other W38 (.inr (own_sn12 hw).symm)
  replace fp4 := fp4.same W38
  replace fp5 := fp5.other W38 (.inr (own_sn14 hw))
  replace f22 := f22.wr W38
  replace f23 := f23.other W38 (Or.inl ne26.symm)
  replace O0 := own_oldWr O0 W38 big_a1
  replace K0 := K0.wr W38 (Or.inl (List.mem_of_getElem? (i := 0) rfl))
  replace hS := own_since hS (Nat.le_of_eq W38.size.symm)
  clear W38
  show own_GoW p e below s _ _ _ _ (T38.setTop (mkF m 84 #[rv a1, rv a2, rv a3, rv a4, rv w20, rv wl] []))
  refine own_goW (fun _ k => XS.aloadN X38.here hx rfl (hb hby d16_84) rfl rfl (XS.aload X38.here hx rfl (hb hby d16_85) rfl rfl k)) ?_
  obtain ⟨T39, h39, X39, e39, W39, st39⟩ := putF X38 hx hZ hown (host := "") (Or.inl (ow217 hw)) Via.refl e38 fp5 fp0 (Or.inr ⟨(ow218 hw), rfl, hnm⟩) (ow91 hw) (ty := (.object "java/util/List")) own_fd7 rfl rfl (g := (mkF m 87 #[rv a1, rv a2, rv a3, rv a4, rv w20, rv wl] [(.ref wl), (.ref a1)])) rfl rfl (hb hby d16_87)
  refine own_goW st39 ?_
  clear st39 X38 e38
  replace N0 := Fr.snoc X39 N0 big_a1
  replace hJ := own_Jany hJ h39
  replace fp0 := fp0.wr W39
  replace fp1 := fp1.other W39 (.inr (own_sn8 hw).symm)
  replace fp2 := fp2.other W39 (.inr (own_sn11 hw).symm)
  replace fp3 := fp3.other W39 (.inr (own_sn13 hw).symm)
  replace fp4 := fp4.other W39 (.inr (own_sn14 hw).symm)
  replace fp5 := fp5.same W39
  replace f22 := f22.wr W39
  replace f23 := f23.other W39 (Or.inl ne26.symm)
  replace O0 := own_oldWr O0 W39 big_a1
  replace K0 := K0.wr W39 (Or.inl (List.mem_of_getElem? (i := 0) rfl))
  replace hS := own_since hS (Nat.le_of_eq W39.size.symm)
  clear W39
  show own_GoW p e below s _ _ _ _ (T39.setTop (mkF m 90 #[rv a1, rv a2, rv a3, rv a4, rv w20, rv wl] []))
  refine own_retVW X39 hS hL hZ hJ hx hlk e39 hret (hb hby d16_90) (by show _ ≤ 8; omega) (by show _ ≤ 92; omega) ?_
  exact ⟨w20, rfl, N0, K0, fp0, fp4, f22, f23⟩
def Q_dim_2_1 (Z : State) (zc : Int32) (wd : Addr) (kd : ClassId) (wl : Addr) (we : Addr) (ke : ClassId) (weo : Addr) (wmo : Addr) (a1 : Addr) (a2 : Addr) (a3 : Addr) (a4 : Addr) (a5 : Addr) (a6 : Addr) (b0 : Addr) (k0 : ClassId) (el1 : Addr) (el2 : Addr) (b1_ : Addr) (k1_ : ClassId) (gl1 : Addr) (h0 : Heap) (v : Option Value) (h : Heap) (L : List Loc) : Prop := (∃ b : Addr, v = none ∧ Fr Z.heap.size L ∧ Keep h0 h [a1] ∧ Exa Z h a1 "com/example/ibex/ibex/model/Dimension" ∧ Fld Z h a1 "com/example/ibex/ibex/model/Dimension" "levels" "Ljava/util/List;" (.ref b) ∧ Exa Z h b "java/util/ImmutableCollections$List12" ∧ Fld Z h b "java/util/ImmutableCollections$List12" "e0" "Ljava/lang/Object;" (.ref el1))
theorem ef_dim_2_1 (m : MethodId) (x0 : Addr) (x1 : Addr) (x2 : Addr) (x3 : Addr) (x4 : Addr) (x5 : Addr) : entryFrame m #[(.ref x0), (.ref x1), (.ref x2), (.ref x3), (.ref x4), (.ref x5)] 6 = mkF m 0 #[rv x0, rv x1, rv x2, rv x3, rv x4, rv x5] [] := by first | (simp [entryFrame, mkF, argsToLocals, Value.category]; done) | rfl
set_option maxRecDepth 65536 in
set_option maxHeartbeats 40000000 in
theorem rm_dim_2_1 (l : Launch) (Z : State) (a0 : Array Value) (hw : own_W Z a0) {zc : Int32} {wd : Addr} {kd : ClassId} {wl : Addr} {we : Addr} {ke : ClassId} {weo : Addr} {wmo : Addr} (hO : own_Olds Z zc wd kd wl we ke weo wmo) (ws : List Jvm.Cond) (a1 : Addr) (a2 : Addr) (a3 : Addr) (a4 : Addr) (a5 : Addr) (a6 : Addr) (b0 : Addr) (k0 : ClassId) (el1 : Addr) (el2 : Addr) (b1_ : Addr) (k1_ : ClassId) (gl1 : Addr) (h0 : Heap) (O0 : Ext Z.heap h0) (fp0 : Exa Z h0 a1 "com/example/ibex/ibex/model/Dimension") (fp1 : Fld Z h0 a1 "com/example/ibex/ibex/model/Dimension" "name" "Ljava/lang/String;" .null) (fp2 : Fld Z h0 a1 "com/example/ibex/ibex/model/Dimension" "table" "Ljava/lang/String;" .null) (fp3 : Fld Z h0 a1 "com/example/ibex/ibex/model/Dimension" "foreignKey" "Ljava/lang/String;" .null) (fp4 : Fld Z h0 a1 "com/example/ibex/ibex/model/Dimension" "levels" "Ljava/util/List;" .null) (fp5 : Fld Z h0 a1 "com/example/ibex/ibex/model/Dimension" "attributes" "Ljava/util/List;" .null) (fp6 : Exa Z h0 a5 "java/util/ArrayList") (fp7 : Fld Z h0 a5 "java/util/ArrayList" "size" "I" (.int (2 : Int32))) (fp8 : Fld Z h0 a5 "java/util/ArrayList" "elementData" "[Ljava/lang/Object;" (.ref b0)) (fp9 : Arv Z h0 b0 k0 (.object "java/lang/Object") (10 : Int32) [(.ref el1), (.ref el2), .null, .null, .null, .null, .null, .null, .null, .null] .null) (fp10 : Exa Z h0 b0 "[Ljava/lang/Object;") (fp11 : Ins Z h0 el1 "java/lang/Object" true) (fp12 : Ins Z h0 el2 "java/lang/Object" true) (fp13 : Exa Z h0 a6 "java/util/ArrayList") (fp14 : Fld Z h0 a6 "java/util/ArrayList" "size" "I" (.int (1 : Int32))) (fp15 : Fld Z h0 a6 "java/util/ArrayList" "elementData" "[Ljava/lang/Object;" (.ref b1_)) (fp16 : Arv Z h0 b1_ k1_ (.object "java/lang/Object") (10 : Int32) [(.ref gl1), .null, .null, .null, .null, .null, .null, .null, .null, .null] .null) (fp17 : Exa Z h0 b1_ "[Ljava/lang/Object;") (fp18 : Ins Z h0 gl1 "java/lang/Object" true) (big_a1 : Z.heap.size ≤ a1) :
    MetFree l own_y35 (head1 (Jvm.Cond.code own_y35 prog_71_method_1_code 6 none :: ws) ({ frames := 8, cells := 10, slots := 95, locals := 101 } : Room)) (fun a U => a = #[(.ref a1), (.ref a2), (.ref a3), (.ref a4), (.ref a5), (.ref a6)] ∧ Z.Warmed39 U.vm ∧ U.heap = h0 ∧ own_J Z U.vm U.heap) (fun _ _ _ _ _ => True) (fun _ U o U' => ∃ v L, o = .returned v ∧ ((Q_dim_2_1 Z zc wd kd wl we ke weo wmo a1 a2 a3 a4 a5 a6 b0 k0 el1 el2 b1_ k1_ gl1 h0) v U'.heap L ∧ own_J Z U'.vm U'.heap) ∧ ReturnedEndW U o U' L ({ frames := 8, cells := 10, slots := 95, locals := 101 } : Room).cells ({ frames := 8, cells := 10, slots := 95, locals := 101 } : Room).slots) := by
  refine own_metW (Q := (Q_dim_2_1 Z zc wd kd wl we ke weo wmo a1 a2 a3 a4 a5 a6 b0 k0 el1 el2 b1_ k1_ gl1 h0)) _ _ (plainFor_of_name own_pn_13) ?_
  intro p e s vm0 m below meth c T X0 hS hJ hJ0 hZ0 hI hs0 hx hby hml hret hlk hZ hown hnm e0
  replace hown : (s.setVm vm0).vm.findClass "com/example/ibex/ibex/model/Dimension" = some m.cls := hown
  replace hnm : meth.name = "<init>" := hnm
  have hml : c.maxLocals = 6 := hml
  obtain ⟨oCS, oCz, oDE, oDV, oEL, oLE, oLF, oLV, oEM, oMir⟩ := id hO
  have N0 := Fr.nil Z.heap.size
  have hL := own_Lhw hw
  have K0 := Keep.refl h0 [a1]
  refine own_goW (fun _ k => castTop (ef_dim_2_1 m a1 a2 a3 a4 a5 a6) k) ?_
  have ne1 : a5 ≠ a1 := (ne_exa fp6 fp0 (by decide))
  have ne2 : b0 ≠ a1 := (ne_exa fp10 fp0 (by decide))
  have ne3 : a6 ≠ a1 := (ne_exa fp13 fp0 (by decide))
  have ne4 : b1_ ≠ a1 := (ne_exa fp17 fp0 (by decide))
  show own_GoW p e below s _ _ _ _ (T.setTop (mkF m 0 #[rv a1, rv a2, rv a3, rv a4, rv a5, rv a6] []))
  refine own_goW (fun _ k => XS.aloadN X0.here hx rfl (hb hby d16_0) rfl rfl k) ?_
  obtain ⟨v5, T5, L5, X5, hQ5, st5⟩ := own_callI (y := own_y33) X0 hx hZ hown (ow96 hw) (ow97 hw) (ow99 hw) (ow100 hw) (rm_recinit l Z a0 hw hO [] a1 h0 O0) 0 0 0 rfl (by show _ ≤ 10; omega) (by show _ ≤ 95; omega) e0 (g := (mkF m 1 #[rv a1, rv a2, rv a3, rv a4, rv a5, rv a6] [(.ref a1)])) rfl (by rw [hml]; rfl) a1 [] [] (lenOf own_pd_0 rfl) rfl rfl (hb hby d16_1)
  obtain ⟨rfl, Nc7, Kc6⟩ := hQ5
  refine own_goW st5 ?_
  clear st5 X0 e0
  replace N0 := Fr.app N0 Nc7
  clear Nc7
  refine own_goW (fun _ k => XS.aloadN X5.here hx rfl (hb hby d16_4) rfl rfl k) ?_
  obtain ⟨b8, T8, h8, k8, X8, e8, E8, hSn, hkn, hZn, hownn, st8⟩ := ldcS X5 hx hZ hown (ow102 hw) (own_wS hw) Kc6 hS (Nat.le_refl _) (g := (mkF m 5 #[rv a1, rv a2, rv a3, rv a4, rv a5, rv a6] [(.ref a2)])) rfl (hb hby d16_5) (n := 16) (by decide) (by decide) (by show _ ≤ 10; omega) (by show _ ≤ 95; omega)
  refine own_goW st8 ?_
  clear st8 
  replace hS := own_since hSn hkn
  replace hZ := hZn
  replace hown := hownn
  replace hJ : own_J Z T8.vm h8 := trivial
  clear hSn hZn hownn
  replace fp0 := fp0.ext E8
  replace fp1 := fp1.ext E8
  replace fp2 := fp2.ext E8
  replace fp3 := fp3.ext E8
  replace fp4 := fp4.ext E8
  replace fp5 := fp5.ext E8
  replace O0 := own_oldExt O0 E8
  replace K0 := K0.ext E8
  clear E8
  obtain ⟨v9, T9, L9, X9, hQ9, st9⟩ := own_callS (y := own_y12) X8 hx hZ hown (ow105 hw) (ow106 hw) (ow107 hw) (ow108 hw) (rm_rnn2 l Z a0 hw hO [] a2 b8 h8 O0) 0 0 0 (by show _ ≤ 10; omega) (by show _ ≤ 95; omega) e8 (g := (mkF m 7 #[rv a1, rv a2, rv a3, rv a4, rv a5, rv a6] [(.ref b8), (.ref a2)])) rfl (by rw [hml]; rfl) [(.ref a2), (.ref b8)] [] (lenOf own_pd_16 rfl) rfl rfl (hb hby d16_7)
  obtain ⟨rfl, Nc11, Kc10⟩ := hQ9
  refine own_goW st9 ?_
  clear st9 X8 e8
  replace N0 := Fr.app N0 Nc11
  clear Nc11
  show own_GoW p e below s _ _ _ _ (T9.setTop (mkF m 10 #[rv a1, rv a2, rv a3, rv a4, rv a5, rv a6] [(.ref a2)]))
  refine own_goW (fun _ k => XS.pop X9.here hx rfl (hb hby d16_10) rfl rfl (XS.aloadN X9.here hx rfl (hb hby d16_11) rfl rfl k)) ?_
  obtain ⟨b12, T12, h12, k12, X12, e12, E12, hSn, hkn, hZn, hownn, st12⟩ := ldcS X9 hx hZ hown (ow109 hw) (own_wS hw) Kc10 hS (Nat.le_refl _) (g := (mkF m 12 #[rv a1, rv a2, rv a3, rv a4, rv a5, rv a6] [(.ref a3)])) rfl (hb hby d16_12) (n := 20) (by decide) (by decide) (by show _ ≤ 10; omega) (by show _ ≤ 95; omega)
  refine own_goW st12 ?_
  clear st12 
  replace hS := own_since hSn hkn
  replace hZ := hZn
  replace hown := hownn
  replace hJ : own_J Z T12.vm h12 := trivial
  clear hSn hZn hownn
  replace fp0 := fp0.ext E12
  replace fp1 := fp1.ext E12
  replace fp2 := fp2.ext E12
  replace fp3 := fp3.ext E12
  replace fp4 := fp4.ext E12
  replace fp5 := fp5.ext E12
  replace O0 := own_oldExt O0 E12
  replace K0 := K0.ext E12
  clear E12
  obtain ⟨v13, T13, L13, X13, hQ13, st13⟩ := own_callS (y := own_y12) X12 hx hZ hown (ow105 hw) (ow106 hw) (ow107 hw) (ow108 hw) (rm_rnn2 l Z a0 hw hO [] a3 b12 h12 O0) 0 0 0 (by show _ ≤ 10; omega) (by show _ ≤ 95; omega) e12 (g := (mkF m 14 #[rv a1, rv a2, rv a3, rv a4, rv a5, rv a6] [(.ref b12), (.ref a3)])) rfl (by rw [hml]; rfl) [(.ref a3), (.ref b12)] [] (lenOf own_pd_16 rfl) rfl rfl (hb hby d16_14)
  obtain ⟨rfl, Nc15, Kc14⟩ := hQ13
  refine own_goW st13 ?_
  clear st13 X12 e12
  replace N0 := Fr.app N0 Nc15
  clear Nc15
  refine own_goW (fun _ k => XS.pop X13.here hx rfl (hb hby d16_17) rfl rfl k) ?_
  show own_GoW p e below s _ _ _ _ (T13.setTop (mkF m 18 #[rv a1, rv a2, rv a3, rv a4, rv a5, rv a6] []))
  refine own_goW (fun _ k => XS.aloadN X13.here hx rfl (hb hby d16_18) rfl rfl k) ?_
  obtain ⟨b16, T16, h16, k16, X16, e16, E16, hSn, hkn, hZn, hownn, st16⟩ := ldcS X13 hx hZ hown (ow110 hw) (own_wS hw) Kc14 hS (Nat.le_refl _) (g := (mkF m 19 #[rv a1, rv a2, rv a3, rv a4, rv a5, rv a6] [(.ref a4)])) rfl (hb hby d16_19) (n := 40) (by decide) (by decide) (by show _ ≤ 10; omega) (by show _ ≤ 95; omega)
  refine own_goW st16 ?_
  clear st16 
  replace hS := own_since hSn hkn
  replace hZ := hZn
  replace hown := hownn
  replace hJ : own_J Z T16.vm h16 := trivial
  clear hSn hZn hownn
  replace fp0 := fp0.ext E16
  replace fp1 := fp1.ext E16
  replace fp2 := fp2.ext E16
  replace fp3 := fp3.ext E16
  replace fp4 := fp4.ext E16
  replace fp5 := fp5.ext E16
  replace O0 := own_oldExt O0 E16
  replace K0 := K0.ext E16
  clear E16
  obtain ⟨v17, T17, L17, X17, hQ17, st17⟩ := own_callS (y := own_y12) X16 hx hZ hown (ow105 hw) (ow106 hw) (ow107 hw) (ow108 hw) (rm_rnn2 l Z a0 hw hO [] a4 b16 h16 O0) 0 0 0 (by show _ ≤ 10; omega) (by show _ ≤ 95; omega) e16 (g := (mkF m 21 #[rv a1, rv a2, rv a3, rv a4, rv a5, rv a6] [(.ref b16), (.ref a4)])) rfl (by rw [hml]; rfl) [(.ref a4), (.ref b16)] [] (lenOf own_pd_16 rfl) rfl rfl (hb hby d16_21)
  obtain ⟨rfl, Nc19, Kc18⟩ := hQ17
  refine own_goW st17 ?_
  clear st17 X16 e16
  replace N0 := Fr.app N0 Nc19
  clear Nc19
  refine own_goW (fun _ k => XS.pop X17.here hx rfl (hb hby d16_24) rfl rfl (XS.aload X17.here hx rfl (hb hby d16_25) rfl rfl k)) ?_
  show own_GoW p e below s _ _ _ _ (T17.setTop (mkF m 27 #[rv a1, rv a2, rv a3, rv a4, rv a5, rv a6] [(.ref a5)]))
  obtain ⟨v20, T20, L20, X20, hQ20, st20⟩ := own_callS (y := own_y27) X17 hx hZ hown (ow111 hw) (ow112 hw) (ow113 hw) (ow114 hw) (rm_copyOf_2 l Z a0 hw hO [] a5 b0 k0 el1 el2 h16 O0 (fp6.keep K0) (fp7.keep K0 (ninS ne1 nin0)) (fp8.keep K0 (ninS ne1 nin0)) (fp9.keep K0 (ninS ne2 nin0)) (fp10.keep K0) (own_insKeep fp11 K0) (own_insKeep fp12 K0)) 0 2 4 (by show _ ≤ 10; omega) (by show _ ≤ 95; omega) Kc18 (g := (mkF m 27 #[rv a1, rv a2, rv a3, rv a4, rv a5, rv a6] [(.ref a5)])) rfl (by rw [hml]; rfl) [(.ref a5)] [] (lenOf own_pd_15 rfl) rfl rfl (hb hby d16_27)
  obtain ⟨w21, rfl, Nc26, Kc25, hb22, f23, f24⟩ := hQ20
  refine own_goW st20 ?_
  clear st20 X17 Kc18
  replace N0 := Fr.app N0 Nc26
  clear Nc26
  have ne27 : a1 ≠ w21 := Nat.ne_of_lt (Nat.lt_of_lt_of_le fp0.lt hb22)
  have big28 : Z.heap.size ≤ w21 := Nat.le_trans O0.1 hb22
  have sz29 : h0.size ≤ w21 := Nat.le_trans K0.1 hb22
  replace hS := own_since hS Kc25.1
  replace hJ := own_Jany hJ T20.heap
  replace fp0 := fp0.keep Kc25
  replace fp1 := fp1.keep Kc25 nin0
  replace fp2 := fp2.keep Kc25 nin0
  replace fp3 := fp3.keep Kc25 nin0
  replace fp4 := fp4.keep Kc25 nin0
  replace fp5 := fp5.keep Kc25 nin0
  replace O0 := own_oldKeep O0 Kc25 all0
  replace K0 := K0.trans Kc25 all0
  clear Kc25
  refine own_goW (fun _ k => XS.astore X20.here hx rfl (hb hby d16_30) rfl rfl (l' := #[rv a1, rv a2, rv a3, rv a4, rv w21, rv a6]) rfl (XS.aload X20.here hx rfl (hb hby d16_32) rfl rfl k)) ?_
  obtain ⟨v30, T30, L30, X30, hQ30, st30⟩ := own_callS (y := own_y27) X20 hx hZ hown (ow111 hw) (ow112 hw) (ow113 hw) (ow114 hw) (rm_copyOf_1 l Z a0 hw hO [] a6 b1_ k1_ gl1 T20.heap O0 (fp13.keep K0) (fp14.keep K0 (ninS ne3 nin0)) (fp15.keep K0 (ninS ne3 nin0)) (fp16.keep K0 (ninS ne4 nin0)) (fp17.keep K0) (own_insKeep fp18 K0)) 0 2 3 (by show _ ≤ 10; omega) (by show _ ≤ 95; omega) (rfl : T20.heap = T20.heap) (g := (mkF m 34 #[rv a1, rv a2, rv a3, rv a4, rv w21, rv a6] [(.ref a6)])) rfl (by rw [hml]; rfl) [(.ref a6)] [] (lenOf own_pd_15 rfl) rfl rfl (hb hby d16_34)
  obtain ⟨w31, rfl, Nc36, Kc35, hb32, f33, f34⟩ := hQ30
  refine own_goW st30 ?_
  clear st30 X20
  replace N0 := Fr.app N0 Nc36
  clear Nc36
  have ne37 : a1 ≠ w31 := Nat.ne_of_lt (Nat.lt_of_lt_of_le fp0.lt hb32)
  have ne38 : w21 ≠ w31 := Nat.ne_of_lt (Nat.lt_of_lt_of_le f23.lt hb32)
  have big39 : Z.heap.size ≤ w31 := Nat.le_trans O0.1 hb32
  have sz40 : h0.size ≤ w31 := Nat.le_trans K0.1 hb32
  replace hS := own_since hS Kc35.1
  replace hJ := own_Jany hJ T30.heap
  replace fp0 := fp0.keep Kc35
  replace fp1 := fp1.keep Kc35 nin0
  replace fp2 := fp2.keep Kc35 nin0
  replace fp3 := fp3.keep Kc35 nin0
  replace fp4 := fp4.keep Kc35 nin0
  replace fp5 := fp5.keep Kc35 nin0
  replace f23 := f23.keep Kc35
  replace f24 := f24.keep Kc35 nin0
  replace O0 := own_oldKeep O0 Kc35 all0
  replace K0 := K0.trans Kc35 all0
  clear Kc35
  refine own_goW (fun _ k => XS.astore X30.here hx rfl (hb hby d16_37) rfl rfl (l' := #[rv a1, rv a2, rv a3, rv a4, rv w21, rv w31]) rfl k) ?_
  show own_GoW p e below s _ _ _ _ (T30.setTop (mkF m 39 #[rv a1, rv a2, rv a3, rv a4, rv w21, rv w31] []))
  refine own_goW (fun _ k => XS.aload X30.here hx rfl (hb hby d16_39) rfl rfl k) ?_
  obtain ⟨v41, T41, L41, X41, hQ41, st41⟩ := own_callF (xi := own_y34) (y := own_y29) X30 hx hZ hown (ow200 hw) (ow201 hw) (ow202 hw) (ow203 hw) (ow204 hw) (ow205 hw) (ow206 hw) (ow207 hw) (ow169 hw) (ow208 hw) (by decide) (rm_l12e l Z a0 hw hO [] w21 T30.heap O0) 0 0 0 (by show _ ≤ 10; omega) (by show _ ≤ 95; omega) (rfl : T30.heap = T30.heap) f23 (g := (mkF m 41 #[rv a1, rv a2, rv a3, rv a4, rv w21, rv w31] [(.ref w21)])) rfl (by rw [hml]; rfl) [] [] (lenOf own_pd_13 rfl) rfl rfl (hb hby d16_41)
  obtain ⟨rfl, Nc43, Kc42⟩ := hQ41
  refine own_goW st41 ?_
  clear st41 X30
  replace N0 := Fr.app N0 Nc43
  clear Nc43
  refine own_goW (fun _ k => XS.ifYes X41.here hx rfl (pc0 := 46) (pc' := 63) rfl (hb hby d16_46) rfl ((if0 _ _).trans (teq (by decide : (0 : Int32) = (0 : Int32))).1) (by decide) (by decide) (XS.aloadN X41.here hx rfl (hb hby d16_63) rfl rfl (XS.aloadN X41.here hx rfl (hb hby d16_64) rfl rfl k))) ?_
  show own_GoW p e below s _ _ _ _ (T41.setTop (mkF m 65 #[rv a1, rv a2, rv a3, rv a4, rv w21, rv w31] [(.ref a2), (.ref a1)]))
  obtain ⟨T44, h44, X44, e44, W44, st44⟩ := putF X41 hx hZ hown (host := "") (Or.inl (ow209 hw)) Via.refl Kc42 fp1 fp0 (Or.inr ⟨(ow210 hw), rfl, hnm⟩) (ow91 hw) (ty := (.object "java/lang/String")) own_fd6 rfl rfl (g := (mkF m 65 #[rv a1, rv a2, rv a3, rv a4, rv w21, rv w31] [(.ref a2), (.ref a1)])) rfl rfl (hb hby d16_65)
  refine own_goW st44 ?_
  clear st44 X41 Kc42
  replace N0 := Fr.snoc X44 N0 big_a1
  replace hJ := own_Jany hJ h44
  replace fp0 := fp0.wr W44
  replace fp1 := fp1.same W44
  replace fp2 := fp2.other W44 (.inr (own_sn5 hw))
  replace fp3 := fp3.other W44 (.inr (own_sn6 hw))
  replace fp4 := fp4.other W44 (.inr (own_sn7 hw))
  replace fp5 := fp5.other W44 (.inr (own_sn8 hw))
  replace f23 := f23.wr W44
  replace f24 := f24.other W44 (Or.inl ne27.symm)
  replace f33 := f33.wr W44
  replace f34 := f34.other W44 (Or.inl ne37.symm)
  replace O0 := own_oldWr O0 W44 big_a1
  replace K0 := K0.wr W44 (Or.inl (List.mem_of_getElem? (i := 0) rfl))
  replace hS := own_since hS (Nat.le_of_eq W44.size.symm)
  clear W44
  refine own_goW (fun _ k => XS.aloadN X44.here hx rfl (hb hby d16_68) rfl rfl (XS.aloadN X44.here hx rfl (hb hby d16_69) rfl rfl k)) ?_
  obtain ⟨T45, h45, X45, e45, W45, st45⟩ := putF X44 hx hZ hown (host := "") (Or.inl (ow211 hw)) Via.refl e44 fp2 fp0 (Or.inr ⟨(ow212 hw), rfl, hnm⟩) (ow91 hw) (ty := (.object "java/lang/String")) own_fd6 rfl rfl (g := (mkF m 70 #[rv a1, rv a2, rv a3, rv a4, rv w21, rv w31] [(.ref a3), (.ref a1)])) rfl rfl (hb hby d16_70)
  refine own_goW st45 ?_
  clear st45 X44 e44
  replace N0 := Fr.snoc X45 N0 big_a1
  replace hJ := own_Jany hJ h45
  replace fp0 := fp0.wr W45
  replace fp1 := fp1.other W45 (.inr (own_sn5 hw).symm)
  replace fp2 := fp2.same W45
  replace fp3 := fp3.other W45 (.inr (own_sn9 hw))
  replace fp4 := fp4.other W45 (.inr (own_sn10 hw))
  replace fp5 := fp5.other W45 (.inr (own_sn11 hw))
  replace f23 := f23.wr W45
  replace f24 := f24.other W45 (Or.inl ne27.symm)
  replace f33 := f33.wr W45
  replace f34 := f34.other W45 (Or.inl ne37.symm)
  replace O0 := own_oldWr O0 W45 big_a1
  replace K0 := K0.wr W45 (Or.inl (List.mem_of_getElem? (i := 0) rfl))
  replace hS := own_since hS (Nat.le_of_eq W45.size.symm)
  clear W45
  refine own_goW (fun _ k => XS.aloadN X45.here hx rfl (hb hby d16_73) rfl rfl k) ?_
  show own_GoW p e below s _ _ _ _ (T45.setTop (mkF m 74 #[rv a1, rv a2, rv a3, rv a4, rv w21, rv w31] [(.ref a1)]))
  refine own_goW (fun _ k => XS.aloadN X45.here hx rfl (hb hby d16_74) rfl rfl k) ?_
  obtain ⟨T46, h46, X46, e46, W46, st46⟩ := putF X45 hx hZ hown (host := "") (Or.inl (ow213 hw)) Via.refl e45 fp3 fp0 (Or.inr ⟨(ow214 hw), rfl, hnm⟩) (ow91 hw) (ty := (.object "java/lang/String")) own_fd6 rfl rfl (g := (mkF m 75 #[rv a1, rv a2, rv a3, rv a4, rv w21, rv w31] [(.ref a4), (.ref a1)])) rfl rfl (hb hby d16_75)
  refine own_goW st46 ?_
  clear st46 X45 e45
  replace N0 := Fr.snoc X46 N0 big_a1
  replace hJ := own_Jany hJ h46
  replace fp0 := fp0.wr W46
  replace fp1 := fp1.other W46 (.inr (own_sn6 hw).symm)
  replace fp2 := fp2.other W46 (.inr (own_sn9 hw).symm)
  replace fp3 := fp3.same W46
  replace fp4 := fp4.other W46 (.inr (own_sn12 hw))
  replace fp5 := fp5.other W46 (.inr (own_sn13 hw))
  replace f23 := f23.wr W46
  replace f24 := f24.other W46 (Or.inl ne27.symm)
  replace f33 := f33.wr W46
  replace f34 := f34.other W46 (Or.inl ne37.symm)
  replace O0 := own_oldWr O0 W46 big_a1
  replace K0 := K0.wr W46 (Or.inl (List.mem_of_getElem? (i := 0) rfl))
  replace hS := own_since hS (Nat.le_of_eq W46.size.symm)
  clear W46
  refine own_goW (fun _ k => XS.aloadN X46.here hx rfl (hb hby d16_78) rfl rfl (XS.aload X46.here hx rfl (hb hby d16_79) rfl rfl k)) ?_
  obtain ⟨T47, h47, X47, e47, W47, st47⟩ := putF X46 hx hZ hown (host := "") (Or.inl (ow215 hw)) Via.refl e46 fp4 fp0 (Or.inr ⟨(ow216 hw), rfl, hnm⟩) (ow91 hw) (ty := (.object "java/util/List")) own_fd7 rfl rfl (g := (mkF m 81 #[rv a1, rv a2, rv a3, rv a4, rv w21, rv w31] [(.ref w21), (.ref a1)])) rfl rfl (hb hby d16_81)
  refine own_goW st47 ?_
  clear st47 X46 e46
  replace N0 := Fr.snoc X47 N0 big_a1
  replace hJ := own_Jany hJ h47
  replace fp0 := fp0.wr W47
  replace fp1 := fp1.other W47 (.inr (own_sn7 hw).symm)
  replace fp2 := fp2.other W47 (.inr (own_sn10 hw).symm)
  replace fp3 := fp3.other W47 (.inr (own_sn12 hw).symm)
  replace fp4 := fp4.same W47
  replace fp5 := fp5.other W47 (.inr (own_sn14 hw))
  replace f23 := f23.wr W47
  replace f24 := f24.other W47 (Or.inl ne27.symm)
  replace f33 := f33.wr W47
  replace f34 := f34.other W47 (Or.inl ne37.symm)
  replace O0 := own_oldWr O0 W47 big_a1
  replace K0 := K0.wr W47 (Or.inl (List.mem_of_getElem? (i := 0) rfl))
  replace hS := own_since hS (Nat.le_of_eq W47.size.symm)
  clear W47
  show own_GoW p e below s _ _ _ _ (T47.setTop (mkF m 84 #[rv a1, rv a2, rv a3, rv a4, rv w21, rv w31] []))
  refine own_goW (fun _ k => XS.aloadN X47.here hx rfl (hb hby d16_84) rfl rfl (XS.aload X47.here hx rfl (hb hby d16_85) rfl rfl k)) ?_
  obtain ⟨T48, h48, X48, e48, W48, st48⟩ := putF X47 hx hZ hown (host := "") (Or.inl (ow217 hw)) Via.refl e47 fp5 fp0 (Or.inr ⟨(ow218 hw), rfl, hnm⟩) (ow91 hw) (ty := (.object "java/util/List")) own_fd7 rfl rfl (g := (mkF m 87 #[rv a1, rv a2, rv a3, rv a4, rv w21, rv w31] [(.ref w31), (.ref a1)])) rfl rfl (hb hby d16_87)
  refine own_goW st48 ?_
  clear st48 X47 e47
  replace N0 := Fr.snoc X48 N0 big_a1
  replace hJ := own_Jany hJ h48
  replace fp0 := fp0.wr W48
  replace fp1 := fp1.other W48 (.inr (own_sn8 hw).symm)
  replace fp2 := fp2.other W48 (.inr (own_sn11 hw).symm)
  replace fp3 := fp3.other W48 (.inr (own_sn13 hw).symm)
  replace fp4 := fp4.other W48 (.inr (own_sn14 hw).symm)
  replace fp5 := fp5.same W48
  replace f23 := f23.wr W48
  replace f24 := f24.other W48 (Or.inl ne27.symm)
  replace f33 := f33.wr W48
  replace f34 := f34.other W48 (Or.inl ne37.symm)
  replace O0 := own_oldWr O0 W48 big_a1
  replace K0 := K0.wr W48 (Or.inl (List.mem_of_getElem? (i := 0) rfl))
  replace hS := own_since hS (Nat.le_of_eq W48.size.symm)
  clear W48
  show own_GoW p e below s _ _ _ _ (T48.setTop (mkF m 90 #[rv a1, rv a2, rv a3, rv a4, rv w21, rv w31] []))
  refine own_retVW X48 hS hL hZ hJ hx hlk e48 hret (hb hby d16_90) (by show _ ≤ 10; omega) (by show _ ≤ 95; omega) ?_
  exact ⟨w21, rfl, N0, K0, fp0, fp4, f23, f24⟩
def Q_dim_3_0 (Z : State) (zc : Int32) (wd : Addr) (kd : ClassId) (wl : Addr) (we : Addr) (ke : ClassId) (weo : Addr) (wmo : Addr) (a1 : Addr) (a2 : Addr) (a3 : Addr) (a4 : Addr) (a5 : Addr) (a6 : Addr) (b0 : Addr) (k0 : ClassId) (el1 : Addr) (el2 : Addr) (el3 : Addr) (h0 : Heap) (v : Option Value) (h : Heap) (L : List Loc) : Prop := (∃ b : Addr, ∃ cq_ : Addr, ∃ k3 : ClassId, v = none ∧ Fr Z.heap.size L ∧ Keep h0 h [a1] ∧ Exa Z h a1 "com/example/ibex/ibex/model/Dimension" ∧ Fld Z h a1 "com/example/ibex/ibex/model/Dimension" "levels" "Ljava/util/List;" (.ref b) ∧ Exa Z h b "java/util/ImmutableCollections$ListN" ∧ Fld Z h b "java/util/ImmutableCollections$ListN" "elements" "[Ljava/lang/Object;" (.ref cq_) ∧ Arv Z h cq_ k3 (.object "java/lang/Object") (3 : Int32) [(.ref el1), (.ref el2), (.ref el3)] .null)
theorem ef_dim_3_0 (m : MethodId) (x0 : Addr) (x1 : Addr) (x2 : Addr) (x3 : Addr) (x4 : Addr) (x5 : Addr) : entryFrame m #[(.ref x0), (.ref x1), (.ref x2), (.ref x3), (.ref x4), (.ref x5)] 6 = mkF m 0 #[rv x0, rv x1, rv x2, rv x3, rv x4, rv x5] [] := by first | (simp [entryFrame, mkF, argsToLocals, Value.category]; done) | rfl
set_option maxRecDepth 65536 in
set_option maxHeartbeats 40000000 in
theorem rm_dim_3_0 (l : Launch) (Z : State) (a0 : Array Value) (hw : own_W Z a0) {zc : Int32} {wd : Addr} {kd : ClassId} {wl : Addr} {we : Addr} {ke : ClassId} {weo : Addr} {wmo : Addr} (hO : own_Olds Z zc wd kd wl we ke weo wmo) (ws : List Jvm.Cond) (a1 : Addr) (a2 : Addr) (a3 : Addr) (a4 : Addr) (a5 : Addr) (a6 : Addr) (b0 : Addr) (k0 : ClassId) (el1 : Addr) (el2 : Addr) (el3 : Addr) (h0 : Heap) (O0 : Ext Z.heap h0) (fp0 : Exa Z h0 a1 "com/example/ibex/ibex/model/Dimension") (fp1 : Fld Z h0 a1 "com/example/ibex/ibex/model/Dimension" "name" "Ljava/lang/String;" .null) (fp2 : Fld Z h0 a1 "com/example/ibex/ibex/model/Dimension" "table" "Ljava/lang/String;" .null) (fp3 : Fld Z h0 a1 "com/example/ibex/ibex/model/Dimension" "foreignKey" "Ljava/lang/String;" .null) (fp4 : Fld Z h0 a1 "com/example/ibex/ibex/model/Dimension" "levels" "Ljava/util/List;" .null) (fp5 : Fld Z h0 a1 "com/example/ibex/ibex/model/Dimension" "attributes" "Ljava/util/List;" .null) (fp6 : Exa Z h0 a5 "java/util/ArrayList") (fp7 : Fld Z h0 a5 "java/util/ArrayList" "size" "I" (.int (3 : Int32))) (fp8 : Fld Z h0 a5 "java/util/ArrayList" "elementData" "[Ljava/lang/Object;" (.ref b0)) (fp9 : Arv Z h0 b0 k0 (.object "java/lang/Object") (10 : Int32) [(.ref el1), (.ref el2), (.ref el3), .null, .null, .null, .null, .null, .null, .null] .null) (fp10 : Exa Z h0 b0 "[Ljava/lang/Object;") (fp11 : Ins Z h0 el1 "java/lang/Object" true) (fp12 : Ins Z h0 el2 "java/lang/Object" true) (fp13 : Ins Z h0 el3 "java/lang/Object" true) (fp14 : Exa Z h0 a6 "java/util/ArrayList") (fp15 : Fld Z h0 a6 "java/util/ArrayList" "size" "I" (.int (0 : Int32))) (big_a1 : Z.heap.size ≤ a1) :
    MetFree l own_y35 (head1 (Jvm.Cond.code own_y35 prog_71_method_1_code 6 none :: ws) ({ frames := 9, cells := 9, slots := 96, locals := 115 } : Room)) (fun a U => a = #[(.ref a1), (.ref a2), (.ref a3), (.ref a4), (.ref a5), (.ref a6)] ∧ Z.Warmed39 U.vm ∧ U.heap = h0 ∧ own_J Z U.vm U.heap) (fun _ _ _ _ _ => True) (fun _ U o U' => ∃ v L, o = .returned v ∧ ((Q_dim_3_0 Z zc wd kd wl we ke weo wmo a1 a2 a3 a4 a5 a6 b0 k0 el1 el2 el3 h0) v U'.heap L ∧ own_J Z U'.vm U'.heap) ∧ ReturnedEndW U o U' L ({ frames := 9, cells := 9, slots := 96, locals := 115 } : Room).cells ({ frames := 9, cells := 9, slots := 96, locals := 115 } : Room).slots) := by
  refine own_metW (Q := (Q_dim_3_0 Z zc wd kd wl we ke weo wmo a1 a2 a3 a4 a5 a6 b0 k0 el1 el2 el3 h0)) _ _ (plainFor_of_name own_pn_13) ?_
  intro p e s vm0 m below meth c T X0 hS hJ hJ0 hZ0 hI hs0 hx hby hml hret hlk hZ hown hnm e0
  replace hown : (s.setVm vm0).vm.findClass "com/example/ibex/ibex/model/Dimension" = some m.cls := hown
  replace hnm : meth.name = "<init>" := hnm
  have hml : c.maxLocals = 6 := hml
  obtain ⟨oCS, oCz, oDE, oDV, oEL, oLE, oLF, oLV, oEM, oMir⟩ := id hO
  have N0 := Fr.nil Z.heap.size
  have hL := own_Lhw hw
  have K0 := Keep.refl h0 [a1]
  refine own_goW (fun _ k => castTop (ef_dim_3_0 m a1 a2 a3 a4 a5 a6) k) ?_
  have ne1 : a5 ≠ a1 := (ne_exa fp6 fp0 (by decide))
  have ne2 : b0 ≠ a1 := (ne_exa fp10 fp0 (by decide))
  have ne3 : a6 ≠ a1 := (ne_exa fp14 fp0 (by decide))
  show own_GoW p e below s _ _ _ _ (T.setTop (mkF m 0 #[rv a1, rv a2, rv a3, rv a4, rv a5, rv a6] []))
  refine own_goW (fun _ k => XS.aloadN X0.here hx rfl (hb hby d16_0) rfl rfl k) ?_
  obtain ⟨v4, T4, L4, X4, hQ4, st4⟩ := own_callI (y := own_y33) X0 hx hZ hown (ow96 hw) (ow97 hw) (ow99 hw) (ow100 hw) (rm_recinit l Z a0 hw hO [] a1 h0 O0) 0 0 0 rfl (by show _ ≤ 9; omega) (by show _ ≤ 96; omega) e0 (g := (mkF m 1 #[rv a1, rv a2, rv a3, rv a4, rv a5, rv a6] [(.ref a1)])) rfl (by rw [hml]; rfl) a1 [] [] (lenOf own_pd_0 rfl) rfl rfl (hb hby d16_1)
  obtain ⟨rfl, Nc6, Kc5⟩ := hQ4
  refine own_goW st4 ?_
  clear st4 X0 e0
  replace N0 := Fr.app N0 Nc6
  clear Nc6
  refine own_goW (fun _ k => XS.aloadN X4.here hx rfl (hb hby d16_4) rfl rfl k) ?_
  obtain ⟨b7, T7, h7, k7, X7, e7, E7, hSn, hkn, hZn, hownn, st7⟩ := ldcS X4 hx hZ hown (ow102 hw) (own_wS hw) Kc5 hS (Nat.le_refl _) (g := (mkF m 5 #[rv a1, rv a2, rv a3, rv a4, rv a5, rv a6] [(.ref a2)])) rfl (hb hby d16_5) (n := 16) (by decide) (by decide) (by show _ ≤ 9; omega) (by show _ ≤ 96; omega)
  refine own_goW st7 ?_
  clear st7 
  replace hS := own_since hSn hkn
  replace hZ := hZn
  replace hown := hownn
  replace hJ : own_J Z T7.vm h7 := trivial
  clear hSn hZn hownn
  replace fp0 := fp0.ext E7
  replace fp1 := fp1.ext E7
  replace fp2 := fp2.ext E7
  replace fp3 := fp3.ext E7
  replace fp4 := fp4.ext E7
  replace fp5 := fp5.ext E7
  replace O0 := own_oldExt O0 E7
  replace K0 := K0.ext E7
  clear E7
  obtain ⟨v8, T8, L8, X8, hQ8, st8⟩ := own_callS (y := own_y12) X7 hx hZ hown (ow105 hw) (ow106 hw) (ow107 hw) (ow108 hw) (rm_rnn2 l Z a0 hw hO [] a2 b7 h7 O0) 0 0 0 (by show _ ≤ 9; omega) (by show _ ≤ 96; omega) e7 (g := (mkF m 7 #[rv a1, rv a2, rv a3, rv a4, rv a5, rv a6] [(.ref b7), (.ref a2)])) rfl (by rw [hml]; rfl) [(.ref a2), (.ref b7)] [] (lenOf own_pd_16 rfl) rfl rfl (hb hby d16_7)
  obtain ⟨rfl, Nc10, Kc9⟩ := hQ8
  refine own_goW st8 ?_
  clear st8 X7 e7
  replace N0 := Fr.app N0 Nc10
  clear Nc10
  show own_GoW p e below s _ _ _ _ (T8.setTop (mkF m 10 #[rv a1, rv a2, rv a3, rv a4, rv a5, rv a6] [(.ref a2)]))
  refine own_goW (fun _ k => XS.pop X8.here hx rfl (hb hby d16_10) rfl rfl (XS.aloadN X8.here hx rfl (hb hby d16_11) rfl rfl k)) ?_
  obtain ⟨b11, T11, h11, k11, X11, e11, E11, hSn, hkn, hZn, hownn, st11⟩ := ldcS X8 hx hZ hown (ow109 hw) (own_wS hw) Kc9 hS (Nat.le_refl _) (g := (mkF m 12 #[rv a1, rv a2, rv a3, rv a4, rv a5, rv a6] [(.ref a3)])) rfl (hb hby d16_12) (n := 20) (by decide) (by decide) (by show _ ≤ 9; omega) (by show _ ≤ 96; omega)
  refine own_goW st11 ?_
  clear st11 
  replace hS := own_since hSn hkn
  replace hZ := hZn
  replace hown := hownn
  replace hJ : own_J Z T11.vm h11 := trivial
  clear hSn hZn hownn
  replace fp0 := fp0.ext E11
  replace fp1 := fp1.ext E11
  replace fp2 := fp2.ext E11
  replace fp3 := fp3.ext E11
  replace fp4 := fp4.ext E11
  replace fp5 := fp5.ext E11
  replace O0 := own_oldExt O0 E11
  replace K0 := K0.ext E11
  clear E11
  obtain ⟨v12, T12, L12, X12, hQ12, st12⟩ := own_callS (y := own_y12) X11 hx hZ hown (ow105 hw) (ow106 hw) (ow107 hw) (ow108 hw) (rm_rnn2 l Z a0 hw hO [] a3 b11 h11 O0) 0 0 0 (by show _ ≤ 9; omega) (by show _ ≤ 96; omega) e11 (g := (mkF m 14 #[rv a1, rv a2, rv a3, rv a4, rv a5, rv a6] [(.ref b11), (.ref a3)])) rfl (by rw [hml]; rfl) [(.ref a3), (.ref b11)] [] (lenOf own_pd_16 rfl) rfl rfl (hb hby d16_14)
  obtain ⟨rfl, Nc14, Kc13⟩ := hQ12
  refine own_goW st12 ?_
  clear st12 X11 e11
  replace N0 := Fr.app N0 Nc14
  clear Nc14
  refine own_goW (fun _ k => XS.pop X12.here hx rfl (hb hby d16_17) rfl rfl k) ?_
  show own_GoW p e below s _ _ _ _ (T12.setTop (mkF m 18 #[rv a1, rv a2, rv a3, rv a4, rv a5, rv a6] []))
  refine own_goW (fun _ k => XS.aloadN X12.here hx rfl (hb hby d16_18) rfl rfl k) ?_
  obtain ⟨b15, T15, h15, k15, X15, e15, E15, hSn, hkn, hZn, hownn, st15⟩ := ldcS X12 hx hZ hown (ow110 hw) (own_wS hw) Kc13 hS (Nat.le_refl _) (g := (mkF m 19 #[rv a1, rv a2, rv a3, rv a4, rv a5, rv a6] [(.ref a4)])) rfl (hb hby d16_19) (n := 40) (by decide) (by decide) (by show _ ≤ 9; omega) (by show _ ≤ 96; omega)
  refine own_goW st15 ?_
  clear st15 
  replace hS := own_since hSn hkn
  replace hZ := hZn
  replace hown := hownn
  replace hJ : own_J Z T15.vm h15 := trivial
  clear hSn hZn hownn
  replace fp0 := fp0.ext E15
  replace fp1 := fp1.ext E15
  replace fp2 := fp2.ext E15
  replace fp3 := fp3.ext E15
  replace fp4 := fp4.ext E15
  replace fp5 := fp5.ext E15
  replace O0 := own_oldExt O0 E15
  replace K0 := K0.ext E15
  clear E15
  obtain ⟨v16, T16, L16, X16, hQ16, st16⟩ := own_callS (y := own_y12) X15 hx hZ hown (ow105 hw) (ow106 hw) (ow107 hw) (ow108 hw) (rm_rnn2 l Z a0 hw hO [] a4 b15 h15 O0) 0 0 0 (by show _ ≤ 9; omega) (by show _ ≤ 96; omega) e15 (g := (mkF m 21 #[rv a1, rv a2, rv a3, rv a4, rv a5, rv a6] [(.ref b15), (.ref a4)])) rfl (by rw [hml]; rfl) [(.ref a4), (.ref b15)] [] (lenOf own_pd_16 rfl) rfl rfl (hb hby d16_21)
  obtain ⟨rfl, Nc18, Kc17⟩ := hQ16
  refine own_goW st16 ?_
  clear st16 X15 e15
  replace N0 := Fr.app N0 Nc18
  clear Nc18
  refine own_goW (fun _ k => XS.pop X16.here hx rfl (hb hby d16_24) rfl rfl (XS.aload X16.here hx rfl (hb hby d16_25) rfl rfl k)) ?_
  show own_GoW p e below s _ _ _ _ (T16.setTop (mkF m 27 #[rv a1, rv a2, rv a3, rv a4, rv a5, rv a6] [(.ref a5)]))
  obtain ⟨v19, T19, L19, X19, hQ19, st19⟩ := own_callS (y := own_y27) X16 hx hZ hown (ow111 hw) (ow112 hw) (ow113 hw) (ow114 hw) (rm_copyOf_3 l Z a0 hw hO [] a5 b0 k0 el1 el2 el3 h15 O0 (fp6.keep K0) (fp7.keep K0 (ninS ne1 nin0)) (fp8.keep K0 (ninS ne1 nin0)) (fp9.keep K0 (ninS ne2 nin0)) (fp10.keep K0) (own_insKeep fp11 K0) (own_insKeep fp12 K0) (own_insKeep fp13 K0)) 0 3 8 (by show _ ≤ 9; omega) (by show _ ≤ 96; omega) Kc17 (g := (mkF m 27 #[rv a1, rv a2, rv a3, rv a4, rv a5, rv a6] [(.ref a5)])) rfl (by rw [hml]; rfl) [(.ref a5)] [] (lenOf own_pd_15 rfl) rfl rfl (hb hby d16_27)
  obtain ⟨w20, w21, w22, rfl, Nc28, Kc27, hb23, f24, f25, f26⟩ := hQ19
  refine own_goW st19 ?_
  clear st19 X16 Kc17
  replace N0 := Fr.app N0 Nc28
  clear Nc28
  have ne29 : a1 ≠ w20 := Nat.ne_of_lt (Nat.lt_of_lt_of_le fp0.lt hb23)
  have big30 : Z.heap.size ≤ w20 := Nat.le_trans O0.1 hb23
  have sz31 : h0.size ≤ w20 := Nat.le_trans K0.1 hb23
  replace hS := own_since hS Kc27.1
  replace hJ := own_Jany hJ T19.heap
  replace fp0 := fp0.keep Kc27
  replace fp1 := fp1.keep Kc27 nin0
  replace fp2 := fp2.keep Kc27 nin0
  replace fp3 := fp3.keep Kc27 nin0
  replace fp4 := fp4.keep Kc27 nin0
  replace fp5 := fp5.keep Kc27 nin0
  replace O0 := own_oldKeep O0 Kc27 all0
  replace K0 := K0.trans Kc27 all0
  clear Kc27
  refine own_goW (fun _ k => XS.astore X19.here hx rfl (hb hby d16_30) rfl rfl (l' := #[rv a1, rv a2, rv a3, rv a4, rv w20, rv a6]) rfl (XS.aload X19.here hx rfl (hb hby d16_32) rfl rfl k)) ?_
  obtain ⟨v32, T32, L32, X32, hQ32, st32⟩ := own_callS (y := own_y27) X19 hx hZ hown (ow111 hw) (ow112 hw) (ow113 hw) (ow114 hw) (rm_copyOf_0 l Z a0 hw hO [] a6 T19.heap O0 (fp14.keep K0) (fp15.keep K0 (ninS ne3 nin0))) 0 0 0 (by show _ ≤ 9; omega) (by show _ ≤ 96; omega) (rfl : T19.heap = T19.heap) (g := (mkF m 34 #[rv a1, rv a2, rv a3, rv a4, rv w20, rv a6] [(.ref a6)])) rfl (by rw [hml]; rfl) [(.ref a6)] [] (lenOf own_pd_15 rfl) rfl rfl (hb hby d16_34)
  obtain ⟨rfl, Nc34, Kc33⟩ := hQ32
  refine own_goW st32 ?_
  clear st32 X19
  replace N0 := Fr.app N0 Nc34
  clear Nc34
  refine own_goW (fun _ k => XS.astore X32.here hx rfl (hb hby d16_37) rfl rfl (l' := #[rv a1, rv a2, rv a3, rv a4, rv w20, rv wl]) rfl k) ?_
  show own_GoW p e below s _ _ _ _ (T32.setTop (mkF m 39 #[rv a1, rv a2, rv a3, rv a4, rv w20, rv wl] []))
  refine own_goW (fun _ k => XS.aload X32.here hx rfl (hb hby d16_39) rfl rfl k) ?_
  obtain ⟨v35, T35, L35, X35, hQ35, st35⟩ := own_callF (xi := own_y34) (y := own_y30) X32 hx hZ hown (ow200 hw) (ow201 hw) (ow202 hw) (ow257 hw) (ow258 hw) (ow259 hw) (ow260 hw) (ow261 hw) (ow244 hw) (ow262 hw) (by decide) (rm_lne l Z a0 hw hO [] w20 w21 w22 el1 el2 el3 T19.heap O0 f25 f26) 0 0 0 (by show _ ≤ 9; omega) (by show _ ≤ 96; omega) Kc33 f24 (g := (mkF m 41 #[rv a1, rv a2, rv a3, rv a4, rv w20, rv wl] [(.ref w20)])) rfl (by rw [hml]; rfl) [] [] (lenOf own_pd_13 rfl) rfl rfl (hb hby d16_41)
  obtain ⟨rfl, Nc37, Kc36⟩ := hQ35
  refine own_goW st35 ?_
  clear st35 X32 Kc33
  replace N0 := Fr.app N0 Nc37
  clear Nc37
  refine own_goW (fun _ k => XS.ifYes X35.here hx rfl (pc0 := 46) (pc' := 63) rfl (hb hby d16_46) rfl ((if0 _ _).trans (teq (by decide : (0 : Int32) = (0 : Int32))).1) (by decide) (by decide) (XS.aloadN X35.here hx rfl (hb hby d16_63) rfl rfl (XS.aloadN X35.here hx rfl (hb hby d16_64) rfl rfl k))) ?_
  show own_GoW p e below s _ _ _ _ (T35.setTop (mkF m 65 #[rv a1, rv a2, rv a3, rv a4, rv w20, rv wl] [(.ref a2), (.ref a1)]))
  obtain ⟨T38, h38, X38, e38, W38, st38⟩ := putF X35 hx hZ hown (host := "") (Or.inl (ow209 hw)) Via.refl Kc36 fp1 fp0 (Or.inr ⟨(ow210 hw), rfl, hnm⟩) (ow91 hw) (ty := (.object "java/lang/String")) own_fd6 rfl rfl (g := (mkF m 65 #[rv a1, rv a2, rv a3, rv a4, rv w20, rv wl] [(.ref a2), (.ref a1)])) rfl rfl (hb hby d16_65)
  refine own_goW st38 ?_
  clear st38 X35 Kc36
  replace N0 := Fr.snoc X38 N0 big_a1
  replace hJ := own_Jany hJ h38
  have ne39 : w21 ≠ a1 := (Ne.symm (Exa.neArv fp0 f26 (ow91 hw)))
  replace fp0 := fp0.wr W38
  replace fp1 := fp1.same W38
  replace fp2 := fp2.other W38 (.inr (own_sn5 hw))
  replace fp3 := fp3.other W38 (.inr (own_sn6 hw))
  replace fp4 := fp4.other W38 (.inr (own_sn7 hw))
  replace fp5 := fp5.other W38 (.inr (own_sn8 hw))
  replace f24 := f24.wr W38
  replace f25 := f25.other W38 (Or.inl ne29.symm)
  replace f26 := f26.other W38 ne39
  replace O0 := own_oldWr O0 W38 big_a1
  replace K0 := K0.wr W38 (Or.inl (List.mem_of_getElem? (i := 0) rfl))
  replace hS := own_since hS (Nat.le_of_eq W38.size.symm)
  clear W38
  refine own_goW (fun _ k => XS.aloadN X38.here hx rfl (hb hby d16_68) rfl rfl (XS.aloadN X38.here hx rfl (hb hby d16_69) rfl rfl k)) ?_
  obtain ⟨T40, h40, X40, e40, W40, st40⟩ := putF X38 hx hZ hown (host := "") (Or.inl (ow211 hw)) Via.refl e38 fp2 fp0 (Or.inr ⟨(ow212 hw), rfl, hnm⟩) (ow91 hw) (ty := (.object "java/lang/String")) own_fd6 rfl rfl (g := (mkF m 70 #[rv a1, rv a2, rv a3, rv a4, rv w20, rv wl] [(.ref a3), (.ref a1)])) rfl rfl (hb hby d16_70)
  refine own_goW st40 ?_
  clear st40 X38 e38
  replace N0 := Fr.snoc X40 N0 big_a1
  replace hJ := own_Jany hJ h40
  replace fp0 := fp0.wr W40
  replace fp1 := fp1.other W40 (.inr (own_sn5 hw).symm)
  replace fp2 := fp2.same W40
  replace fp3 := fp3.other W40 (.inr (own_sn9 hw))
  replace fp4 := fp4.other W40 (.inr (own_sn10 hw))
  replace fp5 := fp5.other W40 (.inr (own_sn11 hw))
  replace f24 := f24.wr W40
  replace f25 := f25.other W40 (Or.inl ne29.symm)
  replace f26 := f26.other W40 ne39
  replace O0 := own_oldWr O0 W40 big_a1
  replace K0 := K0.wr W40 (Or.inl (List.mem_of_getElem? (i := 0) rfl))
  replace hS := own_since hS (Nat.le_of_eq W40.size.symm)
  clear W40
  refine own_goW (fun _ k => XS.aloadN X40.here hx rfl (hb hby d16_73) rfl rfl k) ?_
  show own_GoW p e below s _ _ _ _ (T40.setTop (mkF m 74 #[rv a1, rv a2, rv a3, rv a4, rv w20, rv wl] [(.ref a1)]))
  refine own_goW (fun _ k => XS.aloadN X40.here hx rfl (hb hby d16_74) rfl rfl k) ?_
  obtain ⟨T41, h41, X41, e41, W41, st41⟩ := putF X40 hx hZ hown (host := "") (Or.inl (ow213 hw)) Via.refl e40 fp3 fp0 (Or.inr ⟨(ow214 hw), rfl, hnm⟩) (ow91 hw) (ty := (.object "java/lang/String")) own_fd6 rfl rfl (g := (mkF m 75 #[rv a1, rv a2, rv a3, rv a4, rv w20, rv wl] [(.ref a4), (.ref a1)])) rfl rfl (hb hby d16_75)
  refine own_goW st41 ?_
  clear st41 X40 e40
  replace N0 := Fr.snoc X41 N0 big_a1
  replace hJ := own_Jany hJ h41
  replace fp0 := fp0.wr W41
  replace fp1 := fp1.other W41 (.inr (own_sn6 hw).symm)
  replace fp2 := fp2.other W41 (.inr (own_sn9 hw).symm)
  replace fp3 := fp3.same W41
  replace fp4 := fp4.other W41 (.inr (own_sn12 hw))
  replace fp5 := fp5.other W41 (.inr (own_sn13 hw))
  replace f24 := f24.wr W41
  replace f25 := f25.other W41 (Or.inl ne29.symm)
  replace f26 := f26.other W41 ne39
  replace O0 := own_oldWr O0 W41 big_a1
  replace K0 := K0.wr W41 (Or.inl (List.mem_of_getElem? (i := 0) rfl))
  replace hS := own_since hS (Nat.le_of_eq W41.size.symm)
  clear W41
  refine own_goW (fun _ k => XS.aloadN X41.here hx rfl (hb hby d16_78) rfl rfl (XS.aload X41.here hx rfl (hb hby d16_79) rfl rfl k)) ?_
  obtain ⟨T42, h42, X42, e42, W42, st42⟩ := putF X41 hx hZ hown (host := "") (Or.inl (ow215 hw)) Via.refl e41 fp4 fp0 (Or.inr ⟨(ow216 hw), rfl, hnm⟩) (ow91 hw) (ty := (.object "java/util/List")) own_fd7 rfl rfl (g := (mkF m 81 #[rv a1, rv a2, rv a3, rv a4, rv w20, rv wl] [(.ref w20), (.ref a1)])) rfl rfl (hb hby d16_81)
  refine own_goW st42 ?_
  clear st42 X41 e41
  replace N0 := Fr.snoc X42 N0 big_a1
  replace hJ := own_Jany hJ h42
  replace fp0 := fp0.wr W42
  replace fp1 := fp1.other W42 (.inr (own_sn7 hw).symm)
  replace fp2 := fp2.other W42 (.inr (own_sn10 hw).symm)
  replace fp3 := fp3.other W42 (.inr (own_sn12 hw).symm)
  replace fp4 := fp4.same W42
  replace fp5 := fp5.other W42 (.inr (own_sn14 hw))
  replace f24 := f24.wr W42
  replace f25 := f25.other W42 (Or.inl ne29.symm)
  replace f26 := f26.other W42 ne39
  replace O0 := own_oldWr O0 W42 big_a1
  replace K0 := K0.wr W42 (Or.inl (List.mem_of_getElem? (i := 0) rfl))
  replace hS := own_since hS (Nat.le_of_eq W42.size.symm)
  clear W42
  show own_GoW p e below s _ _ _ _ (T42.setTop (mkF m 84 #[rv a1, rv a2, rv a3, rv a4, rv w20, rv wl] []))
  refine own_goW (fun _ k => XS.aloadN X42.here hx rfl (hb hby d16_84) rfl rfl (XS.aload X42.here hx rfl (hb hby d16_85) rfl rfl k)) ?_
  obtain ⟨T43, h43, X43, e43, W43, st43⟩ := putF X42 hx hZ hown (host := "") (Or.inl (ow217 hw)) Via.refl e42 fp5 fp0 (Or.inr ⟨(ow218 hw), rfl, hnm⟩) (ow91 hw) (ty := (.object "java/util/List")) own_fd7 rfl rfl (g := (mkF m 87 #[rv a1, rv a2, rv a3, rv a4, rv w20, rv wl] [(.ref wl), (.ref a1)])) rfl rfl (hb hby d16_87)
  refine own_goW st43 ?_
  clear st43 X42 e42
  replace N0 := Fr.snoc X43 N0 big_a1
  replace hJ := own_Jany hJ h43
  replace fp0 := fp0.wr W43
  replace fp1 := fp1.other W43 (.inr (own_sn8 hw).symm)
  replace fp2 := fp2.other W43 (.inr (own_sn11 hw).symm)
  replace fp3 := fp3.other W43 (.inr (own_sn13 hw).symm)
  replace fp4 := fp4.other W43 (.inr (own_sn14 hw).symm)
  replace fp5 := fp5.same W43
  replace f24 := f24.wr W43
  replace f25 := f25.other W43 (Or.inl ne29.symm)
  replace f26 := f26.other W43 ne39
  replace O0 := own_oldWr O0 W43 big_a1
  replace K0 := K0.wr W43 (Or.inl (List.mem_of_getElem? (i := 0) rfl))
  replace hS := own_since hS (Nat.le_of_eq W43.size.symm)
  clear W43
  show own_GoW p e below s _ _ _ _ (T43.setTop (mkF m 90 #[rv a1, rv a2, rv a3, rv a4, rv w20, rv wl] []))
  refine own_retVW X43 hS hL hZ hJ hx hlk e43 hret (hb hby d16_90) (by show _ ≤ 9; omega) (by show _ ≤ 96; omega) ?_
  exact ⟨w20, w21, w22, rfl, N0, K0, fp0, fp4, f24, f25, f26⟩
def Q_dim_3_1 (Z : State) (zc : Int32) (wd : Addr) (kd : ClassId) (wl : Addr) (we : Addr) (ke : ClassId) (weo : Addr) (wmo : Addr) (a1 : Addr) (a2 : Addr) (a3 : Addr) (a4 : Addr) (a5 : Addr) (a6 : Addr) (b0 : Addr) (k0 : ClassId) (el1 : Addr) (el2 : Addr) (el3 : Addr) (b1_ : Addr) (k1_ : ClassId) (gl1 : Addr) (h0 : Heap) (v : Option Value) (h : Heap) (L : List Loc) : Prop := (∃ b : Addr, ∃ cq_ : Addr, ∃ k3 : ClassId, v = none ∧ Fr Z.heap.size L ∧ Keep h0 h [a1] ∧ Exa Z h a1 "com/example/ibex/ibex/model/Dimension" ∧ Fld Z h a1 "com/example/ibex/ibex/model/Dimension" "levels" "Ljava/util/List;" (.ref b) ∧ Exa Z h b "java/util/ImmutableCollections$ListN" ∧ Fld Z h b "java/util/ImmutableCollections$ListN" "elements" "[Ljava/lang/Object;" (.ref cq_) ∧ Arv Z h cq_ k3 (.object "java/lang/Object") (3 : Int32) [(.ref el1), (.ref el2), (.ref el3)] .null)
theorem ef_dim_3_1 (m : MethodId) (x0 : Addr) (x1 : Addr) (x2 : Addr) (x3 : Addr) (x4 : Addr) (x5 : Addr) : entryFrame m #[(.ref x0), (.ref x1), (.ref x2), (.ref x3), (.ref x4), (.ref x5)] 6 = mkF m 0 #[rv x0, rv x1, rv x2, rv x3, rv x4, rv x5] [] := by first | (simp [entryFrame, mkF, argsToLocals, Value.category]; done) | rfl
set_option maxRecDepth 65536 in
set_option maxHeartbeats 40000000 in
theorem rm_dim_3_1 (l : Launch) (Z : State) (a0 : Array Value) (hw : own_W Z a0) {zc : Int32} {wd : Addr} {kd : ClassId} {wl : Addr} {we : Addr} {ke : ClassId} {weo : Addr} {wmo : Addr} (hO : own_Olds Z zc wd kd wl we ke weo wmo) (ws : List Jvm.Cond) (a1 : Addr) (a2 : Addr) (a3 : Addr) (a4 : Addr) (a5 : Addr) (a6 : Addr) (b0 : Addr) (k0 : ClassId) (el1 : Addr) (el2 : Addr) (el3 : Addr) (b1_ : Addr) (k1_ : ClassId) (gl1 : Addr) (h0 : Heap) (O0 : Ext Z.heap h0) (fp0 : Exa Z h0 a1 "com/example/ibex/ibex/model/Dimension") (fp1 : Fld Z h0 a1 "com/example/ibex/ibex/model/Dimension" "name" "Ljava/lang/String;" .null) (fp2 : Fld Z h0 a1 "com/example/ibex/ibex/model/Dimension" "table" "Ljava/lang/String;" .null) (fp3 : Fld Z h0 a1 "com/example/ibex/ibex/model/Dimension" "foreignKey" "Ljava/lang/String;" .null) (fp4 : Fld Z h0 a1 "com/example/ibex/ibex/model/Dimension" "levels" "Ljava/util/List;" .null) (fp5 : Fld Z h0 a1 "com/example/ibex/ibex/model/Dimension" "attributes" "Ljava/util/List;" .null) (fp6 : Exa Z h0 a5 "java/util/ArrayList") (fp7 : Fld Z h0 a5 "java/util/ArrayList" "size" "I" (.int (3 : Int32))) (fp8 : Fld Z h0 a5 "java/util/ArrayList" "elementData" "[Ljava/lang/Object;" (.ref b0)) (fp9 : Arv Z h0 b0 k0 (.object "java/lang/Object") (10 : Int32) [(.ref el1), (.ref el2), (.ref el3), .null, .null, .null, .null, .null, .null, .null] .null) (fp10 : Exa Z h0 b0 "[Ljava/lang/Object;") (fp11 : Ins Z h0 el1 "java/lang/Object" true) (fp12 : Ins Z h0 el2 "java/lang/Object" true) (fp13 : Ins Z h0 el3 "java/lang/Object" true) (fp14 : Exa Z h0 a6 "java/util/ArrayList") (fp15 : Fld Z h0 a6 "java/util/ArrayList" "size" "I" (.int (1 : Int32))) (fp16 : Fld Z h0 a6 "java/util/ArrayList" "elementData" "[Ljava/lang/Object;" (.ref b1_)) (fp17 : Arv Z h0 b1_ k1_ (.object "java/lang/Object") (10 : Int32) [(.ref gl1), .null, .null, .null, .null, .null, .null, .null, .null, .null] .null) (fp18 : Exa Z h0 b1_ "[Ljava/lang/Object;") (fp19 : Ins Z h0 gl1 "java/lang/Object" true) (big_a1 : Z.heap.size ≤ a1) :
    MetFree l own_y35 (head1 (Jvm.Cond.code own_y35 prog_71_method_1_code 6 none :: ws) ({ frames := 9, cells := 11, slots := 99, locals := 115 } : Room)) (fun a U => a = #[(.ref a1), (.ref a2), (.ref a3), (.ref a4), (.ref a5), (.ref a6)] ∧ Z.Warmed39 U.vm ∧ U.heap = h0 ∧ own_J Z U.vm U.heap) (fun _ _ _ _ _ => True) (fun _ U o U' => ∃ v L, o = .returned v ∧ ((Q_dim_3_1 Z zc wd kd wl we ke weo wmo a1 a2 a3 a4 a5 a6 b0 k0 el1 el2 el3 b1_ k1_ gl1 h0) v U'.heap L ∧ own_J Z U'.vm U'.heap) ∧ ReturnedEndW U o U' L ({ frames := 9, cells := 11, slots := 99, locals := 115 } : Room).cells ({ frames := 9, cells := 11, slots := 99, locals := 115 } : Room).slots) := by
  refine own_metW (Q := (Q_dim_3_1 Z zc wd kd wl we ke weo wmo a1 a2 a3 a4 a5 a6 b0 k0 el1 el2 el3 b1_ k1_ gl1 h0)) _ _ (plainFor_of_name own_pn_13) ?_
  intro p e s vm0 m below meth c T X0 hS hJ hJ0 hZ0 hI hs0 hx hby hml hret hlk hZ hown hnm e0
  replace hown : (s.setVm vm0).vm.findClass "com/example/ibex/ibex/model/Dimension" = some m.cls := hown
  replace hnm : meth.name = "<init>" := hnm
  have hml : c.maxLocals = 6 := hml
  obtain ⟨oCS, oCz, oDE, oDV, oEL, oLE, oLF, oLV, oEM, oMir⟩ := id hO
  have N0 := Fr.nil Z.heap.size
  have hL := own_Lhw hw
  have K0 := Keep.refl h0 [a1]
  refine own_goW (fun _ k => castTop (ef_dim_3_1 m a1 a2 a3 a4 a5 a6) k) ?_
  have ne1 : a5 ≠ a1 := (ne_exa fp6 fp0 (by decide))
  have ne2 : b0 ≠ a1 := (ne_exa fp10 fp0 (by decide))
  have ne3 : a6 ≠ a1 := (ne_exa fp14 fp0 (by decide))
  have ne4 : b1_ ≠ a1 := (ne_exa fp18 fp0 (by decide))
  show own_GoW p e below s _ _ _ _ (T.setTop (mkF m 0 #[rv a1, rv a2, rv a3, rv a4, rv a5, rv a6] []))
  refine own_goW (fun _ k => XS.aloadN X0.here hx rfl (hb hby d16_0) rfl rfl k) ?_
  obtain ⟨v5, T5, L5, X5, hQ5, st5⟩ := own_callI (y := own_y33) X0 hx hZ hown (ow96 hw) (ow97 hw) (ow99 hw) (ow100 hw) (rm_recinit l Z a0 hw hO [] a1 h0 O0) 0 0 0 rfl (by show _ ≤ 11; omega) (by show _ ≤ 99; omega) e0 (g := (mkF m 1 #[rv a1, rv a2, rv a3, rv a4, rv a5, rv a6] [(.ref a1)])) rfl (by rw [hml]; rfl) a1 [] [] (lenOf own_pd_0 rfl) rfl rfl (hb hby d16_1)
  obtain ⟨rfl, Nc7, Kc6⟩ := hQ5
  refine own_goW st5 ?_
  clear st5 X0 e0
  replace N0 := Fr.app N0 Nc7
  clear Nc7
  refine own_goW (fun _ k => XS.aloadN X5.here hx rfl (hb hby d16_4) rfl rfl k) ?_
  obtain ⟨b8, T8, h8, k8, X8, e8, E8, hSn, hkn, hZn, hownn, st8⟩ := ldcS X5 hx hZ hown (ow102 hw) (own_wS hw) Kc6 hS (Nat.le_refl _) (g := (mkF m 5 #[rv a1, rv a2, rv a3, rv a4, rv a5, rv a6] [(.ref a2)])) rfl (hb hby d16_5) (n := 16) (by decide) (by decide) (by show _ ≤ 11; omega) (by show _ ≤ 99; omega)
  refine own_goW st8 ?_
  clear st8 
  replace hS := own_since hSn hkn
  replace hZ := hZn
  replace hown := hownn
  replace hJ : own_J Z T8.vm h8 := trivial
  clear hSn hZn hownn
  replace fp0 := fp0.ext E8
  replace fp1 := fp1.ext E8
  replace fp2 := fp2.ext E8
  replace fp3 := fp3.ext E8
  replace fp4 := fp4.ext E8
  replace fp5 := fp5.ext E8
  replace O0 := own_oldExt O0 E8
  replace K0 := K0.ext E8
  clear E8
  obtain ⟨v9, T9, L9, X9, hQ9, st9⟩ := own_callS (y := own_y12) X8 hx hZ hown (ow105 hw) (ow106 hw) (ow107 hw) (ow108 hw) (rm_rnn2 l Z a0 hw hO [] a2 b8 h8 O0) 0 0 0 (by show _ ≤ 11; omega) (by show _ ≤ 99; omega) e8 (g := (mkF m 7 #[rv a1, rv a2, rv a3, rv a4, rv a5, rv a6] [(.ref b8), (.ref a2)])) rfl (by rw [hml]; rfl) [(.ref a2), (.ref b8)] [] (lenOf own_pd_16 rfl) rfl rfl (hb hby d16_7)
  obtain ⟨rfl, Nc11, Kc10⟩ := hQ9
  refine own_goW st9 ?_
  clear st9 X8 e8
  replace N0 := Fr.app N0 Nc11
  clear Nc11
  show own_GoW p e below s _ _ _ _ (T9.setTop (mkF m 10 #[rv a1, rv a2, rv a3, rv a4, rv a5, rv a6] [(.ref a2)]))
  refine own_goW (fun _ k => XS.pop X9.here hx rfl (hb hby d16_10) rfl rfl (XS.aloadN X9.here hx rfl (hb hby d16_11) rfl rfl k)) ?_
  obtain ⟨b12, T12, h12, k12, X12, e12, E12, hSn, hkn, hZn, hownn, st12⟩ := ldcS X9 hx hZ hown (ow109 hw) (own_wS hw) Kc10 hS (Nat.le_refl _) (g := (mkF m 12 #[rv a1, rv a2, rv a3, rv a4, rv a5, rv a6] [(.ref a3)])) rfl (hb hby d16_12) (n := 20) (by decide) (by decide) (by show _ ≤ 11; omega) (by show _ ≤ 99; omega)
  refine own_goW st12 ?_
  clear st12 
  replace hS := own_since hSn hkn
  replace hZ := hZn
  replace hown := hownn
  replace hJ : own_J Z T12.vm h12 := trivial
  clear hSn hZn hownn
  replace fp0 := fp0.ext E12
  replace fp1 := fp1.ext E12
  replace fp2 := fp2.ext E12
  replace fp3 := fp3.ext E12
  replace fp4 := fp4.ext E12
  replace fp5 := fp5.ext E12
  replace O0 := own_oldExt O0 E12
  replace K0 := K0.ext E12
  clear E12
  obtain ⟨v13, T13, L13, X13, hQ13, st13⟩ := own_callS (y := own_y12) X12 hx hZ hown (ow105 hw) (ow106 hw) (ow107 hw) (ow108 hw) (rm_rnn2 l Z a0 hw hO [] a3 b12 h12 O0) 0 0 0 (by show _ ≤ 11; omega) (by show _ ≤ 99; omega) e12 (g := (mkF m 14 #[rv a1, rv a2, rv a3, rv a4, rv a5, rv a6] [(.ref b12), (.ref a3)])) rfl (by rw [hml]; rfl) [(.ref a3), (.ref b12)] [] (lenOf own_pd_16 rfl) rfl rfl (hb hby d16_14)
  obtain ⟨rfl, Nc15, Kc14⟩ := hQ13
  refine own_goW st13 ?_
  clear st13 X12 e12
  replace N0 := Fr.app N0 Nc15
  clear Nc15
  refine own_goW (fun _ k => XS.pop X13.here hx rfl (hb hby d16_17) rfl rfl k) ?_
  show own_GoW p e below s _ _ _ _ (T13.setTop (mkF m 18 #[rv a1, rv a2, rv a3, rv a4, rv a5, rv a6] []))
  refine own_goW (fun _ k => XS.aloadN X13.here hx rfl (hb hby d16_18) rfl rfl k) ?_
  obtain ⟨b16, T16, h16, k16, X16, e16, E16, hSn, hkn, hZn, hownn, st16⟩ := ldcS X13 hx hZ hown (ow110 hw) (own_wS hw) Kc14 hS (Nat.le_refl _) (g := (mkF m 19 #[rv a1, rv a2, rv a3, rv a4, rv a5, rv a6] [(.ref a4)])) rfl (hb hby d16_19) (n := 40) (by decide) (by decide) (by show _ ≤ 11; omega) (by show _ ≤ 99; omega)
  refine own_goW st16 ?_
  clear st16 
  replace hS := own_since hSn hkn
  replace hZ := hZn
  replace hown := hownn
  replace hJ : own_J Z T16.vm h16 := trivial
  clear hSn hZn hownn
  replace fp0 := fp0.ext E16
  replace fp1 := fp1.ext E16
  replace fp2 := fp2.ext E16
  replace fp3 := fp3.ext E16
  replace fp4 := fp4.ext E16
  replace fp5 := fp5.ext E16
  replace O0 := own_oldExt O0 E16
  replace K0 := K0.ext E16
  clear E16
  obtain ⟨v17, T17, L17, X17, hQ17, st17⟩ := own_callS (y := own_y12) X16 hx hZ hown (ow105 hw) (ow106 hw) (ow107 hw) (ow108 hw) (rm_rnn2 l Z a0 hw hO [] a4 b16 h16 O0) 0 0 0 (by show _ ≤ 11; omega) (by show _ ≤ 99; omega) e16 (g := (mkF m 21 #[rv a1, rv a2, rv a3, rv a4, rv a5, rv a6] [(.ref b16), (.ref a4)])) rfl (by rw [hml]; rfl) [(.ref a4), (.ref b16)] [] (lenOf own_pd_16 rfl) rfl rfl (hb hby d16_21)
  obtain ⟨rfl, Nc19, Kc18⟩ := hQ17
  refine own_goW st17 ?_
  clear st17 X16 e16
  replace N0 := Fr.app N0 Nc19
  clear Nc19
  refine own_goW (fun _ k => XS.pop X17.here hx rfl (hb hby d16_24) rfl rfl (XS.aload X17.here hx rfl (hb hby d16_25) rfl rfl k)) ?_
  show own_GoW p e below s _ _ _ _ (T17.setTop (mkF m 27 #[rv a1, rv a2, rv a3, rv a4, rv a5, rv a6] [(.ref a5)]))
  obtain ⟨v20, T20, L20, X20, hQ20, st20⟩ := own_callS (y := own_y27) X17 hx hZ hown (ow111 hw) (ow112 hw) (ow113 hw) (ow114 hw) (rm_copyOf_3 l Z a0 hw hO [] a5 b0 k0 el1 el2 el3 h16 O0 (fp6.keep K0) (fp7.keep K0 (ninS ne1 nin0)) (fp8.keep K0 (ninS ne1 nin0)) (fp9.keep K0 (ninS ne2 nin0)) (fp10.keep K0) (own_insKeep fp11 K0) (own_insKeep fp12 K0) (own_insKeep fp13 K0)) 0 3 8 (by show _ ≤ 11; omega) (by show _ ≤ 99; omega) Kc18 (g := (mkF m 27 #[rv a1, rv a2, rv a3, rv a4, rv a5, rv a6] [(.ref a5)])) rfl (by rw [hml]; rfl) [(.ref a5)] [] (lenOf own_pd_15 rfl) rfl rfl (hb hby d16_27)
  obtain ⟨w21, w22, w23, rfl, Nc29, Kc28, hb24, f25, f26, f27⟩ := hQ20
  refine own_goW st20 ?_
  clear st20 X17 Kc18
  replace N0 := Fr.app N0 Nc29
  clear Nc29
  have ne30 : a1 ≠ w21 := Nat.ne_of_lt (Nat.lt_of_lt_of_le fp0.lt hb24)
  have big31 : Z.heap.size ≤ w21 := Nat.le_trans O0.1 hb24
  have sz32 : h0.size ≤ w21 := Nat.le_trans K0.1 hb24
  replace hS := own_since hS Kc28.1
  replace hJ := own_Jany hJ T20.heap
  replace fp0 := fp0.keep Kc28
  replace fp1 := fp1.keep Kc28 nin0
  replace fp2 := fp2.keep Kc28 nin0
  replace fp3 := fp3.keep Kc28 nin0
  replace fp4 := fp4.keep Kc28 nin0
  replace fp5 := fp5.keep Kc28 nin0
  replace O0 := own_oldKeep O0 Kc28 all0
  replace K0 := K0.trans Kc28 all0
  clear Kc28
  refine own_goW (fun _ k => XS.astore X20.here hx rfl (hb hby d16_30) rfl rfl (l' := #[rv a1, rv a2, rv a3, rv a4, rv w21, rv a6]) rfl (XS.aload X20.here hx rfl (hb hby d16_32) rfl rfl k)) ?_
  obtain ⟨v33, T33, L33, X33, hQ33, st33⟩ := own_callS (y := own_y27) X20 hx hZ hown (ow111 hw) (ow112 hw) (ow113 hw) (ow114 hw) (rm_copyOf_1 l Z a0 hw hO [] a6 b1_ k1_ gl1 T20.heap O0 (fp14.keep K0) (fp15.keep K0 (ninS ne3 nin0)) (fp16.keep K0 (ninS ne3 nin0)) (fp17.keep K0 (ninS ne4 nin0)) (fp18.keep K0) (own_insKeep fp19 K0)) 0 2 3 (by show _ ≤ 11; omega) (by show _ ≤ 99; omega) (rfl : T20.heap = T20.heap) (g := (mkF m 34 #[rv a1, rv a2, rv a3, rv a4, rv w21, rv a6] [(.ref a6)])) rfl (by rw [hml]; rfl) [(.ref a6)] [] (lenOf own_pd_15 rfl) rfl rfl (hb hby d16_34)
  obtain ⟨w34, rfl, Nc39, Kc38, hb35, f36, f37⟩ := hQ33
  refine own_goW st33 ?_
  clear st33 X20
  replace N0 := Fr.app N0 Nc39
  clear Nc39
  have ne40 : a1 ≠ w34 := Nat.ne_of_lt (Nat.lt_of_lt_of_le fp0.lt hb35)
  have ne41 : w21 ≠ w34 := Nat.ne_of_lt (Nat.lt_of_lt_of_le f25.lt hb35)
  have ne42 : w22 ≠ w34 := Nat.ne_of_lt (Nat.lt_of_lt_of_le f27.lt hb35)
  have big43 : Z.heap.size ≤ w34 := Nat.le_trans O0.1 hb35
  have sz44 : h0.size ≤ w34 := Nat.le_trans K0.1 hb35
  replace hS := own_since hS Kc38.1
  replace hJ := own_Jany hJ T33.heap
  replace fp0 := fp0.keep Kc38
  replace fp1 := fp1.keep Kc38 nin0
  replace fp2 := fp2.keep Kc38 nin0
  replace fp3 := fp3.keep Kc38 nin0
  replace fp4 := fp4.keep Kc38 nin0
  replace fp5 := fp5.keep Kc38 nin0
  replace f25 := f25.keep Kc38
  replace f26 := f26.keep Kc38 nin0
  replace f27 := f27.keep Kc38 nin0
  replace O0 := own_oldKeep O0 Kc38 all0
  replace K0 := K0.trans Kc38 all0
  clear Kc38
  refine own_goW (fun _ k => XS.astore X33.here hx rfl (hb hby d16_37) rfl rfl (l' := #[rv a1, rv a2, rv a3, rv a4, rv w21, rv w34]) rfl k) ?_
  show own_GoW p e below s _ _ _ _ (T33.setTop (mkF m 39 #[rv a1, rv a2, rv a3, rv a4, rv w21, rv w34] []))
  refine own_goW (fun _ k => XS.aload X33.here hx rfl (hb hby d16_39) rfl rfl k) ?_
  obtain ⟨v45, T45, L45, X45, hQ45, st45⟩ := own_callF (xi := own_y34) (y := own_y30) X33 hx hZ hown (ow200 hw) (ow201 hw) (ow202 hw) (ow257 hw) (ow258 hw) (ow259 hw) (ow260 hw) (ow261 hw) (ow244 hw) (ow262 hw) (by decide) (rm_lne l Z a0 hw hO [] w21 w22 w23 el1 el2 el3 T33.heap O0 f26 f27) 0 0 0 (by show _ ≤ 11; omega) (by show _ ≤ 99; omega) (rfl : T33.heap = T33.heap) f25 (g := (mkF m 41 #[rv a1, rv a2, rv a3, rv a4, rv w21, rv w34] [(.ref w21)])) rfl (by rw [hml]; rfl) [] [] (lenOf own_pd_13 rfl) rfl rfl (hb hby d16_41)
  obtain ⟨rfl, Nc47, Kc46⟩ := hQ45
  refine own_goW st45 ?_
  clear st45 X33
  replace N0 := Fr.app N0 Nc47
  clear Nc47
  refine own_goW (fun _ k => XS.ifYes X45.here hx rfl (pc0 := 46) (pc' := 63) rfl (hb hby d16_46) rfl ((if0 _ _).trans (teq (by decide : (0 : Int32) = (0 : Int32))).1) (by decide) (by decide) (XS.aloadN X45.here hx rfl (hb hby d16_63) rfl rfl (XS.aloadN X45.here hx rfl (hb hby d16_64) rfl rfl k))) ?_
  show own_GoW p e below s _ _ _ _ (T45.setTop (mkF m 65 #[rv a1, rv a2, rv a3, rv a4, rv w21, rv w34] [(.ref a2), (.ref a1)]))
  obtain ⟨T48, h48, X48, e48, W48, st48⟩ := putF X45 hx hZ hown (host := "") (Or.inl (ow209 hw)) Via.refl Kc46 fp1 fp0 (Or.inr ⟨(ow210 hw), rfl, hnm⟩) (ow91 hw) (ty := (.object "java/lang/String")) own_fd6 rfl rfl (g := (mkF m 65 #[rv a1, rv a2, rv a3, rv a4, rv w21, rv w34] [(.ref a2), (.ref a1)])) rfl rfl (hb hby d16_65)
  refine own_goW st48 ?_
  clear st48 X45 Kc46
  replace N0 := Fr.snoc X48 N0 big_a1
  replace hJ := own_Jany hJ h48
  have ne49 : w22 ≠ a1 := (Ne.symm (Exa.neArv fp0 f27 (ow91 hw)))
  replace fp0 := fp0.wr W48
  replace fp1 := fp1.same W48
  replace fp2 := fp2.other W48 (.inr (own_sn5 hw))
  replace fp3 := fp3.other W48 (.inr (own_sn6 hw))
  replace fp4 := fp4.other W48 (.inr (own_sn7 hw))
  replace fp5 := fp5.other W48 (.inr (own_sn8 hw))
  replace f25 := f25.wr W48
  replace f26 := f26.other W48 (Or.inl ne30.symm)
  replace f27 := f27.other W48 ne49
  replace f36 := f36.wr W48
  replace f37 := f37.other W48 (Or.inl ne40.symm)
  replace O0 := own_oldWr O0 W48 big_a1
  replace K0 := K0.wr W48 (Or.inl (List.mem_of_getElem? (i := 0) rfl))
  replace hS := own_since hS (Nat.le_of_eq W48.size.symm)
  clear W48
  refine own_goW (fun _ k => XS.aloadN X48.here hx rfl (hb hby d16_68) rfl rfl (XS.aloadN X48.here hx rfl (hb hby d16_69) rfl rfl k)) ?_
  obtain ⟨T50, h50, X50, e50, W50, st50⟩ := putF X48 hx hZ hown (host := "") (Or.inl (ow211 hw)) Via.refl e48 fp2 fp0 (Or.inr ⟨(ow212 hw), rfl, hnm⟩) (ow91 hw) (ty := (.object "java/lang/String")) own_fd6 rfl rfl (g := (mkF m 70 #[rv a1, rv a2, rv a3, rv a4, rv w21, rv w34] [(.ref a3), (.ref a1)])) rfl rfl (hb hby d16_70)
  refine own_goW st50 ?_
  clear st50 X48 e48
  replace N0 := Fr.snoc X50 N0 big_a1
  replace hJ := own_Jany hJ h50
  replace fp0 := fp0.wr W50
  replace fp1 := fp1.other W50 (.inr (own_sn5 hw).symm)
  replace fp2 := fp2.same W50
  replace fp3 := fp3.other W50 (.inr (own_sn9 hw))
  replace fp4 := fp4.other W50 (.inr (own_sn10 hw))
  replace fp5 := fp5.other W50 (.inr (own_sn11 hw))
  replace f25 := f25.wr W50
  replace f26 := f26.other W50 (Or.inl ne30.symm)
  replace f27 := f27.other W50 ne49
  replace f36 := f36.wr W50
  replace f37 := f37.other W50 (Or.inl ne40.symm)
  replace O0 := own_oldWr O0 W50 big_a1
  replace K0 := K0.wr W50 (Or.inl (List.mem_of_getElem? (i := 0) rfl))
  replace hS := own_since hS (Nat.le_of_eq W50.size.symm)
  clear W50
  refine own_goW (fun _ k => XS.aloadN X50.here hx rfl (hb hby d16_73) rfl rfl k) ?_
  show own_GoW p e below s _ _ _ _ (T50.setTop (mkF m 74 #[rv a1, rv a2, rv a3, rv a4, rv w21, rv w34] [(.ref a1)]))
  refine own_goW (fun _ k => XS.aloadN X50.here hx rfl (hb hby d16_74) rfl rfl k) ?_
  obtain ⟨T51, h51, X51, e51, W51, st51⟩ := putF X50 hx hZ hown (host := "") (Or.inl (ow213 hw)) Via.refl e50 fp3 fp0 (Or.inr ⟨(ow214 hw), rfl, hnm⟩) (ow91 hw) (ty := (.object "java/lang/String")) own_fd6 rfl rfl (g := (mkF m 75 #[rv a1, rv a2, rv a3, rv a4, rv w21, rv w34] [(.ref a4), (.ref a1)])) rfl rfl (hb hby d16_75)
  refine own_goW st51 ?_
  clear st51 X50 e50
  replace N0 := Fr.snoc X51 N0 big_a1
  replace hJ := own_Jany hJ h51
  replace fp0 := fp0.wr W51
  replace fp1 := fp1.other W51 (.inr (own_sn6 hw).symm)
  replace fp2 := fp2.other W51 (.inr (own_sn9 hw).symm)
  replace fp3 := fp3.same W51
  replace fp4 := fp4.other W51 (.inr (own_sn12 hw))
  replace fp5 := fp5.other W51 (.inr (own_sn13 hw))
  replace f25 := f25.wr W51
  replace f26 := f26.other W51 (Or.inl ne30.symm)
  replace f27 := f27.other W51 ne49
  replace f36 := f36.wr W51
  replace f37 := f37.other W51 (Or.inl ne40.symm)
  replace O0 := own_oldWr O0 W51 big_a1
  replace K0 := K0.wr W51 (Or.inl (List.mem_of_getElem? (i := 0) rfl))
  replace hS := own_since hS (Nat.le_of_eq W51.size.symm)
  clear W51
  refine own_goW (fun _ k => XS.aloadN X51.here hx rfl (hb hby d16_78) rfl rfl (XS.aload X51.here hx rfl (hb hby d16_79) rfl rfl k)) ?_
  obtain ⟨T52, h52, X52, e52, W52, st52⟩ := putF X51 hx hZ hown (host := "") (Or.inl (ow215 hw)) Via.refl e51 fp4 fp0 (Or.inr ⟨(ow216 hw), rfl, hnm⟩) (ow91 hw) (ty := (.object "java/util/List")) own_fd7 rfl rfl (g := (mkF m 81 #[rv a1, rv a2, rv a3, rv a4, rv w21, rv w34] [(.ref w21), (.ref a1)])) rfl rfl (hb hby d16_81)
  refine own_goW st52 ?_
  clear st52 X51 e51
  replace N0 := Fr.snoc X52 N0 big_a1
  replace hJ := own_Jany hJ h52
  replace fp0 := fp0.wr W52
  replace fp1 := fp1.other W52 (.inr (own_sn7 hw).symm)
  replace fp2 := fp2.other W52 (.inr (own_sn10 hw).symm)
  replace fp3 := fp3.other W52 (.inr (own_sn12 hw).symm)
  replace fp4 := fp4.same W52
  replace fp5 := fp5.other W52 (.inr (own_sn14 hw))
  replace f25 := f25.wr W52
  replace f26 := f26.other W52 (Or.inl ne30.symm)
  replace f27 := f27.other W52 ne49
  replace f36 := f36.wr W52
  replace f37 := f37.other W52 (Or.inl ne40.symm)
  replace O0 := own_oldWr O0 W52 big_a1
  replace K0 := K0.wr W52 (Or.inl (List.mem_of_getElem? (i := 0) rfl))
  replace hS := own_since hS (Nat.le_of_eq W52.size.symm)
  clear W52
  show own_GoW p e below s _ _ _ _ (T52.setTop (mkF m 84 #[rv a1, rv a2, rv a3, rv a4, rv w21, rv w34] []))
  refine own_goW (fun _ k => XS.aloadN X52.here hx rfl (hb hby d16_84) rfl rfl (XS.aload X52.here hx rfl (hb hby d16_85) rfl rfl k)) ?_
  obtain ⟨T53, h53, X53, e53, W53, st53⟩ := putF X52 hx hZ hown (host := "") (Or.inl (ow217 hw)) Via.refl e52 fp5 fp0 (Or.inr ⟨(ow218 hw), rfl, hnm⟩) (ow91 hw) (ty := (.object "java/util/List")) own_fd7 rfl rfl (g := (mkF m 87 #[rv a1, rv a2, rv a3, rv a4, rv w21, rv w34] [(.ref w34), (.ref a1)])) rfl rfl (hb hby d16_87)
  refine own_goW st53 ?_
  clear st53 X52 e52
  replace N0 := Fr.snoc X53 N0 big_a1
  replace hJ := own_Jany hJ h53
  replace fp0 := fp0.wr W53
  replace fp1 := fp1.other W53 (.inr (own_sn8 hw).symm)
  replace fp2 := fp2.other W53 (.inr (own_sn11 hw).symm)
  replace fp3 := fp3.other W53 (.inr (own_sn13 hw).symm)
  replace fp4 := fp4.other W53 (.inr (own_sn14 hw).symm)
  replace fp5 := fp5.same W53
  replace f25 := f25.wr W53
  replace f26 := f26.other W53 (Or.inl ne30.symm)
  replace f27 := f27.other W53 ne49
  replace f36 := f36.wr W53
  replace f37 := f37.other W53 (Or.inl ne40.symm)
  replace O0 := own_oldWr O0 W53 big_a1
  replace K0 := K0.wr W53 (Or.inl (List.mem_of_getElem? (i := 0) rfl))
  replace hS := own_since hS (Nat.le_of_eq W53.size.symm)
  clear W53
  show own_GoW p e below s _ _ _ _ (T53.setTop (mkF m 90 #[rv a1, rv a2, rv a3, rv a4, rv w21, rv w34] []))
  refine own_retVW X53 hS hL hZ hJ hx hlk e53 hret (hb hby d16_90) (by show _ ≤ 11; omega) (by show _ ≤ 99; omega) ?_
  exact ⟨w21, w22, w23, rfl, N0, K0, fp0, fp4, f25, f26, f27⟩
theorem d33_0 : decode prog_71_method_2_code 0 = .ok (.aload_n 0, 1) := by decide +kernel
theorem d33_1 : decode prog_71_method_2_code 1 = .ok (.getfield 47, 3) := by decide +kernel
theorem d33_4 : decode prog_71_method_2_code 4 = .ok (.iconst 0, 1) := by decide +kernel
theorem d33_5 : decode prog_71_method_2_code 5 = .ok (.invokeinterface 54 2, 5) := by decide +kernel
theorem d33_10 : decode prog_71_method_2_code 10 = .ok (.checkcast 58, 3) := by decide +kernel
theorem d33_13 : decode prog_71_method_2_code 13 = .ok (.areturn, 1) := by decide +kernel
def Q_key_1 (Z : State) (zc : Int32) (wd : Addr) (kd : ClassId) (wl : Addr) (we : Addr) (ke : ClassId) (weo : Addr) (wmo : Addr) (a1 : Addr) (b : Addr) (el1 : Addr) (h0 : Heap) (v : Option Value) (h : Heap) (L : List Loc) : Prop := (v = some (.ref el1) ∧ Fr Z.heap.size L ∧ h = h0)
theorem ef_key_1 (m : MethodId) (x0 : Addr) : entryFrame m #[(.ref x0)] 1 = mkF m 0 #[rv x0] [] := by first | (simp [entryFrame, mkF, argsToLocals, Value.category]; done) | rfl
set_option maxRecDepth 65536 in
set_option maxHeartbeats 40000000 in
theorem rm_key_1 (l : Launch) (Z : State) (a0 : Array Value) (hw : own_W Z a0) {zc : Int32} {wd : Addr} {kd : ClassId} {wl : Addr} {we : Addr} {ke : ClassId} {weo : Addr} {wmo : Addr} (hO : own_Olds Z zc wd kd wl we ke weo wmo) (ws : List Jvm.Cond) (a1 : Addr) (b : Addr) (el1 : Addr) (h0 : Heap) (O0 : Ext Z.heap h0) (fp0 : Fld Z h0 a1 "com/example/ibex/ibex/model/Dimension" "levels" "Ljava/util/List;" (.ref b)) (fp1 : Exa Z h0 b "java/util/ImmutableCollections$List12") (fp2 : Fld Z h0 b "java/util/ImmutableCollections$List12" "e0" "Ljava/lang/Object;" (.ref el1)) (fp3 : Exa Z h0 el1 "java/lang/String") :
    own_MF l Z h0 own_y37 prog_71_method_2_code 1 (some (.object "java/lang/String")) ({ frames := 1, cells := 0, slots := 0, locals := 13 } : Room) #[(.ref a1)] (Q_key_1 Z zc wd kd wl we ke weo wmo a1 b el1 h0) ws := by
  refine own_met (Q := (Q_key_1 Z zc wd kd wl we ke weo wmo a1 b el1 h0)) _ _ (plainFor_of_name own_pn_13) ?_
  intro p e s m below meth c T X0 hx hby hml hret hlk hZ hown hnm e0
  replace hown : s.vm.findClass "com/example/ibex/ibex/model/Dimension" = some m.cls := hown
  replace hnm : meth.name = "key" := hnm
  have hml : c.maxLocals = 1 := hml
  obtain ⟨oCS, oCz, oDE, oDV, oEL, oLE, oLF, oLV, oEM, oMir⟩ := id hO
  have N0 := Fr.nil Z.heap.size
  have K0 := Keep.refl h0 []
  refine own_go (fun _ k => castTop (ef_key_1 m a1) k) ?_
  show own_Go p e below s _ _ _ (T.setTop (mkF m 0 #[rv a1] []))
  refine own_go (fun _ k => XS.aloadN X0.here hx rfl (hb hby d33_0) rfl rfl k) ?_
  obtain ⟨T1, X1, e1, st1⟩ := getF X0 hx hZ hown (host := "") (Or.inl (ow215 hw)) Via.refl e0 (fp0.keep K0 nin0) (g := (mkF m 1 #[rv a1] [(.ref a1)])) rfl rfl (hb hby d33_1)
  refine own_go st1 ?_
  clear st1 X0 e0
  refine own_go (fun _ k => XS.iconst X1.here hx rfl (hb hby d33_4) k) ?_
  obtain ⟨v2, T2, L2, X2, hQ2, st2⟩ := own_callF (xi := own_y36) (y := own_y31) X1 hx hZ hown (ow224 hw) (ow225 hw) (ow226 hw) (ow227 hw) (ow228 hw) (ow229 hw) (ow230 hw) (ow207 hw) (ow169 hw) (ow231 hw) (by decide) (rm_l12g l Z a0 hw hO [] b el1 h0 O0 (fp2.keep K0 nin0)) 0 0 0 (by show _ ≤ 0; omega) (by show _ ≤ 0; omega) e1 (fp1.keep K0) (g := (mkF m 5 #[rv a1] [(.int (0 : Int32)), (.ref b)])) rfl (by rw [hml]; rfl) [(.int (0 : Int32))] [] (lenOf own_pd_17 rfl) rfl rfl (hb hby d33_5)
  obtain ⟨rfl, Nc4, Kc3⟩ := hQ2
  refine own_go st2 ?_
  clear st2 X1 e1
  replace N0 := Fr.app N0 Nc4
  clear Nc4
  obtain ⟨T5, X5, e5, st5⟩ := castY X2 hx hZ hown (ow232 hw) Kc3 (Ins.self (fp3.keep K0)) (g := (mkF m 10 #[rv a1] [(.ref el1)])) rfl rfl (hb hby d33_10)
  refine own_go st5 ?_
  clear st5 X2 Kc3
  show own_Go p e below s _ _ _ (T5.setTop (mkF m 13 #[rv a1] [(.ref el1)]))
  refine own_retA X5 hx hlk e5 hret rfl rfl (hb hby d33_13) (by show _ ≤ 0; omega) (by show _ ≤ 0; omega) ?_
  exact ⟨rfl, N0, rfl⟩
def Q_key_3 (Z : State) (zc : Int32) (wd : Addr) (kd : ClassId) (wl : Addr) (we : Addr) (ke : ClassId) (weo : Addr) (wmo : Addr) (a1 : Addr) (b : Addr) (cq_ : Addr) (k3 : ClassId) (el1 : Addr) (el2 : Addr) (el3 : Addr) (h0 : Heap) (v : Option Value) (h : Heap) (L : List Loc) : Prop := (v = some (.ref el1) ∧ Fr Z.heap.size L ∧ h = h0)
theorem ef_key_3 (m : MethodId) (x0 : Addr) : entryFrame m #[(.ref x0)] 1 = mkF m 0 #[rv x0] [] := by first | (simp [entryFrame, mkF, argsToLocals, Value.category]; done) | rfl
set_option maxRecDepth 65536 in
set_option maxHeartbeats 40000000 in
theorem rm_key_3 (l : Launch) (Z : State) (a0 : Array Value) (hw : own_W Z a0) {zc : Int32} {wd : Addr} {kd : ClassId} {wl : Addr} {we : Addr} {ke : ClassId} {weo : Addr} {wmo : Addr} (hO : own_Olds Z zc wd kd wl we ke weo wmo) (ws : List Jvm.Cond) (a1 : Addr) (b : Addr) (cq_ : Addr) (k3 : ClassId) (el1 : Addr) (el2 : Addr) (el3 : Addr) (h0 : Heap) (O0 : Ext Z.heap h0) (fp0 : Fld Z h0 a1 "com/example/ibex/ibex/model/Dimension" "levels" "Ljava/util/List;" (.ref b)) (fp1 : Exa Z h0 b "java/util/ImmutableCollections$ListN") (fp2 : Fld Z h0 b "java/util/ImmutableCollections$ListN" "elements" "[Ljava/lang/Object;" (.ref cq_)) (fp3 : Arv Z h0 cq_ k3 (.object "java/lang/Object") (3 : Int32) [(.ref el1), (.ref el2), (.ref el3)] .null) (fp4 : Exa Z h0 el1 "java/lang/String") :
    own_MF l Z h0 own_y37 prog_71_method_2_code 1 (some (.object "java/lang/String")) ({ frames := 1, cells := 0, slots := 0, locals := 13 } : Room) #[(.ref a1)] (Q_key_3 Z zc wd kd wl we ke weo wmo a1 b cq_ k3 el1 el2 el3 h0) ws := by
  refine own_met (Q := (Q_key_3 Z zc wd kd wl we ke weo wmo a1 b cq_ k3 el1 el2 el3 h0)) _ _ (plainFor_of_name own_pn_13) ?_
  intro p e s m below meth c T X0 hx hby hml hret hlk hZ hown hnm e0
  replace hown : s.vm.findClass "com/example/ibex/ibex/model/Dimension" = some m.cls := hown
  replace hnm : meth.name = "key" := hnm
  have hml : c.maxLocals = 1 := hml
  obtain ⟨oCS, oCz, oDE, oDV, oEL, oLE, oLF, oLV, oEM, oMir⟩ := id hO
  have N0 := Fr.nil Z.heap.size
  have K0 := Keep.refl h0 []
  refine own_go (fun _ k => castTop (ef_key_3 m a1) k) ?_
  show own_Go p e below s _ _ _ (T.setTop (mkF m 0 #[rv a1] []))
  refine own_go (fun _ k => XS.aloadN X0.here hx rfl (hb hby d33_0) rfl rfl k) ?_
  obtain ⟨T1, X1, e1, st1⟩ := getF X0 hx hZ hown (host := "") (Or.inl (ow215 hw)) Via.refl e0 (fp0.keep K0 nin0) (g := (mkF m 1 #[rv a1] [(.ref a1)])) rfl rfl (hb hby d33_1)
  refine own_go st1 ?_
  clear st1 X0 e0
  refine own_go (fun _ k => XS.iconst X1.here hx rfl (hb hby d33_4) k) ?_
  obtain ⟨v2, T2, L2, X2, hQ2, st2⟩ := own_callF (xi := own_y36) (y := own_y32) X1 hx hZ hown (ow224 hw) (ow225 hw) (ow226 hw) (ow263 hw) (ow264 hw) (ow265 hw) (ow266 hw) (ow261 hw) (ow244 hw) (ow267 hw) (by decide) (rm_lng l Z a0 hw hO [] b cq_ k3 el1 el2 el3 h0 O0 (fp2.keep K0 nin0) (fp3.keep K0 nin0)) 0 0 0 (by show _ ≤ 0; omega) (by show _ ≤ 0; omega) e1 (fp1.keep K0) (g := (mkF m 5 #[rv a1] [(.int (0 : Int32)), (.ref b)])) rfl (by rw [hml]; rfl) [(.int (0 : Int32))] [] (lenOf own_pd_17 rfl) rfl rfl (hb hby d33_5)
  obtain ⟨rfl, Nc4, Kc3⟩ := hQ2
  refine own_go st2 ?_
  clear st2 X1 e1
  replace N0 := Fr.app N0 Nc4
  clear Nc4
  obtain ⟨T5, X5, e5, st5⟩ := castY X2 hx hZ hown (ow232 hw) Kc3 (Ins.self (fp4.keep K0)) (g := (mkF m 10 #[rv a1] [(.ref el1)])) rfl rfl (hb hby d33_10)
  refine own_go st5 ?_
  clear st5 X2 Kc3
  show own_Go p e below s _ _ _ (T5.setTop (mkF m 13 #[rv a1] [(.ref el1)]))
  refine own_retA X5 hx hlk e5 hret rfl rfl (hb hby d33_13) (by show _ ≤ 0; omega) (by show _ ≤ 0; omega) ?_
  exact ⟨rfl, N0, rfl⟩
theorem d35_0 : decode jdk_42_method_66_code 0 = .ok (.aload_n 0, 1) := by decide +kernel
theorem d35_1 : decode jdk_42_method_66_code 1 = .ok (.aload_n 1, 1) := by decide +kernel
theorem d35_2 : decode jdk_42_method_66_code 2 = .ok (.if_acmp .ne 5, 3) := by decide +kernel
theorem d35_5 : decode jdk_42_method_66_code 5 = .ok (.iconst 1, 1) := by decide +kernel
theorem d35_6 : decode jdk_42_method_66_code 6 = .ok (.ireturn, 1) := by decide +kernel
def Q_eqSame (Z : State) (zc : Int32) (wd : Addr) (kd : ClassId) (wl : Addr) (we : Addr) (ke : ClassId) (weo : Addr) (wmo : Addr) (a1 : Addr) (a2 : Addr) (h0 : Heap) (v : Option Value) (h : Heap) (L : List Loc) : Prop := (v = some (.int (1 : Int32)) ∧ Fr Z.heap.size L ∧ h = h0)
theorem ef_eqSame (m : MethodId) (x0 : Addr) (x1 : Addr) : entryFrame m #[(.ref x0), (.ref x1)] 3 = mkF m 0 #[rv x0, rv x1, .unset] [] := by first | (simp [entryFrame, mkF, argsToLocals, Value.category]; done) | rfl
set_option maxRecDepth 65536 in
set_option maxHeartbeats 40000000 in
theorem rm_eqSame (l : Launch) (Z : State) (a0 : Array Value) (hw : own_W Z a0) {zc : Int32} {wd : Addr} {kd : ClassId} {wl : Addr} {we : Addr} {ke : ClassId} {weo : Addr} {wmo : Addr} (hO : own_Olds Z zc wd kd wl we ke weo wmo) (ws : List Jvm.Cond) (a1 : Addr) (a2 : Addr) (h0 : Heap) (O0 : Ext Z.heap h0) (hp1 : a1 = a2) :
    own_MF l Z h0 own_y38 jdk_42_method_66_code 3 (some .boolean) ({ frames := 0, cells := 0, slots := 0, locals := 0 } : Room) #[(.ref a1), (.ref a2)] (Q_eqSame Z zc wd kd wl we ke weo wmo a1 a2 h0) ws := by
  refine own_met (Q := (Q_eqSame Z zc wd kd wl we ke weo wmo a1 a2 h0)) _ _ (plainFor_of_name own_pn_14) ?_
  intro p e s m below meth c T X0 hx hby hml hret hlk hZ hown hnm e0
  replace hown : s.vm.findClass "java/lang/String" = some m.cls := hown
  replace hnm : meth.name = "equals" := hnm
  have hml : c.maxLocals = 3 := hml
  obtain ⟨oCS, oCz, oDE, oDV, oEL, oLE, oLF, oLV, oEM, oMir⟩ := id hO
  have N0 := Fr.nil Z.heap.size
  have K0 := Keep.refl h0 []
  refine own_go (fun _ k => castTop (ef_eqSame m a1 a2) k) ?_
  show own_Go p e below s _ _ _ (T.setTop (mkF m 0 #[rv a1, rv a2, .unset] []))
  refine own_go (fun _ k => XS.aloadN X0.here hx rfl (hb hby d35_0) rfl rfl (XS.aloadN X0.here hx rfl (hb hby d35_1) rfl rfl (Jvm.RoadKit.acmp (g := (mkF m 2 #[rv a1, rv a2, .unset] [(.ref a2), (.ref a1)])) X0 hx rfl rfl rfl (pc0 := 2) (pc' := 5) (same := true) rfl (hb hby d35_2) rfl (decide_eq_true (congrArg Value.ref hp1)) (by decide) (by decide) (XS.iconst X0.here hx rfl (hb hby d35_5) k)))) ?_
  show own_Go p e below s _ _ _ (T.setTop (mkF m 6 #[rv a1, rv a2, .unset] [(.int (1 : Int32))]))
  refine own_retN X0 hx hlk e0 (t := .boolean) hret (by simp) (hb hby d35_6) (by show _ ≤ 0; omega) (by show _ ≤ 0; omega) ?_
  exact ⟨rfl, N0, rfl⟩
def Q_law (Z : State) (zc : Int32) (wd : Addr) (kd : ClassId) (wl : Addr) (we : Addr) (ke : ClassId) (weo : Addr) (wmo : Addr) (p1 : Int32) (p2 : Int32) (p3 : Int32) (p4 : Int32) (p5 : Int32) (p6 : Int32) (h0 : Heap) (v : Option Value) (h : Heap) (L : List Loc) : Prop := (v = some (.int (1 : Int32)) ∧ Fr Z.heap.size L ∧ Keep h0 h [])
set_option maxRecDepth 65536 in
set_option maxHeartbeats 40000000 in
theorem sg_s26 {l : Launch} {Z : State} {a0 : Array Value} (hw : own_W Z a0) {zc : Int32} {wd : Addr} {kd : ClassId} {wl : Addr} {we : Addr} {ke : ClassId} {weo : Addr} {wmo : Addr} (hO : own_Olds Z zc wd kd wl we ke weo wmo) {p : Program} {e : Env} {s : State} {vm0 : Vm} {m : MethodId} {args : Array Value} {below : List Frame} {meth : Method} {c : Code} {T : State} {locs : List Loc} {cells slots : Nat} (p1 : Int32) (p2 : Int32) (p3 : Int32) (p4 : Int32) (p5 : Int32) (p6 : Int32) (ul : Int32) (uz : Int32) (h0 hs1 : Heap)
    (X0 : Stand p l e room_1 (s.setVm vm0) m args below meth c T locs cells slots) (hS : s.Since vm0 hs1.size) (hL : own_L Z a0) (hJ : own_J Z vm0 hs1) (hx : p.tables.exec = Jvm.exec) (hby : c.code = code) (hml : c.maxLocals = 15) (hret : meth.sig.returnType = some .boolean) (hlk : meth.locks = false) (hZ : Z.Warmed39 (s.setVm vm0).vm) (hown : (s.setVm vm0).vm.findClass "com/example/ibex/ibex/model/DimensionKeyPinLaw" = some m.cls) (hnm : meth.name = "law") (e0 : T.heap = hs1) (N0 : Fr Z.heap.size locs) (O0 : Ext Z.heap hs1) (K0 : Keep h0 hs1 []) (hcells : cells ≤ 0) (hslots : slots ≤ 0) :
    own_GoW p e below s Z (Q_law Z zc wd kd wl we ke weo wmo p1 p2 p3 p4 p5 p6 h0) room_1.cells room_1.slots (T.setTop (mkF m 26 #[iv p1, iv p2, iv p3, iv p4, iv p5, iv p6, iv ul, .unset, .unset, .unset, .unset, .unset, .unset, .unset, .unset] [(.int uz)])) := by
  obtain ⟨oCS, oCz, oDE, oDV, oEL, oLE, oLF, oLV, oEM, oMir⟩ := id hO
  have K1 := Keep.refl hs1 []
  show own_GoW p e below s _ _ _ _ (T.setTop (mkF m 26 #[iv p1, iv p2, iv p3, iv p4, iv p5, iv p6, iv ul, .unset, .unset, .unset, .unset, .unset, .unset, .unset, .unset] [(.int uz)]))
  refine own_goW (fun _ k => XS.istore X0.here hx rfl (hb hby at_26) rfl (l' := #[iv p1, iv p2, iv p3, iv p4, iv p5, iv p6, iv ul, iv uz, .unset, .unset, .unset, .unset, .unset, .unset, .unset]) rfl (XS.iloadN X0.here hx rfl (hb hby at_28) rfl k)) ?_
  obtain ⟨v1, T1, L1, X1, hQ1, st1⟩ := own_callS (y := own_y9) X0 hx hZ hown (ow1 hw) (ow2 hw) (ow3 hw) (ow4 hw) (rm_str l Z a0 hw hO [] p1 hs1 O0) 0 3 8 (by show _ ≤ 80; omega) (by show _ ≤ 3392; omega) e0 (g := (mkF m 29 #[iv p1, iv p2, iv p3, iv p4, iv p5, iv p6, iv ul, iv uz, .unset, .unset, .unset, .unset, .unset, .unset, .unset] [(.int p1)])) rfl (by rw [hml]; rfl) [(.int p1)] [] (lenOf own_pd_18 rfl) rfl rfl (hb hby at_29)
  obtain ⟨w2, rfl, Nc6, Kc5, hb3, f4⟩ := hQ1
  refine own_goW st1 ?_
  clear st1 X0 e0
  replace N0 := Fr.app N0 Nc6
  clear Nc6
  have big7 : Z.heap.size ≤ w2 := Nat.le_trans O0.1 hb3
  have sz8 : h0.size ≤ w2 := Nat.le_trans K0.1 hb3
  have sz9 : hs1.size ≤ w2 := Nat.le_trans K1.1 hb3
  replace hS := own_since hS Kc5.1
  replace hJ := own_Jany hJ T1.heap
  replace O0 := own_oldKeep O0 Kc5 all0
  replace K0 := K0.trans Kc5 all0
  replace K1 := K1.trans Kc5 all0
  clear Kc5
  refine own_goW (fun _ k => XS.astore X1.here hx rfl (hb hby at_32) rfl rfl (l' := #[iv p1, iv p2, iv p3, iv p4, iv p5, iv p6, iv ul, iv uz, rv w2, .unset, .unset, .unset, .unset, .unset, .unset]) rfl (XS.iloadN X1.here hx rfl (hb hby at_34) rfl k)) ?_
  show own_GoW p e below s _ _ _ _ (T1.setTop (mkF m 35 #[iv p1, iv p2, iv p3, iv p4, iv p5, iv p6, iv ul, iv uz, rv w2, .unset, .unset, .unset, .unset, .unset, .unset] [(.int p2)]))
  obtain ⟨v10, T10, L10, X10, hQ10, st10⟩ := own_callS (y := own_y9) X1 hx hZ hown (ow1 hw) (ow2 hw) (ow3 hw) (ow4 hw) (rm_str l Z a0 hw hO [] p2 T1.heap O0) 0 3 8 (by show _ ≤ 80; omega) (by show _ ≤ 3392; omega) (rfl : T1.heap = T1.heap) (g := (mkF m 35 #[iv p1, iv p2, iv p3, iv p4, iv p5, iv p6, iv ul, iv uz, rv w2, .unset, .unset, .unset, .unset, .unset, .unset] [(.int p2)])) rfl (by rw [hml]; rfl) [(.int p2)] [] (lenOf own_pd_18 rfl) rfl rfl (hb hby at_35)
  obtain ⟨w11, rfl, Nc15, Kc14, hb12, f13⟩ := hQ10
  refine own_goW st10 ?_
  clear st10 X1
  replace N0 := Fr.app N0 Nc15
  clear Nc15
  have ne16 : w2 ≠ w11 := Nat.ne_of_lt (Nat.lt_of_lt_of_le f4.lt hb12)
  have big17 : Z.heap.size ≤ w11 := Nat.le_trans O0.1 hb12
  have sz18 : h0.size ≤ w11 := Nat.le_trans K0.1 hb12
  have sz19 : hs1.size ≤ w11 := Nat.le_trans K1.1 hb12
  replace hS := own_since hS Kc14.1
  replace hJ := own_Jany hJ T10.heap
  replace f4 := f4.keep Kc14
  replace O0 := own_oldKeep O0 Kc14 all0
  replace K0 := K0.trans Kc14 all0
  replace K1 := K1.trans Kc14 all0
  clear Kc14
  refine own_goW (fun _ k => XS.astore X10.here hx rfl (hb hby at_38) rfl rfl (l' := #[iv p1, iv p2, iv p3, iv p4, iv p5, iv p6, iv ul, iv uz, rv w2, rv w11, .unset, .unset, .unset, .unset, .unset]) rfl (XS.iloadN X10.here hx rfl (hb hby at_40) rfl k)) ?_
  obtain ⟨v20, T20, L20, X20, hQ20, st20⟩ := own_callS (y := own_y9) X10 hx hZ hown (ow1 hw) (ow2 hw) (ow3 hw) (ow4 hw) (rm_str l Z a0 hw hO [] p3 T10.heap O0) 0 3 8 (by show _ ≤ 80; omega) (by show _ ≤ 3392; omega) (rfl : T10.heap = T10.heap) (g := (mkF m 41 #[iv p1, iv p2, iv p3, iv p4, iv p5, iv p6, iv ul, iv uz, rv w2, rv w11, .unset, .unset, .unset, .unset, .unset] [(.int p3)])) rfl (by rw [hml]; rfl) [(.int p3)] [] (lenOf own_pd_18 rfl) rfl rfl (hb hby at_41)
  obtain ⟨w21, rfl, Nc25, Kc24, hb22, f23⟩ := hQ20
  refine own_goW st20 ?_
  clear st20 X10
  replace N0 := Fr.app N0 Nc25
  clear Nc25
  have ne26 : w2 ≠ w21 := Nat.ne_of_lt (Nat.lt_of_lt_of_le f4.lt hb22)
  have ne27 : w11 ≠ w21 := Nat.ne_of_lt (Nat.lt_of_lt_of_le f13.lt hb22)
  have big28 : Z.heap.size ≤ w21 := Nat.le_trans O0.1 hb22
  have sz29 : h0.size ≤ w21 := Nat.le_trans K0.1 hb22
  have sz30 : hs1.size ≤ w21 := Nat.le_trans K1.1 hb22
  replace hS := own_since hS Kc24.1
  replace hJ := own_Jany hJ T20.heap
  replace f4 := f4.keep Kc24
  replace f13 := f13.keep Kc24
  replace O0 := own_oldKeep O0 Kc24 all0
  replace K0 := K0.trans Kc24 all0
  replace K1 := K1.trans Kc24 all0
  clear Kc24
  refine own_goW (fun _ k => XS.astore X20.here hx rfl (hb hby at_44) rfl rfl (l' := #[iv p1, iv p2, iv p3, iv p4, iv p5, iv p6, iv ul, iv uz, rv w2, rv w11, rv w21, .unset, .unset, .unset, .unset]) rfl k) ?_
  show own_GoW p e below s _ _ _ _ (T20.setTop (mkF m 46 #[iv p1, iv p2, iv p3, iv p4, iv p5, iv p6, iv ul, iv uz, rv w2, rv w11, rv w21, .unset, .unset, .unset, .unset] []))
  obtain ⟨T31, h31, X31, e31, E31, A31, D31, -, st31⟩ := newO X20 hx hZ hown (ow35 hw) (ow36 hw) (ow37 hw) (rfl : T20.heap = T20.heap) (g := (mkF m 46 #[iv p1, iv p2, iv p3, iv p4, iv p5, iv p6, iv ul, iv uz, rv w2, rv w11, rv w21, .unset, .unset, .unset, .unset] [])) rfl (hb hby at_46) (by show _ ≤ 80; omega) (by show _ ≤ 3392; omega)
  obtain ⟨b31, g31⟩ : ∃ z, z = T20.heap.size := ⟨_, rfl⟩
  rw [← g31] at A31 D31 st31
  refine own_goW st31 ?_
  clear st31 X20
  have ge31 := Nat.le_of_eq g31.symm
  have ne32 : w2 ≠ b31 := Nat.ne_of_lt (Nat.lt_of_lt_of_le f4.lt ge31)
  have ne33 : w11 ≠ b31 := Nat.ne_of_lt (Nat.lt_of_lt_of_le f13.lt ge31)
  have ne34 : w21 ≠ b31 := Nat.ne_of_lt (Nat.lt_of_lt_of_le f23.lt ge31)
  have big35 : Z.heap.size ≤ b31 := Nat.le_trans O0.1 ge31
  have sz36 : h0.size ≤ b31 := Nat.le_trans K0.1 ge31
  have sz37 : hs1.size ≤ b31 := Nat.le_trans K1.1 ge31
  replace f4 := f4.ext E31
  replace f13 := f13.ext E31
  replace f23 := f23.ext E31
  replace O0 := own_oldExt O0 E31
  replace K0 := K0.ext E31
  replace K1 := K1.ext E31
  replace hS := own_since hS E31.1
  replace hJ := own_Jext hJ E31
  clear E31
  have f38 : Fld Z h31 b31 "java/util/AbstractList" "modCount" "I" (.int (0 : Int32)) := D31 (Or.inl (ow55 hw)) (ty := .int) own_fd0
  have f39 : Fld Z h31 b31 "java/util/ArrayList" "elementData" "[Ljava/lang/Object;" .null := D31 (Or.inl (ow58 hw)) (ty := (.array (.object "java/lang/Object"))) own_fd1
  have f40 : Fld Z h31 b31 "java/util/ArrayList" "size" "I" (.int (0 : Int32)) := D31 (Or.inl (ow67 hw)) (ty := .int) own_fd0
  refine own_goW (fun _ k => XS.dup X31.here hx rfl (hb hby at_49) rfl rfl k) ?_
  obtain ⟨v41, T41, L41, X41, hQ41, st41⟩ := own_callI (y := own_y2) X31 hx hZ hown (ow38 hw) (ow39 hw) (ow37 hw) (ow40 hw) (rm_alinit l Z a0 hw hO [] b31 h31 O0 A31 f40 f39 f38 big35) 1 0 0 rfl (by show _ ≤ 80; omega) (by show _ ≤ 3392; omega) e31 (g := (mkF m 50 #[iv p1, iv p2, iv p3, iv p4, iv p5, iv p6, iv ul, iv uz, rv w2, rv w11, rv w21, .unset, .unset, .unset, .unset] [(.ref b31), (.ref b31)])) rfl (by rw [hml]; rfl) b31 [] [(.ref b31)] (lenOf own_pd_0 rfl) rfl rfl (hb hby at_50)
  obtain ⟨rfl, Nc47, Kc46, f42, f43, f44, f45⟩ := hQ41
  refine own_goW st41 ?_
  clear st41 X31 e31
  replace N0 := Fr.app N0 Nc47
  clear Nc47
  replace hS := own_since hS Kc46.1
  replace hJ := own_Jany hJ T41.heap
  replace f4 := f4.keep Kc46
  replace f13 := f13.keep Kc46
  replace f23 := f23.keep Kc46
  replace A31 := A31.keep Kc46
  clear f38
  clear f39
  clear f40
  replace O0 := own_oldKeep O0 Kc46 (allS big35 all0)
  replace K0 := K0.trans Kc46 (allS (Or.inr sz36) all0)
  replace K1 := K1.trans Kc46 (allS (Or.inr sz37) all0)
  clear Kc46
  refine own_goW (fun _ k => XS.astore X41.here hx rfl (hb hby at_53) rfl rfl (l' := #[iv p1, iv p2, iv p3, iv p4, iv p5, iv p6, iv ul, iv uz, rv w2, rv w11, rv w21, rv b31, .unset, .unset, .unset]) rfl (XS.aload X41.here hx rfl (hb hby at_55) rfl rfl k)) ?_
  show own_GoW p e below s _ _ _ _ (T41.setTop (mkF m 57 #[iv p1, iv p2, iv p3, iv p4, iv p5, iv p6, iv ul, iv uz, rv w2, rv w11, rv w21, rv b31, .unset, .unset, .unset] [(.ref b31)]))
  refine own_goW (fun _ k => XS.aload X41.here hx rfl (hb hby at_57) rfl rfl k) ?_
  obtain ⟨v48, T48, L48, X48, hQ48, st48⟩ := own_callV (y := own_y7) (z := own_y7) X41 hx hZ hown (ow59 hw) (ow60 hw) (notFace_of_selects (args := #[]) (mvT hZ (ow62 hw))) (ow62 hw) (ow61 hw) (ow37 hw) (ow63 hw) (rm_add1_0 l Z a0 hw hO [] b31 w2 (0 : Int32) T41.heap O0 f42 f43 f44 f45 (Ins.of_exa f4 (ow89 hw)) big35) 0 1 10 (by show _ ≤ 80; omega) (by show _ ≤ 3392; omega) (rfl : T41.heap = T41.heap) f42 (g := (mkF m 59 #[iv p1, iv p2, iv p3, iv p4, iv p5, iv p6, iv ul, iv uz, rv w2, rv w11, rv w21, rv b31, .unset, .unset, .unset] [(.ref w2), (.ref b31)])) rfl (by rw [hml]; rfl) [(.ref w2)] [] (lenOf own_pd_19 rfl) rfl rfl (hb hby at_59)
  obtain ⟨w49, w50, rfl, Nc60, Kc59, hb51, f52, f53, f54, f55, f56, f57, f58⟩ := hQ48
  refine own_goW st48 ?_
  clear st48 X41
  replace N0 := Fr.app N0 Nc60
  clear Nc60
  have ne61 : w2 ≠ w49 := Nat.ne_of_lt (Nat.lt_of_lt_of_le f4.lt hb51)
  have ne62 : w11 ≠ w49 := Nat.ne_of_lt (Nat.lt_of_lt_of_le f13.lt hb51)
  have ne63 : w21 ≠ w49 := Nat.ne_of_lt (Nat.lt_of_lt_of_le f23.lt hb51)
  have ne64 : b31 ≠ w49 := Nat.ne_of_lt (Nat.lt_of_lt_of_le f42.lt hb51)
  have big65 : Z.heap.size ≤ w49 := Nat.le_trans O0.1 hb51
  have sz66 : h0.size ≤ w49 := Nat.le_trans K0.1 hb51
  have sz67 : hs1.size ≤ w49 := Nat.le_trans K1.1 hb51
  replace hS := own_since hS Kc59.1
  replace hJ := own_Jany hJ T48.heap
  replace f4 := f4.keep Kc59
  replace f13 := f13.keep Kc59
  replace f23 := f23.keep Kc59
  replace f42 := f42.keep Kc59
  clear f43
  clear f44
  clear f45
  replace O0 := own_oldKeep O0 Kc59 (allS big35 all0)
  replace K0 := K0.trans Kc59 (allS (Or.inr sz36) all0)
  replace K1 := K1.trans Kc59 (allS (Or.inr sz37) all0)
  clear Kc59
  refine own_goW (fun _ k => XS.pop X48.here hx rfl (hb hby at_62) rfl rfl (XS.iload X48.here hx rfl (hb hby at_63) rfl (XS.iconst X48.here hx rfl (hb hby at_65) k))) ?_
  show own_GoW p e below s _ _ _ _ (T48.setTop (mkF m 66 #[iv p1, iv p2, iv p3, iv p4, iv p5, iv p6, iv ul, iv uz, rv w2, rv w11, rv w21, rv b31, .unset, .unset, .unset] [(.int (2 : Int32)), (.int ul)]))
  by_cases hc68 : ul < (2 : Int32)
  · refine own_goW (fun _ k => XS.icmpYes X48.here hx rfl (pc0 := 66) (pc' := 77) rfl (hb hby at_66) rfl (tlt hc68).1 (by decide) (by decide) k) ?_
    show own_GoW p e below s _ _ _ _ (T48.setTop (mkF m 77 #[iv p1, iv p2, iv p3, iv p4, iv p5, iv p6, iv ul, iv uz, rv w2, rv w11, rv w21, rv b31, .unset, .unset, .unset] []))
    refine own_goW (fun _ k => XS.iload X48.here hx rfl (hb hby at_77) rfl (XS.iconst X48.here hx rfl (hb hby at_79) (XS.icmpYes X48.here hx rfl (pc0 := 80) (pc' := 91) rfl (hb hby at_80) rfl (tlt (own_ltT hc68 (by decide))).1 (by decide) (by decide) k))) ?_
    obtain ⟨T69, h69, X69, e69, E69, A69, D69, -, st69⟩ := newO X48 hx hZ hown (ow35 hw) (ow36 hw) (ow37 hw) (rfl : T48.heap = T48.heap) (g := (mkF m 91 #[iv p1, iv p2, iv p3, iv p4, iv p5, iv p6, iv ul, iv uz, rv w2, rv w11, rv w21, rv b31, .unset, .unset, .unset] [])) rfl (hb hby at_91) (by show _ ≤ 80; omega) (by show _ ≤ 3392; omega)
    obtain ⟨b69, g69⟩ : ∃ z, z = T48.heap.size := ⟨_, rfl⟩
    rw [← g69] at A69 D69 st69
    refine own_goW st69 ?_
    clear st69 X48
    have ge69 := Nat.le_of_eq g69.symm
    have ne70 : w2 ≠ b69 := Nat.ne_of_lt (Nat.lt_of_lt_of_le f4.lt ge69)
    have ne71 : w11 ≠ b69 := Nat.ne_of_lt (Nat.lt_of_lt_of_le f13.lt ge69)
    have ne72 : w21 ≠ b69 := Nat.ne_of_lt (Nat.lt_of_lt_of_le f23.lt ge69)
    have ne73 : b31 ≠ b69 := Nat.ne_of_lt (Nat.lt_of_lt_of_le f52.lt ge69)
    have ne74 : w49 ≠ b69 := Nat.ne_of_lt (Nat.lt_of_lt_of_le f56.lt ge69)
    have big75 : Z.heap.size ≤ b69 := Nat.le_trans O0.1 ge69
    have sz76 : h0.size ≤ b69 := Nat.le_trans K0.1 ge69
    have sz77 : hs1.size ≤ b69 := Nat.le_trans K1.1 ge69
    replace f4 := f4.ext E69
    replace f13 := f13.ext E69
    replace f23 := f23.ext E69
    replace f52 := f52.ext E69
    replace f53 := f53.ext E69
    replace f54 := f54.ext E69
    replace f55 := f55.ext E69
    replace f56 := f56.ext E69
    replace f58 := f58.ext E69
    replace O0 := own_oldExt O0 E69
    replace K0 := K0.ext E69
    replace K1 := K1.ext E69
    replace hS := own_since hS E69.1
    replace hJ := own_Jext hJ E69
    clear E69
    have f78 : Fld Z h69 b69 "java/util/AbstractList" "modCount" "I" (.int (0 : Int32)) := D69 (Or.inl (ow55 hw)) (ty := .int) own_fd0
    have f79 : Fld Z h69 b69 "java/util/ArrayList" "elementData" "[Ljava/lang/Object;" .null := D69 (Or.inl (ow58 hw)) (ty := (.array (.object "java/lang/Object"))) own_fd1
    have f80 : Fld Z h69 b69 "java/util/ArrayList" "size" "I" (.int (0 : Int32)) := D69 (Or.inl (ow67 hw)) (ty := .int) own_fd0
    refine own_goW (fun _ k => XS.dup X69.here hx rfl (hb hby at_94) rfl rfl k) ?_
    show own_GoW p e below s _ _ _ _ (T69.setTop (mkF m 95 #[iv p1, iv p2, iv p3, iv p4, iv p5, iv p6, iv ul, iv uz, rv w2, rv w11, rv w21, rv b31, .unset, .unset, .unset] [(.ref b69), (.ref b69)]))
    obtain ⟨v81, T81, L81, X81, hQ81, st81⟩ := own_callI (y := own_y2) X69 hx hZ hown (ow38 hw) (ow39 hw) (ow37 hw) (ow40 hw) (rm_alinit l Z a0 hw hO [] b69 h69 O0 A69 f80 f79 f78 big75) 1 0 0 rfl (by show _ ≤ 80; omega) (by show _ ≤ 3392; omega) e69 (g := (mkF m 95 #[iv p1, iv p2, iv p3, iv p4, iv p5, iv p6, iv ul, iv uz, rv w2, rv w11, rv w21, rv b31, .unset, .unset, .unset] [(.ref b69), (.ref b69)])) rfl (by rw [hml]; rfl) b69 [] [(.ref b69)] (lenOf own_pd_0 rfl) rfl rfl (hb hby at_95)
    obtain ⟨rfl, Nc87, Kc86, f82, f83, f84, f85⟩ := hQ81
    refine own_goW st81 ?_
    clear st81 X69 e69
    replace N0 := Fr.app N0 Nc87
    clear Nc87
    replace hS := own_since hS Kc86.1
    replace hJ := own_Jany hJ T81.heap
    replace f4 := f4.keep Kc86
    replace f13 := f13.keep Kc86
    replace f23 := f23.keep Kc86
    replace f52 := f52.keep Kc86
    replace f53 := f53.keep Kc86 (ninS ne73 nin0)
    replace f54 := f54.keep Kc86 (ninS ne73 nin0)
    replace f55 := f55.keep Kc86 (ninS ne73 nin0)
    replace f56 := f56.keep Kc86 (ninS ne74 nin0)
    replace f58 := f58.keep Kc86
    replace A69 := A69.keep Kc86
    clear f78
    clear f79
    clear f80
    replace O0 := own_oldKeep O0 Kc86 (allS big75 all0)
    replace K0 := K0.trans Kc86 (allS (Or.inr sz76) all0)
    replace K1 := K1.trans Kc86 (allS (Or.inr sz77) all0)
    clear Kc86
    refine own_goW (fun _ k => XS.astore X81.here hx rfl (hb hby at_98) rfl rfl (l' := #[iv p1, iv p2, iv p3, iv p4, iv p5, iv p6, iv ul, iv uz, rv w2, rv w11, rv w21, rv b31, rv b69, .unset, .unset]) rfl (XS.iload X81.here hx rfl (hb hby at_100) rfl k)) ?_
    by_cases hc88 : uz = (0 : Int32)
    · refine own_goW (fun _ k => XS.ifYes X81.here hx rfl (pc0 := 102) (pc' := 116) rfl (hb hby at_102) rfl ((if0 _ _).trans (teq hc88).1) (by decide) (by decide) k) ?_
      show own_GoW p e below s _ _ _ _ (T81.setTop (mkF m 116 #[iv p1, iv p2, iv p3, iv p4, iv p5, iv p6, iv ul, iv uz, rv w2, rv w11, rv w21, rv b31, rv b69, .unset, .unset] []))
      obtain ⟨T89, h89, X89, e89, E89, A89, D89, -, st89⟩ := newO X81 hx hZ hown (ow90 hw) (ow91 hw) (ow92 hw) (rfl : T81.heap = T81.heap) (g := (mkF m 116 #[iv p1, iv p2, iv p3, iv p4, iv p5, iv p6, iv ul, iv uz, rv w2, rv w11, rv w21, rv b31, rv b69, .unset, .unset] [])) rfl (hb hby at_116) (by show _ ≤ 80; omega) (by show _ ≤ 3392; omega)
      obtain ⟨b89, g89⟩ : ∃ z, z = T81.heap.size := ⟨_, rfl⟩
      rw [← g89] at A89 D89 st89
      refine own_goW st89 ?_
      clear st89 X81
      have ge89 := Nat.le_of_eq g89.symm
      have ne90 : w2 ≠ b89 := Nat.ne_of_lt (Nat.lt_of_lt_of_le f4.lt ge89)
      have ne91 : w11 ≠ b89 := Nat.ne_of_lt (Nat.lt_of_lt_of_le f13.lt ge89)
      have ne92 : w21 ≠ b89 := Nat.ne_of_lt (Nat.lt_of_lt_of_le f23.lt ge89)
      have ne93 : b31 ≠ b89 := Nat.ne_of_lt (Nat.lt_of_lt_of_le f52.lt ge89)
      have ne94 : w49 ≠ b89 := Nat.ne_of_lt (Nat.lt_of_lt_of_le f56.lt ge89)
      have ne95 : b69 ≠ b89 := Nat.ne_of_lt (Nat.lt_of_lt_of_le f82.lt ge89)
      have big96 : Z.heap.size ≤ b89 := Nat.le_trans O0.1 ge89
      have sz97 : h0.size ≤ b89 := Nat.le_trans K0.1 ge89
      have sz98 : hs1.size ≤ b89 := Nat.le_trans K1.1 ge89
      replace f4 := f4.ext E89
      replace f13 := f13.ext E89
      replace f23 := f23.ext E89
      replace f52 := f52.ext E89
      replace f53 := f53.ext E89
      replace f54 := f54.ext E89
      replace f55 := f55.ext E89
      replace f56 := f56.ext E89
      replace f58 := f58.ext E89
      replace f82 := f82.ext E89
      replace f83 := f83.ext E89
      replace f84 := f84.ext E89
      replace f85 := f85.ext E89
      replace O0 := own_oldExt O0 E89
      replace K0 := K0.ext E89
      replace K1 := K1.ext E89
      replace hS := own_since hS E89.1
      replace hJ := own_Jext hJ E89
      clear E89
      have f99 : Fld Z h89 b89 "com/example/ibex/ibex/model/Dimension" "name" "Ljava/lang/String;" .null := D89 (Or.inr (ow210 hw)) (ty := (.object "java/lang/String")) own_fd6
      have f100 : Fld Z h89 b89 "com/example/ibex/ibex/model/Dimension" "table" "Ljava/lang/String;" .null := D89 (Or.inr (ow212 hw)) (ty := (.object "java/lang/String")) own_fd6
      have f101 : Fld Z h89 b89 "com/example/ibex/ibex/model/Dimension" "foreignKey" "Ljava/lang/String;" .null := D89 (Or.inr (ow214 hw)) (ty := (.object "java/lang/String")) own_fd6
      have f102 : Fld Z h89 b89 "com/example/ibex/ibex/model/Dimension" "levels" "Ljava/util/List;" .null := D89 (Or.inr (ow216 hw)) (ty := (.object "java/util/List")) own_fd7
      have f103 : Fld Z h89 b89 "com/example/ibex/ibex/model/Dimension" "attributes" "Ljava/util/List;" .null := D89 (Or.inr (ow218 hw)) (ty := (.object "java/util/List")) own_fd7
      refine own_goW (fun _ k => XS.dup X89.here hx rfl (hb hby at_119) rfl rfl (XS.iloadN X89.here hx rfl (hb hby at_120) rfl k)) ?_
      obtain ⟨v104, T104, L104, X104, hQ104, st104⟩ := own_callS (y := own_y9) X89 hx hZ hown (ow1 hw) (ow2 hw) (ow3 hw) (ow4 hw) (rm_str l Z a0 hw hO [] p4 h89 O0) 2 3 8 (by show _ ≤ 80; omega) (by show _ ≤ 3392; omega) e89 (g := (mkF m 121 #[iv p1, iv p2, iv p3, iv p4, iv p5, iv p6, iv ul, iv uz, rv w2, rv w11, rv w21, rv b31, rv b69, .unset, .unset] [(.int p4), (.ref b89), (.ref b89)])) rfl (by rw [hml]; rfl) [(.int p4)] [(.ref b89), (.ref b89)] (lenOf own_pd_18 rfl) rfl rfl (hb hby at_121)
      obtain ⟨w105, rfl, Nc109, Kc108, hb106, f107⟩ := hQ104
      refine own_goW st104 ?_
      clear st104 X89 e89
      replace N0 := Fr.app N0 Nc109
      clear Nc109
      have ne110 : w2 ≠ w105 := Nat.ne_of_lt (Nat.lt_of_lt_of_le f4.lt hb106)
      have ne111 : w11 ≠ w105 := Nat.ne_of_lt (Nat.lt_of_lt_of_le f13.lt hb106)
      have ne112 : w21 ≠ w105 := Nat.ne_of_lt (Nat.lt_of_lt_of_le f23.lt hb106)
      have ne113 : b31 ≠ w105 := Nat.ne_of_lt (Nat.lt_of_lt_of_le f52.lt hb106)
      have ne114 : w49 ≠ w105 := Nat.ne_of_lt (Nat.lt_of_lt_of_le f56.lt hb106)
      have ne115 : b69 ≠ w105 := Nat.ne_of_lt (Nat.lt_of_lt_of_le f82.lt hb106)
      have ne116 : b89 ≠ w105 := Nat.ne_of_lt (Nat.lt_of_lt_of_le A89.lt hb106)
      have big117 : Z.heap.size ≤ w105 := Nat.le_trans O0.1 hb106
      have sz118 : h0.size ≤ w105 := Nat.le_trans K0.1 hb106
      have sz119 : hs1.size ≤ w105 := Nat.le_trans K1.1 hb106
      replace hS := own_since hS Kc108.1
      replace hJ := own_Jany hJ T104.heap
      replace f4 := f4.keep Kc108
      replace f13 := f13.keep Kc108
      replace f23 := f23.keep Kc108
      replace f52 := f52.keep Kc108
      replace f53 := f53.keep Kc108 nin0
      replace f54 := f54.keep Kc108 nin0
      replace f55 := f55.keep Kc108 nin0
      replace f56 := f56.keep Kc108 nin0
      replace f58 := f58.keep Kc108
      replace f82 := f82.keep Kc108
      replace f83 := f83.keep Kc108 nin0
      replace f84 := f84.keep Kc108 nin0
      replace f85 := f85.keep Kc108 nin0
      replace A89 := A89.keep Kc108
      replace f99 := f99.keep Kc108 nin0
      replace f100 := f100.keep Kc108 nin0
      replace f101 := f101.keep Kc108 nin0
      replace f102 := f102.keep Kc108 nin0
      replace f103 := f103.keep Kc108 nin0
      replace O0 := own_oldKeep O0 Kc108 all0
      replace K0 := K0.trans Kc108 all0
      replace K1 := K1.trans Kc108 all0
      clear Kc108
      refine own_goW (fun _ k => XS.iloadN X104.here hx rfl (hb hby at_124) rfl k) ?_
      show own_GoW p e below s _ _ _ _ (T104.setTop (mkF m 125 #[iv p1, iv p2, iv p3, iv p4, iv p5, iv p6, iv ul, iv uz, rv w2, rv w11, rv w21, rv b31, rv b69, .unset, .unset] [(.int p4), (.ref w105), (.ref b89), (.ref b89)]))
      refine own_goW (fun _ k => XS.bipush X104.here hx rfl (hb hby at_125) (XS.iushr X104.here hx rfl (hb hby at_127) rfl k)) ?_
      obtain ⟨v120, T120, L120, X120, hQ120, st120⟩ := own_callS (y := own_y9) X104 hx hZ hown (ow1 hw) (ow2 hw) (ow3 hw) (ow4 hw) (rm_str l Z a0 hw hO [] ((p4.toUInt32 >>> ((16 : Int32) &&& 31).toUInt32).toInt32) T104.heap O0) 3 3 8 (by show _ ≤ 80; omega) (by show _ ≤ 3392; omega) (rfl : T104.heap = T104.heap) (g := (mkF m 128 #[iv p1, iv p2, iv p3, iv p4, iv p5, iv p6, iv ul, iv uz, rv w2, rv w11, rv w21, rv b31, rv b69, .unset, .unset] [(.int ((p4.toUInt32 >>> ((16 : Int32) &&& 31).toUInt32).toInt32)), (.ref w105), (.ref b89), (.ref b89)])) rfl (by rw [hml]; rfl) [(.int ((p4.toUInt32 >>> ((16 : Int32) &&& 31).toUInt32).toInt32))] [(.ref w105), (.ref b89), (.ref b89)] (lenOf own_pd_18 rfl) rfl rfl (hb hby at_128)
      obtain ⟨w121, rfl, Nc125, Kc124, hb122, f123⟩ := hQ120
      refine own_goW st120 ?_
      clear st120 X104
      replace N0 := Fr.app N0 Nc125
      clear Nc125
      have ne126 : w2 ≠ w121 := Nat.ne_of_lt (Nat.lt_of_lt_of_le f4.lt hb122)
      have ne127 : w11 ≠ w121 := Nat.ne_of_lt (Nat.lt_of_lt_of_le f13.lt hb122)
      have ne128 : w21 ≠ w121 := Nat.ne_of_lt (Nat.lt_of_lt_of_le f23.lt hb122)
      have ne129 : b31 ≠ w121 := Nat.ne_of_lt (Nat.lt_of_lt_of_le f52.lt hb122)
      have ne130 : w49 ≠ w121 := Nat.ne_of_lt (Nat.lt_of_lt_of_le f56.lt hb122)
      have ne131 : b69 ≠ w121 := Nat.ne_of_lt (Nat.lt_of_lt_of_le f82.lt hb122)
      have ne132 : b89 ≠ w121 := Nat.ne_of_lt (Nat.lt_of_lt_of_le A89.lt hb122)
      have ne133 : w105 ≠ w121 := Nat.ne_of_lt (Nat.lt_of_lt_of_le f107.lt hb122)
      have big134 : Z.heap.size ≤ w121 := Nat.le_trans O0.1 hb122
      have sz135 : h0.size ≤ w121 := Nat.le_trans K0.1 hb122
      have sz136 : hs1.size ≤ w121 := Nat.le_trans K1.1 hb122
      replace hS := own_since hS Kc124.1
      replace hJ := own_Jany hJ T120.heap
      replace f4 := f4.keep Kc124
      replace f13 := f13.keep Kc124
      replace f23 := f23.keep Kc124
      replace f52 := f52.keep Kc124
      replace f53 := f53.keep Kc124 nin0
      replace f54 := f54.keep Kc124 nin0
      replace f55 := f55.keep Kc124 nin0
      replace f56 := f56.keep Kc124 nin0
      replace f58 := f58.keep Kc124
      replace f82 := f82.keep Kc124
      replace f83 := f83.keep Kc124 nin0
      replace f84 := f84.keep Kc124 nin0
      replace f85 := f85.keep Kc124 nin0
      replace A89 := A89.keep Kc124
      replace f99 := f99.keep Kc124 nin0
      replace f100 := f100.keep Kc124 nin0
      replace f101 := f101.keep Kc124 nin0
      replace f102 := f102.keep Kc124 nin0
      replace f103 := f103.keep Kc124 nin0
      replace f107 := f107.keep Kc124
      replace O0 := own_oldKeep O0 Kc124 all0
      replace K0 := K0.trans Kc124 all0
      replace K1 := K1.trans Kc124 all0
      clear Kc124
      refine own_goW (fun _ k => XS.iload X120.here hx rfl (hb hby at_131) rfl (XS.bipush X120.here hx rfl (hb hby at_133) k)) ?_
      show own_GoW p e below s _ _ _ _ (T120.setTop (mkF m 135 #[iv p1, iv p2, iv p3, iv p4, iv p5, iv p6, iv ul, iv uz, rv w2, rv w11, rv w21, rv b31, rv b69, .unset, .unset] [(.int (16 : Int32)), (.int p5), (.ref w121), (.ref w105), (.ref b89), (.ref b89)]))
      refine own_goW (fun _ k => XS.iushr X120.here hx rfl (hb hby at_135) rfl k) ?_
      obtain ⟨v137, T137, L137, X137, hQ137, st137⟩ := own_callS (y := own_y9) X120 hx hZ hown (ow1 hw) (ow2 hw) (ow3 hw) (ow4 hw) (rm_str l Z a0 hw hO [] ((p5.toUInt32 >>> ((16 : Int32) &&& 31).toUInt32).toInt32) T120.heap O0) 4 3 8 (by show _ ≤ 80; omega) (by show _ ≤ 3392; omega) (rfl : T120.heap = T120.heap) (g := (mkF m 136 #[iv p1, iv p2, iv p3, iv p4, iv p5, iv p6, iv ul, iv uz, rv w2, rv w11, rv w21, rv b31, rv b69, .unset, .unset] [(.int ((p5.toUInt32 >>> ((16 : Int32) &&& 31).toUInt32).toInt32)), (.ref w121), (.ref w105), (.ref b89), (.ref b89)])) rfl (by rw [hml]; rfl) [(.int ((p5.toUInt32 >>> ((16 : Int32) &&& 31).toUInt32).toInt32))] [(.ref w121), (.ref w105), (.ref b89), (.ref b89)] (lenOf own_pd_18 rfl) rfl rfl (hb hby at_136)
      obtain ⟨w138, rfl, Nc142, Kc141, hb139, f140⟩ := hQ137
      refine own_goW st137 ?_
      clear st137 X120
      replace N0 := Fr.app N0 Nc142
      clear Nc142
      have ne143 : w2 ≠ w138 := Nat.ne_of_lt (Nat.lt_of_lt_of_le f4.lt hb139)
      have ne144 : w11 ≠ w138 := Nat.ne_of_lt (Nat.lt_of_lt_of_le f13.lt hb139)
      have ne145 : w21 ≠ w138 := Nat.ne_of_lt (Nat.lt_of_lt_of_le f23.lt hb139)
      have ne146 : b31 ≠ w138 := Nat.ne_of_lt (Nat.lt_of_lt_of_le f52.lt hb139)
      have ne147 : w49 ≠ w138 := Nat.ne_of_lt (Nat.lt_of_lt_of_le f56.lt hb139)
      have ne148 : b69 ≠ w138 := Nat.ne_of_lt (Nat.lt_of_lt_of_le f82.lt hb139)
      have ne149 : b89 ≠ w138 := Nat.ne_of_lt (Nat.lt_of_lt_of_le A89.lt hb139)
      have ne150 : w105 ≠ w138 := Nat.ne_of_lt (Nat.lt_of_lt_of_le f107.lt hb139)
      have ne151 : w121 ≠ w138 := Nat.ne_of_lt (Nat.lt_of_lt_of_le f123.lt hb139)
      have big152 : Z.heap.size ≤ w138 := Nat.le_trans O0.1 hb139
      have sz153 : h0.size ≤ w138 := Nat.le_trans K0.1 hb139
      have sz154 : hs1.size ≤ w138 := Nat.le_trans K1.1 hb139
      replace hS := own_since hS Kc141.1
      replace hJ := own_Jany hJ T137.heap
      replace f4 := f4.keep Kc141
      replace f13 := f13.keep Kc141
      replace f23 := f23.keep Kc141
      replace f52 := f52.keep Kc141
      replace f53 := f53.keep Kc141 nin0
      replace f54 := f54.keep Kc141 nin0
      replace f55 := f55.keep Kc141 nin0
      replace f56 := f56.keep Kc141 nin0
      replace f58 := f58.keep Kc141
      replace f82 := f82.keep Kc141
      replace f83 := f83.keep Kc141 nin0
      replace f84 := f84.keep Kc141 nin0
      replace f85 := f85.keep Kc141 nin0
      replace A89 := A89.keep Kc141
      replace f99 := f99.keep Kc141 nin0
      replace f100 := f100.keep Kc141 nin0
      replace f101 := f101.keep Kc141 nin0
      replace f102 := f102.keep Kc141 nin0
      replace f103 := f103.keep Kc141 nin0
      replace f107 := f107.keep Kc141
      replace f123 := f123.keep Kc141
      replace O0 := own_oldKeep O0 Kc141 all0
      replace K0 := K0.trans Kc141 all0
      replace K1 := K1.trans Kc141 all0
      clear Kc141
      refine own_goW (fun _ k => XS.aload X137.here hx rfl (hb hby at_139) rfl rfl (XS.aload X137.here hx rfl (hb hby at_141) rfl rfl k)) ?_
      obtain ⟨v155, T155, L155, X155, hSn, hZn, hownn, hQ155, hJn, st155⟩ := own_callIW (y := own_y35) X137 hS hL hJ hx hZ hown (ow93 hw) (ow94 hw) (ow92 hw) (ow95 hw) (rm_dim_1_0 l Z a0 hw hO [] b89 w105 w121 w138 b31 b69 w49 w50 w2 T137.heap O0 A89 f99 f100 f101 f102 f103 f52 f53 f54 f56 f58 (Ins.of_exa f4 (ow89 hw)) f82 f83 big96) 1 8 91 rfl (by show _ ≤ 80; omega) (by show _ ≤ 3392; omega) (rfl : T137.heap = T137.heap) (g := (mkF m 143 #[iv p1, iv p2, iv p3, iv p4, iv p5, iv p6, iv ul, iv uz, rv w2, rv w11, rv w21, rv b31, rv b69, .unset, .unset] [(.ref b69), (.ref b31), (.ref w138), (.ref w121), (.ref w105), (.ref b89), (.ref b89)])) rfl (by rw [hml]; rfl) b89 [(.ref w105), (.ref w121), (.ref w138), (.ref b31), (.ref b69)] [(.ref b89)] (lenOf own_pd_20 rfl) rfl rfl (hb hby at_143)
      replace hS := hSn
      replace hZ := hZn
      replace hown := hownn
      replace hJ := hJn
      clear hSn hZn hownn hJn
      obtain ⟨w156, rfl, Nc162, Kc161, f157, f158, f159, f160⟩ := hQ155
      refine own_goW st155 ?_
      clear st155 X137
      replace N0 := Fr.app N0 Nc162
      clear Nc162
      replace f4 := f4.keep Kc161
      replace f13 := f13.keep Kc161
      replace f23 := f23.keep Kc161
      replace f52 := f52.keep Kc161
      replace f53 := f53.keep Kc161 (ninS ne93 nin0)
      replace f54 := f54.keep Kc161 (ninS ne93 nin0)
      replace f55 := f55.keep Kc161 (ninS ne93 nin0)
      replace f56 := f56.keep Kc161 (ninS ne94 nin0)
      replace f58 := f58.keep Kc161
      replace f82 := f82.keep Kc161
      replace f83 := f83.keep Kc161 (ninS ne95 nin0)
      replace f84 := f84.keep Kc161 (ninS ne95 nin0)
      replace f85 := f85.keep Kc161 (ninS ne95 nin0)
      replace A89 := A89.keep Kc161
      clear f99
      clear f100
      clear f101
      clear f102
      clear f103
      replace f107 := f107.keep Kc161
      replace f123 := f123.keep Kc161
      replace f140 := f140.keep Kc161
      replace O0 := own_oldKeep O0 Kc161 (allS big96 all0)
      replace K0 := K0.trans Kc161 (allS (Or.inr sz97) all0)
      replace K1 := K1.trans Kc161 (allS (Or.inr sz98) all0)
      clear Kc161
      show own_GoW p e below s _ _ _ _ (T155.setTop (mkF m 146 #[iv p1, iv p2, iv p3, iv p4, iv p5, iv p6, iv ul, iv uz, rv w2, rv w11, rv w21, rv b31, rv b69, .unset, .unset] [(.ref b89)]))
      refine own_goW (fun _ k => XS.astore X155.here hx rfl (hb hby at_146) rfl rfl (l' := #[iv p1, iv p2, iv p3, iv p4, iv p5, iv p6, iv ul, iv uz, rv w2, rv w11, rv w21, rv b31, rv b69, rv b89, .unset]) rfl (XS.aload X155.here hx rfl (hb hby at_148) rfl rfl k)) ?_
      obtain ⟨v163, T163, L163, X163, hQ163, st163⟩ := own_callV (y := own_y37) (z := own_y37) X155 hx hZ hown (ow219 hw) (ow220 hw) (notFace_of_selects (args := #[]) (mvT hZ (ow222 hw))) (ow222 hw) (ow221 hw) (ow92 hw) (ow223 hw) (rm_key_1 l Z a0 hw hO [] b89 w156 w2 T155.heap O0 f158 f159 f160 f4) 0 0 0 (by show _ ≤ 80; omega) (by show _ ≤ 3392; omega) (rfl : T155.heap = T155.heap) f157 (g := (mkF m 150 #[iv p1, iv p2, iv p3, iv p4, iv p5, iv p6, iv ul, iv uz, rv w2, rv w11, rv w21, rv b31, rv b69, rv b89, .unset] [(.ref b89)])) rfl (by rw [hml]; rfl) [] [] (lenOf own_pd_21 rfl) rfl rfl (hb hby at_150)
      obtain ⟨rfl, Nc165, Kc164⟩ := hQ163
      refine own_goW st163 ?_
      clear st163 X155
      replace N0 := Fr.app N0 Nc165
      clear Nc165
      refine own_goW (fun _ k => XS.astore X163.here hx rfl (hb hby at_153) rfl rfl (l' := #[iv p1, iv p2, iv p3, iv p4, iv p5, iv p6, iv ul, iv uz, rv w2, rv w11, rv w21, rv b31, rv b69, rv b89, rv w2]) rfl (XS.aload X163.here hx rfl (hb hby at_155) rfl rfl k)) ?_
      show own_GoW p e below s _ _ _ _ (T163.setTop (mkF m 157 #[iv p1, iv p2, iv p3, iv p4, iv p5, iv p6, iv ul, iv uz, rv w2, rv w11, rv w21, rv b31, rv b69, rv b89, rv w2] [(.ref w2)]))
      refine own_goW (fun _ k => XS.aload X163.here hx rfl (hb hby at_157) rfl rfl k) ?_
      obtain ⟨v166, T166, L166, X166, hQ166, st166⟩ := own_callV (y := own_y38) (z := own_y38) X163 hx hZ hown (ow233 hw) (ow234 hw) (notFace_of_selects (args := #[]) (mvT hZ (ow236 hw))) (ow236 hw) (ow235 hw) (ow8 hw) (ow237 hw) (rm_eqSame l Z a0 hw hO [] w2 w2 T155.heap O0 (rfl : w2 = w2)) 0 0 0 (by show _ ≤ 80; omega) (by show _ ≤ 3392; omega) Kc164 f4 (g := (mkF m 159 #[iv p1, iv p2, iv p3, iv p4, iv p5, iv p6, iv ul, iv uz, rv w2, rv w11, rv w21, rv b31, rv b69, rv b89, rv w2] [(.ref w2), (.ref w2)])) rfl (by rw [hml]; rfl) [(.ref w2)] [] (lenOf own_pd_19 rfl) rfl rfl (hb hby at_159)
      obtain ⟨rfl, Nc168, Kc167⟩ := hQ166
      refine own_goW st166 ?_
      clear st166 X163 Kc164
      replace N0 := Fr.app N0 Nc168
      clear Nc168
      show own_GoW p e below s _ _ _ _ (T166.setTop (mkF m 162 #[iv p1, iv p2, iv p3, iv p4, iv p5, iv p6, iv ul, iv uz, rv w2, rv w11, rv w21, rv b31, rv b69, rv b89, rv w2] [(.int (1 : Int32))]))
      refine own_retNW X166 hS hL hZ hJ hx hlk Kc167 (t := .boolean) hret (by simp) (hb hby at_162) (by show _ ≤ 80; omega) (by show _ ≤ 3392; omega) ?_
      exact ⟨rfl, N0, K0⟩
    · refine own_goW (fun _ k => XS.ifNo X81.here hx rfl (hb hby at_102) rfl ((if0 _ _).trans (feq hc88).1) k) ?_
      show own_GoW p e below s _ _ _ _ (T81.setTop (mkF m 105 #[iv p1, iv p2, iv p3, iv p4, iv p5, iv p6, iv ul, iv uz, rv w2, rv w11, rv w21, rv b31, rv b69, .unset, .unset] []))
      refine own_goW (fun _ k => XS.aload X81.here hx rfl (hb hby at_105) rfl rfl (XS.iload X81.here hx rfl (hb hby at_107) rfl k)) ?_
      obtain ⟨v169, T169, L169, X169, hQ169, st169⟩ := own_callS (y := own_y9) X81 hx hZ hown (ow1 hw) (ow2 hw) (ow3 hw) (ow4 hw) (rm_str l Z a0 hw hO [] p5 T81.heap O0) 1 3 8 (by show _ ≤ 80; omega) (by show _ ≤ 3392; omega) (rfl : T81.heap = T81.heap) (g := (mkF m 109 #[iv p1, iv p2, iv p3, iv p4, iv p5, iv p6, iv ul, iv uz, rv w2, rv w11, rv w21, rv b31, rv b69, .unset, .unset] [(.int p5), (.ref b69)])) rfl (by rw [hml]; rfl) [(.int p5)] [(.ref b69)] (lenOf own_pd_18 rfl) rfl rfl (hb hby at_109)
      obtain ⟨w170, rfl, Nc174, Kc173, hb171, f172⟩ := hQ169
      refine own_goW st169 ?_
      clear st169 X81
      replace N0 := Fr.app N0 Nc174
      clear Nc174
      have ne175 : w2 ≠ w170 := Nat.ne_of_lt (Nat.lt_of_lt_of_le f4.lt hb171)
      have ne176 : w11 ≠ w170 := Nat.ne_of_lt (Nat.lt_of_lt_of_le f13.lt hb171)
      have ne177 : w21 ≠ w170 := Nat.ne_of_lt (Nat.lt_of_lt_of_le f23.lt hb171)
      have ne178 : b31 ≠ w170 := Nat.ne_of_lt (Nat.lt_of_lt_of_le f52.lt hb171)
      have ne179 : w49 ≠ w170 := Nat.ne_of_lt (Nat.lt_of_lt_of_le f56.lt hb171)
      have ne180 : b69 ≠ w170 := Nat.ne_of_lt (Nat.lt_of_lt_of_le f82.lt hb171)
      have big181 : Z.heap.size ≤ w170 := Nat.le_trans O0.1 hb171
      have sz182 : h0.size ≤ w170 := Nat.le_trans K0.1 hb171
      have sz183 : hs1.size ≤ w170 := Nat.le_trans K1.1 hb171
      replace hS := own_since hS Kc173.1
      replace hJ := own_Jany hJ T169.heap
      replace f4 := f4.keep Kc173
      replace f13 := f13.keep Kc173
      replace f23 := f23.keep Kc173
      replace f52 := f52.keep Kc173
      replace f53 := f53.keep Kc173 nin0
      replace f54 := f54.keep Kc173 nin0
      replace f55 := f55.keep Kc173 nin0
      replace f56 := f56.keep Kc173 nin0
      replace f58 := f58.keep Kc173
      replace f82 := f82.keep Kc173
      replace f83 := f83.keep Kc173 nin0
      replace f84 := f84.keep Kc173 nin0
      replace f85 := f85.keep Kc173 nin0
      replace O0 := own_oldKeep O0 Kc173 all0
      replace K0 := K0.trans Kc173 all0
      replace K1 := K1.trans Kc173 all0
      clear Kc173
      obtain ⟨v184, T184, L184, X184, hQ184, st184⟩ := own_callV (y := own_y7) (z := own_y7) X169 hx hZ hown (ow59 hw) (ow60 hw) (notFace_of_selects (args := #[]) (mvT hZ (ow62 hw))) (ow62 hw) (ow61 hw) (ow37 hw) (ow63 hw) (rm_add1_0 l Z a0 hw hO [] b69 w170 (0 : Int32) T169.heap O0 f82 f83 f84 f85 (Ins.of_exa f172 (ow89 hw)) big75) 0 1 10 (by show _ ≤ 80; omega) (by show _ ≤ 3392; omega) (rfl : T169.heap = T169.heap) f82 (g := (mkF m 112 #[iv p1, iv p2, iv p3, iv p4, iv p5, iv p6, iv ul, iv uz, rv w2, rv w11, rv w21, rv b31, rv b69, .unset, .unset] [(.ref w170), (.ref b69)])) rfl (by rw [hml]; rfl) [(.ref w170)] [] (lenOf own_pd_19 rfl) rfl rfl (hb hby at_112)
      obtain ⟨w185, w186, rfl, Nc196, Kc195, hb187, f188, f189, f190, f191, f192, f193, f194⟩ := hQ184
      refine own_goW st184 ?_
      clear st184 X169
      replace N0 := Fr.app N0 Nc196
      clear Nc196
      have ne197 : w2 ≠ w185 := Nat.ne_of_lt (Nat.lt_of_lt_of_le f4.lt hb187)
      have ne198 : w11 ≠ w185 := Nat.ne_of_lt (Nat.lt_of_lt_of_le f13.lt hb187)
      have ne199 : w21 ≠ w185 := Nat.ne_of_lt (Nat.lt_of_lt_of_le f23.lt hb187)
      have ne200 : b31 ≠ w185 := Nat.ne_of_lt (Nat.lt_of_lt_of_le f52.lt hb187)
      have ne201 : w49 ≠ w185 := Nat.ne_of_lt (Nat.lt_of_lt_of_le f56.lt hb187)
      have ne202 : b69 ≠ w185 := Nat.ne_of_lt (Nat.lt_of_lt_of_le f82.lt hb187)
      have ne203 : w170 ≠ w185 := Nat.ne_of_lt (Nat.lt_of_lt_of_le f172.lt hb187)
      have big204 : Z.heap.size ≤ w185 := Nat.le_trans O0.1 hb187
      have sz205 : h0.size ≤ w185 := Nat.le_trans K0.1 hb187
      have sz206 : hs1.size ≤ w185 := Nat.le_trans K1.1 hb187
      replace hS := own_since hS Kc195.1
      replace hJ := own_Jany hJ T184.heap
      replace f4 := f4.keep Kc195
      replace f13 := f13.keep Kc195
      replace f23 := f23.keep Kc195
      replace f52 := f52.keep Kc195
      replace f53 := f53.keep Kc195 (ninS ne73 nin0)
      replace f54 := f54.keep Kc195 (ninS ne73 nin0)
      replace f55 := f55.keep Kc195 (ninS ne73 nin0)
      replace f56 := f56.keep Kc195 (ninS ne74 nin0)
      replace f58 := f58.keep Kc195
      replace f82 := f82.keep Kc195
      clear f83
      clear f84
      clear f85
      replace f172 := f172.keep Kc195
      replace O0 := own_oldKeep O0 Kc195 (allS big75 all0)
      replace K0 := K0.trans Kc195 (allS (Or.inr sz76) all0)
      replace K1 := K1.trans Kc195 (allS (Or.inr sz77) all0)
      clear Kc195
      refine own_goW (fun _ k => XS.pop X184.here hx rfl (hb hby at_115) rfl rfl k) ?_
      show own_GoW p e below s _ _ _ _ (T184.setTop (mkF m 116 #[iv p1, iv p2, iv p3, iv p4, iv p5, iv p6, iv ul, iv uz, rv w2, rv w11, rv w21, rv b31, rv b69, .unset, .unset] []))
      obtain ⟨T207, h207, X207, e207, E207, A207, D207, -, st207⟩ := newO X184 hx hZ hown (ow90 hw) (ow91 hw) (ow92 hw) (rfl : T184.heap = T184.heap) (g := (mkF m 116 #[iv p1, iv p2, iv p3, iv p4, iv p5, iv p6, iv ul, iv uz, rv w2, rv w11, rv w21, rv b31, rv b69, .unset, .unset] [])) rfl (hb hby at_116) (by show _ ≤ 80; omega) (by show _ ≤ 3392; omega)
      obtain ⟨b207, g207⟩ : ∃ z, z = T184.heap.size := ⟨_, rfl⟩
      rw [← g207] at A207 D207 st207
      refine own_goW st207 ?_
      clear st207 X184
      have ge207 := Nat.le_of_eq g207.symm
      have ne208 : w2 ≠ b207 := Nat.ne_of_lt (Nat.lt_of_lt_of_le f4.lt ge207)
      have ne209 : w11 ≠ b207 := Nat.ne_of_lt (Nat.lt_of_lt_of_le f13.lt ge207)
      have ne210 : w21 ≠ b207 := Nat.ne_of_lt (Nat.lt_of_lt_of_le f23.lt ge207)
      have ne211 : b31 ≠ b207 := Nat.ne_of_lt (Nat.lt_of_lt_of_le f52.lt ge207)
      have ne212 : w49 ≠ b207 := Nat.ne_of_lt (Nat.lt_of_lt_of_le f56.lt ge207)
      have ne213 : b69 ≠ b207 := Nat.ne_of_lt (Nat.lt_of_lt_of_le f188.lt ge207)
      have ne214 : w170 ≠ b207 := Nat.ne_of_lt (Nat.lt_of_lt_of_le f172.lt ge207)
      have ne215 : w185 ≠ b207 := Nat.ne_of_lt (Nat.lt_of_lt_of_le f192.lt ge207)
      have big216 : Z.heap.size ≤ b207 := Nat.le_trans O0.1 ge207
      have sz217 : h0.size ≤ b207 := Nat.le_trans K0.1 ge207
      have sz218 : hs1.size ≤ b207 := Nat.le_trans K1.1 ge207
      replace f4 := f4.ext E207
      replace f13 := f13.ext E207
      replace f23 := f23.ext E207
      replace f52 := f52.ext E207
      replace f53 := f53.ext E207
      replace f54 := f54.ext E207
      replace f55 := f55.ext E207
      replace f56 := f56.ext E207
      replace f58 := f58.ext E207
      replace f188 := f188.ext E207
      replace f172 := f172.ext E207
      replace f189 := f189.ext E207
      replace f190 := f190.ext E207
      replace f191 := f191.ext E207
      replace f192 := f192.ext E207
      replace f194 := f194.ext E207
      replace O0 := own_oldExt O0 E207
      replace K0 := K0.ext E207
      replace K1 := K1.ext E207
      replace hS := own_since hS E207.1
      replace hJ := own_Jext hJ E207
      clear E207
      have f219 : Fld Z h207 b207 "com/example/ibex/ibex/model/Dimension" "name" "Ljava/lang/String;" .null := D207 (Or.inr (ow210 hw)) (ty := (.object "java/lang/String")) own_fd6
      have f220 : Fld Z h207 b207 "com/example/ibex/ibex/model/Dimension" "table" "Ljava/lang/String;" .null := D207 (Or.inr (ow212 hw)) (ty := (.object "java/lang/String")) own_fd6
      have f221 : Fld Z h207 b207 "com/example/ibex/ibex/model/Dimension" "foreignKey" "Ljava/lang/String;" .null := D207 (Or.inr (ow214 hw)) (ty := (.object "java/lang/String")) own_fd6
      have f222 : Fld Z h207 b207 "com/example/ibex/ibex/model/Dimension" "levels" "Ljava/util/List;" .null := D207 (Or.inr (ow216 hw)) (ty := (.object "java/util/List")) own_fd7
      have f223 : Fld Z h207 b207 "com/example/ibex/ibex/model/Dimension" "attributes" "Ljava/util/List;" .null := D207 (Or.inr (ow218 hw)) (ty := (.object "java/util/List")) own_fd7
      refine own_goW (fun _ k => XS.dup X207.here hx rfl (hb hby at_119) rfl rfl (XS.iloadN X207.here hx rfl (hb hby at_120) rfl k)) ?_
      obtain ⟨v224, T224, L224, X224, hQ224, st224⟩ := own_callS (y := own_y9) X207 hx hZ hown (ow1 hw) (ow2 hw) (ow3 hw) (ow4 hw) (rm_str l Z a0 hw hO [] p4 h207 O0) 2 3 8 (by show _ ≤ 80; omega) (by show _ ≤ 3392; omega) e207 (g := (mkF m 121 #[iv p1, iv p2, iv p3, iv p4, iv p5, iv p6, iv ul, iv uz, rv w2, rv w11, rv w21, rv b31, rv b69, .unset, .unset] [(.int p4), (.ref b207), (.ref b207)])) rfl (by rw [hml]; rfl) [(.int p4)] [(.ref b207), (.ref b207)] (lenOf own_pd_18 rfl) rfl rfl (hb hby at_121)
      obtain ⟨w225, rfl, Nc229, Kc228, hb226, f227⟩ := hQ224
      refine own_goW st224 ?_
      clear st224 X207 e207
      replace N0 := Fr.app N0 Nc229
      clear Nc229
      have ne230 : w2 ≠ w225 := Nat.ne_of_lt (Nat.lt_of_lt_of_le f4.lt hb226)
      have ne231 : w11 ≠ w225 := Nat.ne_of_lt (Nat.lt_of_lt_of_le f13.lt hb226)
      have ne232 : w21 ≠ w225 := Nat.ne_of_lt (Nat.lt_of_lt_of_le f23.lt hb226)
      have ne233 : b31 ≠ w225 := Nat.ne_of_lt (Nat.lt_of_lt_of_le f52.lt hb226)
      have ne234 : w49 ≠ w225 := Nat.ne_of_lt (Nat.lt_of_lt_of_le f56.lt hb226)
      have ne235 : b69 ≠ w225 := Nat.ne_of_lt (Nat.lt_of_lt_of_le f188.lt hb226)
      have ne236 : w170 ≠ w225 := Nat.ne_of_lt (Nat.lt_of_lt_of_le f172.lt hb226)
      have ne237 : w185 ≠ w225 := Nat.ne_of_lt (Nat.lt_of_lt_of_le f192.lt hb226)
      have ne238 : b207 ≠ w225 := Nat.ne_of_lt (Nat.lt_of_lt_of_le A207.lt hb226)
      have big239 : Z.heap.size ≤ w225 := Nat.le_trans O0.1 hb226
      have sz240 : h0.size ≤ w225 := Nat.le_trans K0.1 hb226
      have sz241 : hs1.size ≤ w225 := Nat.le_trans K1.1 hb226
      replace hS := own_since hS Kc228.1
      replace hJ := own_Jany hJ T224.heap
      replace f4 := f4.keep Kc228
      replace f13 := f13.keep Kc228
      replace f23 := f23.keep Kc228
      replace f52 := f52.keep Kc228
      replace f53 := f53.keep Kc228 nin0
      replace f54 := f54.keep Kc228 nin0
      replace f55 := f55.keep Kc228 nin0
      replace f56 := f56.keep Kc228 nin0
      replace f58 := f58.keep Kc228
      replace f188 := f188.keep Kc228
      replace f172 := f172.keep Kc228
      replace f189 := f189.keep Kc228 nin0
      replace f190 := f190.keep Kc228 nin0
      replace f191 := f191.keep Kc228 nin0
      replace f192 := f192.keep Kc228 nin0
      replace f194 := f194.keep Kc228
      replace A207 := A207.keep Kc228
      replace f219 := f219.keep Kc228 nin0
      replace f220 := f220.keep Kc228 nin0
      replace f221 := f221.keep Kc228 nin0
      replace f222 := f222.keep Kc228 nin0
      replace f223 := f223.keep Kc228 nin0
      replace O0 := own_oldKeep O0 Kc228 all0
      replace K0 := K0.trans Kc228 all0
      replace K1 := K1.trans Kc228 all0
      clear Kc228
      refine own_goW (fun _ k => XS.iloadN X224.here hx rfl (hb hby at_124) rfl k) ?_
      show own_GoW p e below s _ _ _ _ (T224.setTop (mkF m 125 #[iv p1, iv p2, iv p3, iv p4, iv p5, iv p6, iv ul, iv uz, rv w2, rv w11, rv w21, rv b31, rv b69, .unset, .unset] [(.int p4), (.ref w225), (.ref b207), (.ref b207)]))
      refine own_goW (fun _ k => XS.bipush X224.here hx rfl (hb hby at_125) (XS.iushr X224.here hx rfl (hb hby at_127) rfl k)) ?_
      obtain ⟨v242, T242, L242, X242, hQ242, st242⟩ := own_callS (y := own_y9) X224 hx hZ hown (ow1 hw) (ow2 hw) (ow3 hw) (ow4 hw) (rm_str l Z a0 hw hO [] ((p4.toUInt32 >>> ((16 : Int32) &&& 31).toUInt32).toInt32) T224.heap O0) 3 3 8 (by show _ ≤ 80; omega) (by show _ ≤ 3392; omega) (rfl : T224.heap = T224.heap) (g := (mkF m 128 #[iv p1, iv p2, iv p3, iv p4, iv p5, iv p6, iv ul, iv uz, rv w2, rv w11, rv w21, rv b31, rv b69, .unset, .unset] [(.int ((p4.toUInt32 >>> ((16 : Int32) &&& 31).toUInt32).toInt32)), (.ref w225), (.ref b207), (.ref b207)])) rfl (by rw [hml]; rfl) [(.int ((p4.toUInt32 >>> ((16 : Int32) &&& 31).toUInt32).toInt32))] [(.ref w225), (.ref b207), (.ref b207)] (lenOf own_pd_18 rfl) rfl rfl (hb hby at_128)
      obtain ⟨w243, rfl, Nc247, Kc246, hb244, f245⟩ := hQ242
      refine own_goW st242 ?_
      clear st242 X224
      replace N0 := Fr.app N0 Nc247
      clear Nc247
      have ne248 : w2 ≠ w243 := Nat.ne_of_lt (Nat.lt_of_lt_of_le f4.lt hb244)
      have ne249 : w11 ≠ w243 := Nat.ne_of_lt (Nat.lt_of_lt_of_le f13.lt hb244)
      have ne250 : w21 ≠ w243 := Nat.ne_of_lt (Nat.lt_of_lt_of_le f23.lt hb244)
      have ne251 : b31 ≠ w243 := Nat.ne_of_lt (Nat.lt_of_lt_of_le f52.lt hb244)
      have ne252 : w49 ≠ w243 := Nat.ne_of_lt (Nat.lt_of_lt_of_le f56.lt hb244)
      have ne253 : b69 ≠ w243 := Nat.ne_of_lt (Nat.lt_of_lt_of_le f188.lt hb244)
      have ne254 : w170 ≠ w243 := Nat.ne_of_lt (Nat.lt_of_lt_of_le f172.lt hb244)
      have ne255 : w185 ≠ w243 := Nat.ne_of_lt (Nat.lt_of_lt_of_le f192.lt hb244)
      have ne256 : b207 ≠ w243 := Nat.ne_of_lt (Nat.lt_of_lt_of_le A207.lt hb244)
      have ne257 : w225 ≠ w243 := Nat.ne_of_lt (Nat.lt_of_lt_of_le f227.lt hb244)
      have big258 : Z.heap.size ≤ w243 := Nat.le_trans O0.1 hb244
      have sz259 : h0.size ≤ w243 := Nat.le_trans K0.1 hb244
      have sz260 : hs1.size ≤ w243 := Nat.le_trans K1.1 hb244
      replace hS := own_since hS Kc246.1
      replace hJ := own_Jany hJ T242.heap
      replace f4 := f4.keep Kc246
      replace f13 := f13.keep Kc246
      replace f23 := f23.keep Kc246
      replace f52 := f52.keep Kc246
      replace f53 := f53.keep Kc246 nin0
      replace f54 := f54.keep Kc246 nin0
      replace f55 := f55.keep Kc246 nin0
      replace f56 := f56.keep Kc246 nin0
      replace f58 := f58.keep Kc246
      replace f188 := f188.keep Kc246
      replace f172 := f172.keep Kc246
      replace f189 := f189.keep Kc246 nin0
      replace f190 := f190.keep Kc246 nin0
      replace f191 := f191.keep Kc246 nin0
      replace f192 := f192.keep Kc246 nin0
      replace f194 := f194.keep Kc246
      replace A207 := A207.keep Kc246
      replace f219 := f219.keep Kc246 nin0
      replace f220 := f220.keep Kc246 nin0
      replace f221 := f221.keep Kc246 nin0
      replace f222 := f222.keep Kc246 nin0
      replace f223 := f223.keep Kc246 nin0
      replace f227 := f227.keep Kc246
      replace O0 := own_oldKeep O0 Kc246 all0
      replace K0 := K0.trans Kc246 all0
      replace K1 := K1.trans Kc246 all0
      clear Kc246
      refine own_goW (fun _ k => XS.iload X242.here hx rfl (hb hby at_131) rfl (XS.bipush X242.here hx rfl (hb hby at_133) k)) ?_
      show own_GoW p e below s _ _ _ _ (T242.setTop (mkF m 135 #[iv p1, iv p2, iv p3, iv p4, iv p5, iv p6, iv ul, iv uz, rv w2, rv w11, rv w21, rv b31, rv b69, .unset, .unset] [(.int (16 : Int32)), (.int p5), (.ref w243), (.ref w225), (.ref b207), (.ref b207)]))
      refine own_goW (fun _ k => XS.iushr X242.here hx rfl (hb hby at_135) rfl k) ?_
      obtain ⟨v261, T261, L261, X261, hQ261, st261⟩ := own_callS (y := own_y9) X242 hx hZ hown (ow1 hw) (ow2 hw) (ow3 hw) (ow4 hw) (rm_str l Z a0 hw hO [] ((p5.toUInt32 >>> ((16 : Int32) &&& 31).toUInt32).toInt32) T242.heap O0) 4 3 8 (by show _ ≤ 80; omega) (by show _ ≤ 3392; omega) (rfl : T242.heap = T242.heap) (g := (mkF m 136 #[iv p1, iv p2, iv p3, iv p4, iv p5, iv p6, iv ul, iv uz, rv w2, rv w11, rv w21, rv b31, rv b69, .unset, .unset] [(.int ((p5.toUInt32 >>> ((16 : Int32) &&& 31).toUInt32).toInt32)), (.ref w243), (.ref w225), (.ref b207), (.ref b207)])) rfl (by rw [hml]; rfl) [(.int ((p5.toUInt32 >>> ((16 : Int32) &&& 31).toUInt32).toInt32))] [(.ref w243), (.ref w225), (.ref b207), (.ref b207)] (lenOf own_pd_18 rfl) rfl rfl (hb hby at_136)
      obtain ⟨w262, rfl, Nc266, Kc265, hb263, f264⟩ := hQ261
      refine own_goW st261 ?_
      clear st261 X242
      replace N0 := Fr.app N0 Nc266
      clear Nc266
      have ne267 : w2 ≠ w262 := Nat.ne_of_lt (Nat.lt_of_lt_of_le f4.lt hb263)
      have ne268 : w11 ≠ w262 := Nat.ne_of_lt (Nat.lt_of_lt_of_le f13.lt hb263)
      have ne269 : w21 ≠ w262 := Nat.ne_of_lt (Nat.lt_of_lt_of_le f23.lt hb263)
      have ne270 : b31 ≠ w262 := Nat.ne_of_lt (Nat.lt_of_lt_of_le f52.lt hb263)
      have ne271 : w49 ≠ w262 := Nat.ne_of_lt (Nat.lt_of_lt_of_le f56.lt hb263)
      have ne272 : b69 ≠ w262 := Nat.ne_of_lt (Nat.lt_of_lt_of_le f188.lt hb263)
      have ne273 : w170 ≠ w262 := Nat.ne_of_lt (Nat.lt_of_lt_of_le f172.lt hb263)
      have ne274 : w185 ≠ w262 := Nat.ne_of_lt (Nat.lt_of_lt_of_le f192.lt hb263)
      have ne275 : b207 ≠ w262 := Nat.ne_of_lt (Nat.lt_of_lt_of_le A207.lt hb263)
      have ne276 : w225 ≠ w262 := Nat.ne_of_lt (Nat.lt_of_lt_of_le f227.lt hb263)
      have ne277 : w243 ≠ w262 := Nat.ne_of_lt (Nat.lt_of_lt_of_le f245.lt hb263)
      have big278 : Z.heap.size ≤ w262 := Nat.le_trans O0.1 hb263
      have sz279 : h0.size ≤ w262 := Nat.le_trans K0.1 hb263
      have sz280 : hs1.size ≤ w262 := Nat.le_trans K1.1 hb263
      replace hS := own_since hS Kc265.1
      replace hJ := own_Jany hJ T261.heap
      replace f4 := f4.keep Kc265
      replace f13 := f13.keep Kc265
      replace f23 := f23.keep Kc265
      replace f52 := f52.keep Kc265
      replace f53 := f53.keep Kc265 nin0
      replace f54 := f54.keep Kc265 nin0
      replace f55 := f55.keep Kc265 nin0
      replace f56 := f56.keep Kc265 nin0
      replace f58 := f58.keep Kc265
      replace f188 := f188.keep Kc265
      replace f172 := f172.keep Kc265
      replace f189 := f189.keep Kc265 nin0
      replace f190 := f190.keep Kc265 nin0
      replace f191 := f191.keep Kc265 nin0
      replace f192 := f192.keep Kc265 nin0
      replace f194 := f194.keep Kc265
      replace A207 := A207.keep Kc265
      replace f219 := f219.keep Kc265 nin0
      replace f220 := f220.keep Kc265 nin0
      replace f221 := f221.keep Kc265 nin0
      replace f222 := f222.keep Kc265 nin0
      replace f223 := f223.keep Kc265 nin0
      replace f227 := f227.keep Kc265
      replace f245 := f245.keep Kc265
      replace O0 := own_oldKeep O0 Kc265 all0
      replace K0 := K0.trans Kc265 all0
      replace K1 := K1.trans Kc265 all0
      clear Kc265
      refine own_goW (fun _ k => XS.aload X261.here hx rfl (hb hby at_139) rfl rfl (XS.aload X261.here hx rfl (hb hby at_141) rfl rfl k)) ?_
      obtain ⟨v281, T281, L281, X281, hSn, hZn, hownn, hQ281, hJn, st281⟩ := own_callIW (y := own_y35) X261 hS hL hJ hx hZ hown (ow93 hw) (ow94 hw) (ow92 hw) (ow95 hw) (rm_dim_1_1 l Z a0 hw hO [] b207 w225 w243 w262 b31 b69 w49 w50 w2 w185 w186 w170 T261.heap O0 A207 f219 f220 f221 f222 f223 f52 f53 f54 f56 f58 (Ins.of_exa f4 (ow89 hw)) f188 f189 f190 f192 f194 (Ins.of_exa f172 (ow89 hw)) big216) 1 10 94 rfl (by show _ ≤ 80; omega) (by show _ ≤ 3392; omega) (rfl : T261.heap = T261.heap) (g := (mkF m 143 #[iv p1, iv p2, iv p3, iv p4, iv p5, iv p6, iv ul, iv uz, rv w2, rv w11, rv w21, rv b31, rv b69, .unset, .unset] [(.ref b69), (.ref b31), (.ref w262), (.ref w243), (.ref w225), (.ref b207), (.ref b207)])) rfl (by rw [hml]; rfl) b207 [(.ref w225), (.ref w243), (.ref w262), (.ref b31), (.ref b69)] [(.ref b207)] (lenOf own_pd_20 rfl) rfl rfl (hb hby at_143)
      replace hS := hSn
      replace hZ := hZn
      replace hown := hownn
      replace hJ := hJn
      clear hSn hZn hownn hJn
      obtain ⟨w282, rfl, Nc288, Kc287, f283, f284, f285, f286⟩ := hQ281
      refine own_goW st281 ?_
      clear st281 X261
      replace N0 := Fr.app N0 Nc288
      clear Nc288
      replace f4 := f4.keep Kc287
      replace f13 := f13.keep Kc287
      replace f23 := f23.keep Kc287
      replace f52 := f52.keep Kc287
      replace f53 := f53.keep Kc287 (ninS ne211 nin0)
      replace f54 := f54.keep Kc287 (ninS ne211 nin0)
      replace f55 := f55.keep Kc287 (ninS ne211 nin0)
      replace f56 := f56.keep Kc287 (ninS ne212 nin0)
      replace f58 := f58.keep Kc287
      replace f188 := f188.keep Kc287
      replace f172 := f172.keep Kc287
      replace f189 := f189.keep Kc287 (ninS ne213 nin0)
      replace f190 := f190.keep Kc287 (ninS ne213 nin0)
      replace f191 := f191.keep Kc287 (ninS ne213 nin0)
      replace f192 := f192.keep Kc287 (ninS ne215 nin0)
      replace f194 := f194.keep Kc287
      replace A207 := A207.keep Kc287
      clear f219
      clear f220
      clear f221
      clear f222
      clear f223
      replace f227 := f227.keep Kc287
      replace f245 := f245.keep Kc287
      replace f264 := f264.keep Kc287
      replace O0 := own_oldKeep O0 Kc287 (allS big216 all0)
      replace K0 := K0.trans Kc287 (allS (Or.inr sz217) all0)
      replace K1 := K1.trans Kc287 (allS (Or.inr sz218) all0)
      clear Kc287
      show own_GoW p e below s _ _ _ _ (T281.setTop (mkF m 146 #[iv p1, iv p2, iv p3, iv p4, iv p5, iv p6, iv ul, iv uz, rv w2, rv w11, rv w21, rv b31, rv b69, .unset, .unset] [(.ref b207)]))
      refine own_goW (fun _ k => XS.astore X281.here hx rfl (hb hby at_146) rfl rfl (l' := #[iv p1, iv p2, iv p3, iv p4, iv p5, iv p6, iv ul, iv uz, rv w2, rv w11, rv w21, rv b31, rv b69, rv b207, .unset]) rfl (XS.aload X281.here hx rfl (hb hby at_148) rfl rfl k)) ?_
      obtain ⟨v289, T289, L289, X289, hQ289, st289⟩ := own_callV (y := own_y37) (z := own_y37) X281 hx hZ hown (ow219 hw) (ow220 hw) (notFace_of_selects (args := #[]) (mvT hZ (ow222 hw))) (ow222 hw) (ow221 hw) (ow92 hw) (ow223 hw) (rm_key_1 l Z a0 hw hO [] b207 w282 w2 T281.heap O0 f284 f285 f286 f4) 0 0 0 (by show _ ≤ 80; omega) (by show _ ≤ 3392; omega) (rfl : T281.heap = T281.heap) f283 (g := (mkF m 150 #[iv p1, iv p2, iv p3, iv p4, iv p5, iv p6, iv ul, iv uz, rv w2, rv w11, rv w21, rv b31, rv b69, rv b207, .unset] [(.ref b207)])) rfl (by rw [hml]; rfl) [] [] (lenOf own_pd_21 rfl) rfl rfl (hb hby at_150)
      obtain ⟨rfl, Nc291, Kc290⟩ := hQ289
      refine own_goW st289 ?_
      clear st289 X281
      replace N0 := Fr.app N0 Nc291
      clear Nc291
      refine own_goW (fun _ k => XS.astore X289.here hx rfl (hb hby at_153) rfl rfl (l' := #[iv p1, iv p2, iv p3, iv p4, iv p5, iv p6, iv ul, iv uz, rv w2, rv w11, rv w21, rv b31, rv b69, rv b207, rv w2]) rfl (XS.aload X289.here hx rfl (hb hby at_155) rfl rfl k)) ?_
      show own_GoW p e below s _ _ _ _ (T289.setTop (mkF m 157 #[iv p1, iv p2, iv p3, iv p4, iv p5, iv p6, iv ul, iv uz, rv w2, rv w11, rv w21, rv b31, rv b69, rv b207, rv w2] [(.ref w2)]))
      refine own_goW (fun _ k => XS.aload X289.here hx rfl (hb hby at_157) rfl rfl k) ?_
      obtain ⟨v292, T292, L292, X292, hQ292, st292⟩ := own_callV (y := own_y38) (z := own_y38) X289 hx hZ hown (ow233 hw) (ow234 hw) (notFace_of_selects (args := #[]) (mvT hZ (ow236 hw))) (ow236 hw) (ow235 hw) (ow8 hw) (ow237 hw) (rm_eqSame l Z a0 hw hO [] w2 w2 T281.heap O0 (rfl : w2 = w2)) 0 0 0 (by show _ ≤ 80; omega) (by show _ ≤ 3392; omega) Kc290 f4 (g := (mkF m 159 #[iv p1, iv p2, iv p3, iv p4, iv p5, iv p6, iv ul, iv uz, rv w2, rv w11, rv w21, rv b31, rv b69, rv b207, rv w2] [(.ref w2), (.ref w2)])) rfl (by rw [hml]; rfl) [(.ref w2)] [] (lenOf own_pd_19 rfl) rfl rfl (hb hby at_159)
      obtain ⟨rfl, Nc294, Kc293⟩ := hQ292
      refine own_goW st292 ?_
      clear st292 X289 Kc290
      replace N0 := Fr.app N0 Nc294
      clear Nc294
      show own_GoW p e below s _ _ _ _ (T292.setTop (mkF m 162 #[iv p1, iv p2, iv p3, iv p4, iv p5, iv p6, iv ul, iv uz, rv w2, rv w11, rv w21, rv b31, rv b69, rv b207, rv w2] [(.int (1 : Int32))]))
      refine own_retNW X292 hS hL hZ hJ hx hlk Kc293 (t := .boolean) hret (by simp) (hb hby at_162) (by show _ ≤ 80; omega) (by show _ ≤ 3392; omega) ?_
      exact ⟨rfl, N0, K0⟩
  · refine own_goW (fun _ k => XS.icmpNo X48.here hx rfl (hb hby at_66) rfl (flt hc68).1 k) ?_
    show own_GoW p e below s _ _ _ _ (T48.setTop (mkF m 69 #[iv p1, iv p2, iv p3, iv p4, iv p5, iv p6, iv ul, iv uz, rv w2, rv w11, rv w21, rv b31, .unset, .unset, .unset] []))
    refine own_goW (fun _ k => XS.aload X48.here hx rfl (hb hby at_69) rfl rfl (XS.aload X48.here hx rfl (hb hby at_71) rfl rfl k)) ?_
    obtain ⟨v295, T295, L295, X295, hQ295, st295⟩ := own_callV (y := own_y7) (z := own_y7) X48 hx hZ hown (ow59 hw) (ow60 hw) (notFace_of_selects (args := #[]) (mvT hZ (ow62 hw))) (ow62 hw) (ow61 hw) (ow37 hw) (ow63 hw) (rm_add1_1 l Z a0 hw hO [] b31 w11 w49 w50 ((0 : Int32) + (1 : Int32)) w2 T48.heap O0 f52 f53 f54 f55 f56 f57 f58 (Ins.of_exa f13 (ow89 hw)) big35 big65) 0 0 0 (by show _ ≤ 80; omega) (by show _ ≤ 3392; omega) (rfl : T48.heap = T48.heap) f52 (g := (mkF m 73 #[iv p1, iv p2, iv p3, iv p4, iv p5, iv p6, iv ul, iv uz, rv w2, rv w11, rv w21, rv b31, .unset, .unset, .unset] [(.ref w11), (.ref b31)])) rfl (by rw [hml]; rfl) [(.ref w11)] [] (lenOf own_pd_19 rfl) rfl rfl (hb hby at_73)
    obtain ⟨rfl, Nc304, Kc303, f296, f297, f298, f299, f300, f301, f302⟩ := hQ295
    refine own_goW st295 ?_
    clear st295 X48
    replace N0 := Fr.app N0 Nc304
    clear Nc304
    replace hS := own_since hS Kc303.1
    replace hJ := own_Jany hJ T295.heap
    replace f4 := f4.keep Kc303
    replace f13 := f13.keep Kc303
    replace f23 := f23.keep Kc303
    replace f52 := f52.keep Kc303
    clear f53
    clear f54
    clear f55
    clear f56
    replace f58 := f58.keep Kc303
    replace O0 := own_oldKeep O0 Kc303 (allS big35 (allS big65 all0))
    replace K0 := K0.trans Kc303 (allS (Or.inr sz36) (allS (Or.inr sz66) all0))
    replace K1 := K1.trans Kc303 (allS (Or.inr sz37) (allS (Or.inr sz67) all0))
    clear Kc303
    refine own_goW (fun _ k => XS.pop X295.here hx rfl (hb hby at_76) rfl rfl (XS.iload X295.here hx rfl (hb hby at_77) rfl k)) ?_
    show own_GoW p e below s _ _ _ _ (T295.setTop (mkF m 79 #[iv p1, iv p2, iv p3, iv p4, iv p5, iv p6, iv ul, iv uz, rv w2, rv w11, rv w21, rv b31, .unset, .unset, .unset] [(.int ul)]))
    refine own_goW (fun _ k => XS.iconst X295.here hx rfl (hb hby at_79) k) ?_
    by_cases hc305 : ul < (3 : Int32)
    · refine own_goW (fun _ k => XS.icmpYes X295.here hx rfl (pc0 := 80) (pc' := 91) rfl (hb hby at_80) rfl (tlt hc305).1 (by decide) (by decide) k) ?_
      show own_GoW p e below s _ _ _ _ (T295.setTop (mkF m 91 #[iv p1, iv p2, iv p3, iv p4, iv p5, iv p6, iv ul, iv uz, rv w2, rv w11, rv w21, rv b31, .unset, .unset, .unset] []))
      obtain ⟨T306, h306, X306, e306, E306, A306, D306, -, st306⟩ := newO X295 hx hZ hown (ow35 hw) (ow36 hw) (ow37 hw) (rfl : T295.heap = T295.heap) (g := (mkF m 91 #[iv p1, iv p2, iv p3, iv p4, iv p5, iv p6, iv ul, iv uz, rv w2, rv w11, rv w21, rv b31, .unset, .unset, .unset] [])) rfl (hb hby at_91) (by show _ ≤ 80; omega) (by show _ ≤ 3392; omega)
      obtain ⟨b306, g306⟩ : ∃ z, z = T295.heap.size := ⟨_, rfl⟩
      rw [← g306] at A306 D306 st306
      refine own_goW st306 ?_
      clear st306 X295
      have ge306 := Nat.le_of_eq g306.symm
      have ne307 : w2 ≠ b306 := Nat.ne_of_lt (Nat.lt_of_lt_of_le f4.lt ge306)
      have ne308 : w11 ≠ b306 := Nat.ne_of_lt (Nat.lt_of_lt_of_le f13.lt ge306)
      have ne309 : w21 ≠ b306 := Nat.ne_of_lt (Nat.lt_of_lt_of_le f23.lt ge306)
      have ne310 : b31 ≠ b306 := Nat.ne_of_lt (Nat.lt_of_lt_of_le f296.lt ge306)
      have ne311 : w49 ≠ b306 := Nat.ne_of_lt (Nat.lt_of_lt_of_le f302.lt ge306)
      have big312 : Z.heap.size ≤ b306 := Nat.le_trans O0.1 ge306
      have sz313 : h0.size ≤ b306 := Nat.le_trans K0.1 ge306
      have sz314 : hs1.size ≤ b306 := Nat.le_trans K1.1 ge306
      replace f4 := f4.ext E306
      replace f13 := f13.ext E306
      replace f23 := f23.ext E306
      replace f296 := f296.ext E306
      replace f302 := f302.ext E306
      replace f297 := f297.ext E306
      replace f298 := f298.ext E306
      replace f299 := f299.ext E306
      replace f300 := f300.ext E306
      replace O0 := own_oldExt O0 E306
      replace K0 := K0.ext E306
      replace K1 := K1.ext E306
      replace hS := own_since hS E306.1
      replace hJ := own_Jext hJ E306
      clear E306
      have f315 : Fld Z h306 b306 "java/util/AbstractList" "modCount" "I" (.int (0 : Int32)) := D306 (Or.inl (ow55 hw)) (ty := .int) own_fd0
      have f316 : Fld Z h306 b306 "java/util/ArrayList" "elementData" "[Ljava/lang/Object;" .null := D306 (Or.inl (ow58 hw)) (ty := (.array (.object "java/lang/Object"))) own_fd1
      have f317 : Fld Z h306 b306 "java/util/ArrayList" "size" "I" (.int (0 : Int32)) := D306 (Or.inl (ow67 hw)) (ty := .int) own_fd0
      refine own_goW (fun _ k => XS.dup X306.here hx rfl (hb hby at_94) rfl rfl k) ?_
      obtain ⟨v318, T318, L318, X318, hQ318, st318⟩ := own_callI (y := own_y2) X306 hx hZ hown (ow38 hw) (ow39 hw) (ow37 hw) (ow40 hw) (rm_alinit l Z a0 hw hO [] b306 h306 O0 A306 f317 f316 f315 big312) 1 0 0 rfl (by show _ ≤ 80; omega) (by show _ ≤ 3392; omega) e306 (g := (mkF m 95 #[iv p1, iv p2, iv p3, iv p4, iv p5, iv p6, iv ul, iv uz, rv w2, rv w11, rv w21, rv b31, .unset, .unset, .unset] [(.ref b306), (.ref b306)])) rfl (by rw [hml]; rfl) b306 [] [(.ref b306)] (lenOf own_pd_0 rfl) rfl rfl (hb hby at_95)
      obtain ⟨rfl, Nc324, Kc323, f319, f320, f321, f322⟩ := hQ318
      refine own_goW st318 ?_
      clear st318 X306 e306
      replace N0 := Fr.app N0 Nc324
      clear Nc324
      replace hS := own_since hS Kc323.1
      replace hJ := own_Jany hJ T318.heap
      replace f4 := f4.keep Kc323
      replace f13 := f13.keep Kc323
      replace f23 := f23.keep Kc323
      replace f296 := f296.keep Kc323
      replace f302 := f302.keep Kc323
      replace f297 := f297.keep Kc323 (ninS ne310 nin0)
      replace f298 := f298.keep Kc323 (ninS ne310 nin0)
      replace f299 := f299.keep Kc323 (ninS ne310 nin0)
      replace f300 := f300.keep Kc323 (ninS ne311 nin0)
      replace A306 := A306.keep Kc323
      clear f315
      clear f316
      clear f317
      replace O0 := own_oldKeep O0 Kc323 (allS big312 all0)
      replace K0 := K0.trans Kc323 (allS (Or.inr sz313) all0)
      replace K1 := K1.trans Kc323 (allS (Or.inr sz314) all0)
      clear Kc323
      refine own_goW (fun _ k => XS.astore X318.here hx rfl (hb hby at_98) rfl rfl (l' := #[iv p1, iv p2, iv p3, iv p4, iv p5, iv p6, iv ul, iv uz, rv w2, rv w11, rv w21, rv b31, rv b306, .unset, .unset]) rfl (XS.iload X318.here hx rfl (hb hby at_100) rfl k)) ?_
      show own_GoW p e below s _ _ _ _ (T318.setTop (mkF m 102 #[iv p1, iv p2, iv p3, iv p4, iv p5, iv p6, iv ul, iv uz, rv w2, rv w11, rv w21, rv b31, rv b306, .unset, .unset] [(.int uz)]))
      by_cases hc325 : uz = (0 : Int32)
      · refine own_goW (fun _ k => XS.ifYes X318.here hx rfl (pc0 := 102) (pc' := 116) rfl (hb hby at_102) rfl ((if0 _ _).trans (teq hc325).1) (by decide) (by decide) k) ?_
        show own_GoW p e below s _ _ _ _ (T318.setTop (mkF m 116 #[iv p1, iv p2, iv p3, iv p4, iv p5, iv p6, iv ul, iv uz, rv w2, rv w11, rv w21, rv b31, rv b306, .unset, .unset] []))
        obtain ⟨T326, h326, X326, e326, E326, A326, D326, -, st326⟩ := newO X318 hx hZ hown (ow90 hw) (ow91 hw) (ow92 hw) (rfl : T318.heap = T318.heap) (g := (mkF m 116 #[iv p1, iv p2, iv p3, iv p4, iv p5, iv p6, iv ul, iv uz, rv w2, rv w11, rv w21, rv b31, rv b306, .unset, .unset] [])) rfl (hb hby at_116) (by show _ ≤ 80; omega) (by show _ ≤ 3392; omega)
        obtain ⟨b326, g326⟩ : ∃ z, z = T318.heap.size := ⟨_, rfl⟩
        rw [← g326] at A326 D326 st326
        refine own_goW st326 ?_
        clear st326 X318
        have ge326 := Nat.le_of_eq g326.symm
        have ne327 : w2 ≠ b326 := Nat.ne_of_lt (Nat.lt_of_lt_of_le f4.lt ge326)
        have ne328 : w11 ≠ b326 := Nat.ne_of_lt (Nat.lt_of_lt_of_le f13.lt ge326)
        have ne329 : w21 ≠ b326 := Nat.ne_of_lt (Nat.lt_of_lt_of_le f23.lt ge326)
        have ne330 : b31 ≠ b326 := Nat.ne_of_lt (Nat.lt_of_lt_of_le f296.lt ge326)
        have ne331 : w49 ≠ b326 := Nat.ne_of_lt (Nat.lt_of_lt_of_le f302.lt ge326)
        have ne332 : b306 ≠ b326 := Nat.ne_of_lt (Nat.lt_of_lt_of_le f319.lt ge326)
        have big333 : Z.heap.size ≤ b326 := Nat.le_trans O0.1 ge326
        have sz334 : h0.size ≤ b326 := Nat.le_trans K0.1 ge326
        have sz335 : hs1.size ≤ b326 := Nat.le_trans K1.1 ge326
        replace f4 := f4.ext E326
        replace f13 := f13.ext E326
        replace f23 := f23.ext E326
        replace f296 := f296.ext E326
        replace f302 := f302.ext E326
        replace f297 := f297.ext E326
        replace f298 := f298.ext E326
        replace f299 := f299.ext E326
        replace f300 := f300.ext E326
        replace f319 := f319.ext E326
        replace f320 := f320.ext E326
        replace f321 := f321.ext E326
        replace f322 := f322.ext E326
        replace O0 := own_oldExt O0 E326
        replace K0 := K0.ext E326
        replace K1 := K1.ext E326
        replace hS := own_since hS E326.1
        replace hJ := own_Jext hJ E326
        clear E326
        have f336 : Fld Z h326 b326 "com/example/ibex/ibex/model/Dimension" "name" "Ljava/lang/String;" .null := D326 (Or.inr (ow210 hw)) (ty := (.object "java/lang/String")) own_fd6
        have f337 : Fld Z h326 b326 "com/example/ibex/ibex/model/Dimension" "table" "Ljava/lang/String;" .null := D326 (Or.inr (ow212 hw)) (ty := (.object "java/lang/String")) own_fd6
        have f338 : Fld Z h326 b326 "com/example/ibex/ibex/model/Dimension" "foreignKey" "Ljava/lang/String;" .null := D326 (Or.inr (ow214 hw)) (ty := (.object "java/lang/String")) own_fd6
        have f339 : Fld Z h326 b326 "com/example/ibex/ibex/model/Dimension" "levels" "Ljava/util/List;" .null := D326 (Or.inr (ow216 hw)) (ty := (.object "java/util/List")) own_fd7
        have f340 : Fld Z h326 b326 "com/example/ibex/ibex/model/Dimension" "attributes" "Ljava/util/List;" .null := D326 (Or.inr (ow218 hw)) (ty := (.object "java/util/List")) own_fd7
        refine own_goW (fun _ k => XS.dup X326.here hx rfl (hb hby at_119) rfl rfl (XS.iloadN X326.here hx rfl (hb hby at_120) rfl k)) ?_
        obtain ⟨v341, T341, L341, X341, hQ341, st341⟩ := own_callS (y := own_y9) X326 hx hZ hown (ow1 hw) (ow2 hw) (ow3 hw) (ow4 hw) (rm_str l Z a0 hw hO [] p4 h326 O0) 2 3 8 (by show _ ≤ 80; omega) (by show _ ≤ 3392; omega) e326 (g := (mkF m 121 #[iv p1, iv p2, iv p3, iv p4, iv p5, iv p6, iv ul, iv uz, rv w2, rv w11, rv w21, rv b31, rv b306, .unset, .unset] [(.int p4), (.ref b326), (.ref b326)])) rfl (by rw [hml]; rfl) [(.int p4)] [(.ref b326), (.ref b326)] (lenOf own_pd_18 rfl) rfl rfl (hb hby at_121)
        obtain ⟨w342, rfl, Nc346, Kc345, hb343, f344⟩ := hQ341
        refine own_goW st341 ?_
        clear st341 X326 e326
        replace N0 := Fr.app N0 Nc346
        clear Nc346
        have ne347 : w2 ≠ w342 := Nat.ne_of_lt (Nat.lt_of_lt_of_le f4.lt hb343)
        have ne348 : w11 ≠ w342 := Nat.ne_of_lt (Nat.lt_of_lt_of_le f13.lt hb343)
        have ne349 : w21 ≠ w342 := Nat.ne_of_lt (Nat.lt_of_lt_of_le f23.lt hb343)
        have ne350 : b31 ≠ w342 := Nat.ne_of_lt (Nat.lt_of_lt_of_le f296.lt hb343)
        have ne351 : w49 ≠ w342 := Nat.ne_of_lt (Nat.lt_of_lt_of_le f302.lt hb343)
        have ne352 : b306 ≠ w342 := Nat.ne_of_lt (Nat.lt_of_lt_of_le f319.lt hb343)
        have ne353 : b326 ≠ w342 := Nat.ne_of_lt (Nat.lt_of_lt_of_le A326.lt hb343)
        have big354 : Z.heap.size ≤ w342 := Nat.le_trans O0.1 hb343
        have sz355 : h0.size ≤ w342 := Nat.le_trans K0.1 hb343
        have sz356 : hs1.size ≤ w342 := Nat.le_trans K1.1 hb343
        replace hS := own_since hS Kc345.1
        replace hJ := own_Jany hJ T341.heap
        replace f4 := f4.keep Kc345
        replace f13 := f13.keep Kc345
        replace f23 := f23.keep Kc345
        replace f296 := f296.keep Kc345
        replace f302 := f302.keep Kc345
        replace f297 := f297.keep Kc345 nin0
        replace f298 := f298.keep Kc345 nin0
        replace f299 := f299.keep Kc345 nin0
        replace f300 := f300.keep Kc345 nin0
        replace f319 := f319.keep Kc345
        replace f320 := f320.keep Kc345 nin0
        replace f321 := f321.keep Kc345 nin0
        replace f322 := f322.keep Kc345 nin0
        replace A326 := A326.keep Kc345
        replace f336 := f336.keep Kc345 nin0
        replace f337 := f337.keep Kc345 nin0
        replace f338 := f338.keep Kc345 nin0
        replace f339 := f339.keep Kc345 nin0
        replace f340 := f340.keep Kc345 nin0
        replace O0 := own_oldKeep O0 Kc345 all0
        replace K0 := K0.trans Kc345 all0
        replace K1 := K1.trans Kc345 all0
        clear Kc345
        refine own_goW (fun _ k => XS.iloadN X341.here hx rfl (hb hby at_124) rfl k) ?_
        show own_GoW p e below s _ _ _ _ (T341.setTop (mkF m 125 #[iv p1, iv p2, iv p3, iv p4, iv p5, iv p6, iv ul, iv uz, rv w2, rv w11, rv w21, rv b31, rv b306, .unset, .unset] [(.int p4), (.ref w342), (.ref b326), (.ref b326)]))
        refine own_goW (fun _ k => XS.bipush X341.here hx rfl (hb hby at_125) (XS.iushr X341.here hx rfl (hb hby at_127) rfl k)) ?_
        obtain ⟨v357, T357, L357, X357, hQ357, st357⟩ := own_callS (y := own_y9) X341 hx hZ hown (ow1 hw) (ow2 hw) (ow3 hw) (ow4 hw) (rm_str l Z a0 hw hO [] ((p4.toUInt32 >>> ((16 : Int32) &&& 31).toUInt32).toInt32) T341.heap O0) 3 3 8 (by show _ ≤ 80; omega) (by show _ ≤ 3392; omega) (rfl : T341.heap = T341.heap) (g := (mkF m 128 #[iv p1, iv p2, iv p3, iv p4, iv p5, iv p6, iv ul, iv uz, rv w2, rv w11, rv w21, rv b31, rv b306, .unset, .unset] [(.int ((p4.toUInt32 >>> ((16 : Int32) &&& 31).toUInt32).toInt32)), (.ref w342), (.ref b326), (.ref b326)])) rfl (by rw [hml]; rfl) [(.int ((p4.toUInt32 >>> ((16 : Int32) &&& 31).toUInt32).toInt32))] [(.ref w342), (.ref b326), (.ref b326)] (lenOf own_pd_18 rfl) rfl rfl (hb hby at_128)
        obtain ⟨w358, rfl, Nc362, Kc361, hb359, f360⟩ := hQ357
        refine own_goW st357 ?_
        clear st357 X341
        replace N0 := Fr.app N0 Nc362
        clear Nc362
        have ne363 : w2 ≠ w358 := Nat.ne_of_lt (Nat.lt_of_lt_of_le f4.lt hb359)
        have ne364 : w11 ≠ w358 := Nat.ne_of_lt (Nat.lt_of_lt_of_le f13.lt hb359)
        have ne365 : w21 ≠ w358 := Nat.ne_of_lt (Nat.lt_of_lt_of_le f23.lt hb359)
        have ne366 : b31 ≠ w358 := Nat.ne_of_lt (Nat.lt_of_lt_of_le f296.lt hb359)
        have ne367 : w49 ≠ w358 := Nat.ne_of_lt (Nat.lt_of_lt_of_le f302.lt hb359)
        have ne368 : b306 ≠ w358 := Nat.ne_of_lt (Nat.lt_of_lt_of_le f319.lt hb359)
        have ne369 : b326 ≠ w358 := Nat.ne_of_lt (Nat.lt_of_lt_of_le A326.lt hb359)
        have ne370 : w342 ≠ w358 := Nat.ne_of_lt (Nat.lt_of_lt_of_le f344.lt hb359)
        have big371 : Z.heap.size ≤ w358 := Nat.le_trans O0.1 hb359
        have sz372 : h0.size ≤ w358 := Nat.le_trans K0.1 hb359
        have sz373 : hs1.size ≤ w358 := Nat.le_trans K1.1 hb359
        replace hS := own_since hS Kc361.1
        replace hJ := own_Jany hJ T357.heap
        replace f4 := f4.keep Kc361
        replace f13 := f13.keep Kc361
        replace f23 := f23.keep Kc361
        replace f296 := f296.keep Kc361
        replace f302 := f302.keep Kc361
        replace f297 := f297.keep Kc361 nin0
        replace f298 := f298.keep Kc361 nin0
        replace f299 := f299.keep Kc361 nin0
        replace f300 := f300.keep Kc361 nin0
        replace f319 := f319.keep Kc361
        replace f320 := f320.keep Kc361 nin0
        replace f321 := f321.keep Kc361 nin0
        replace f322 := f322.keep Kc361 nin0
        replace A326 := A326.keep Kc361
        replace f336 := f336.keep Kc361 nin0
        replace f337 := f337.keep Kc361 nin0
        replace f338 := f338.keep Kc361 nin0
        replace f339 := f339.keep Kc361 nin0
        replace f340 := f340.keep Kc361 nin0
        replace f344 := f344.keep Kc361
        replace O0 := own_oldKeep O0 Kc361 all0
        replace K0 := K0.trans Kc361 all0
        replace K1 := K1.trans Kc361 all0
        clear Kc361
        refine own_goW (fun _ k => XS.iload X357.here hx rfl (hb hby at_131) rfl (XS.bipush X357.here hx rfl (hb hby at_133) k)) ?_
        show own_GoW p e below s _ _ _ _ (T357.setTop (mkF m 135 #[iv p1, iv p2, iv p3, iv p4, iv p5, iv p6, iv ul, iv uz, rv w2, rv w11, rv w21, rv b31, rv b306, .unset, .unset] [(.int (16 : Int32)), (.int p5), (.ref w358), (.ref w342), (.ref b326), (.ref b326)]))
        refine own_goW (fun _ k => XS.iushr X357.here hx rfl (hb hby at_135) rfl k) ?_
        obtain ⟨v374, T374, L374, X374, hQ374, st374⟩ := own_callS (y := own_y9) X357 hx hZ hown (ow1 hw) (ow2 hw) (ow3 hw) (ow4 hw) (rm_str l Z a0 hw hO [] ((p5.toUInt32 >>> ((16 : Int32) &&& 31).toUInt32).toInt32) T357.heap O0) 4 3 8 (by show _ ≤ 80; omega) (by show _ ≤ 3392; omega) (rfl : T357.heap = T357.heap) (g := (mkF m 136 #[iv p1, iv p2, iv p3, iv p4, iv p5, iv p6, iv ul, iv uz, rv w2, rv w11, rv w21, rv b31, rv b306, .unset, .unset] [(.int ((p5.toUInt32 >>> ((16 : Int32) &&& 31).toUInt32).toInt32)), (.ref w358), (.ref w342), (.ref b326), (.ref b326)])) rfl (by rw [hml]; rfl) [(.int ((p5.toUInt32 >>> ((16 : Int32) &&& 31).toUInt32).toInt32))] [(.ref w358), (.ref w342), (.ref b326), (.ref b326)] (lenOf own_pd_18 rfl) rfl rfl (hb hby at_136)
        obtain ⟨w375, rfl, Nc379, Kc378, hb376, f377⟩ := hQ374
        refine own_goW st374 ?_
        clear st374 X357
        replace N0 := Fr.app N0 Nc379
        clear Nc379
        have ne380 : w2 ≠ w375 := Nat.ne_of_lt (Nat.lt_of_lt_of_le f4.lt hb376)
        have ne381 : w11 ≠ w375 := Nat.ne_of_lt (Nat.lt_of_lt_of_le f13.lt hb376)
        have ne382 : w21 ≠ w375 := Nat.ne_of_lt (Nat.lt_of_lt_of_le f23.lt hb376)
        have ne383 : b31 ≠ w375 := Nat.ne_of_lt (Nat.lt_of_lt_of_le f296.lt hb376)
        have ne384 : w49 ≠ w375 := Nat.ne_of_lt (Nat.lt_of_lt_of_le f302.lt hb376)
        have ne385 : b306 ≠ w375 := Nat.ne_of_lt (Nat.lt_of_lt_of_le f319.lt hb376)
        have ne386 : b326 ≠ w375 := Nat.ne_of_lt (Nat.lt_of_lt_of_le A326.lt hb376)
        have ne387 : w342 ≠ w375 := Nat.ne_of_lt (Nat.lt_of_lt_of_le f344.lt hb376)
        have ne388 : w358 ≠ w375 := Nat.ne_of_lt (Nat.lt_of_lt_of_le f360.lt hb376)
        have big389 : Z.heap.size ≤ w375 := Nat.le_trans O0.1 hb376
        have sz390 : h0.size ≤ w375 := Nat.le_trans K0.1 hb376
        have sz391 : hs1.size ≤ w375 := Nat.le_trans K1.1 hb376
        replace hS := own_since hS Kc378.1
        replace hJ := own_Jany hJ T374.heap
        replace f4 := f4.keep Kc378
        replace f13 := f13.keep Kc378
        replace f23 := f23.keep Kc378
        replace f296 := f296.keep Kc378
        replace f302 := f302.keep Kc378
        replace f297 := f297.keep Kc378 nin0
        replace f298 := f298.keep Kc378 nin0
        replace f299 := f299.keep Kc378 nin0
        replace f300 := f300.keep Kc378 nin0
        replace f319 := f319.keep Kc378
        replace f320 := f320.keep Kc378 nin0
        replace f321 := f321.keep Kc378 nin0
        replace f322 := f322.keep Kc378 nin0
        replace A326 := A326.keep Kc378
        replace f336 := f336.keep Kc378 nin0
        replace f337 := f337.keep Kc378 nin0
        replace f338 := f338.keep Kc378 nin0
        replace f339 := f339.keep Kc378 nin0
        replace f340 := f340.keep Kc378 nin0
        replace f344 := f344.keep Kc378
        replace f360 := f360.keep Kc378
        replace O0 := own_oldKeep O0 Kc378 all0
        replace K0 := K0.trans Kc378 all0
        replace K1 := K1.trans Kc378 all0
        clear Kc378
        refine own_goW (fun _ k => XS.aload X374.here hx rfl (hb hby at_139) rfl rfl (XS.aload X374.here hx rfl (hb hby at_141) rfl rfl k)) ?_
        obtain ⟨v392, T392, L392, X392, hSn, hZn, hownn, hQ392, hJn, st392⟩ := own_callIW (y := own_y35) X374 hS hL hJ hx hZ hown (ow93 hw) (ow94 hw) (ow92 hw) (ow95 hw) (rm_dim_2_0 l Z a0 hw hO [] b326 w342 w358 w375 b31 b306 w49 w50 w2 w11 T374.heap O0 A326 f336 f337 f338 f339 f340 f296 f297 f298 f300 f302 (Ins.of_exa f4 (ow89 hw)) (Ins.of_exa f13 (ow89 hw)) f319 f320 big333) 1 8 92 rfl (by show _ ≤ 80; omega) (by show _ ≤ 3392; omega) (rfl : T374.heap = T374.heap) (g := (mkF m 143 #[iv p1, iv p2, iv p3, iv p4, iv p5, iv p6, iv ul, iv uz, rv w2, rv w11, rv w21, rv b31, rv b306, .unset, .unset] [(.ref b306), (.ref b31), (.ref w375), (.ref w358), (.ref w342), (.ref b326), (.ref b326)])) rfl (by rw [hml]; rfl) b326 [(.ref w342), (.ref w358), (.ref w375), (.ref b31), (.ref b306)] [(.ref b326)] (lenOf own_pd_20 rfl) rfl rfl (hb hby at_143)
        replace hS := hSn
        replace hZ := hZn
        replace hown := hownn
        replace hJ := hJn
        clear hSn hZn hownn hJn
        obtain ⟨w393, rfl, Nc399, Kc398, f394, f395, f396, f397⟩ := hQ392
        refine own_goW st392 ?_
        clear st392 X374
        replace N0 := Fr.app N0 Nc399
        clear Nc399
        replace f4 := f4.keep Kc398
        replace f13 := f13.keep Kc398
        replace f23 := f23.keep Kc398
        replace f296 := f296.keep Kc398
        replace f302 := f302.keep Kc398
        replace f297 := f297.keep Kc398 (ninS ne330 nin0)
        replace f298 := f298.keep Kc398 (ninS ne330 nin0)
        replace f299 := f299.keep Kc398 (ninS ne330 nin0)
        replace f300 := f300.keep Kc398 (ninS ne331 nin0)
        replace f319 := f319.keep Kc398
        replace f320 := f320.keep Kc398 (ninS ne332 nin0)
        replace f321 := f321.keep Kc398 (ninS ne332 nin0)
        replace f322 := f322.keep Kc398 (ninS ne332 nin0)
        replace A326 := A326.keep Kc398
        clear f336
        clear f337
        clear f338
        clear f339
        clear f340
        replace f344 := f344.keep Kc398
        replace f360 := f360.keep Kc398
        replace f377 := f377.keep Kc398
        replace O0 := own_oldKeep O0 Kc398 (allS big333 all0)
        replace K0 := K0.trans Kc398 (allS (Or.inr sz334) all0)
        replace K1 := K1.trans Kc398 (allS (Or.inr sz335) all0)
        clear Kc398
        show own_GoW p e below s _ _ _ _ (T392.setTop (mkF m 146 #[iv p1, iv p2, iv p3, iv p4, iv p5, iv p6, iv ul, iv uz, rv w2, rv w11, rv w21, rv b31, rv b306, .unset, .unset] [(.ref b326)]))
        refine own_goW (fun _ k => XS.astore X392.here hx rfl (hb hby at_146) rfl rfl (l' := #[iv p1, iv p2, iv p3, iv p4, iv p5, iv p6, iv ul, iv uz, rv w2, rv w11, rv w21, rv b31, rv b306, rv b326, .unset]) rfl (XS.aload X392.here hx rfl (hb hby at_148) rfl rfl k)) ?_
        obtain ⟨v400, T400, L400, X400, hQ400, st400⟩ := own_callV (y := own_y37) (z := own_y37) X392 hx hZ hown (ow219 hw) (ow220 hw) (notFace_of_selects (args := #[]) (mvT hZ (ow222 hw))) (ow222 hw) (ow221 hw) (ow92 hw) (ow223 hw) (rm_key_1 l Z a0 hw hO [] b326 w393 w2 T392.heap O0 f395 f396 f397 f4) 0 0 0 (by show _ ≤ 80; omega) (by show _ ≤ 3392; omega) (rfl : T392.heap = T392.heap) f394 (g := (mkF m 150 #[iv p1, iv p2, iv p3, iv p4, iv p5, iv p6, iv ul, iv uz, rv w2, rv w11, rv w21, rv b31, rv b306, rv b326, .unset] [(.ref b326)])) rfl (by rw [hml]; rfl) [] [] (lenOf own_pd_21 rfl) rfl rfl (hb hby at_150)
        obtain ⟨rfl, Nc402, Kc401⟩ := hQ400
        refine own_goW st400 ?_
        clear st400 X392
        replace N0 := Fr.app N0 Nc402
        clear Nc402
        refine own_goW (fun _ k => XS.astore X400.here hx rfl (hb hby at_153) rfl rfl (l' := #[iv p1, iv p2, iv p3, iv p4, iv p5, iv p6, iv ul, iv uz, rv w2, rv w11, rv w21, rv b31, rv b306, rv b326, rv w2]) rfl (XS.aload X400.here hx rfl (hb hby at_155) rfl rfl k)) ?_
        show own_GoW p e below s _ _ _ _ (T400.setTop (mkF m 157 #[iv p1, iv p2, iv p3, iv p4, iv p5, iv p6, iv ul, iv uz, rv w2, rv w11, rv w21, rv b31, rv b306, rv b326, rv w2] [(.ref w2)]))
        refine own_goW (fun _ k => XS.aload X400.here hx rfl (hb hby at_157) rfl rfl k) ?_
        obtain ⟨v403, T403, L403, X403, hQ403, st403⟩ := own_callV (y := own_y38) (z := own_y38) X400 hx hZ hown (ow233 hw) (ow234 hw) (notFace_of_selects (args := #[]) (mvT hZ (ow236 hw))) (ow236 hw) (ow235 hw) (ow8 hw) (ow237 hw) (rm_eqSame l Z a0 hw hO [] w2 w2 T392.heap O0 (rfl : w2 = w2)) 0 0 0 (by show _ ≤ 80; omega) (by show _ ≤ 3392; omega) Kc401 f4 (g := (mkF m 159 #[iv p1, iv p2, iv p3, iv p4, iv p5, iv p6, iv ul, iv uz, rv w2, rv w11, rv w21, rv b31, rv b306, rv b326, rv w2] [(.ref w2), (.ref w2)])) rfl (by rw [hml]; rfl) [(.ref w2)] [] (lenOf own_pd_19 rfl) rfl rfl (hb hby at_159)
        obtain ⟨rfl, Nc405, Kc404⟩ := hQ403
        refine own_goW st403 ?_
        clear st403 X400 Kc401
        replace N0 := Fr.app N0 Nc405
        clear Nc405
        show own_GoW p e below s _ _ _ _ (T403.setTop (mkF m 162 #[iv p1, iv p2, iv p3, iv p4, iv p5, iv p6, iv ul, iv uz, rv w2, rv w11, rv w21, rv b31, rv b306, rv b326, rv w2] [(.int (1 : Int32))]))
        refine own_retNW X403 hS hL hZ hJ hx hlk Kc404 (t := .boolean) hret (by simp) (hb hby at_162) (by show _ ≤ 80; omega) (by show _ ≤ 3392; omega) ?_
        exact ⟨rfl, N0, K0⟩
      · refine own_goW (fun _ k => XS.ifNo X318.here hx rfl (hb hby at_102) rfl ((if0 _ _).trans (feq hc325).1) k) ?_
        show own_GoW p e below s _ _ _ _ (T318.setTop (mkF m 105 #[iv p1, iv p2, iv p3, iv p4, iv p5, iv p6, iv ul, iv uz, rv w2, rv w11, rv w21, rv b31, rv b306, .unset, .unset] []))
        refine own_goW (fun _ k => XS.aload X318.here hx rfl (hb hby at_105) rfl rfl (XS.iload X318.here hx rfl (hb hby at_107) rfl k)) ?_
        obtain ⟨v406, T406, L406, X406, hQ406, st406⟩ := own_callS (y := own_y9) X318 hx hZ hown (ow1 hw) (ow2 hw) (ow3 hw) (ow4 hw) (rm_str l Z a0 hw hO [] p5 T318.heap O0) 1 3 8 (by show _ ≤ 80; omega) (by show _ ≤ 3392; omega) (rfl : T318.heap = T318.heap) (g := (mkF m 109 #[iv p1, iv p2, iv p3, iv p4, iv p5, iv p6, iv ul, iv uz, rv w2, rv w11, rv w21, rv b31, rv b306, .unset, .unset] [(.int p5), (.ref b306)])) rfl (by rw [hml]; rfl) [(.int p5)] [(.ref b306)] (lenOf own_pd_18 rfl) rfl rfl (hb hby at_109)
        obtain ⟨w407, rfl, Nc411, Kc410, hb408, f409⟩ := hQ406
        refine own_goW st406 ?_
        clear st406 X318
        replace N0 := Fr.app N0 Nc411
        clear Nc411
        have ne412 : w2 ≠ w407 := Nat.ne_of_lt (Nat.lt_of_lt_of_le f4.lt hb408)
        have ne413 : w11 ≠ w407 := Nat.ne_of_lt (Nat.lt_of_lt_of_le f13.lt hb408)
        have ne414 : w21 ≠ w407 := Nat.ne_of_lt (Nat.lt_of_lt_of_le f23.lt hb408)
        have ne415 : b31 ≠ w407 := Nat.ne_of_lt (Nat.lt_of_lt_of_le f296.lt hb408)
        have ne416 : w49 ≠ w407 := Nat.ne_of_lt (Nat.lt_of_lt_of_le f302.lt hb408)
        have ne417 : b306 ≠ w407 := Nat.ne_of_lt (Nat.lt_of_lt_of_le f319.lt hb408)
        have big418 : Z.heap.size ≤ w407 := Nat.le_trans O0.1 hb408
        have sz419 : h0.size ≤ w407 := Nat.le_trans K0.1 hb408
        have sz420 : hs1.size ≤ w407 := Nat.le_trans K1.1 hb408
        replace hS := own_since hS Kc410.1
        replace hJ := own_Jany hJ T406.heap
        replace f4 := f4.keep Kc410
        replace f13 := f13.keep Kc410
        replace f23 := f23.keep Kc410
        replace f296 := f296.keep Kc410
        replace f302 := f302.keep Kc410
        replace f297 := f297.keep Kc410 nin0
        replace f298 := f298.keep Kc410 nin0
        replace f299 := f299.keep Kc410 nin0
        replace f300 := f300.keep Kc410 nin0
        replace f319 := f319.keep Kc410
        replace f320 := f320.keep Kc410 nin0
        replace f321 := f321.keep Kc410 nin0
        replace f322 := f322.keep Kc410 nin0
        replace O0 := own_oldKeep O0 Kc410 all0
        replace K0 := K0.trans Kc410 all0
        replace K1 := K1.trans Kc410 all0
        clear Kc410
        obtain ⟨v421, T421, L421, X421, hQ421, st421⟩ := own_callV (y := own_y7) (z := own_y7) X406 hx hZ hown (ow59 hw) (ow60 hw) (notFace_of_selects (args := #[]) (mvT hZ (ow62 hw))) (ow62 hw) (ow61 hw) (ow37 hw) (ow63 hw) (rm_add1_0 l Z a0 hw hO [] b306 w407 (0 : Int32) T406.heap O0 f319 f320 f321 f322 (Ins.of_exa f409 (ow89 hw)) big312) 0 1 10 (by show _ ≤ 80; omega) (by show _ ≤ 3392; omega) (rfl : T406.heap = T406.heap) f319 (g := (mkF m 112 #[iv p1, iv p2, iv p3, iv p4, iv p5, iv p6, iv ul, iv uz, rv w2, rv w11, rv w21, rv b31, rv b306, .unset, .unset] [(.ref w407), (.ref b306)])) rfl (by rw [hml]; rfl) [(.ref w407)] [] (lenOf own_pd_19 rfl) rfl rfl (hb hby at_112)
        obtain ⟨w422, w423, rfl, Nc433, Kc432, hb424, f425, f426, f427, f428, f429, f430, f431⟩ := hQ421
        refine own_goW st421 ?_
        clear st421 X406
        replace N0 := Fr.app N0 Nc433
        clear Nc433
        have ne434 : w2 ≠ w422 := Nat.ne_of_lt (Nat.lt_of_lt_of_le f4.lt hb424)
        have ne435 : w11 ≠ w422 := Nat.ne_of_lt (Nat.lt_of_lt_of_le f13.lt hb424)
        have ne436 : w21 ≠ w422 := Nat.ne_of_lt (Nat.lt_of_lt_of_le f23.lt hb424)
        have ne437 : b31 ≠ w422 := Nat.ne_of_lt (Nat.lt_of_lt_of_le f296.lt hb424)
        have ne438 : w49 ≠ w422 := Nat.ne_of_lt (Nat.lt_of_lt_of_le f302.lt hb424)
        have ne439 : b306 ≠ w422 := Nat.ne_of_lt (Nat.lt_of_lt_of_le f319.lt hb424)
        have ne440 : w407 ≠ w422 := Nat.ne_of_lt (Nat.lt_of_lt_of_le f409.lt hb424)
        have big441 : Z.heap.size ≤ w422 := Nat.le_trans O0.1 hb424
        have sz442 : h0.size ≤ w422 := Nat.le_trans K0.1 hb424
        have sz443 : hs1.size ≤ w422 := Nat.le_trans K1.1 hb424
        replace hS := own_since hS Kc432.1
        replace hJ := own_Jany hJ T421.heap
        replace f4 := f4.keep Kc432
        replace f13 := f13.keep Kc432
        replace f23 := f23.keep Kc432
        replace f296 := f296.keep Kc432
        replace f302 := f302.keep Kc432
        replace f297 := f297.keep Kc432 (ninS ne310 nin0)
        replace f298 := f298.keep Kc432 (ninS ne310 nin0)
        replace f299 := f299.keep Kc432 (ninS ne310 nin0)
        replace f300 := f300.keep Kc432 (ninS ne311 nin0)
        replace f319 := f319.keep Kc432
        clear f320
        clear f321
        clear f322
        replace f409 := f409.keep Kc432
        replace O0 := own_oldKeep O0 Kc432 (allS big312 all0)
        replace K0 := K0.trans Kc432 (allS (Or.inr sz313) all0)
        replace K1 := K1.trans Kc432 (allS (Or.inr sz314) all0)
        clear Kc432
        refine own_goW (fun _ k => XS.pop X421.here hx rfl (hb hby at_115) rfl rfl k) ?_
        show own_GoW p e below s _ _ _ _ (T421.setTop (mkF m 116 #[iv p1, iv p2, iv p3, iv p4, iv p5, iv p6, iv ul, iv uz, rv w2, rv w11, rv w21, rv b31, rv b306, .unset, .unset] []))
        obtain ⟨T444, h444, X444, e444, E444, A444, D444, -, st444⟩ := newO X421 hx hZ hown (ow90 hw) (ow91 hw) (ow92 hw) (rfl : T421.heap = T421.heap) (g := (mkF m 116 #[iv p1, iv p2, iv p3, iv p4, iv p5, iv p6, iv ul, iv uz, rv w2, rv w11, rv w21, rv b31, rv b306, .unset, .unset] [])) rfl (hb hby at_116) (by show _ ≤ 80; omega) (by show _ ≤ 3392; omega)
        obtain ⟨b444, g444⟩ : ∃ z, z = T421.heap.size := ⟨_, rfl⟩
        rw [← g444] at A444 D444 st444
        refine own_goW st444 ?_
        clear st444 X421
        have ge444 := Nat.le_of_eq g444.symm
        have ne445 : w2 ≠ b444 := Nat.ne_of_lt (Nat.lt_of_lt_of_le f4.lt ge444)
        have ne446 : w11 ≠ b444 := Nat.ne_of_lt (Nat.lt_of_lt_of_le f13.lt ge444)
        have ne447 : w21 ≠ b444 := Nat.ne_of_lt (Nat.lt_of_lt_of_le f23.lt ge444)
        have ne448 : b31 ≠ b444 := Nat.ne_of_lt (Nat.lt_of_lt_of_le f296.lt ge444)
        have ne449 : w49 ≠ b444 := Nat.ne_of_lt (Nat.lt_of_lt_of_le f302.lt ge444)
        have ne450 : b306 ≠ b444 := Nat.ne_of_lt (Nat.lt_of_lt_of_le f425.lt ge444)
        have ne451 : w407 ≠ b444 := Nat.ne_of_lt (Nat.lt_of_lt_of_le f409.lt ge444)
        have ne452 : w422 ≠ b444 := Nat.ne_of_lt (Nat.lt_of_lt_of_le f429.lt ge444)
        have big453 : Z.heap.size ≤ b444 := Nat.le_trans O0.1 ge444
        have sz454 : h0.size ≤ b444 := Nat.le_trans K0.1 ge444
        have sz455 : hs1.size ≤ b444 := Nat.le_trans K1.1 ge444
        replace f4 := f4.ext E444
        replace f13 := f13.ext E444
        replace f23 := f23.ext E444
        replace f296 := f296.ext E444
        replace f302 := f302.ext E444
        replace f297 := f297.ext E444
        replace f298 := f298.ext E444
        replace f299 := f299.ext E444
        replace f300 := f300.ext E444
        replace f425 := f425.ext E444
        replace f409 := f409.ext E444
        replace f426 := f426.ext E444
        replace f427 := f427.ext E444
        replace f428 := f428.ext E444
        replace f429 := f429.ext E444
        replace f431 := f431.ext E444
        replace O0 := own_oldExt O0 E444
        replace K0 := K0.ext E444
        replace K1 := K1.ext E444
        replace hS := own_since hS E444.1
        replace hJ := own_Jext hJ E444
        clear E444
        have f456 : Fld Z h444 b444 "com/example/ibex/ibex/model/Dimension" "name" "Ljava/lang/String;" .null := D444 (Or.inr (ow210 hw)) (ty := (.object "java/lang/String")) own_fd6
        have f457 : Fld Z h444 b444 "com/example/ibex/ibex/model/Dimension" "table" "Ljava/lang/String;" .null := D444 (Or.inr (ow212 hw)) (ty := (.object "java/lang/String")) own_fd6
        have f458 : Fld Z h444 b444 "com/example/ibex/ibex/model/Dimension" "foreignKey" "Ljava/lang/String;" .null := D444 (Or.inr (ow214 hw)) (ty := (.object "java/lang/String")) own_fd6
        have f459 : Fld Z h444 b444 "com/example/ibex/ibex/model/Dimension" "levels" "Ljava/util/List;" .null := D444 (Or.inr (ow216 hw)) (ty := (.object "java/util/List")) own_fd7
        have f460 : Fld Z h444 b444 "com/example/ibex/ibex/model/Dimension" "attributes" "Ljava/util/List;" .null := D444 (Or.inr (ow218 hw)) (ty := (.object "java/util/List")) own_fd7
        refine own_goW (fun _ k => XS.dup X444.here hx rfl (hb hby at_119) rfl rfl (XS.iloadN X444.here hx rfl (hb hby at_120) rfl k)) ?_
        obtain ⟨v461, T461, L461, X461, hQ461, st461⟩ := own_callS (y := own_y9) X444 hx hZ hown (ow1 hw) (ow2 hw) (ow3 hw) (ow4 hw) (rm_str l Z a0 hw hO [] p4 h444 O0) 2 3 8 (by show _ ≤ 80; omega) (by show _ ≤ 3392; omega) e444 (g := (mkF m 121 #[iv p1, iv p2, iv p3, iv p4, iv p5, iv p6, iv ul, iv uz, rv w2, rv w11, rv w21, rv b31, rv b306, .unset, .unset] [(.int p4), (.ref b444), (.ref b444)])) rfl (by rw [hml]; rfl) [(.int p4)] [(.ref b444), (.ref b444)] (lenOf own_pd_18 rfl) rfl rfl (hb hby at_121)
        obtain ⟨w462, rfl, Nc466, Kc465, hb463, f464⟩ := hQ461
        refine own_goW st461 ?_
        clear st461 X444 e444
        replace N0 := Fr.app N0 Nc466
        clear Nc466
        have ne467 : w2 ≠ w462 := Nat.ne_of_lt (Nat.lt_of_lt_of_le f4.lt hb463)
        have ne468 : w11 ≠ w462 := Nat.ne_of_lt (Nat.lt_of_lt_of_le f13.lt hb463)
        have ne469 : w21 ≠ w462 := Nat.ne_of_lt (Nat.lt_of_lt_of_le f23.lt hb463)
        have ne470 : b31 ≠ w462 := Nat.ne_of_lt (Nat.lt_of_lt_of_le f296.lt hb463)
        have ne471 : w49 ≠ w462 := Nat.ne_of_lt (Nat.lt_of_lt_of_le f302.lt hb463)
        have ne472 : b306 ≠ w462 := Nat.ne_of_lt (Nat.lt_of_lt_of_le f425.lt hb463)
        have ne473 : w407 ≠ w462 := Nat.ne_of_lt (Nat.lt_of_lt_of_le f409.lt hb463)
        have ne474 : w422 ≠ w462 := Nat.ne_of_lt (Nat.lt_of_lt_of_le f429.lt hb463)
        have ne475 : b444 ≠ w462 := Nat.ne_of_lt (Nat.lt_of_lt_of_le A444.lt hb463)
        have big476 : Z.heap.size ≤ w462 := Nat.le_trans O0.1 hb463
        have sz477 : h0.size ≤ w462 := Nat.le_trans K0.1 hb463
        have sz478 : hs1.size ≤ w462 := Nat.le_trans K1.1 hb463
        replace hS := own_since hS Kc465.1
        replace hJ := own_Jany hJ T461.heap
        replace f4 := f4.keep Kc465
        replace f13 := f13.keep Kc465
        replace f23 := f23.keep Kc465
        replace f296 := f296.keep Kc465
        replace f302 := f302.keep Kc465
        replace f297 := f297.keep Kc465 nin0
        replace f298 := f298.keep Kc465 nin0
        replace f299 := f299.keep Kc465 nin0
        replace f300 := f300.keep Kc465 nin0
        replace f425 := f425.keep Kc465
        replace f409 := f409.keep Kc465
        replace f426 := f426.keep Kc465 nin0
        replace f427 := f427.keep Kc465 nin0
        replace f428 := f428.keep Kc465 nin0
        replace f429 := f429.keep Kc465 nin0
        replace f431 := f431.keep Kc465
        replace A444 := A444.keep Kc465
        replace f456 := f456.keep Kc465 nin0
        replace f457 := f457.keep Kc465 nin0
        replace f458 := f458.keep Kc465 nin0
        replace f459 := f459.keep Kc465 nin0
        replace f460 := f460.keep Kc465 nin0
        replace O0 := own_oldKeep O0 Kc465 all0
        replace K0 := K0.trans Kc465 all0
        replace K1 := K1.trans Kc465 all0
        clear Kc465
        refine own_goW (fun _ k => XS.iloadN X461.here hx rfl (hb hby at_124) rfl k) ?_
        show own_GoW p e below s _ _ _ _ (T461.setTop (mkF m 125 #[iv p1, iv p2, iv p3, iv p4, iv p5, iv p6, iv ul, iv uz, rv w2, rv w11, rv w21, rv b31, rv b306, .unset, .unset] [(.int p4), (.ref w462), (.ref b444), (.ref b444)]))
        refine own_goW (fun _ k => XS.bipush X461.here hx rfl (hb hby at_125) (XS.iushr X461.here hx rfl (hb hby at_127) rfl k)) ?_
        obtain ⟨v479, T479, L479, X479, hQ479, st479⟩ := own_callS (y := own_y9) X461 hx hZ hown (ow1 hw) (ow2 hw) (ow3 hw) (ow4 hw) (rm_str l Z a0 hw hO [] ((p4.toUInt32 >>> ((16 : Int32) &&& 31).toUInt32).toInt32) T461.heap O0) 3 3 8 (by show _ ≤ 80; omega) (by show _ ≤ 3392; omega) (rfl : T461.heap = T461.heap) (g := (mkF m 128 #[iv p1, iv p2, iv p3, iv p4, iv p5, iv p6, iv ul, iv uz, rv w2, rv w11, rv w21, rv b31, rv b306, .unset, .unset] [(.int ((p4.toUInt32 >>> ((16 : Int32) &&& 31).toUInt32).toInt32)), (.ref w462), (.ref b444), (.ref b444)])) rfl (by rw [hml]; rfl) [(.int ((p4.toUInt32 >>> ((16 : Int32) &&& 31).toUInt32).toInt32))] [(.ref w462), (.ref b444), (.ref b444)] (lenOf own_pd_18 rfl) rfl rfl (hb hby at_128)
        obtain ⟨w480, rfl, Nc484, Kc483, hb481, f482⟩ := hQ479
        refine own_goW st479 ?_
        clear st479 X461
        replace N0 := Fr.app N0 Nc484
        clear Nc484
        have ne485 : w2 ≠ w480 := Nat.ne_of_lt (Nat.lt_of_lt_of_le f4.lt hb481)
        have ne486 : w11 ≠ w480 := Nat.ne_of_lt (Nat.lt_of_lt_of_le f13.lt hb481)
        have ne487 : w21 ≠ w480 := Nat.ne_of_lt (Nat.lt_of_lt_of_le f23.lt hb481)
        have ne488 : b31 ≠ w480 := Nat.ne_of_lt (Nat.lt_of_lt_of_le f296.lt hb481)
        have ne489 : w49 ≠ w480 := Nat.ne_of_lt (Nat.lt_of_lt_of_le f302.lt hb481)
        have ne490 : b306 ≠ w480 := Nat.ne_of_lt (Nat.lt_of_lt_of_le f425.lt hb481)
        have ne491 : w407 ≠ w480 := Nat.ne_of_lt (Nat.lt_of_lt_of_le f409.lt hb481)
        have ne492 : w422 ≠ w480 := Nat.ne_of_lt (Nat.lt_of_lt_of_le f429.lt hb481)
        have ne493 : b444 ≠ w480 := Nat.ne_of_lt (Nat.lt_of_lt_of_le A444.lt hb481)
        have ne494 : w462 ≠ w480 := Nat.ne_of_lt (Nat.lt_of_lt_of_le f464.lt hb481)
        have big495 : Z.heap.size ≤ w480 := Nat.le_trans O0.1 hb481
        have sz496 : h0.size ≤ w480 := Nat.le_trans K0.1 hb481
        have sz497 : hs1.size ≤ w480 := Nat.le_trans K1.1 hb481
        replace hS := own_since hS Kc483.1
        replace hJ := own_Jany hJ T479.heap
        replace f4 := f4.keep Kc483
        replace f13 := f13.keep Kc483
        replace f23 := f23.keep Kc483
        replace f296 := f296.keep Kc483
        replace f302 := f302.keep Kc483
        replace f297 := f297.keep Kc483 nin0
        replace f298 := f298.keep Kc483 nin0
        replace f299 := f299.keep Kc483 nin0
        replace f300 := f300.keep Kc483 nin0
        replace f425 := f425.keep Kc483
        replace f409 := f409.keep Kc483
        replace f426 := f426.keep Kc483 nin0
        replace f427 := f427.keep Kc483 nin0
        replace f428 := f428.keep Kc483 nin0
        replace f429 := f429.keep Kc483 nin0
        replace f431 := f431.keep Kc483
        replace A444 := A444.keep Kc483
        replace f456 := f456.keep Kc483 nin0
        replace f457 := f457.keep Kc483 nin0
        replace f458 := f458.keep Kc483 nin0
        replace f459 := f459.keep Kc483 nin0
        replace f460 := f460.keep Kc483 nin0
        replace f464 := f464.keep Kc483
        replace O0 := own_oldKeep O0 Kc483 all0
        replace K0 := K0.trans Kc483 all0
        replace K1 := K1.trans Kc483 all0
        clear Kc483
        refine own_goW (fun _ k => XS.iload X479.here hx rfl (hb hby at_131) rfl (XS.bipush X479.here hx rfl (hb hby at_133) k)) ?_
        show own_GoW p e below s _ _ _ _ (T479.setTop (mkF m 135 #[iv p1, iv p2, iv p3, iv p4, iv p5, iv p6, iv ul, iv uz, rv w2, rv w11, rv w21, rv b31, rv b306, .unset, .unset] [(.int (16 : Int32)), (.int p5), (.ref w480), (.ref w462), (.ref b444), (.ref b444)]))
        refine own_goW (fun _ k => XS.iushr X479.here hx rfl (hb hby at_135) rfl k) ?_
        obtain ⟨v498, T498, L498, X498, hQ498, st498⟩ := own_callS (y := own_y9) X479 hx hZ hown (ow1 hw) (ow2 hw) (ow3 hw) (ow4 hw) (rm_str l Z a0 hw hO [] ((p5.toUInt32 >>> ((16 : Int32) &&& 31).toUInt32).toInt32) T479.heap O0) 4 3 8 (by show _ ≤ 80; omega) (by show _ ≤ 3392; omega) (rfl : T479.heap = T479.heap) (g := (mkF m 136 #[iv p1, iv p2, iv p3, iv p4, iv p5, iv p6, iv ul, iv uz, rv w2, rv w11, rv w21, rv b31, rv b306, .unset, .unset] [(.int ((p5.toUInt32 >>> ((16 : Int32) &&& 31).toUInt32).toInt32)), (.ref w480), (.ref w462), (.ref b444), (.ref b444)])) rfl (by rw [hml]; rfl) [(.int ((p5.toUInt32 >>> ((16 : Int32) &&& 31).toUInt32).toInt32))] [(.ref w480), (.ref w462), (.ref b444), (.ref b444)] (lenOf own_pd_18 rfl) rfl rfl (hb hby at_136)
        obtain ⟨w499, rfl, Nc503, Kc502, hb500, f501⟩ := hQ498
        refine own_goW st498 ?_
        clear st498 X479
        replace N0 := Fr.app N0 Nc503
        clear Nc503
        have ne504 : w2 ≠ w499 := Nat.ne_of_lt (Nat.lt_of_lt_of_le f4.lt hb500)
        have ne505 : w11 ≠ w499 := Nat.ne_of_lt (Nat.lt_of_lt_of_le f13.lt hb500)
        have ne506 : w21 ≠ w499 := Nat.ne_of_lt (Nat.lt_of_lt_of_le f23.lt hb500)
        have ne507 : b31 ≠ w499 := Nat.ne_of_lt (Nat.lt_of_lt_of_le f296.lt hb500)
        have ne508 : w49 ≠ w499 := Nat.ne_of_lt (Nat.lt_of_lt_of_le f302.lt hb500)
        have ne509 : b306 ≠ w499 := Nat.ne_of_lt (Nat.lt_of_lt_of_le f425.lt hb500)
        have ne510 : w407 ≠ w499 := Nat.ne_of_lt (Nat.lt_of_lt_of_le f409.lt hb500)
        have ne511 : w422 ≠ w499 := Nat.ne_of_lt (Nat.lt_of_lt_of_le f429.lt hb500)
        have ne512 : b444 ≠ w499 := Nat.ne_of_lt (Nat.lt_of_lt_of_le A444.lt hb500)
        have ne513 : w462 ≠ w499 := Nat.ne_of_lt (Nat.lt_of_lt_of_le f464.lt hb500)
        have ne514 : w480 ≠ w499 := Nat.ne_of_lt (Nat.lt_of_lt_of_le f482.lt hb500)
        have big515 : Z.heap.size ≤ w499 := Nat.le_trans O0.1 hb500
        have sz516 : h0.size ≤ w499 := Nat.le_trans K0.1 hb500
        have sz517 : hs1.size ≤ w499 := Nat.le_trans K1.1 hb500
        replace hS := own_since hS Kc502.1
        replace hJ := own_Jany hJ T498.heap
        replace f4 := f4.keep Kc502
        replace f13 := f13.keep Kc502
        replace f23 := f23.keep Kc502
        replace f296 := f296.keep Kc502
        replace f302 := f302.keep Kc502
        replace f297 := f297.keep Kc502 nin0
        replace f298 := f298.keep Kc502 nin0
        replace f299 := f299.keep Kc502 nin0
        replace f300 := f300.keep Kc502 nin0
        replace f425 := f425.keep Kc502
        replace f409 := f409.keep Kc502
        replace f426 := f426.keep Kc502 nin0
        replace f427 := f427.keep Kc502 nin0
        replace f428 := f428.keep Kc502 nin0
        replace f429 := f429.keep Kc502 nin0
        replace f431 := f431.keep Kc502
        replace A444 := A444.keep Kc502
        replace f456 := f456.keep Kc502 nin0
        replace f457 := f457.keep Kc502 nin0
        replace f458 := f458.keep Kc502 nin0
        replace f459 := f459.keep Kc502 nin0
        replace f460 := f460.keep Kc502 nin0
        replace f464 := f464.keep Kc502
        replace f482 := f482.keep Kc502
        replace O0 := own_oldKeep O0 Kc502 all0
        replace K0 := K0.trans Kc502 all0
        replace K1 := K1.trans Kc502 all0
        clear Kc502
        refine own_goW (fun _ k => XS.aload X498.here hx rfl (hb hby at_139) rfl rfl (XS.aload X498.here hx rfl (hb hby at_141) rfl rfl k)) ?_
        obtain ⟨v518, T518, L518, X518, hSn, hZn, hownn, hQ518, hJn, st518⟩ := own_callIW (y := own_y35) X498 hS hL hJ hx hZ hown (ow93 hw) (ow94 hw) (ow92 hw) (ow95 hw) (rm_dim_2_1 l Z a0 hw hO [] b444 w462 w480 w499 b31 b306 w49 w50 w2 w11 w422 w423 w407 T498.heap O0 A444 f456 f457 f458 f459 f460 f296 f297 f298 f300 f302 (Ins.of_exa f4 (ow89 hw)) (Ins.of_exa f13 (ow89 hw)) f425 f426 f427 f429 f431 (Ins.of_exa f409 (ow89 hw)) big453) 1 10 95 rfl (by show _ ≤ 80; omega) (by show _ ≤ 3392; omega) (rfl : T498.heap = T498.heap) (g := (mkF m 143 #[iv p1, iv p2, iv p3, iv p4, iv p5, iv p6, iv ul, iv uz, rv w2, rv w11, rv w21, rv b31, rv b306, .unset, .unset] [(.ref b306), (.ref b31), (.ref w499), (.ref w480), (.ref w462), (.ref b444), (.ref b444)])) rfl (by rw [hml]; rfl) b444 [(.ref w462), (.ref w480), (.ref w499), (.ref b31), (.ref b306)] [(.ref b444)] (lenOf own_pd_20 rfl) rfl rfl (hb hby at_143)
        replace hS := hSn
        replace hZ := hZn
        replace hown := hownn
        replace hJ := hJn
        clear hSn hZn hownn hJn
        obtain ⟨w519, rfl, Nc525, Kc524, f520, f521, f522, f523⟩ := hQ518
        refine own_goW st518 ?_
        clear st518 X498
        replace N0 := Fr.app N0 Nc525
        clear Nc525
        replace f4 := f4.keep Kc524
        replace f13 := f13.keep Kc524
        replace f23 := f23.keep Kc524
        replace f296 := f296.keep Kc524
        replace f302 := f302.keep Kc524
        replace f297 := f297.keep Kc524 (ninS ne448 nin0)
        replace f298 := f298.keep Kc524 (ninS ne448 nin0)
        replace f299 := f299.keep Kc524 (ninS ne448 nin0)
        replace f300 := f300.keep Kc524 (ninS ne449 nin0)
        replace f425 := f425.keep Kc524
        replace f409 := f409.keep Kc524
        replace f426 := f426.keep Kc524 (ninS ne450 nin0)
        replace f427 := f427.keep Kc524 (ninS ne450 nin0)
        replace f428 := f428.keep Kc524 (ninS ne450 nin0)
        replace f429 := f429.keep Kc524 (ninS ne452 nin0)
        replace f431 := f431.keep Kc524
        replace A444 := A444.keep Kc524
        clear f456
        clear f457
        clear f458
        clear f459
        clear f460
        replace f464 := f464.keep Kc524
        replace f482 := f482.keep Kc524
        replace f501 := f501.keep Kc524
        replace O0 := own_oldKeep O0 Kc524 (allS big453 all0)
        replace K0 := K0.trans Kc524 (allS (Or.inr sz454) all0)
        replace K1 := K1.trans Kc524 (allS (Or.inr sz455) all0)
        clear Kc524
        show own_GoW p e below s _ _ _ _ (T518.setTop (mkF m 146 #[iv p1, iv p2, iv p3, iv p4, iv p5, iv p6, iv ul, iv uz, rv w2, rv w11, rv w21, rv b31, rv b306, .unset, .unset] [(.ref b444)]))
        refine own_goW (fun _ k => XS.astore X518.here hx rfl (hb hby at_146) rfl rfl (l' := #[iv p1, iv p2, iv p3, iv p4, iv p5, iv p6, iv ul, iv uz, rv w2, rv w11, rv w21, rv b31, rv b306, rv b444, .unset]) rfl (XS.aload X518.here hx rfl (hb hby at_148) rfl rfl k)) ?_
        obtain ⟨v526, T526, L526, X526, hQ526, st526⟩ := own_callV (y := own_y37) (z := own_y37) X518 hx hZ hown (ow219 hw) (ow220 hw) (notFace_of_selects (args := #[]) (mvT hZ (ow222 hw))) (ow222 hw) (ow221 hw) (ow92 hw) (ow223 hw) (rm_key_1 l Z a0 hw hO [] b444 w519 w2 T518.heap O0 f521 f522 f523 f4) 0 0 0 (by show _ ≤ 80; omega) (by show _ ≤ 3392; omega) (rfl : T518.heap = T518.heap) f520 (g := (mkF m 150 #[iv p1, iv p2, iv p3, iv p4, iv p5, iv p6, iv ul, iv uz, rv w2, rv w11, rv w21, rv b31, rv b306, rv b444, .unset] [(.ref b444)])) rfl (by rw [hml]; rfl) [] [] (lenOf own_pd_21 rfl) rfl rfl (hb hby at_150)
        obtain ⟨rfl, Nc528, Kc527⟩ := hQ526
        refine own_goW st526 ?_
        clear st526 X518
        replace N0 := Fr.app N0 Nc528
        clear Nc528
        refine own_goW (fun _ k => XS.astore X526.here hx rfl (hb hby at_153) rfl rfl (l' := #[iv p1, iv p2, iv p3, iv p4, iv p5, iv p6, iv ul, iv uz, rv w2, rv w11, rv w21, rv b31, rv b306, rv b444, rv w2]) rfl (XS.aload X526.here hx rfl (hb hby at_155) rfl rfl k)) ?_
        show own_GoW p e below s _ _ _ _ (T526.setTop (mkF m 157 #[iv p1, iv p2, iv p3, iv p4, iv p5, iv p6, iv ul, iv uz, rv w2, rv w11, rv w21, rv b31, rv b306, rv b444, rv w2] [(.ref w2)]))
        refine own_goW (fun _ k => XS.aload X526.here hx rfl (hb hby at_157) rfl rfl k) ?_
        obtain ⟨v529, T529, L529, X529, hQ529, st529⟩ := own_callV (y := own_y38) (z := own_y38) X526 hx hZ hown (ow233 hw) (ow234 hw) (notFace_of_selects (args := #[]) (mvT hZ (ow236 hw))) (ow236 hw) (ow235 hw) (ow8 hw) (ow237 hw) (rm_eqSame l Z a0 hw hO [] w2 w2 T518.heap O0 (rfl : w2 = w2)) 0 0 0 (by show _ ≤ 80; omega) (by show _ ≤ 3392; omega) Kc527 f4 (g := (mkF m 159 #[iv p1, iv p2, iv p3, iv p4, iv p5, iv p6, iv ul, iv uz, rv w2, rv w11, rv w21, rv b31, rv b306, rv b444, rv w2] [(.ref w2), (.ref w2)])) rfl (by rw [hml]; rfl) [(.ref w2)] [] (lenOf own_pd_19 rfl) rfl rfl (hb hby at_159)
        obtain ⟨rfl, Nc531, Kc530⟩ := hQ529
        refine own_goW st529 ?_
        clear st529 X526 Kc527
        replace N0 := Fr.app N0 Nc531
        clear Nc531
        show own_GoW p e below s _ _ _ _ (T529.setTop (mkF m 162 #[iv p1, iv p2, iv p3, iv p4, iv p5, iv p6, iv ul, iv uz, rv w2, rv w11, rv w21, rv b31, rv b306, rv b444, rv w2] [(.int (1 : Int32))]))
        refine own_retNW X529 hS hL hZ hJ hx hlk Kc530 (t := .boolean) hret (by simp) (hb hby at_162) (by show _ ≤ 80; omega) (by show _ ≤ 3392; omega) ?_
        exact ⟨rfl, N0, K0⟩
    · refine own_goW (fun _ k => XS.icmpNo X295.here hx rfl (hb hby at_80) rfl (flt hc305).1 k) ?_
      show own_GoW p e below s _ _ _ _ (T295.setTop (mkF m 83 #[iv p1, iv p2, iv p3, iv p4, iv p5, iv p6, iv ul, iv uz, rv w2, rv w11, rv w21, rv b31, .unset, .unset, .unset] []))
      refine own_goW (fun _ k => XS.aload X295.here hx rfl (hb hby at_83) rfl rfl (XS.aload X295.here hx rfl (hb hby at_85) rfl rfl k)) ?_
      obtain ⟨v532, T532, L532, X532, hQ532, st532⟩ := own_callV (y := own_y7) (z := own_y7) X295 hx hZ hown (ow59 hw) (ow60 hw) (notFace_of_selects (args := #[]) (mvT hZ (ow62 hw))) (ow62 hw) (ow61 hw) (ow37 hw) (ow63 hw) (rm_add1_2 l Z a0 hw hO [] b31 w21 w49 w50 (((0 : Int32) + (1 : Int32)) + (1 : Int32)) w2 w11 T295.heap O0 f296 f297 f298 f299 f300 f301 f302 (Ins.of_exa f23 (ow89 hw)) big35 big65) 0 0 0 (by show _ ≤ 80; omega) (by show _ ≤ 3392; omega) (rfl : T295.heap = T295.heap) f296 (g := (mkF m 87 #[iv p1, iv p2, iv p3, iv p4, iv p5, iv p6, iv ul, iv uz, rv w2, rv w11, rv w21, rv b31, .unset, .unset, .unset] [(.ref w21), (.ref b31)])) rfl (by rw [hml]; rfl) [(.ref w21)] [] (lenOf own_pd_19 rfl) rfl rfl (hb hby at_87)
      obtain ⟨rfl, Nc541, Kc540, f533, f534, f535, f536, f537, f538, f539⟩ := hQ532
      refine own_goW st532 ?_
      clear st532 X295
      replace N0 := Fr.app N0 Nc541
      clear Nc541
      replace hS := own_since hS Kc540.1
      replace hJ := own_Jany hJ T532.heap
      replace f4 := f4.keep Kc540
      replace f13 := f13.keep Kc540
      replace f23 := f23.keep Kc540
      replace f296 := f296.keep Kc540
      replace f302 := f302.keep Kc540
      clear f297
      clear f298
      clear f299
      clear f300
      replace O0 := own_oldKeep O0 Kc540 (allS big35 (allS big65 all0))
      replace K0 := K0.trans Kc540 (allS (Or.inr sz36) (allS (Or.inr sz66) all0))
      replace K1 := K1.trans Kc540 (allS (Or.inr sz37) (allS (Or.inr sz67) all0))
      clear Kc540
      refine own_goW (fun _ k => XS.pop X532.here hx rfl (hb hby at_90) rfl rfl k) ?_
      obtain ⟨T542, h542, X542, e542, E542, A542, D542, -, st542⟩ := newO X532 hx hZ hown (ow35 hw) (ow36 hw) (ow37 hw) (rfl : T532.heap = T532.heap) (g := (mkF m 91 #[iv p1, iv p2, iv p3, iv p4, iv p5, iv p6, iv ul, iv uz, rv w2, rv w11, rv w21, rv b31, .unset, .unset, .unset] [])) rfl (hb hby at_91) (by show _ ≤ 80; omega) (by show _ ≤ 3392; omega)
      obtain ⟨b542, g542⟩ : ∃ z, z = T532.heap.size := ⟨_, rfl⟩
      rw [← g542] at A542 D542 st542
      refine own_goW st542 ?_
      clear st542 X532
      have ge542 := Nat.le_of_eq g542.symm
      have ne543 : w2 ≠ b542 := Nat.ne_of_lt (Nat.lt_of_lt_of_le f4.lt ge542)
      have ne544 : w11 ≠ b542 := Nat.ne_of_lt (Nat.lt_of_lt_of_le f13.lt ge542)
      have ne545 : w21 ≠ b542 := Nat.ne_of_lt (Nat.lt_of_lt_of_le f23.lt ge542)
      have ne546 : b31 ≠ b542 := Nat.ne_of_lt (Nat.lt_of_lt_of_le f533.lt ge542)
      have ne547 : w49 ≠ b542 := Nat.ne_of_lt (Nat.lt_of_lt_of_le f539.lt ge542)
      have big548 : Z.heap.size ≤ b542 := Nat.le_trans O0.1 ge542
      have sz549 : h0.size ≤ b542 := Nat.le_trans K0.1 ge542
      have sz550 : hs1.size ≤ b542 := Nat.le_trans K1.1 ge542
      replace f4 := f4.ext E542
      replace f13 := f13.ext E542
      replace f23 := f23.ext E542
      replace f533 := f533.ext E542
      replace f539 := f539.ext E542
      replace f534 := f534.ext E542
      replace f535 := f535.ext E542
      replace f536 := f536.ext E542
      replace f537 := f537.ext E542
      replace O0 := own_oldExt O0 E542
      replace K0 := K0.ext E542
      replace K1 := K1.ext E542
      replace hS := own_since hS E542.1
      replace hJ := own_Jext hJ E542
      clear E542
      have f551 : Fld Z h542 b542 "java/util/AbstractList" "modCount" "I" (.int (0 : Int32)) := D542 (Or.inl (ow55 hw)) (ty := .int) own_fd0
      have f552 : Fld Z h542 b542 "java/util/ArrayList" "elementData" "[Ljava/lang/Object;" .null := D542 (Or.inl (ow58 hw)) (ty := (.array (.object "java/lang/Object"))) own_fd1
      have f553 : Fld Z h542 b542 "java/util/ArrayList" "size" "I" (.int (0 : Int32)) := D542 (Or.inl (ow67 hw)) (ty := .int) own_fd0
      show own_GoW p e below s _ _ _ _ (T542.setTop (mkF m 94 #[iv p1, iv p2, iv p3, iv p4, iv p5, iv p6, iv ul, iv uz, rv w2, rv w11, rv w21, rv b31, .unset, .unset, .unset] [(.ref b542)]))
      refine own_goW (fun _ k => XS.dup X542.here hx rfl (hb hby at_94) rfl rfl k) ?_
      obtain ⟨v554, T554, L554, X554, hQ554, st554⟩ := own_callI (y := own_y2) X542 hx hZ hown (ow38 hw) (ow39 hw) (ow37 hw) (ow40 hw) (rm_alinit l Z a0 hw hO [] b542 h542 O0 A542 f553 f552 f551 big548) 1 0 0 rfl (by show _ ≤ 80; omega) (by show _ ≤ 3392; omega) e542 (g := (mkF m 95 #[iv p1, iv p2, iv p3, iv p4, iv p5, iv p6, iv ul, iv uz, rv w2, rv w11, rv w21, rv b31, .unset, .unset, .unset] [(.ref b542), (.ref b542)])) rfl (by rw [hml]; rfl) b542 [] [(.ref b542)] (lenOf own_pd_0 rfl) rfl rfl (hb hby at_95)
      obtain ⟨rfl, Nc560, Kc559, f555, f556, f557, f558⟩ := hQ554
      refine own_goW st554 ?_
      clear st554 X542 e542
      replace N0 := Fr.app N0 Nc560
      clear Nc560
      replace hS := own_since hS Kc559.1
      replace hJ := own_Jany hJ T554.heap
      replace f4 := f4.keep Kc559
      replace f13 := f13.keep Kc559
      replace f23 := f23.keep Kc559
      replace f533 := f533.keep Kc559
      replace f539 := f539.keep Kc559
      replace f534 := f534.keep Kc559 (ninS ne546 nin0)
      replace f535 := f535.keep Kc559 (ninS ne546 nin0)
      replace f536 := f536.keep Kc559 (ninS ne546 nin0)
      replace f537 := f537.keep Kc559 (ninS ne547 nin0)
      replace A542 := A542.keep Kc559
      clear f551
      clear f552
      clear f553
      replace O0 := own_oldKeep O0 Kc559 (allS big548 all0)
      replace K0 := K0.trans Kc559 (allS (Or.inr sz549) all0)
      replace K1 := K1.trans Kc559 (allS (Or.inr sz550) all0)
      clear Kc559
      refine own_goW (fun _ k => XS.astore X554.here hx rfl (hb hby at_98) rfl rfl (l' := #[iv p1, iv p2, iv p3, iv p4, iv p5, iv p6, iv ul, iv uz, rv w2, rv w11, rv w21, rv b31, rv b542, .unset, .unset]) rfl (XS.iload X554.here hx rfl (hb hby at_100) rfl k)) ?_
      by_cases hc561 : uz = (0 : Int32)
      · refine own_goW (fun _ k => XS.ifYes X554.here hx rfl (pc0 := 102) (pc' := 116) rfl (hb hby at_102) rfl ((if0 _ _).trans (teq hc561).1) (by decide) (by decide) k) ?_
        show own_GoW p e below s _ _ _ _ (T554.setTop (mkF m 116 #[iv p1, iv p2, iv p3, iv p4, iv p5, iv p6, iv ul, iv uz, rv w2, rv w11, rv w21, rv b31, rv b542, .unset, .unset] []))
        obtain ⟨T562, h562, X562, e562, E562, A562, D562, -, st562⟩ := newO X554 hx hZ hown (ow90 hw) (ow91 hw) (ow92 hw) (rfl : T554.heap = T554.heap) (g := (mkF m 116 #[iv p1, iv p2, iv p3, iv p4, iv p5, iv p6, iv ul, iv uz, rv w2, rv w11, rv w21, rv b31, rv b542, .unset, .unset] [])) rfl (hb hby at_116) (by show _ ≤ 80; omega) (by show _ ≤ 3392; omega)
        obtain ⟨b562, g562⟩ : ∃ z, z = T554.heap.size := ⟨_, rfl⟩
        rw [← g562] at A562 D562 st562
        refine own_goW st562 ?_
        clear st562 X554
        have ge562 := Nat.le_of_eq g562.symm
        have ne563 : w2 ≠ b562 := Nat.ne_of_lt (Nat.lt_of_lt_of_le f4.lt ge562)
        have ne564 : w11 ≠ b562 := Nat.ne_of_lt (Nat.lt_of_lt_of_le f13.lt ge562)
        have ne565 : w21 ≠ b562 := Nat.ne_of_lt (Nat.lt_of_lt_of_le f23.lt ge562)
        have ne566 : b31 ≠ b562 := Nat.ne_of_lt (Nat.lt_of_lt_of_le f533.lt ge562)
        have ne567 : w49 ≠ b562 := Nat.ne_of_lt (Nat.lt_of_lt_of_le f539.lt ge562)
        have ne568 : b542 ≠ b562 := Nat.ne_of_lt (Nat.lt_of_lt_of_le f555.lt ge562)
        have big569 : Z.heap.size ≤ b562 := Nat.le_trans O0.1 ge562
        have sz570 : h0.size ≤ b562 := Nat.le_trans K0.1 ge562
        have sz571 : hs1.size ≤ b562 := Nat.le_trans K1.1 ge562
        replace f4 := f4.ext E562
        replace f13 := f13.ext E562
        replace f23 := f23.ext E562
        replace f533 := f533.ext E562
        replace f539 := f539.ext E562
        replace f534 := f534.ext E562
        replace f535 := f535.ext E562
        replace f536 := f536.ext E562
        replace f537 := f537.ext E562
        replace f555 := f555.ext E562
        replace f556 := f556.ext E562
        replace f557 := f557.ext E562
        replace f558 := f558.ext E562
        replace O0 := own_oldExt O0 E562
        replace K0 := K0.ext E562
        replace K1 := K1.ext E562
        replace hS := own_since hS E562.1
        replace hJ := own_Jext hJ E562
        clear E562
        have f572 : Fld Z h562 b562 "com/example/ibex/ibex/model/Dimension" "name" "Ljava/lang/String;" .null := D562 (Or.inr (ow210 hw)) (ty := (.object "java/lang/String")) own_fd6
        have f573 : Fld Z h562 b562 "com/example/ibex/ibex/model/Dimension" "table" "Ljava/lang/String;" .null := D562 (Or.inr (ow212 hw)) (ty := (.object "java/lang/String")) own_fd6
        have f574 : Fld Z h562 b562 "com/example/ibex/ibex/model/Dimension" "foreignKey" "Ljava/lang/String;" .null := D562 (Or.inr (ow214 hw)) (ty := (.object "java/lang/String")) own_fd6
        have f575 : Fld Z h562 b562 "com/example/ibex/ibex/model/Dimension" "levels" "Ljava/util/List;" .null := D562 (Or.inr (ow216 hw)) (ty := (.object "java/util/List")) own_fd7
        have f576 : Fld Z h562 b562 "com/example/ibex/ibex/model/Dimension" "attributes" "Ljava/util/List;" .null := D562 (Or.inr (ow218 hw)) (ty := (.object "java/util/List")) own_fd7
        refine own_goW (fun _ k => XS.dup X562.here hx rfl (hb hby at_119) rfl rfl (XS.iloadN X562.here hx rfl (hb hby at_120) rfl k)) ?_
        obtain ⟨v577, T577, L577, X577, hQ577, st577⟩ := own_callS (y := own_y9) X562 hx hZ hown (ow1 hw) (ow2 hw) (ow3 hw) (ow4 hw) (rm_str l Z a0 hw hO [] p4 h562 O0) 2 3 8 (by show _ ≤ 80; omega) (by show _ ≤ 3392; omega) e562 (g := (mkF m 121 #[iv p1, iv p2, iv p3, iv p4, iv p5, iv p6, iv ul, iv uz, rv w2, rv w11, rv w21, rv b31, rv b542, .unset, .unset] [(.int p4), (.ref b562), (.ref b562)])) rfl (by rw [hml]; rfl) [(.int p4)] [(.ref b562), (.ref b562)] (lenOf own_pd_18 rfl) rfl rfl (hb hby at_121)
        obtain ⟨w578, rfl, Nc582, Kc581, hb579, f580⟩ := hQ577
        refine own_goW st577 ?_
        clear st577 X562 e562
        replace N0 := Fr.app N0 Nc582
        clear Nc582
        have ne583 : w2 ≠ w578 := Nat.ne_of_lt (Nat.lt_of_lt_of_le f4.lt hb579)
        have ne584 : w11 ≠ w578 := Nat.ne_of_lt (Nat.lt_of_lt_of_le f13.lt hb579)
        have ne585 : w21 ≠ w578 := Nat.ne_of_lt (Nat.lt_of_lt_of_le f23.lt hb579)
        have ne586 : b31 ≠ w578 := Nat.ne_of_lt (Nat.lt_of_lt_of_le f533.lt hb579)
        have ne587 : w49 ≠ w578 := Nat.ne_of_lt (Nat.lt_of_lt_of_le f539.lt hb579)
        have ne588 : b542 ≠ w578 := Nat.ne_of_lt (Nat.lt_of_lt_of_le f555.lt hb579)
        have ne589 : b562 ≠ w578 := Nat.ne_of_lt (Nat.lt_of_lt_of_le A562.lt hb579)
        have big590 : Z.heap.size ≤ w578 := Nat.le_trans O0.1 hb579
        have sz591 : h0.size ≤ w578 := Nat.le_trans K0.1 hb579
        have sz592 : hs1.size ≤ w578 := Nat.le_trans K1.1 hb579
        replace hS := own_since hS Kc581.1
        replace hJ := own_Jany hJ T577.heap
        replace f4 := f4.keep Kc581
        replace f13 := f13.keep Kc581
        replace f23 := f23.keep Kc581
        replace f533 := f533.keep Kc581
        replace f539 := f539.keep Kc581
        replace f534 := f534.keep Kc581 nin0
        replace f535 := f535.keep Kc581 nin0
        replace f536 := f536.keep Kc581 nin0
        replace f537 := f537.keep Kc581 nin0
        replace f555 := f555.keep Kc581
        replace f556 := f556.keep Kc581 nin0
        replace f557 := f557.keep Kc581 nin0
        replace f558 := f558.keep Kc581 nin0
        replace A562 := A562.keep Kc581
        replace f572 := f572.keep Kc581 nin0
        replace f573 := f573.keep Kc581 nin0
        replace f574 := f574.keep Kc581 nin0
        replace f575 := f575.keep Kc581 nin0
        replace f576 := f576.keep Kc581 nin0
        replace O0 := own_oldKeep O0 Kc581 all0
        replace K0 := K0.trans Kc581 all0
        replace K1 := K1.trans Kc581 all0
        clear Kc581
        refine own_goW (fun _ k => XS.iloadN X577.here hx rfl (hb hby at_124) rfl k) ?_
        show own_GoW p e below s _ _ _ _ (T577.setTop (mkF m 125 #[iv p1, iv p2, iv p3, iv p4, iv p5, iv p6, iv ul, iv uz, rv w2, rv w11, rv w21, rv b31, rv b542, .unset, .unset] [(.int p4), (.ref w578), (.ref b562), (.ref b562)]))
        refine own_goW (fun _ k => XS.bipush X577.here hx rfl (hb hby at_125) (XS.iushr X577.here hx rfl (hb hby at_127) rfl k)) ?_
        obtain ⟨v593, T593, L593, X593, hQ593, st593⟩ := own_callS (y := own_y9) X577 hx hZ hown (ow1 hw) (ow2 hw) (ow3 hw) (ow4 hw) (rm_str l Z a0 hw hO [] ((p4.toUInt32 >>> ((16 : Int32) &&& 31).toUInt32).toInt32) T577.heap O0) 3 3 8 (by show _ ≤ 80; omega) (by show _ ≤ 3392; omega) (rfl : T577.heap = T577.heap) (g := (mkF m 128 #[iv p1, iv p2, iv p3, iv p4, iv p5, iv p6, iv ul, iv uz, rv w2, rv w11, rv w21, rv b31, rv b542, .unset, .unset] [(.int ((p4.toUInt32 >>> ((16 : Int32) &&& 31).toUInt32).toInt32)), (.ref w578), (.ref b562), (.ref b562)])) rfl (by rw [hml]; rfl) [(.int ((p4.toUInt32 >>> ((16 : Int32) &&& 31).toUInt32).toInt32))] [(.ref w578), (.ref b562), (.ref b562)] (lenOf own_pd_18 rfl) rfl rfl (hb hby at_128)
        obtain ⟨w594, rfl, Nc598, Kc597, hb595, f596⟩ := hQ593
        refine own_goW st593 ?_
        clear st593 X577
        replace N0 := Fr.app N0 Nc598
        clear Nc598
        have ne599 : w2 ≠ w594 := Nat.ne_of_lt (Nat.lt_of_lt_of_le f4.lt hb595)
        have ne600 : w11 ≠ w594 := Nat.ne_of_lt (Nat.lt_of_lt_of_le f13.lt hb595)
        have ne601 : w21 ≠ w594 := Nat.ne_of_lt (Nat.lt_of_lt_of_le f23.lt hb595)
        have ne602 : b31 ≠ w594 := Nat.ne_of_lt (Nat.lt_of_lt_of_le f533.lt hb595)
        have ne603 : w49 ≠ w594 := Nat.ne_of_lt (Nat.lt_of_lt_of_le f539.lt hb595)
        have ne604 : b542 ≠ w594 := Nat.ne_of_lt (Nat.lt_of_lt_of_le f555.lt hb595)
        have ne605 : b562 ≠ w594 := Nat.ne_of_lt (Nat.lt_of_lt_of_le A562.lt hb595)
        have ne606 : w578 ≠ w594 := Nat.ne_of_lt (Nat.lt_of_lt_of_le f580.lt hb595)
        have big607 : Z.heap.size ≤ w594 := Nat.le_trans O0.1 hb595
        have sz608 : h0.size ≤ w594 := Nat.le_trans K0.1 hb595
        have sz609 : hs1.size ≤ w594 := Nat.le_trans K1.1 hb595
        replace hS := own_since hS Kc597.1
        replace hJ := own_Jany hJ T593.heap
        replace f4 := f4.keep Kc597
        replace f13 := f13.keep Kc597
        replace f23 := f23.keep Kc597
        replace f533 := f533.keep Kc597
        replace f539 := f539.keep Kc597
        replace f534 := f534.keep Kc597 nin0
        replace f535 := f535.keep Kc597 nin0
        replace f536 := f536.keep Kc597 nin0
        replace f537 := f537.keep Kc597 nin0
        replace f555 := f555.keep Kc597
        replace f556 := f556.keep Kc597 nin0
        replace f557 := f557.keep Kc597 nin0
        replace f558 := f558.keep Kc597 nin0
        replace A562 := A562.keep Kc597
        replace f572 := f572.keep Kc597 nin0
        replace f573 := f573.keep Kc597 nin0
        replace f574 := f574.keep Kc597 nin0
        replace f575 := f575.keep Kc597 nin0
        replace f576 := f576.keep Kc597 nin0
        replace f580 := f580.keep Kc597
        replace O0 := own_oldKeep O0 Kc597 all0
        replace K0 := K0.trans Kc597 all0
        replace K1 := K1.trans Kc597 all0
        clear Kc597
        refine own_goW (fun _ k => XS.iload X593.here hx rfl (hb hby at_131) rfl (XS.bipush X593.here hx rfl (hb hby at_133) k)) ?_
        show own_GoW p e below s _ _ _ _ (T593.setTop (mkF m 135 #[iv p1, iv p2, iv p3, iv p4, iv p5, iv p6, iv ul, iv uz, rv w2, rv w11, rv w21, rv b31, rv b542, .unset, .unset] [(.int (16 : Int32)), (.int p5), (.ref w594), (.ref w578), (.ref b562), (.ref b562)]))
        refine own_goW (fun _ k => XS.iushr X593.here hx rfl (hb hby at_135) rfl k) ?_
        obtain ⟨v610, T610, L610, X610, hQ610, st610⟩ := own_callS (y := own_y9) X593 hx hZ hown (ow1 hw) (ow2 hw) (ow3 hw) (ow4 hw) (rm_str l Z a0 hw hO [] ((p5.toUInt32 >>> ((16 : Int32) &&& 31).toUInt32).toInt32) T593.heap O0) 4 3 8 (by show _ ≤ 80; omega) (by show _ ≤ 3392; omega) (rfl : T593.heap = T593.heap) (g := (mkF m 136 #[iv p1, iv p2, iv p3, iv p4, iv p5, iv p6, iv ul, iv uz, rv w2, rv w11, rv w21, rv b31, rv b542, .unset, .unset] [(.int ((p5.toUInt32 >>> ((16 : Int32) &&& 31).toUInt32).toInt32)), (.ref w594), (.ref w578), (.ref b562), (.ref b562)])) rfl (by rw [hml]; rfl) [(.int ((p5.toUInt32 >>> ((16 : Int32) &&& 31).toUInt32).toInt32))] [(.ref w594), (.ref w578), (.ref b562), (.ref b562)] (lenOf own_pd_18 rfl) rfl rfl (hb hby at_136)
        obtain ⟨w611, rfl, Nc615, Kc614, hb612, f613⟩ := hQ610
        refine own_goW st610 ?_
        clear st610 X593
        replace N0 := Fr.app N0 Nc615
        clear Nc615
        have ne616 : w2 ≠ w611 := Nat.ne_of_lt (Nat.lt_of_lt_of_le f4.lt hb612)
        have ne617 : w11 ≠ w611 := Nat.ne_of_lt (Nat.lt_of_lt_of_le f13.lt hb612)
        have ne618 : w21 ≠ w611 := Nat.ne_of_lt (Nat.lt_of_lt_of_le f23.lt hb612)
        have ne619 : b31 ≠ w611 := Nat.ne_of_lt (Nat.lt_of_lt_of_le f533.lt hb612)
        have ne620 : w49 ≠ w611 := Nat.ne_of_lt (Nat.lt_of_lt_of_le f539.lt hb612)
        have ne621 : b542 ≠ w611 := Nat.ne_of_lt (Nat.lt_of_lt_of_le f555.lt hb612)
        have ne622 : b562 ≠ w611 := Nat.ne_of_lt (Nat.lt_of_lt_of_le A562.lt hb612)
        have ne623 : w578 ≠ w611 := Nat.ne_of_lt (Nat.lt_of_lt_of_le f580.lt hb612)
        have ne624 : w594 ≠ w611 := Nat.ne_of_lt (Nat.lt_of_lt_of_le f596.lt hb612)
        have big625 : Z.heap.size ≤ w611 := Nat.le_trans O0.1 hb612
        have sz626 : h0.size ≤ w611 := Nat.le_trans K0.1 hb612
        have sz627 : hs1.size ≤ w611 := Nat.le_trans K1.1 hb612
        replace hS := own_since hS Kc614.1
        replace hJ := own_Jany hJ T610.heap
        replace f4 := f4.keep Kc614
        replace f13 := f13.keep Kc614
        replace f23 := f23.keep Kc614
        replace f533 := f533.keep Kc614
        replace f539 := f539.keep Kc614
        replace f534 := f534.keep Kc614 nin0
        replace f535 := f535.keep Kc614 nin0
        replace f536 := f536.keep Kc614 nin0
        replace f537 := f537.keep Kc614 nin0
        replace f555 := f555.keep Kc614
        replace f556 := f556.keep Kc614 nin0
        replace f557 := f557.keep Kc614 nin0
        replace f558 := f558.keep Kc614 nin0
        replace A562 := A562.keep Kc614
        replace f572 := f572.keep Kc614 nin0
        replace f573 := f573.keep Kc614 nin0
        replace f574 := f574.keep Kc614 nin0
        replace f575 := f575.keep Kc614 nin0
        replace f576 := f576.keep Kc614 nin0
        replace f580 := f580.keep Kc614
        replace f596 := f596.keep Kc614
        replace O0 := own_oldKeep O0 Kc614 all0
        replace K0 := K0.trans Kc614 all0
        replace K1 := K1.trans Kc614 all0
        clear Kc614
        refine own_goW (fun _ k => XS.aload X610.here hx rfl (hb hby at_139) rfl rfl (XS.aload X610.here hx rfl (hb hby at_141) rfl rfl k)) ?_
        obtain ⟨v628, T628, L628, X628, hSn, hZn, hownn, hQ628, hJn, st628⟩ := own_callIW (y := own_y35) X610 hS hL hJ hx hZ hown (ow93 hw) (ow94 hw) (ow92 hw) (ow95 hw) (rm_dim_3_0 l Z a0 hw hO [] b562 w578 w594 w611 b31 b542 w49 w50 w2 w11 w21 T610.heap O0 A562 f572 f573 f574 f575 f576 f533 f534 f535 f537 f539 (Ins.of_exa f4 (ow89 hw)) (Ins.of_exa f13 (ow89 hw)) (Ins.of_exa f23 (ow89 hw)) f555 f556 big569) 1 9 96 rfl (by show _ ≤ 80; omega) (by show _ ≤ 3392; omega) (rfl : T610.heap = T610.heap) (g := (mkF m 143 #[iv p1, iv p2, iv p3, iv p4, iv p5, iv p6, iv ul, iv uz, rv w2, rv w11, rv w21, rv b31, rv b542, .unset, .unset] [(.ref b542), (.ref b31), (.ref w611), (.ref w594), (.ref w578), (.ref b562), (.ref b562)])) rfl (by rw [hml]; rfl) b562 [(.ref w578), (.ref w594), (.ref w611), (.ref b31), (.ref b542)] [(.ref b562)] (lenOf own_pd_20 rfl) rfl rfl (hb hby at_143)
        replace hS := hSn
        replace hZ := hZn
        replace hown := hownn
        replace hJ := hJn
        clear hSn hZn hownn hJn
        obtain ⟨w629, w630, w631, rfl, Nc638, Kc637, f632, f633, f634, f635, f636⟩ := hQ628
        refine own_goW st628 ?_
        clear st628 X610
        replace N0 := Fr.app N0 Nc638
        clear Nc638
        replace f4 := f4.keep Kc637
        replace f13 := f13.keep Kc637
        replace f23 := f23.keep Kc637
        replace f533 := f533.keep Kc637
        replace f539 := f539.keep Kc637
        replace f534 := f534.keep Kc637 (ninS ne566 nin0)
        replace f535 := f535.keep Kc637 (ninS ne566 nin0)
        replace f536 := f536.keep Kc637 (ninS ne566 nin0)
        replace f537 := f537.keep Kc637 (ninS ne567 nin0)
        replace f555 := f555.keep Kc637
        replace f556 := f556.keep Kc637 (ninS ne568 nin0)
        replace f557 := f557.keep Kc637 (ninS ne568 nin0)
        replace f558 := f558.keep Kc637 (ninS ne568 nin0)
        replace A562 := A562.keep Kc637
        clear f572
        clear f573
        clear f574
        clear f575
        clear f576
        replace f580 := f580.keep Kc637
        replace f596 := f596.keep Kc637
        replace f613 := f613.keep Kc637
        replace O0 := own_oldKeep O0 Kc637 (allS big569 all0)
        replace K0 := K0.trans Kc637 (allS (Or.inr sz570) all0)
        replace K1 := K1.trans Kc637 (allS (Or.inr sz571) all0)
        clear Kc637
        show own_GoW p e below s _ _ _ _ (T628.setTop (mkF m 146 #[iv p1, iv p2, iv p3, iv p4, iv p5, iv p6, iv ul, iv uz, rv w2, rv w11, rv w21, rv b31, rv b542, .unset, .unset] [(.ref b562)]))
        refine own_goW (fun _ k => XS.astore X628.here hx rfl (hb hby at_146) rfl rfl (l' := #[iv p1, iv p2, iv p3, iv p4, iv p5, iv p6, iv ul, iv uz, rv w2, rv w11, rv w21, rv b31, rv b542, rv b562, .unset]) rfl (XS.aload X628.here hx rfl (hb hby at_148) rfl rfl k)) ?_
        obtain ⟨v639, T639, L639, X639, hQ639, st639⟩ := own_callV (y := own_y37) (z := own_y37) X628 hx hZ hown (ow219 hw) (ow220 hw) (notFace_of_selects (args := #[]) (mvT hZ (ow222 hw))) (ow222 hw) (ow221 hw) (ow92 hw) (ow223 hw) (rm_key_3 l Z a0 hw hO [] b562 w629 w630 w631 w2 w11 w21 T628.heap O0 f633 f634 f635 f636 f4) 0 0 0 (by show _ ≤ 80; omega) (by show _ ≤ 3392; omega) (rfl : T628.heap = T628.heap) f632 (g := (mkF m 150 #[iv p1, iv p2, iv p3, iv p4, iv p5, iv p6, iv ul, iv uz, rv w2, rv w11, rv w21, rv b31, rv b542, rv b562, .unset] [(.ref b562)])) rfl (by rw [hml]; rfl) [] [] (lenOf own_pd_21 rfl) rfl rfl (hb hby at_150)
        obtain ⟨rfl, Nc641, Kc640⟩ := hQ639
        refine own_goW st639 ?_
        clear st639 X628
        replace N0 := Fr.app N0 Nc641
        clear Nc641
        refine own_goW (fun _ k => XS.astore X639.here hx rfl (hb hby at_153) rfl rfl (l' := #[iv p1, iv p2, iv p3, iv p4, iv p5, iv p6, iv ul, iv uz, rv w2, rv w11, rv w21, rv b31, rv b542, rv b562, rv w2]) rfl (XS.aload X639.here hx rfl (hb hby at_155) rfl rfl k)) ?_
        show own_GoW p e below s _ _ _ _ (T639.setTop (mkF m 157 #[iv p1, iv p2, iv p3, iv p4, iv p5, iv p6, iv ul, iv uz, rv w2, rv w11, rv w21, rv b31, rv b542, rv b562, rv w2] [(.ref w2)]))
        refine own_goW (fun _ k => XS.aload X639.here hx rfl (hb hby at_157) rfl rfl k) ?_
        obtain ⟨v642, T642, L642, X642, hQ642, st642⟩ := own_callV (y := own_y38) (z := own_y38) X639 hx hZ hown (ow233 hw) (ow234 hw) (notFace_of_selects (args := #[]) (mvT hZ (ow236 hw))) (ow236 hw) (ow235 hw) (ow8 hw) (ow237 hw) (rm_eqSame l Z a0 hw hO [] w2 w2 T628.heap O0 (rfl : w2 = w2)) 0 0 0 (by show _ ≤ 80; omega) (by show _ ≤ 3392; omega) Kc640 f4 (g := (mkF m 159 #[iv p1, iv p2, iv p3, iv p4, iv p5, iv p6, iv ul, iv uz, rv w2, rv w11, rv w21, rv b31, rv b542, rv b562, rv w2] [(.ref w2), (.ref w2)])) rfl (by rw [hml]; rfl) [(.ref w2)] [] (lenOf own_pd_19 rfl) rfl rfl (hb hby at_159)
        obtain ⟨rfl, Nc644, Kc643⟩ := hQ642
        refine own_goW st642 ?_
        clear st642 X639 Kc640
        replace N0 := Fr.app N0 Nc644
        clear Nc644
        show own_GoW p e below s _ _ _ _ (T642.setTop (mkF m 162 #[iv p1, iv p2, iv p3, iv p4, iv p5, iv p6, iv ul, iv uz, rv w2, rv w11, rv w21, rv b31, rv b542, rv b562, rv w2] [(.int (1 : Int32))]))
        refine own_retNW X642 hS hL hZ hJ hx hlk Kc643 (t := .boolean) hret (by simp) (hb hby at_162) (by show _ ≤ 80; omega) (by show _ ≤ 3392; omega) ?_
        exact ⟨rfl, N0, K0⟩
      · refine own_goW (fun _ k => XS.ifNo X554.here hx rfl (hb hby at_102) rfl ((if0 _ _).trans (feq hc561).1) k) ?_
        show own_GoW p e below s _ _ _ _ (T554.setTop (mkF m 105 #[iv p1, iv p2, iv p3, iv p4, iv p5, iv p6, iv ul, iv uz, rv w2, rv w11, rv w21, rv b31, rv b542, .unset, .unset] []))
        refine own_goW (fun _ k => XS.aload X554.here hx rfl (hb hby at_105) rfl rfl (XS.iload X554.here hx rfl (hb hby at_107) rfl k)) ?_
        obtain ⟨v645, T645, L645, X645, hQ645, st645⟩ := own_callS (y := own_y9) X554 hx hZ hown (ow1 hw) (ow2 hw) (ow3 hw) (ow4 hw) (rm_str l Z a0 hw hO [] p5 T554.heap O0) 1 3 8 (by show _ ≤ 80; omega) (by show _ ≤ 3392; omega) (rfl : T554.heap = T554.heap) (g := (mkF m 109 #[iv p1, iv p2, iv p3, iv p4, iv p5, iv p6, iv ul, iv uz, rv w2, rv w11, rv w21, rv b31, rv b542, .unset, .unset] [(.int p5), (.ref b542)])) rfl (by rw [hml]; rfl) [(.int p5)] [(.ref b542)] (lenOf own_pd_18 rfl) rfl rfl (hb hby at_109)
        obtain ⟨w646, rfl, Nc650, Kc649, hb647, f648⟩ := hQ645
        refine own_goW st645 ?_
        clear st645 X554
        replace N0 := Fr.app N0 Nc650
        clear Nc650
        have ne651 : w2 ≠ w646 := Nat.ne_of_lt (Nat.lt_of_lt_of_le f4.lt hb647)
        have ne652 : w11 ≠ w646 := Nat.ne_of_lt (Nat.lt_of_lt_of_le f13.lt hb647)
        have ne653 : w21 ≠ w646 := Nat.ne_of_lt (Nat.lt_of_lt_of_le f23.lt hb647)
        have ne654 : b31 ≠ w646 := Nat.ne_of_lt (Nat.lt_of_lt_of_le f533.lt hb647)
        have ne655 : w49 ≠ w646 := Nat.ne_of_lt (Nat.lt_of_lt_of_le f539.lt hb647)
        have ne656 : b542 ≠ w646 := Nat.ne_of_lt (Nat.lt_of_lt_of_le f555.lt hb647)
        have big657 : Z.heap.size ≤ w646 := Nat.le_trans O0.1 hb647
        have sz658 : h0.size ≤ w646 := Nat.le_trans K0.1 hb647
        have sz659 : hs1.size ≤ w646 := Nat.le_trans K1.1 hb647
        replace hS := own_since hS Kc649.1
        replace hJ := own_Jany hJ T645.heap
        replace f4 := f4.keep Kc649
        replace f13 := f13.keep Kc649
        replace f23 := f23.keep Kc649
        replace f533 := f533.keep Kc649
        replace f539 := f539.keep Kc649
        replace f534 := f534.keep Kc649 nin0
        replace f535 := f535.keep Kc649 nin0
        replace f536 := f536.keep Kc649 nin0
        replace f537 := f537.keep Kc649 nin0
        replace f555 := f555.keep Kc649
        replace f556 := f556.keep Kc649 nin0
        replace f557 := f557.keep Kc649 nin0
        replace f558 := f558.keep Kc649 nin0
        replace O0 := own_oldKeep O0 Kc649 all0
        replace K0 := K0.trans Kc649 all0
        replace K1 := K1.trans Kc649 all0
        clear Kc649
        obtain ⟨v660, T660, L660, X660, hQ660, st660⟩ := own_callV (y := own_y7) (z := own_y7) X645 hx hZ hown (ow59 hw) (ow60 hw) (notFace_of_selects (args := #[]) (mvT hZ (ow62 hw))) (ow62 hw) (ow61 hw) (ow37 hw) (ow63 hw) (rm_add1_0 l Z a0 hw hO [] b542 w646 (0 : Int32) T645.heap O0 f555 f556 f557 f558 (Ins.of_exa f648 (ow89 hw)) big548) 0 1 10 (by show _ ≤ 80; omega) (by show _ ≤ 3392; omega) (rfl : T645.heap = T645.heap) f555 (g := (mkF m 112 #[iv p1, iv p2, iv p3, iv p4, iv p5, iv p6, iv ul, iv uz, rv w2, rv w11, rv w21, rv b31, rv b542, .unset, .unset] [(.ref w646), (.ref b542)])) rfl (by rw [hml]; rfl) [(.ref w646)] [] (lenOf own_pd_19 rfl) rfl rfl (hb hby at_112)
        obtain ⟨w661, w662, rfl, Nc672, Kc671, hb663, f664, f665, f666, f667, f668, f669, f670⟩ := hQ660
        refine own_goW st660 ?_
        clear st660 X645
        replace N0 := Fr.app N0 Nc672
        clear Nc672
        have ne673 : w2 ≠ w661 := Nat.ne_of_lt (Nat.lt_of_lt_of_le f4.lt hb663)
        have ne674 : w11 ≠ w661 := Nat.ne_of_lt (Nat.lt_of_lt_of_le f13.lt hb663)
        have ne675 : w21 ≠ w661 := Nat.ne_of_lt (Nat.lt_of_lt_of_le f23.lt hb663)
        have ne676 : b31 ≠ w661 := Nat.ne_of_lt (Nat.lt_of_lt_of_le f533.lt hb663)
        have ne677 : w49 ≠ w661 := Nat.ne_of_lt (Nat.lt_of_lt_of_le f539.lt hb663)
        have ne678 : b542 ≠ w661 := Nat.ne_of_lt (Nat.lt_of_lt_of_le f555.lt hb663)
        have ne679 : w646 ≠ w661 := Nat.ne_of_lt (Nat.lt_of_lt_of_le f648.lt hb663)
        have big680 : Z.heap.size ≤ w661 := Nat.le_trans O0.1 hb663
        have sz681 : h0.size ≤ w661 := Nat.le_trans K0.1 hb663
        have sz682 : hs1.size ≤ w661 := Nat.le_trans K1.1 hb663
        replace hS := own_since hS Kc671.1
        replace hJ := own_Jany hJ T660.heap
        replace f4 := f4.keep Kc671
        replace f13 := f13.keep Kc671
        replace f23 := f23.keep Kc671
        replace f533 := f533.keep Kc671
        replace f539 := f539.keep Kc671
        replace f534 := f534.keep Kc671 (ninS ne546 nin0)
        replace f535 := f535.keep Kc671 (ninS ne546 nin0)
        replace f536 := f536.keep Kc671 (ninS ne546 nin0)
        replace f537 := f537.keep Kc671 (ninS ne547 nin0)
        replace f555 := f555.keep Kc671
        clear f556
        clear f557
        clear f558
        replace f648 := f648.keep Kc671
        replace O0 := own_oldKeep O0 Kc671 (allS big548 all0)
        replace K0 := K0.trans Kc671 (allS (Or.inr sz549) all0)
        replace K1 := K1.trans Kc671 (allS (Or.inr sz550) all0)
        clear Kc671
        refine own_goW (fun _ k => XS.pop X660.here hx rfl (hb hby at_115) rfl rfl k) ?_
        show own_GoW p e below s _ _ _ _ (T660.setTop (mkF m 116 #[iv p1, iv p2, iv p3, iv p4, iv p5, iv p6, iv ul, iv uz, rv w2, rv w11, rv w21, rv b31, rv b542, .unset, .unset] []))
        obtain ⟨T683, h683, X683, e683, E683, A683, D683, -, st683⟩ := newO X660 hx hZ hown (ow90 hw) (ow91 hw) (ow92 hw) (rfl : T660.heap = T660.heap) (g := (mkF m 116 #[iv p1, iv p2, iv p3, iv p4, iv p5, iv p6, iv ul, iv uz, rv w2, rv w11, rv w21, rv b31, rv b542, .unset, .unset] [])) rfl (hb hby at_116) (by show _ ≤ 80; omega) (by show _ ≤ 3392; omega)
        obtain ⟨b683, g683⟩ : ∃ z, z = T660.heap.size := ⟨_, rfl⟩
        rw [← g683] at A683 D683 st683
        refine own_goW st683 ?_
        clear st683 X660
        have ge683 := Nat.le_of_eq g683.symm
        have ne684 : w2 ≠ b683 := Nat.ne_of_lt (Nat.lt_of_lt_of_le f4.lt ge683)
        have ne685 : w11 ≠ b683 := Nat.ne_of_lt (Nat.lt_of_lt_of_le f13.lt ge683)
        have ne686 : w21 ≠ b683 := Nat.ne_of_lt (Nat.lt_of_lt_of_le f23.lt ge683)
        have ne687 : b31 ≠ b683 := Nat.ne_of_lt (Nat.lt_of_lt_of_le f533.lt ge683)
        have ne688 : w49 ≠ b683 := Nat.ne_of_lt (Nat.lt_of_lt_of_le f539.lt ge683)
        have ne689 : b542 ≠ b683 := Nat.ne_of_lt (Nat.lt_of_lt_of_le f664.lt ge683)
        have ne690 : w646 ≠ b683 := Nat.ne_of_lt (Nat.lt_of_lt_of_le f648.lt ge683)
        have ne691 : w661 ≠ b683 := Nat.ne_of_lt (Nat.lt_of_lt_of_le f668.lt ge683)
        have big692 : Z.heap.size ≤ b683 := Nat.le_trans O0.1 ge683
        have sz693 : h0.size ≤ b683 := Nat.le_trans K0.1 ge683
        have sz694 : hs1.size ≤ b683 := Nat.le_trans K1.1 ge683
        replace f4 := f4.ext E683
        replace f13 := f13.ext E683
        replace f23 := f23.ext E683
        replace f533 := f533.ext E683
        replace f539 := f539.ext E683
        replace f534 := f534.ext E683
        replace f535 := f535.ext E683
        replace f536 := f536.ext E683
        replace f537 := f537.ext E683
        replace f664 := f664.ext E683
        replace f648 := f648.ext E683
        replace f665 := f665.ext E683
        replace f666 := f666.ext E683
        replace f667 := f667.ext E683
        replace f668 := f668.ext E683
        replace f670 := f670.ext E683
        replace O0 := own_oldExt O0 E683
        replace K0 := K0.ext E683
        replace K1 := K1.ext E683
        replace hS := own_since hS E683.1
        replace hJ := own_Jext hJ E683
        clear E683
        have f695 : Fld Z h683 b683 "com/example/ibex/ibex/model/Dimension" "name" "Ljava/lang/String;" .null := D683 (Or.inr (ow210 hw)) (ty := (.object "java/lang/String")) own_fd6
        have f696 : Fld Z h683 b683 "com/example/ibex/ibex/model/Dimension" "table" "Ljava/lang/String;" .null := D683 (Or.inr (ow212 hw)) (ty := (.object "java/lang/String")) own_fd6
        have f697 : Fld Z h683 b683 "com/example/ibex/ibex/model/Dimension" "foreignKey" "Ljava/lang/String;" .null := D683 (Or.inr (ow214 hw)) (ty := (.object "java/lang/String")) own_fd6
        have f698 : Fld Z h683 b683 "com/example/ibex/ibex/model/Dimension" "levels" "Ljava/util/List;" .null := D683 (Or.inr (ow216 hw)) (ty := (.object "java/util/List")) own_fd7
        have f699 : Fld Z h683 b683 "com/example/ibex/ibex/model/Dimension" "attributes" "Ljava/util/List;" .null := D683 (Or.inr (ow218 hw)) (ty := (.object "java/util/List")) own_fd7
        refine own_goW (fun _ k => XS.dup X683.here hx rfl (hb hby at_119) rfl rfl (XS.iloadN X683.here hx rfl (hb hby at_120) rfl k)) ?_
        obtain ⟨v700, T700, L700, X700, hQ700, st700⟩ := own_callS (y := own_y9) X683 hx hZ hown (ow1 hw) (ow2 hw) (ow3 hw) (ow4 hw) (rm_str l Z a0 hw hO [] p4 h683 O0) 2 3 8 (by show _ ≤ 80; omega) (by show _ ≤ 3392; omega) e683 (g := (mkF m 121 #[iv p1, iv p2, iv p3, iv p4, iv p5, iv p6, iv ul, iv uz, rv w2, rv w11, rv w21, rv b31, rv b542, .unset, .unset] [(.int p4), (.ref b683), (.ref b683)])) rfl (by rw [hml]; rfl) [(.int p4)] [(.ref b683), (.ref b683)] (lenOf own_pd_18 rfl) rfl rfl (hb hby at_121)
        obtain ⟨w701, rfl, Nc705, Kc704, hb702, f703⟩ := hQ700
        refine own_goW st700 ?_
        clear st700 X683 e683
        replace N0 := Fr.app N0 Nc705
        clear Nc705
        have ne706 : w2 ≠ w701 := Nat.ne_of_lt (Nat.lt_of_lt_of_le f4.lt hb702)
        have ne707 : w11 ≠ w701 := Nat.ne_of_lt (Nat.lt_of_lt_of_le f13.lt hb702)
        have ne708 : w21 ≠ w701 := Nat.ne_of_lt (Nat.lt_of_lt_of_le f23.lt hb702)
        have ne709 : b31 ≠ w701 := Nat.ne_of_lt (Nat.lt_of_lt_of_le f533.lt hb702)
        have ne710 : w49 ≠ w701 := Nat.ne_of_lt (Nat.lt_of_lt_of_le f539.lt hb702)
        have ne711 : b542 ≠ w701 := Nat.ne_of_lt (Nat.lt_of_lt_of_le f664.lt hb702)
        have ne712 : w646 ≠ w701 := Nat.ne_of_lt (Nat.lt_of_lt_of_le f648.lt hb702)
        have ne713 : w661 ≠ w701 := Nat.ne_of_lt (Nat.lt_of_lt_of_le f668.lt hb702)
        have ne714 : b683 ≠ w701 := Nat.ne_of_lt (Nat.lt_of_lt_of_le A683.lt hb702)
        have big715 : Z.heap.size ≤ w701 := Nat.le_trans O0.1 hb702
        have sz716 : h0.size ≤ w701 := Nat.le_trans K0.1 hb702
        have sz717 : hs1.size ≤ w701 := Nat.le_trans K1.1 hb702
        replace hS := own_since hS Kc704.1
        replace hJ := own_Jany hJ T700.heap
        replace f4 := f4.keep Kc704
        replace f13 := f13.keep Kc704
        replace f23 := f23.keep Kc704
        replace f533 := f533.keep Kc704
        replace f539 := f539.keep Kc704
        replace f534 := f534.keep Kc704 nin0
        replace f535 := f535.keep Kc704 nin0
        replace f536 := f536.keep Kc704 nin0
        replace f537 := f537.keep Kc704 nin0
        replace f664 := f664.keep Kc704
        replace f648 := f648.keep Kc704
        replace f665 := f665.keep Kc704 nin0
        replace f666 := f666.keep Kc704 nin0
        replace f667 := f667.keep Kc704 nin0
        replace f668 := f668.keep Kc704 nin0
        replace f670 := f670.keep Kc704
        replace A683 := A683.keep Kc704
        replace f695 := f695.keep Kc704 nin0
        replace f696 := f696.keep Kc704 nin0
        replace f697 := f697.keep Kc704 nin0
        replace f698 := f698.keep Kc704 nin0
        replace f699 := f699.keep Kc704 nin0
        replace O0 := own_oldKeep O0 Kc704 all0
        replace K0 := K0.trans Kc704 all0
        replace K1 := K1.trans Kc704 all0
        clear Kc704
        refine own_goW (fun _ k => XS.iloadN X700.here hx rfl (hb hby at_124) rfl k) ?_
        show own_GoW p e below s _ _ _ _ (T700.setTop (mkF m 125 #[iv p1, iv p2, iv p3, iv p4, iv p5, iv p6, iv ul, iv uz, rv w2, rv w11, rv w21, rv b31, rv b542, .unset, .unset] [(.int p4), (.ref w701), (.ref b683), (.ref b683)]))
        refine own_goW (fun _ k => XS.bipush X700.here hx rfl (hb hby at_125) (XS.iushr X700.here hx rfl (hb hby at_127) rfl k)) ?_
        obtain ⟨v718, T718, L718, X718, hQ718, st718⟩ := own_callS (y := own_y9) X700 hx hZ hown (ow1 hw) (ow2 hw) (ow3 hw) (ow4 hw) (rm_str l Z a0 hw hO [] ((p4.toUInt32 >>> ((16 : Int32) &&& 31).toUInt32).toInt32) T700.heap O0) 3 3 8 (by show _ ≤ 80; omega) (by show _ ≤ 3392; omega) (rfl : T700.heap = T700.heap) (g := (mkF m 128 #[iv p1, iv p2, iv p3, iv p4, iv p5, iv p6, iv ul, iv uz, rv w2, rv w11, rv w21, rv b31, rv b542, .unset, .unset] [(.int ((p4.toUInt32 >>> ((16 : Int32) &&& 31).toUInt32).toInt32)), (.ref w701), (.ref b683), (.ref b683)])) rfl (by rw [hml]; rfl) [(.int ((p4.toUInt32 >>> ((16 : Int32) &&& 31).toUInt32).toInt32))] [(.ref w701), (.ref b683), (.ref b683)] (lenOf own_pd_18 rfl) rfl rfl (hb hby at_128)
        obtain ⟨w719, rfl, Nc723, Kc722, hb720, f721⟩ := hQ718
        refine own_goW st718 ?_
        clear st718 X700
        replace N0 := Fr.app N0 Nc723
        clear Nc723
        have ne724 : w2 ≠ w719 := Nat.ne_of_lt (Nat.lt_of_lt_of_le f4.lt hb720)
        have ne725 : w11 ≠ w719 := Nat.ne_of_lt (Nat.lt_of_lt_of_le f13.lt hb720)
        have ne726 : w21 ≠ w719 := Nat.ne_of_lt (Nat.lt_of_lt_of_le f23.lt hb720)
        have ne727 : b31 ≠ w719 := Nat.ne_of_lt (Nat.lt_of_lt_of_le f533.lt hb720)
        have ne728 : w49 ≠ w719 := Nat.ne_of_lt (Nat.lt_of_lt_of_le f539.lt hb720)
        have ne729 : b542 ≠ w719 := Nat.ne_of_lt (Nat.lt_of_lt_of_le f664.lt hb720)
        have ne730 : w646 ≠ w719 := Nat.ne_of_lt (Nat.lt_of_lt_of_le f648.lt hb720)
        have ne731 : w661 ≠ w719 := Nat.ne_of_lt (Nat.lt_of_lt_of_le f668.lt hb720)
        have ne732 : b683 ≠ w719 := Nat.ne_of_lt (Nat.lt_of_lt_of_le A683.lt hb720)
        have ne733 : w701 ≠ w719 := Nat.ne_of_lt (Nat.lt_of_lt_of_le f703.lt hb720)
        have big734 : Z.heap.size ≤ w719 := Nat.le_trans O0.1 hb720
        have sz735 : h0.size ≤ w719 := Nat.le_trans K0.1 hb720
        have sz736 : hs1.size ≤ w719 := Nat.le_trans K1.1 hb720
        replace hS := own_since hS Kc722.1
        replace hJ := own_Jany hJ T718.heap
        replace f4 := f4.keep Kc722
        replace f13 := f13.keep Kc722
        replace f23 := f23.keep Kc722
        replace f533 := f533.keep Kc722
        replace f539 := f539.keep Kc722
        replace f534 := f534.keep Kc722 nin0
        replace f535 := f535.keep Kc722 nin0
        replace f536 := f536.keep Kc722 nin0
        replace f537 := f537.keep Kc722 nin0
        replace f664 := f664.keep Kc722
        replace f648 := f648.keep Kc722
        replace f665 := f665.keep Kc722 nin0
        replace f666 := f666.keep Kc722 nin0
        replace f667 := f667.keep Kc722 nin0
        replace f668 := f668.keep Kc722 nin0
        replace f670 := f670.keep Kc722
        replace A683 := A683.keep Kc722
        replace f695 := f695.keep Kc722 nin0
        replace f696 := f696.keep Kc722 nin0
        replace f697 := f697.keep Kc722 nin0
        replace f698 := f698.keep Kc722 nin0
        replace f699 := f699.keep Kc722 nin0
        replace f703 := f703.keep Kc722
        replace O0 := own_oldKeep O0 Kc722 all0
        replace K0 := K0.trans Kc722 all0
        replace K1 := K1.trans Kc722 all0
        clear Kc722
        refine own_goW (fun _ k => XS.iload X718.here hx rfl (hb hby at_131) rfl (XS.bipush X718.here hx rfl (hb hby at_133) k)) ?_
        show own_GoW p e below s _ _ _ _ (T718.setTop (mkF m 135 #[iv p1, iv p2, iv p3, iv p4, iv p5, iv p6, iv ul, iv uz, rv w2, rv w11, rv w21, rv b31, rv b542, .unset, .unset] [(.int (16 : Int32)), (.int p5), (.ref w719), (.ref w701), (.ref b683), (.ref b683)]))
        refine own_goW (fun _ k => XS.iushr X718.here hx rfl (hb hby at_135) rfl k) ?_
        obtain ⟨v737, T737, L737, X737, hQ737, st737⟩ := own_callS (y := own_y9) X718 hx hZ hown (ow1 hw) (ow2 hw) (ow3 hw) (ow4 hw) (rm_str l Z a0 hw hO [] ((p5.toUInt32 >>> ((16 : Int32) &&& 31).toUInt32).toInt32) T718.heap O0) 4 3 8 (by show _ ≤ 80; omega) (by show _ ≤ 3392; omega) (rfl : T718.heap = T718.heap) (g := (mkF m 136 #[iv p1, iv p2, iv p3, iv p4, iv p5, iv p6, iv ul, iv uz, rv w2, rv w11, rv w21, rv b31, rv b542, .unset, .unset] [(.int ((p5.toUInt32 >>> ((16 : Int32) &&& 31).toUInt32).toInt32)), (.ref w719), (.ref w701), (.ref b683), (.ref b683)])) rfl (by rw [hml]; rfl) [(.int ((p5.toUInt32 >>> ((16 : Int32) &&& 31).toUInt32).toInt32))] [(.ref w719), (.ref w701), (.ref b683), (.ref b683)] (lenOf own_pd_18 rfl) rfl rfl (hb hby at_136)
        obtain ⟨w738, rfl, Nc742, Kc741, hb739, f740⟩ := hQ737
        refine own_goW st737 ?_
        clear st737 X718
        replace N0 := Fr.app N0 Nc742
        clear Nc742
        have ne743 : w2 ≠ w738 := Nat.ne_of_lt (Nat.lt_of_lt_of_le f4.lt hb739)
        have ne744 : w11 ≠ w738 := Nat.ne_of_lt (Nat.lt_of_lt_of_le f13.lt hb739)
        have ne745 : w21 ≠ w738 := Nat.ne_of_lt (Nat.lt_of_lt_of_le f23.lt hb739)
        have ne746 : b31 ≠ w738 := Nat.ne_of_lt (Nat.lt_of_lt_of_le f533.lt hb739)
        have ne747 : w49 ≠ w738 := Nat.ne_of_lt (Nat.lt_of_lt_of_le f539.lt hb739)
        have ne748 : b542 ≠ w738 := Nat.ne_of_lt (Nat.lt_of_lt_of_le f664.lt hb739)
        have ne749 : w646 ≠ w738 := Nat.ne_of_lt (Nat.lt_of_lt_of_le f648.lt hb739)
        have ne750 : w661 ≠ w738 := Nat.ne_of_lt (Nat.lt_of_lt_of_le f668.lt hb739)
        have ne751 : b683 ≠ w738 := Nat.ne_of_lt (Nat.lt_of_lt_of_le A683.lt hb739)
        have ne752 : w701 ≠ w738 := Nat.ne_of_lt (Nat.lt_of_lt_of_le f703.lt hb739)
        have ne753 : w719 ≠ w738 := Nat.ne_of_lt (Nat.lt_of_lt_of_le f721.lt hb739)
        have big754 : Z.heap.size ≤ w738 := Nat.le_trans O0.1 hb739
        have sz755 : h0.size ≤ w738 := Nat.le_trans K0.1 hb739
        have sz756 : hs1.size ≤ w738 := Nat.le_trans K1.1 hb739
        replace hS := own_since hS Kc741.1
        replace hJ := own_Jany hJ T737.heap
        replace f4 := f4.keep Kc741
        replace f13 := f13.keep Kc741
        replace f23 := f23.keep Kc741
        replace f533 := f533.keep Kc741
        replace f539 := f539.keep Kc741
        replace f534 := f534.keep Kc741 nin0
        replace f535 := f535.keep Kc741 nin0
        replace f536 := f536.keep Kc741 nin0
        replace f537 := f537.keep Kc741 nin0
        replace f664 := f664.keep Kc741
        replace f648 := f648.keep Kc741
        replace f665 := f665.keep Kc741 nin0
        replace f666 := f666.keep Kc741 nin0
        replace f667 := f667.keep Kc741 nin0
        replace f668 := f668.keep Kc741 nin0
        replace f670 := f670.keep Kc741
        replace A683 := A683.keep Kc741
        replace f695 := f695.keep Kc741 nin0
        replace f696 := f696.keep Kc741 nin0
        replace f697 := f697.keep Kc741 nin0
        replace f698 := f698.keep Kc741 nin0
        replace f699 := f699.keep Kc741 nin0
        replace f703 := f703.keep Kc741
        replace f721 := f721.keep Kc741
        replace O0 := own_oldKeep O0 Kc741 all0
        replace K0 := K0.trans Kc741 all0
        replace K1 := K1.trans Kc741 all0
        clear Kc741
        refine own_goW (fun _ k => XS.aload X737.here hx rfl (hb hby at_139) rfl rfl (XS.aload X737.here hx rfl (hb hby at_141) rfl rfl k)) ?_
        obtain ⟨v757, T757, L757, X757, hSn, hZn, hownn, hQ757, hJn, st757⟩ := own_callIW (y := own_y35) X737 hS hL hJ hx hZ hown (ow93 hw) (ow94 hw) (ow92 hw) (ow95 hw) (rm_dim_3_1 l Z a0 hw hO [] b683 w701 w719 w738 b31 b542 w49 w50 w2 w11 w21 w661 w662 w646 T737.heap O0 A683 f695 f696 f697 f698 f699 f533 f534 f535 f537 f539 (Ins.of_exa f4 (ow89 hw)) (Ins.of_exa f13 (ow89 hw)) (Ins.of_exa f23 (ow89 hw)) f664 f665 f666 f668 f670 (Ins.of_exa f648 (ow89 hw)) big692) 1 11 99 rfl (by show _ ≤ 80; omega) (by show _ ≤ 3392; omega) (rfl : T737.heap = T737.heap) (g := (mkF m 143 #[iv p1, iv p2, iv p3, iv p4, iv p5, iv p6, iv ul, iv uz, rv w2, rv w11, rv w21, rv b31, rv b542, .unset, .unset] [(.ref b542), (.ref b31), (.ref w738), (.ref w719), (.ref w701), (.ref b683), (.ref b683)])) rfl (by rw [hml]; rfl) b683 [(.ref w701), (.ref w719), (.ref w738), (.ref b31), (.ref b542)] [(.ref b683)] (lenOf own_pd_20 rfl) rfl rfl (hb hby at_143)
        replace hS := hSn
        replace hZ := hZn
        replace hown := hownn
        replace hJ := hJn
        clear hSn hZn hownn hJn
        obtain ⟨w758, w759, w760, rfl, Nc767, Kc766, f761, f762, f763, f764, f765⟩ := hQ757
        refine own_goW st757 ?_
        clear st757 X737
        replace N0 := Fr.app N0 Nc767
        clear Nc767
        replace f4 := f4.keep Kc766
        replace f13 := f13.keep Kc766
        replace f23 := f23.keep Kc766
        replace f533 := f533.keep Kc766
        replace f539 := f539.keep Kc766
        replace f534 := f534.keep Kc766 (ninS ne687 nin0)
        replace f535 := f535.keep Kc766 (ninS ne687 nin0)
        replace f536 := f536.keep Kc766 (ninS ne687 nin0)
        replace f537 := f537.keep Kc766 (ninS ne688 nin0)
        replace f664 := f664.keep Kc766
        replace f648 := f648.keep Kc766
        replace f665 := f665.keep Kc766 (ninS ne689 nin0)
        replace f666 := f666.keep Kc766 (ninS ne689 nin0)
        replace f667 := f667.keep Kc766 (ninS ne689 nin0)
        replace f668 := f668.keep Kc766 (ninS ne691 nin0)
        replace f670 := f670.keep Kc766
        replace A683 := A683.keep Kc766
        clear f695
        clear f696
        clear f697
        clear f698
        clear f699
        replace f703 := f703.keep Kc766
        replace f721 := f721.keep Kc766
        replace f740 := f740.keep Kc766
        replace O0 := own_oldKeep O0 Kc766 (allS big692 all0)
        replace K0 := K0.trans Kc766 (allS (Or.inr sz693) all0)
        replace K1 := K1.trans Kc766 (allS (Or.inr sz694) all0)
        clear Kc766
        show own_GoW p e below s _ _ _ _ (T757.setTop (mkF m 146 #[iv p1, iv p2, iv p3, iv p4, iv p5, iv p6, iv ul, iv uz, rv w2, rv w11, rv w21, rv b31, rv b542, .unset, .unset] [(.ref b683)]))
        refine own_goW (fun _ k => XS.astore X757.here hx rfl (hb hby at_146) rfl rfl (l' := #[iv p1, iv p2, iv p3, iv p4, iv p5, iv p6, iv ul, iv uz, rv w2, rv w11, rv w21, rv b31, rv b542, rv b683, .unset]) rfl (XS.aload X757.here hx rfl (hb hby at_148) rfl rfl k)) ?_
        obtain ⟨v768, T768, L768, X768, hQ768, st768⟩ := own_callV (y := own_y37) (z := own_y37) X757 hx hZ hown (ow219 hw) (ow220 hw) (notFace_of_selects (args := #[]) (mvT hZ (ow222 hw))) (ow222 hw) (ow221 hw) (ow92 hw) (ow223 hw) (rm_key_3 l Z a0 hw hO [] b683 w758 w759 w760 w2 w11 w21 T757.heap O0 f762 f763 f764 f765 f4) 0 0 0 (by show _ ≤ 80; omega) (by show _ ≤ 3392; omega) (rfl : T757.heap = T757.heap) f761 (g := (mkF m 150 #[iv p1, iv p2, iv p3, iv p4, iv p5, iv p6, iv ul, iv uz, rv w2, rv w11, rv w21, rv b31, rv b542, rv b683, .unset] [(.ref b683)])) rfl (by rw [hml]; rfl) [] [] (lenOf own_pd_21 rfl) rfl rfl (hb hby at_150)
        obtain ⟨rfl, Nc770, Kc769⟩ := hQ768
        refine own_goW st768 ?_
        clear st768 X757
        replace N0 := Fr.app N0 Nc770
        clear Nc770
        refine own_goW (fun _ k => XS.astore X768.here hx rfl (hb hby at_153) rfl rfl (l' := #[iv p1, iv p2, iv p3, iv p4, iv p5, iv p6, iv ul, iv uz, rv w2, rv w11, rv w21, rv b31, rv b542, rv b683, rv w2]) rfl (XS.aload X768.here hx rfl (hb hby at_155) rfl rfl k)) ?_
        show own_GoW p e below s _ _ _ _ (T768.setTop (mkF m 157 #[iv p1, iv p2, iv p3, iv p4, iv p5, iv p6, iv ul, iv uz, rv w2, rv w11, rv w21, rv b31, rv b542, rv b683, rv w2] [(.ref w2)]))
        refine own_goW (fun _ k => XS.aload X768.here hx rfl (hb hby at_157) rfl rfl k) ?_
        obtain ⟨v771, T771, L771, X771, hQ771, st771⟩ := own_callV (y := own_y38) (z := own_y38) X768 hx hZ hown (ow233 hw) (ow234 hw) (notFace_of_selects (args := #[]) (mvT hZ (ow236 hw))) (ow236 hw) (ow235 hw) (ow8 hw) (ow237 hw) (rm_eqSame l Z a0 hw hO [] w2 w2 T757.heap O0 (rfl : w2 = w2)) 0 0 0 (by show _ ≤ 80; omega) (by show _ ≤ 3392; omega) Kc769 f4 (g := (mkF m 159 #[iv p1, iv p2, iv p3, iv p4, iv p5, iv p6, iv ul, iv uz, rv w2, rv w11, rv w21, rv b31, rv b542, rv b683, rv w2] [(.ref w2), (.ref w2)])) rfl (by rw [hml]; rfl) [(.ref w2)] [] (lenOf own_pd_19 rfl) rfl rfl (hb hby at_159)
        obtain ⟨rfl, Nc773, Kc772⟩ := hQ771
        refine own_goW st771 ?_
        clear st771 X768 Kc769
        replace N0 := Fr.app N0 Nc773
        clear Nc773
        show own_GoW p e below s _ _ _ _ (T771.setTop (mkF m 162 #[iv p1, iv p2, iv p3, iv p4, iv p5, iv p6, iv ul, iv uz, rv w2, rv w11, rv w21, rv b31, rv b542, rv b683, rv w2] [(.int (1 : Int32))]))
        refine own_retNW X771 hS hL hZ hJ hx hlk Kc772 (t := .boolean) hret (by simp) (hb hby at_162) (by show _ ≤ 80; omega) (by show _ ≤ 3392; omega) ?_
        exact ⟨rfl, N0, K0⟩
theorem ef_law (m : MethodId) (x0 : Int32) (x1 : Int32) (x2 : Int32) (x3 : Int32) (x4 : Int32) (x5 : Int32) : entryFrame m #[(.int x0), (.int x1), (.int x2), (.int x3), (.int x4), (.int x5)] maxLocals = mkF m 0 #[iv x0, iv x1, iv x2, iv x3, iv x4, iv x5, .unset, .unset, .unset, .unset, .unset, .unset, .unset, .unset, .unset] [] := by first | (simp [entryFrame, mkF, argsToLocals, Value.category, maxLocals]; done) | rfl
set_option maxRecDepth 65536 in
set_option maxHeartbeats 40000000 in
theorem rm_law (l : Launch) (Z : State) (a0 : Array Value) (hw : own_W Z a0) {zc : Int32} {wd : Addr} {kd : ClassId} {wl : Addr} {we : Addr} {ke : ClassId} {weo : Addr} {wmo : Addr} (hO : own_Olds Z zc wd kd wl we ke weo wmo) (ws : List Jvm.Cond) (p1 : Int32) (p2 : Int32) (p3 : Int32) (p4 : Int32) (p5 : Int32) (p6 : Int32) (h0 : Heap) (O0 : Ext Z.heap h0) :
    MetFree l x (head1 (Jvm.Cond.code x code maxLocals ret :: ws) room_1) (fun a U => a = #[(.int p1), (.int p2), (.int p3), (.int p4), (.int p5), (.int p6)] ∧ Z.Warmed39 U.vm ∧ U.heap = h0 ∧ own_J Z U.vm U.heap) (fun _ _ _ _ _ => True) (fun _ U o U' => ∃ v L, o = .returned v ∧ ((Q_law Z zc wd kd wl we ke weo wmo p1 p2 p3 p4 p5 p6 h0) v U'.heap L ∧ own_J Z U'.vm U'.heap) ∧ ReturnedEndW U o U' L room_1.cells room_1.slots) := by
  refine own_metW (Q := (Q_law Z zc wd kd wl we ke weo wmo p1 p2 p3 p4 p5 p6 h0)) _ _ (plainFor_of_name own_pn_3) ?_
  intro p e s vm0 m below meth c T X0 hS hJ hJ0 hZ0 hI hs0 hx hby hml hret hlk hZ hown hnm e0
  replace hown : (s.setVm vm0).vm.findClass "com/example/ibex/ibex/model/DimensionKeyPinLaw" = some m.cls := hown
  replace hnm : meth.name = "law" := hnm
  have hml : c.maxLocals = 15 := hml
  obtain ⟨oCS, oCz, oDE, oDV, oEL, oLE, oLF, oLV, oEM, oMir⟩ := id hO
  have N0 := Fr.nil Z.heap.size
  have hL := own_Lhw hw
  have K0 := Keep.refl h0 []
  refine own_goW (fun _ k => castTop (ef_law m p1 p2 p3 p4 p5 p6) k) ?_
  show own_GoW p e below s _ _ _ _ (T.setTop (mkF m 0 #[iv p1, iv p2, iv p3, iv p4, iv p5, iv p6, .unset, .unset, .unset, .unset, .unset, .unset, .unset, .unset, .unset] []))
  refine own_goW (fun _ k => XS.iconst X0.here hx rfl (hb hby at_0) (XS.iload X0.here hx rfl (hb hby at_1) rfl k)) ?_
  refine own_goW (X0.ldcInt hx hown (mvT hZ (ow0 hw)) (g := (mkF m 3 #[iv p1, iv p2, iv p3, iv p4, iv p5, iv p6, .unset, .unset, .unset, .unset, .unset, .unset, .unset, .unset, .unset] [(.int p6), (.int (1 : Int32))])) rfl (hb hby at_3)) ?_
  refine own_goW (fun _ k => XS.iand X0.here hx rfl (hb hby at_5) rfl (XS.iconst X0.here hx rfl (hb hby at_6) k)) ?_
  show own_GoW p e below s _ _ _ _ (T.setTop (mkF m 7 #[iv p1, iv p2, iv p3, iv p4, iv p5, iv p6, .unset, .unset, .unset, .unset, .unset, .unset, .unset, .unset, .unset] [(.int (3 : Int32)), (.int (p6 &&& (2147483647 : Int32))), (.int (1 : Int32))]))
  refine own_goW (fun _ k => iremM X0 hx rfl (hb hby at_7) rfl (by decide : ¬ ((3 : Int32) = (0 : Int32))) (XS.iadd X0.here hx rfl (hb hby at_8) rfl (XS.istore X0.here hx rfl (hb hby at_9) rfl (l' := #[iv p1, iv p2, iv p3, iv p4, iv p5, iv p6, iv ((1 : Int32) + ((p6 &&& (2147483647 : Int32)) % (3 : Int32))), .unset, .unset, .unset, .unset, .unset, .unset, .unset, .unset]) rfl (XS.iload X0.here hx rfl (hb hby at_11) rfl (XS.bipush X0.here hx rfl (hb hby at_13) k))))) ?_
  show own_GoW p e below s _ _ _ _ (T.setTop (mkF m 15 #[iv p1, iv p2, iv p3, iv p4, iv p5, iv p6, iv ((1 : Int32) + ((p6 &&& (2147483647 : Int32)) % (3 : Int32))), .unset, .unset, .unset, .unset, .unset, .unset, .unset, .unset] [(.int (8 : Int32)), (.int p6)]))
  refine own_goW (fun _ k => XS.iushr X0.here hx rfl (hb hby at_15) rfl (XS.iconst X0.here hx rfl (hb hby at_16) (XS.iand X0.here hx rfl (hb hby at_17) rfl k))) ?_
  by_cases hc774 : (((p6.toUInt32 >>> ((8 : Int32) &&& 31).toUInt32).toInt32) &&& (1 : Int32)) = (0 : Int32)
  · refine own_goW (fun _ k => XS.ifYes X0.here hx rfl (pc0 := 18) (pc' := 25) rfl (hb hby at_18) rfl ((if0 _ _).trans (teq hc774).1) (by decide) (by decide) k) ?_
    show own_GoW p e below s _ _ _ _ (T.setTop (mkF m 25 #[iv p1, iv p2, iv p3, iv p4, iv p5, iv p6, iv ((1 : Int32) + ((p6 &&& (2147483647 : Int32)) % (3 : Int32))), .unset, .unset, .unset, .unset, .unset, .unset, .unset, .unset] []))
    refine own_goW (fun _ k => XS.iconst X0.here hx rfl (hb hby at_25) k) ?_
    show own_GoW p e below s _ _ _ _ (T.setTop (mkF m 26 #[iv p1, iv p2, iv p3, iv p4, iv p5, iv p6, iv ((1 : Int32) + ((p6 &&& (2147483647 : Int32)) % (3 : Int32))), .unset, .unset, .unset, .unset, .unset, .unset, .unset, .unset] [(.int (0 : Int32))]))
    exact sg_s26 hw hO p1 p2 p3 p4 p5 p6 ((1 : Int32) + ((p6 &&& (2147483647 : Int32)) % (3 : Int32))) (0 : Int32) h0 h0 X0 hS hL hJ hx hby hml hret hlk hZ hown hnm e0 N0 O0 K0 (by omega) (by omega)
  · refine own_goW (fun _ k => XS.ifNo X0.here hx rfl (hb hby at_18) rfl ((if0 _ _).trans (feq hc774).1) k) ?_
    show own_GoW p e below s _ _ _ _ (T.setTop (mkF m 21 #[iv p1, iv p2, iv p3, iv p4, iv p5, iv p6, iv ((1 : Int32) + ((p6 &&& (2147483647 : Int32)) % (3 : Int32))), .unset, .unset, .unset, .unset, .unset, .unset, .unset, .unset] []))
    refine own_goW (fun _ k => XS.iconst X0.here hx rfl (hb hby at_21) (XS.goto X0.here hx rfl (pc0 := 22) (pc' := 26) rfl (hb hby at_22) (by decide) (by decide) k)) ?_
    show own_GoW p e below s _ _ _ _ (T.setTop (mkF m 26 #[iv p1, iv p2, iv p3, iv p4, iv p5, iv p6, iv ((1 : Int32) + ((p6 &&& (2147483647 : Int32)) % (3 : Int32))), .unset, .unset, .unset, .unset, .unset, .unset, .unset, .unset] [(.int (1 : Int32))]))
    exact sg_s26 hw hO p1 p2 p3 p4 p5 p6 ((1 : Int32) + ((p6 &&& (2147483647 : Int32)) % (3 : Int32))) (1 : Int32) h0 h0 X0 hS hL hJ hx hby hml hret hlk hZ hown hnm e0 N0 O0 K0 (by omega) (by omega)
set_option maxRecDepth 65536 in
set_option maxHeartbeats 40000000 in
theorem comes_1 {Post : Tables → Env → Array Value → State → Outcome → State → Prop} (hpost : ∀ tb e args s v u, (limb_1_1.after args s (.returned v) u = true ∧ limb_1_2.after args s (.returned v) u = true ∧ True) → ReturnedEndW s (.returned v) u (Jvm.fieldLocs frame_1_writes args s ++ Jvm.arrayLocs frame_1_arrays args s ++ Jvm.staticLocs frame_1_statics s) 80 3392 → Post tb e args s (.returned v) u) :
    ArmFor flags0 classFile x code maxLocals ret World_1 tables_1 room_1 Calls_1 rest_1 Pre_1 Post := by
  intro l hfl _ _ p e ha hc hk s m args below hf hA hF happ hP
  obtain ⟨hcalls, hrest, hpre⟩ := hP
  obtain ⟨-, -, -, hnamed, -, -, -, hat⟩ := (Spec.applies_iff hf).mp happ
  obtain ⟨hg, hn⟩ := and_e (Cond.before_iff.mp (show (Jvm.Cond.and given_1 narrow_1).before args s = true from hpre))
  obtain ⟨gA0, gB0⟩ := and_e hg
  obtain ⟨gA1, gB1⟩ := and_e gB0
  obtain ⟨gA2, gB2⟩ := and_e gB1
  obtain ⟨gA3, gB3⟩ := and_e gB2
  obtain ⟨gA4, gB4⟩ := and_e gB3
  obtain ⟨gA5, gB5⟩ := and_e gB4
  obtain ⟨w0, w1, w2, w3, w4, w5, rfl⟩ : ∃ w0 w1 w2 w3 w4 w5 : Value, args = #[w0, w1, w2, w3, w4, w5] := by
    have hs : args.size = 6 := by simpa [Cond.value, given_1] using gA0
    obtain ⟨L⟩ := args
    match L, hs with
    | [w0, w1, w2, w3, w4, w5], _ => exact ⟨w0, w1, w2, w3, w4, w5, rfl⟩
  have hw := fun d (hd : d ∈ tables_1) => atoms_spec (ws := Jvm.Cond.code x code maxLocals ret :: tables_1) hat d (List.mem_cons_of_mem _ hd)
  have hfit : Fit s := fun {y c} hc i hi => by
    obtain ⟨ha, rfl⟩ := Array.getElem?_eq_some_iff.mp hc
    have q := List.all_eq_true.mp ((Array.all_eq_true_iff_forall_mem.mp hF) _ (Array.getElem_mem ha)) i (List.mem_range.mpr hi)
    simpa [Array.getElem?_eq_getElem hi] using q
  obtain ⟨hsets, hown0⟩ := atoms_of _ (rest_1_c_eq ▸ (show rest_1_c.before _ s = true from hrest))
  have hr0 := Cond.before_iff.mp hown0
  obtain ⟨i0, ei0⟩ := is_v gA1
  obtain rfl : w0 = (.int i0) := Option.some.inj ei0
  obtain ⟨i1, ei1⟩ := is_v gA2
  obtain rfl : w1 = (.int i1) := Option.some.inj ei1
  obtain ⟨i2, ei2⟩ := is_v gA3
  obtain rfl : w2 = (.int i2) := Option.some.inj ei2
  obtain ⟨i3, ei3⟩ := is_v gA4
  obtain rfl : w3 = (.int i3) := Option.some.inj ei3
  obtain ⟨i4, ei4⟩ := is_v gA5
  obtain rfl : w4 = (.int i4) := Option.some.inj ei4
  obtain ⟨i5, ei5⟩ := is_v gB5
  obtain rfl : w5 = (.int i5) := Option.some.inj ei5
  obtain ⟨zc, cse⟩ := is_v (Cond.before_iff.mp (hsets _ (List.mem_of_getElem? (i := 1) rfl)))
  have oCS := Sta.start cse (Or.inl (hsets _ (List.mem_of_getElem? (i := 0) rfl)))
  have csn := Cond.before_iff.mp (hsets _ (List.mem_of_getElem? (i := 2) rfl))
  have oCz : ¬ zc = (0 : Int32) := gotF (Cond.eq_ints cse (Term.int_eval 0)) (by have q := not_v csn; simpa using q)
  have al2 := Cond.before_iff.mp (hsets _ (List.mem_of_getElem? (i := 15) rfl))
  have al4 := Cond.before_iff.mp (hsets _ (List.mem_of_getElem? (i := 17) rfl))
  obtain ⟨wd, ale⟩ := arr_v al2
  obtain ⟨cld, alA⟩ := Arr.start ale al2
  have oDE := Sta.start ale (Or.inr ⟨(ow37 hw), (hsets _ (List.mem_of_getElem? (i := 11) rfl))⟩)
  have aln := own_lenOf ale (alA.fin (Vm.Alike.refl _)) al4
  have oDV : Arv s s.heap wd cld.cls (.object "java/lang/Object") (0 : Int32) [] .null := Arv.start hfit alA aln.1 aln.2 (by decide) rfl trivial
  have el1 := Cond.before_iff.mp (hsets _ (List.mem_of_getElem? (i := 26) rfl))
  have el2 := Cond.before_iff.mp (hsets _ (List.mem_of_getElem? (i := 30) rfl))
  have el3 := Cond.before_iff.mp (hsets _ (List.mem_of_getElem? (i := 32) rfl))
  obtain ⟨wl, elE⟩ := exa_v el1
  have oLE := Exa.start elE el1
  have oEL := Sta.start elE (Or.inl (hsets _ (List.mem_of_getElem? (i := 25) rfl)))
  obtain ⟨we, elF⟩ := arr_v el2
  have oLF := Fld.start ((fld_at elE).symm.trans elF)
  obtain ⟨cle, elA⟩ := Arr.start elF el2
  have eln := own_lenOf elF (elA.fin (Vm.Alike.refl _)) el3
  have oLV : Arv s s.heap we cle.cls (.object "java/lang/Object") (0 : Int32) [] .null := Arv.start hfit elA eln.1 eln.2 (by decide) rfl trivial
  have em1 := Cond.before_iff.mp (hsets _ (List.mem_of_getElem? (i := 20) rfl))
  obtain ⟨weo, emE⟩ := exa_v em1
  have oEM := Sta.start emE (Or.inl (hsets _ (List.mem_of_getElem? (i := 19) rfl)))
  obtain ⟨cmo, kmo, wmo, mi1, mi2, mi3, -⟩ := hcalls.1
  have oMir : own_Mir s "[Ljava/lang/Object;" wmo := ⟨cmo, kmo, mi1, mi2, mi3⟩
  have hO : own_Olds s _ _ _ _ _ _ _ _ := ⟨oCS, oCz, oDE, oDV, oEL, oLE, oLF, oLV, oEM, oMir⟩
  have hJst : own_J s s.vm s.heap := trivial
  obtain ⟨n, o, h1, h2, h3, _, L, rfl, ⟨⟨rfl, N, -⟩, -⟩, hq⟩ := rm_law l s _ hw hO tables_1 i0 i1 i2 i3 i4 i5  s.heap ⟨Nat.le_refl _, fun _ _ q => q⟩  p e ha hc hk s m _ below hf ((Spec.applies_iff_loose hf).mp happ).1 ⟨rfl, State.Warmed39.refl s, rfl, hJst⟩ trivial
  refine ⟨n, _, h1, h2, h3, hpost _ _ _ _ _ _ ⟨Cond.after_iff.mpr rfl, Cond.after_iff.mpr (eq_i res_at (Term.int_eval (1)) rfl), trivial⟩ ⟨hq.1, hq.2.1, hq.2.2.1, (hq.2.2.2.sift fun y hy => Or.inr (N y hy)).mono (by decide) (by decide)⟩⟩
theorem main_1_1 : Claimed_1_1 := comes_1 fun _ _ _ _ _ _ h hF => ⟨h.1, hF⟩
theorem main_1_2 : Claimed_1_2 := comes_1 fun _ _ _ _ _ _ h hF => ⟨h.2.1, hF⟩
end Jvm.Pilot.@@N@@
namespace Jvm.Pilot.@@N@@
open Jvm Jvm.ClassFile Sem Op Lib Jvm.Free Jvm.Stand Jvm.Pilot.@@N@@.Jvm.D
/-! MADE BY PROGRAM (witnessworld.py) out of the Statement's table words and the real class files: 39 classes; the members and pool entries that the words name. The judged class is class 1, her method 2. -/
namespace start1
open Jvm.ClassFile
def u (s : String) : CpInfo := .utf8 (stringToUtf16 s)
/-- a pool by its gaps: so many unusable entries, then the entry; so many at the end -/
def gap : Nat → List CpInfo → List CpInfo
  | 0, r => r
  | n + 1, r => .unusable :: gap n r
def poolList (es : List (Nat × CpInfo)) (last : Nat) : List CpInfo := es.foldr (fun e r => gap e.1 (e.2 :: r)) (gap last [])
def pool (es : List (Nat × CpInfo)) (last : Nat) : Array CpInfo := ⟨poolList es last⟩
def fileOf (pool : Array CpInfo) (this : Nat) (attrs : Array Attribute := #[]) (ms : Array MethodInfo := #[]) (fl : Nat := 33) (sup : Nat := 0) (ifs : Array Nat := #[]) (fds : Array FieldInfo := #[]) : ClassFile where
  minorVersion := 0
  majorVersion := 65
  constantPool := pool
  accessFlags := fl
  thisClass := this
  superClass := sup
  interfaces := ifs
  fields := fds
  methods := ms
  attributes := attrs
def plain (name : String) (sup : Option ClassId) : Class where
  name := name
  kind := .ordinary
  loader := none
  accessFlags := 33
  super := sup
  interfaces := #[]
  cf := none
  fields := #[]
  methods := #[]
  instanceTypes := #[]
  staticTypes := #[]
  resolved := #[]
  callSites := []
  init := .initialized
  statics := none
  mirror := none

def pool0 : Array CpInfo := pool [(5, u "<init>"), (0, u "()V"), (1, .class_ 10), (1, u "java/lang/Object"), (0, u "getClass"), (0, u "()Ljava/lang/Class;")] 111

def k0c0 : Code := { maxStack := 0, maxLocals := 1, code := object_method_1_code, exceptionTable := #[], attributes := #[] }
def k0m0 : Method := { name := "<init>", desc := "()V", sig := { parameters := [], returnType := none }, accessFlags := 1, code := some k0c0 }
def k0m1 : Method := { name := "getClass", desc := "()Ljava/lang/Class;", sig := { parameters := [], returnType := some (.object "java/lang/Class") }, accessFlags := 273, code := none }
/-- java/lang/Object -/
def k0 : Class := { plain "java/lang/Object" none with
  accessFlags := 33
  interfaces := #[]
  cf := some (fileOf pool0 8 #[] #[{ accessFlags := 1, nameIndex := 5, descriptorIndex := 6, attributes := #[] }, { accessFlags := 273, nameIndex := 11, descriptorIndex := 12, attributes := #[] }] 33 0 #[] #[])
  fields := #[]
  methods := #[k0m0, k0m1]
  instanceTypes := #[]
  staticTypes := #[]
  resolved := Array.replicate 124 none
  statics := none }

def pool1 : Array CpInfo := pool [(2, .class_ 4), (0, .nameAndType 5 6), (0, u "java/lang/Object"), (0, u "<init>"), (0, u "()V"), (0, .class_ 8), (0, u "java/lang/String"), (0, .methodref 7 10), (0, .nameAndType 5 11), (0, u "([C)V"), (0, .integer 2147483647), (0, .methodref 14 15), (0, .class_ 16), (0, .nameAndType 17 18), (0, u "com/example/ibex/ibex/model/DimensionKeyPinLaw"), (0, u "str"), (0, u "(I)Ljava/lang/String;"), (0, .class_ 20), (0, u "java/util/ArrayList"), (0, .methodref 19 3), (0, .methodref 19 23), (0, .nameAndType 24 25), (0, u "add"), (0, u "(Ljava/lang/Object;)Z"), (0, .class_ 27), (0, u "com/example/ibex/ibex/model/Dimension"), (0, .methodref 26 29), (0, .nameAndType 5 30), (0, u "(Ljava/lang/String;Ljava/lang/String;Ljava/lang/String;Ljava/util/List;Ljava/util/List;)V"), (0, .methodref 26 32), (0, .nameAndType 33 34), (0, u "key"), (0, u "()Ljava/lang/String;"), (0, .methodref 7 36), (0, .nameAndType 37 25), (0, u "equals"), (2, u "law"), (0, u "(IIIIII)Z")] 3

def k1m0 : Method := { name := "<init>", desc := "()V", sig := { parameters := [], returnType := none }, accessFlags := 1, code := none }
def k1c1 : Code := { maxStack := 4, maxLocals := 2, code := method_2_code, exceptionTable := #[], attributes := #[] }
def k1m1 : Method := { name := "str", desc := "(I)Ljava/lang/String;", sig := { parameters := [.int], returnType := some (.object "java/lang/String") }, accessFlags := 10, code := some k1c1 }
def k1c2 : Code := { maxStack := 7, maxLocals := 15, code := code, exceptionTable := #[], attributes := #[] }
def k1m2 : Method := { name := "law", desc := "(IIIIII)Z", sig := { parameters := [.int, .int, .int, .int, .int, .int], returnType := some .boolean }, accessFlags := 9, code := some k1c2 }
/-- com/example/ibex/ibex/model/DimensionKeyPinLaw -/
def k1 : Class := { plain "com/example/ibex/ibex/model/DimensionKeyPinLaw" (some 0) with
  accessFlags := 49
  interfaces := #[]
  cf := some (fileOf pool1 14 #[] #[{ accessFlags := 1, nameIndex := 5, descriptorIndex := 6, attributes := #[] }, { accessFlags := 10, nameIndex := 17, descriptorIndex := 18, attributes := #[] }, { accessFlags := 9, nameIndex := 40, descriptorIndex := 41, attributes := #[] }] 49 2 #[] #[])
  fields := #[]
  methods := #[k1m0, k1m1, k1m2]
  instanceTypes := #[]
  staticTypes := #[]
  resolved := Array.replicate 45 none
  statics := none }

def pool2 : Array CpInfo := pool [(1, .class_ 2), (0, u "java/io/Serializable"), (0, .class_ 4), (0, u "java/lang/Object")] 2

/-- java/io/Serializable -/
def k2 : Class := { plain "java/io/Serializable" (some 0) with
  accessFlags := 1537
  interfaces := #[]
  cf := some (fileOf pool2 1 #[] #[] 1537 3 #[] #[])
  fields := #[]
  methods := #[]
  instanceTypes := #[]
  staticTypes := #[]
  resolved := Array.replicate 7 none
  statics := none }

def pool3 : Array CpInfo := pool [(1, .class_ 2), (0, u "java/lang/Comparable"), (0, .class_ 4), (0, u "java/lang/Object")] 7

/-- java/lang/Comparable -/
def k3 : Class := { plain "java/lang/Comparable" (some 0) with
  accessFlags := 1537
  interfaces := #[]
  cf := some (fileOf pool3 1 #[] #[] 1537 3 #[] #[])
  fields := #[]
  methods := #[]
  instanceTypes := #[]
  staticTypes := #[]
  resolved := Array.replicate 12 none
  statics := none }

def pool4 : Array CpInfo := pool [(2, .class_ 4), (1, u "java/lang/CharSequence"), (42, .class_ 48), (0, u "java/lang/CharSequence$1CodePointIterator"), (10, .class_ 60), (0, u "java/lang/CharSequence$1CharIterator"), (5, .class_ 67), (0, u "java/lang/Object")] 63

/-- java/lang/CharSequence -/
def k4 : Class := { plain "java/lang/CharSequence" (some 0) with
  accessFlags := 1537
  interfaces := #[]
  cf := some (fileOf pool4 2 #[.nestMembers #[47, 59]] #[] 1537 66 #[] #[])
  fields := #[]
  methods := #[]
  instanceTypes := #[]
  staticTypes := #[]
  resolved := Array.replicate 131 none
  statics := none }

def pool5 : Array CpInfo := pool [(1, .class_ 2), (0, u "java/lang/constant/Constable"), (0, .class_ 4), (0, u "java/lang/Object")] 6

/-- java/lang/constant/Constable -/
def k5 : Class := { plain "java/lang/constant/Constable" (some 0) with
  accessFlags := 1537
  interfaces := #[]
  cf := some (fileOf pool5 1 #[] #[] 1537 3 #[] #[])
  fields := #[]
  methods := #[]
  instanceTypes := #[]
  staticTypes := #[]
  resolved := Array.replicate 11 none
  statics := none }

def pool6 : Array CpInfo := pool [(1, .class_ 2), (0, u "java/lang/constant/ConstantDesc"), (0, .class_ 4), (0, u "java/lang/Object")] 32

/-- java/lang/constant/ConstantDesc -/
def k6 : Class := { plain "java/lang/constant/ConstantDesc" (some 0) with
  accessFlags := 1537
  interfaces := #[]
  cf := some (fileOf pool6 1 #[] #[] 1537 3 #[] #[])
  fields := #[]
  methods := #[]
  instanceTypes := #[]
  staticTypes := #[]
  resolved := Array.replicate 37 none
  statics := none }

def pool7 : Array CpInfo := pool [(1, .methodref 2 3), (0, .class_ 4), (0, .nameAndType 5 6), (0, u "java/lang/Object"), (0, u "<init>"), (0, u "()V"), (2, .fieldref 10 11), (0, .class_ 12), (0, .nameAndType 13 14), (0, u "java/lang/String"), (0, u "value"), (0, u "[B"), (0, .fieldref 10 16), (0, .nameAndType 17 18), (0, u "coder"), (0, u "B"), (2, u "hash"), (0, u "I"), (2, u "hashIsZero"), (0, u "Z"), (0, .methodref 10 28), (0, .nameAndType 5 29), (0, u "([CIILjava/lang/Void;)V"), (8, .fieldref 10 39), (0, .nameAndType 40 26), (0, u "COMPACT_STRINGS"), (1, .class_ 44), (1, u "java/lang/StringUTF16"), (0, u "compress"), (1, .methodref 42 48), (0, .nameAndType 49 50), (0, u "coderFromArrayLen"), (0, u "([BI)B"), (126, .methodref 42 178), (0, .nameAndType 45 179), (0, u "([CII)[B"), (363, u "equals"), (29, u "(Ljava/lang/Object;)Z"), (1, .class_ 576), (0, u "java/lang/CharSequence"), (22, u "CASE_INSENSITIVE_ORDER"), (0, u "Ljava/util/Comparator;"), (409, u "([C)V"), (90, u "serialPersistentFields"), (0, u "[Ljava/io/ObjectStreamField;"), (0, .class_ 1104), (0, u "java/lang/String$CaseInsensitiveComparator"), (1, .class_ 1107), (0, u "java/io/Serializable"), (0, .class_ 1109), (0, u "java/lang/Comparable"), (0, .class_ 1111), (0, u "java/lang/constant/Constable"), (0, .class_ 1113), (0, u "java/lang/constant/ConstantDesc"), (2, u "serialVersionUID"), (0, u "J"), (3, u "REPL"), (0, u "C"), (2, u "LATIN1"), (1, u "UTF16")] 323

def k7m0 : Method := { name := "<init>", desc := "()V", sig := { parameters := [], returnType := none }, accessFlags := 1, code := none }
def k7c1 : Code := { maxStack := 5, maxLocals := 2, code := jdk_42_method_3_code, exceptionTable := #[], attributes := #[] }
def k7m1 : Method := { name := "<init>", desc := "([C)V", sig := { parameters := [(.array .char)], returnType := none }, accessFlags := 1, code := some k7c1 }
def k7c2 : Code := { maxStack := 2, maxLocals := 3, code := jdk_42_method_66_code, exceptionTable := #[], attributes := #[] }
def k7m2 : Method := { name := "equals", desc := "(Ljava/lang/Object;)Z", sig := { parameters := [(.object "java/lang/Object")], returnType := some .boolean }, accessFlags := 1, code := some k7c2 }
def k7c3 : Code := { maxStack := 4, maxLocals := 6, code := jdk_42_method_149_code, exceptionTable := #[], attributes := #[] }
def k7m3 : Method := { name := "<init>", desc := "([CIILjava/lang/Void;)V", sig := { parameters := [(.array .char), .int, .int, (.object "java/lang/Void")], returnType := none }, accessFlags := 2, code := some k7c3 }
/-- java/lang/String -/
def k7 : Class := { plain "java/lang/String" (some 0) with
  accessFlags := 49
  interfaces := #[2, 3, 4, 5, 6]
  cf := some (fileOf pool7 10 #[.nestMembers #[1103]] #[{ accessFlags := 1, nameIndex := 5, descriptorIndex := 6, attributes := #[] }, { accessFlags := 1, nameIndex := 5, descriptorIndex := 1010, attributes := #[] }, { accessFlags := 1, nameIndex := 543, descriptorIndex := 573, attributes := #[] }, { accessFlags := 2, nameIndex := 5, descriptorIndex := 29, attributes := #[] }] 49 2 #[1106, 1108, 575, 1110, 1112] #[{ accessFlags := 18, nameIndex := 13, descriptorIndex := 14, attributes := #[] }, { accessFlags := 18, nameIndex := 17, descriptorIndex := 18, attributes := #[] }, { accessFlags := 2, nameIndex := 21, descriptorIndex := 22, attributes := #[] }, { accessFlags := 2, nameIndex := 25, descriptorIndex := 26, attributes := #[] }, { accessFlags := 26, nameIndex := 1116, descriptorIndex := 1117, attributes := #[] }, { accessFlags := 24, nameIndex := 40, descriptorIndex := 26, attributes := #[] }, { accessFlags := 26, nameIndex := 1101, descriptorIndex := 1102, attributes := #[] }, { accessFlags := 26, nameIndex := 1121, descriptorIndex := 1122, attributes := #[] }, { accessFlags := 25, nameIndex := 599, descriptorIndex := 600, attributes := #[] }, { accessFlags := 24, nameIndex := 1125, descriptorIndex := 18, attributes := #[] }, { accessFlags := 24, nameIndex := 1127, descriptorIndex := 18, attributes := #[] }])
  fields := #[{ name := "value", type := (.array .byte), accessFlags := 18, slot := 0, constantValue := 0 }, { name := "coder", type := .byte, accessFlags := 18, slot := 1, constantValue := 0 }, { name := "hash", type := .int, accessFlags := 2, slot := 2, constantValue := 0 }, { name := "hashIsZero", type := .boolean, accessFlags := 2, slot := 3, constantValue := 0 }, { name := "serialVersionUID", type := .long, accessFlags := 26, slot := 0, constantValue := 0 }, { name := "COMPACT_STRINGS", type := .boolean, accessFlags := 24, slot := 1, constantValue := 0 }, { name := "serialPersistentFields", type := (.array (.object "java/io/ObjectStreamField")), accessFlags := 26, slot := 2, constantValue := 0 }, { name := "REPL", type := .char, accessFlags := 26, slot := 3, constantValue := 0 }, { name := "CASE_INSENSITIVE_ORDER", type := (.object "java/util/Comparator"), accessFlags := 25, slot := 4, constantValue := 0 }, { name := "LATIN1", type := .byte, accessFlags := 24, slot := 5, constantValue := 0 }, { name := "UTF16", type := .byte, accessFlags := 24, slot := 6, constantValue := 0 }]
  methods := #[k7m0, k7m1, k7m2, k7m3]
  instanceTypes := #[(.array .byte), .byte, .int, .boolean]
  staticTypes := #[.long, .boolean, (.array (.object "java/io/ObjectStreamField")), .char, (.object "java/util/Comparator"), .byte, .byte]
  resolved := Array.replicate 1451 none
  statics := some 0 }

def pool8 : Array CpInfo := pool [(6, .class_ 8), (1, u "java/lang/Object"), (0, u "<init>"), (0, u "()V"), (1, .class_ 14), (1, u "java/lang/StringUTF16"), (31, u "$assertionsDisabled"), (0, u "Z"), (13, u "HI_BYTE_SHIFT"), (0, u "I"), (2, u "LO_BYTE_SHIFT"), (49, .methodref 12 116), (0, .nameAndType 117 118), (0, u "compress"), (0, u "([CI[BII)I"), (3, u "([CII)[B"), (138, u "coderFromArrayLen"), (0, u "([BI)B"), (106, .class_ 371), (1, u "java/lang/StringUTF16$LinesSpliterator"), (58, u "MAX_LENGTH"), (196, .class_ 628), (0, u "java/lang/StringUTF16$CodePointsSpliterator"), (0, .class_ 630), (0, u "java/lang/StringUTF16$CharsSpliterator")] 4

def k8m0 : Method := { name := "<init>", desc := "()V", sig := { parameters := [], returnType := none }, accessFlags := 0, code := none }
def k8c1 : Code := { maxStack := 2, maxLocals := 2, code := jdk_52_method_15_code, exceptionTable := #[], attributes := #[] }
def k8m1 : Method := { name := "coderFromArrayLen", desc := "([BI)B", sig := { parameters := [(.array .byte), .int], returnType := some .byte }, accessFlags := 8, code := some k8c1 }
def k8c2 : Code := { maxStack := 5, maxLocals := 6, code := jdk_52_method_16_code, exceptionTable := #[], attributes := #[] }
def k8m2 : Method := { name := "compress", desc := "([CII)[B", sig := { parameters := [(.array .char), .int, .int], returnType := some (.array .byte) }, accessFlags := 9, code := some k8c2 }
def k8c3 : Code := { maxStack := 3, maxLocals := 7, code := jdk_52_method_21_code, exceptionTable := #[], attributes := #[] }
def k8m3 : Method := { name := "compress", desc := "([CI[BII)I", sig := { parameters := [(.array .char), .int, (.array .byte), .int, .int], returnType := some .int }, accessFlags := 9, code := some k8c3 }
/-- java/lang/StringUTF16 -/
def k8 : Class := { plain "java/lang/StringUTF16" (some 0) with
  accessFlags := 48
  interfaces := #[]
  cf := some (fileOf pool8 12 #[.nestMembers #[627, 629, 369]] #[{ accessFlags := 0, nameIndex := 9, descriptorIndex := 10, attributes := #[] }, { accessFlags := 8, nameIndex := 261, descriptorIndex := 262, attributes := #[] }, { accessFlags := 9, nameIndex := 117, descriptorIndex := 122, attributes := #[] }, { accessFlags := 9, nameIndex := 117, descriptorIndex := 118, attributes := #[] }] 48 6 #[] #[{ accessFlags := 26, nameIndex := 61, descriptorIndex := 62, attributes := #[] }, { accessFlags := 26, nameIndex := 65, descriptorIndex := 62, attributes := #[] }, { accessFlags := 24, nameIndex := 430, descriptorIndex := 62, attributes := #[] }, { accessFlags := 4120, nameIndex := 46, descriptorIndex := 47, attributes := #[] }])
  fields := #[{ name := "HI_BYTE_SHIFT", type := .int, accessFlags := 26, slot := 0, constantValue := 0 }, { name := "LO_BYTE_SHIFT", type := .int, accessFlags := 26, slot := 1, constantValue := 0 }, { name := "MAX_LENGTH", type := .int, accessFlags := 24, slot := 2, constantValue := 0 }, { name := "$assertionsDisabled", type := .boolean, accessFlags := 4120, slot := 3, constantValue := 0 }]
  methods := #[k8m0, k8m1, k8m2, k8m3]
  instanceTypes := #[]
  staticTypes := #[.int, .int, .int, .boolean]
  resolved := Array.replicate 635 none
  statics := none }

def pool9 : Array CpInfo := pool [(8, .class_ 10), (1, u "java/lang/Iterable"), (24, .class_ 36), (0, u "java/lang/Object")] 25

/-- java/lang/Iterable -/
def k9 : Class := { plain "java/lang/Iterable" (some 0) with
  accessFlags := 1537
  interfaces := #[]
  cf := some (fileOf pool9 8 #[] #[] 1537 35 #[] #[])
  fields := #[]
  methods := #[]
  instanceTypes := #[]
  staticTypes := #[]
  resolved := Array.replicate 62 none
  statics := none }

def pool10 : Array CpInfo := pool [(10, .class_ 12), (1, u "java/util/Collection"), (0, u "toArray"), (16, u "()Z"), (29, .class_ 61), (0, u "java/lang/Object"), (0, .class_ 63), (0, u "java/lang/Iterable"), (2, u "isEmpty"), (3, u "()[Ljava/lang/Object;")] 44

def k10m0 : Method := { name := "isEmpty", desc := "()Z", sig := { parameters := [], returnType := some .boolean }, accessFlags := 1025, code := none }
def k10m1 : Method := { name := "toArray", desc := "()[Ljava/lang/Object;", sig := { parameters := [], returnType := some (.array (.object "java/lang/Object")) }, accessFlags := 1025, code := none }
/-- java/util/Collection -/
def k10 : Class := { plain "java/util/Collection" (some 0) with
  accessFlags := 1537
  interfaces := #[9]
  cf := some (fileOf pool10 10 #[] #[{ accessFlags := 1025, nameIndex := 66, descriptorIndex := 30, attributes := #[] }, { accessFlags := 1025, nameIndex := 13, descriptorIndex := 70, attributes := #[] }] 1537 60 #[62] #[])
  fields := #[]
  methods := #[k10m0, k10m1]
  instanceTypes := #[]
  staticTypes := #[]
  resolved := Array.replicate 115 none
  statics := none }

def pool11 : Array CpInfo := pool [(1, .methodref 2 3), (0, .class_ 4), (0, .nameAndType 5 6), (0, u "java/lang/Object"), (0, u "<init>"), (0, u "()V"), (1, .class_ 10), (1, u "java/util/AbstractCollection"), (66, .class_ 78), (0, u "java/util/Collection")] 81

def k11c0 : Code := { maxStack := 1, maxLocals := 1, code := jdk_22_method_1_code, exceptionTable := #[], attributes := #[] }
def k11m0 : Method := { name := "<init>", desc := "()V", sig := { parameters := [], returnType := none }, accessFlags := 4, code := some k11c0 }
/-- java/util/AbstractCollection -/
def k11 : Class := { plain "java/util/AbstractCollection" (some 0) with
  accessFlags := 1057
  interfaces := #[10]
  cf := some (fileOf pool11 8 #[] #[{ accessFlags := 4, nameIndex := 5, descriptorIndex := 6, attributes := #[] }] 1057 2 #[77] #[])
  fields := #[]
  methods := #[k11m0]
  instanceTypes := #[]
  staticTypes := #[]
  resolved := Array.replicate 160 none
  statics := none }

def pool12 : Array CpInfo := pool [(8, .class_ 10), (1, u "java/util/SequencedCollection"), (15, .class_ 27), (0, u "java/lang/Object"), (0, .class_ 29), (0, u "java/util/Collection")] 27

/-- java/util/SequencedCollection -/
def k12 : Class := { plain "java/util/SequencedCollection" (some 0) with
  accessFlags := 1537
  interfaces := #[10]
  cf := some (fileOf pool12 8 #[] #[] 1537 26 #[28] #[])
  fields := #[]
  methods := #[]
  instanceTypes := #[]
  staticTypes := #[]
  resolved := Array.replicate 57 none
  statics := none }

def pool13 : Array CpInfo := pool [(8, .class_ 10), (1, u "java/util/List"), (7, u "()Z"), (12, u "(Ljava/lang/Object;)V"), (16, u "<init>"), (18, u "isEmpty"), (7, u "get"), (0, u "(I)Ljava/lang/Object;"), (11, u "of"), (1, .fieldref 91 92), (0, .class_ 93), (0, .nameAndType 94 95), (0, u "java/util/ImmutableCollections"), (0, u "EMPTY_LIST"), (0, u "Ljava/util/ImmutableCollections$ListN;"), (0, .class_ 97), (0, u "java/util/ImmutableCollections$List12"), (0, .methodref 96 99), (0, .nameAndType 48 31), (0, .methodref 96 101), (0, .nameAndType 48 102), (0, u "(Ljava/lang/Object;Ljava/lang/Object;)V"), (0, .class_ 104), (0, u "java/lang/Object"), (3, u "([Ljava/lang/Object;)Ljava/util/List;"), (0, .methodref 91 110), (0, .nameAndType 111 108), (0, u "listFromArray"), (0, .methodref 91 113), (0, .nameAndType 114 115), (0, u "listCopy"), (0, u "(Ljava/util/Collection;)Ljava/util/List;"), (3, u "()Ljava/util/List;"), (0, .class_ 121), (0, u "java/util/SequencedCollection"), (112, u "copyOf")] 16

def k13m0 : Method := { name := "isEmpty", desc := "()Z", sig := { parameters := [], returnType := some .boolean }, accessFlags := 1025, code := none }
def k13m1 : Method := { name := "get", desc := "(I)Ljava/lang/Object;", sig := { parameters := [.int], returnType := some (.object "java/lang/Object") }, accessFlags := 1025, code := none }
def k13c2 : Code := { maxStack := 1, maxLocals := 0, code := jdk_40_method_36_code, exceptionTable := #[], attributes := #[] }
def k13m2 : Method := { name := "of", desc := "()Ljava/util/List;", sig := { parameters := [], returnType := some (.object "java/util/List") }, accessFlags := 9, code := some k13c2 }
def k13c3 : Code := { maxStack := 5, maxLocals := 2, code := jdk_40_method_47_code, exceptionTable := #[], attributes := #[] }
def k13m3 : Method := { name := "of", desc := "([Ljava/lang/Object;)Ljava/util/List;", sig := { parameters := [(.array (.object "java/lang/Object"))], returnType := some (.object "java/util/List") }, accessFlags := 137, code := some k13c3 }
def k13c4 : Code := { maxStack := 1, maxLocals := 1, code := jdk_40_method_48_code, exceptionTable := #[], attributes := #[] }
def k13m4 : Method := { name := "copyOf", desc := "(Ljava/util/Collection;)Ljava/util/List;", sig := { parameters := [(.object "java/util/Collection")], returnType := some (.object "java/util/List") }, accessFlags := 9, code := some k13c4 }
/-- java/util/List -/
def k13 : Class := { plain "java/util/List" (some 0) with
  accessFlags := 1537
  interfaces := #[12]
  cf := some (fileOf pool13 8 #[] #[{ accessFlags := 1025, nameIndex := 67, descriptorIndex := 18, attributes := #[] }, { accessFlags := 1025, nameIndex := 75, descriptorIndex := 76, attributes := #[] }, { accessFlags := 9, nameIndex := 88, descriptorIndex := 119, attributes := #[] }, { accessFlags := 137, nameIndex := 88, descriptorIndex := 108, attributes := #[] }, { accessFlags := 9, nameIndex := 234, descriptorIndex := 115, attributes := #[] }] 1537 103 #[120] #[])
  fields := #[]
  methods := #[k13m0, k13m1, k13m2, k13m3, k13m4]
  instanceTypes := #[]
  staticTypes := #[]
  resolved := Array.replicate 251 none
  statics := none }

def pool14 : Array CpInfo := pool [(1, .methodref 2 3), (0, .class_ 4), (0, .nameAndType 5 6), (0, u "java/util/AbstractCollection"), (0, u "<init>"), (0, u "()V"), (0, .fieldref 8 9), (0, .class_ 10), (0, .nameAndType 11 12), (0, u "java/util/AbstractList"), (0, u "modCount"), (0, u "I"), (64, .class_ 78), (0, u "java/util/AbstractList$Itr"), (3, .class_ 83), (0, u "java/util/AbstractList$ListItr"), (9, .class_ 94), (0, u "java/util/AbstractList$RandomAccessSubList"), (3, .class_ 99), (0, u "java/util/AbstractList$SubList"), (33, .class_ 134), (0, u "java/util/List"), (73, .class_ 209), (0, u "java/util/AbstractList$SubList$1"), (0, .class_ 211), (0, u "java/util/AbstractList$RandomAccessSpliterator")] 6

def k14c0 : Code := { maxStack := 2, maxLocals := 1, code := jdk_39_method_1_code, exceptionTable := #[], attributes := #[] }
def k14m0 : Method := { name := "<init>", desc := "()V", sig := { parameters := [], returnType := none }, accessFlags := 4, code := some k14c0 }
/-- java/util/AbstractList -/
def k14 : Class := { plain "java/util/AbstractList" (some 11) with
  accessFlags := 1057
  interfaces := #[13]
  cf := some (fileOf pool14 8 #[.nestMembers #[93, 98, 208, 210, 82, 77]] #[{ accessFlags := 4, nameIndex := 5, descriptorIndex := 6, attributes := #[] }] 1057 2 #[133] #[{ accessFlags := 132, nameIndex := 11, descriptorIndex := 12, attributes := #[] }])
  fields := #[{ name := "modCount", type := .int, accessFlags := 132, slot := 0, constantValue := 0 }]
  methods := #[k14m0]
  instanceTypes := #[.int]
  staticTypes := #[]
  resolved := Array.replicate 218 none
  statics := none }

def pool15 : Array CpInfo := pool [(1, .class_ 2), (0, u "java/util/RandomAccess"), (0, .class_ 4), (0, u "java/lang/Object")] 2

/-- java/util/RandomAccess -/
def k15 : Class := { plain "java/util/RandomAccess" (some 0) with
  accessFlags := 1537
  interfaces := #[]
  cf := some (fileOf pool15 1 #[] #[] 1537 3 #[] #[])
  fields := #[]
  methods := #[]
  instanceTypes := #[]
  staticTypes := #[]
  resolved := Array.replicate 7 none
  statics := none }

def pool16 : Array CpInfo := pool [(1, .class_ 2), (0, u "java/lang/Cloneable"), (0, .class_ 4), (0, u "java/lang/Object")] 2

/-- java/lang/Cloneable -/
def k16 : Class := { plain "java/lang/Cloneable" (some 0) with
  accessFlags := 1537
  interfaces := #[]
  cf := some (fileOf pool16 1 #[] #[] 1537 3 #[] #[])
  fields := #[]
  methods := #[]
  instanceTypes := #[]
  staticTypes := #[]
  resolved := Array.replicate 7 none
  statics := none }

def pool17 : Array CpInfo := pool [(1, .methodref 2 3), (0, .class_ 4), (0, .nameAndType 5 6), (0, u "java/util/AbstractList"), (0, u "<init>"), (0, u "()V"), (0, .class_ 8), (0, u "java/lang/Object"), (0, .fieldref 10 11), (0, .class_ 12), (0, .nameAndType 13 14), (0, u "java/util/ArrayList"), (0, u "elementData"), (0, u "[Ljava/lang/Object;"), (2, u "EMPTY_ELEMENTDATA"), (21, .fieldref 10 40), (0, .nameAndType 41 14), (0, u "DEFAULTCAPACITY_EMPTY_ELEMENTDATA"), (4, u "toArray"), (0, u "()[Ljava/lang/Object;"), (0, .fieldref 10 49), (0, .nameAndType 50 51), (0, u "size"), (0, u "I"), (6, .class_ 60), (1, u "java/util/Arrays"), (0, u "copyOf"), (1, .fieldref 10 64), (0, .nameAndType 65 51), (0, u "modCount"), (0, .methodref 58 67), (0, .nameAndType 61 68), (0, u "([Ljava/lang/Object;I)[Ljava/lang/Object;"), (0, .methodref 10 70), (0, .nameAndType 71 72), (0, u "grow"), (0, u "(I)[Ljava/lang/Object;"), (6, .methodref 80 81), (0, .class_ 82), (0, .nameAndType 83 84), (0, u "java/lang/Math"), (0, u "max"), (0, u "(II)I"), (11, u "(Ljava/lang/Object;)Z"), (32, .methodref 10 130), (0, .nameAndType 71 47), (0, .methodref 10 132), (0, .nameAndType 133 134), (0, u "add"), (0, u "(Ljava/lang/Object;[Ljava/lang/Object;I)V"), (13, .class_ 149), (0, u "java/util/List"), (23, u "()Z"), (88, .class_ 263), (0, u "java/util/ArrayList$ListItr"), (3, .class_ 268), (0, u "java/util/ArrayList$Itr"), (7, .class_ 277), (0, u "java/util/ArrayList$SubList"), (12, .class_ 291), (0, u "java/util/ArrayList$ArrayListSpliterator"), (37, .class_ 330), (0, u "java/util/RandomAccess"), (0, .class_ 332), (0, u "java/lang/Cloneable"), (0, .class_ 334), (0, u "java/io/Serializable"), (0, u "serialVersionUID"), (0, u "J"), (3, u "DEFAULT_CAPACITY"), (22, u "isEmpty"), (136, .class_ 501), (0, u "java/util/ArrayList$SubList$2"), (0, .class_ 503), (0, u "java/util/ArrayList$SubList$1")] 5

def k17c0 : Code := { maxStack := 2, maxLocals := 1, code := jdk_38_method_2_code, exceptionTable := #[], attributes := #[] }
def k17m0 : Method := { name := "<init>", desc := "()V", sig := { parameters := [], returnType := none }, accessFlags := 1, code := some k17c0 }
def k17c1 : Code := { maxStack := 4, maxLocals := 4, code := jdk_38_method_6_code, exceptionTable := #[], attributes := #[] }
def k17m1 : Method := { name := "grow", desc := "(I)[Ljava/lang/Object;", sig := { parameters := [.int], returnType := some (.array (.object "java/lang/Object")) }, accessFlags := 2, code := some k17c1 }
def k17c2 : Code := { maxStack := 3, maxLocals := 1, code := jdk_38_method_7_code, exceptionTable := #[], attributes := #[] }
def k17m2 : Method := { name := "grow", desc := "()[Ljava/lang/Object;", sig := { parameters := [], returnType := some (.array (.object "java/lang/Object")) }, accessFlags := 2, code := some k17c2 }
def k17c3 : Code := { maxStack := 1, maxLocals := 1, code := jdk_38_method_9_code, exceptionTable := #[], attributes := #[] }
def k17m3 : Method := { name := "isEmpty", desc := "()Z", sig := { parameters := [], returnType := some .boolean }, accessFlags := 1, code := some k17c3 }
def k17c4 : Code := { maxStack := 2, maxLocals := 1, code := jdk_38_method_16_code, exceptionTable := #[], attributes := #[] }
def k17m4 : Method := { name := "toArray", desc := "()[Ljava/lang/Object;", sig := { parameters := [], returnType := some (.array (.object "java/lang/Object")) }, accessFlags := 1, code := some k17c4 }
def k17c5 : Code := { maxStack := 3, maxLocals := 4, code := jdk_38_method_24_code, exceptionTable := #[], attributes := #[] }
def k17m5 : Method := { name := "add", desc := "(Ljava/lang/Object;[Ljava/lang/Object;I)V", sig := { parameters := [(.object "java/lang/Object"), (.array (.object "java/lang/Object")), .int], returnType := none }, accessFlags := 2, code := some k17c5 }
def k17c6 : Code := { maxStack := 4, maxLocals := 2, code := jdk_38_method_25_code, exceptionTable := #[], attributes := #[] }
def k17m6 : Method := { name := "add", desc := "(Ljava/lang/Object;)Z", sig := { parameters := [(.object "java/lang/Object")], returnType := some .boolean }, accessFlags := 1, code := some k17c6 }
/-- java/util/ArrayList -/
def k17 : Class := { plain "java/util/ArrayList" (some 14) with
  accessFlags := 33
  interfaces := #[13, 15, 16, 2]
  cf := some (fileOf pool17 10 #[.nestMembers #[290, 276, 500, 502, 262, 267]] #[{ accessFlags := 1, nameIndex := 5, descriptorIndex := 6, attributes := #[] }, { accessFlags := 2, nameIndex := 71, descriptorIndex := 72, attributes := #[] }, { accessFlags := 2, nameIndex := 71, descriptorIndex := 47, attributes := #[] }, { accessFlags := 1, nameIndex := 363, descriptorIndex := 173, attributes := #[] }, { accessFlags := 1, nameIndex := 46, descriptorIndex := 47, attributes := #[] }, { accessFlags := 2, nameIndex := 133, descriptorIndex := 134, attributes := #[] }, { accessFlags := 1, nameIndex := 133, descriptorIndex := 96, attributes := #[] }] 33 2 #[148, 329, 331, 333] #[{ accessFlags := 26, nameIndex := 335, descriptorIndex := 336, attributes := #[] }, { accessFlags := 26, nameIndex := 340, descriptorIndex := 51, attributes := #[] }, { accessFlags := 26, nameIndex := 17, descriptorIndex := 14, attributes := #[] }, { accessFlags := 26, nameIndex := 41, descriptorIndex := 14, attributes := #[] }, { accessFlags := 128, nameIndex := 13, descriptorIndex := 14, attributes := #[] }, { accessFlags := 2, nameIndex := 50, descriptorIndex := 51, attributes := #[] }])
  fields := #[{ name := "serialVersionUID", type := .long, accessFlags := 26, slot := 0, constantValue := 0 }, { name := "DEFAULT_CAPACITY", type := .int, accessFlags := 26, slot := 1, constantValue := 0 }, { name := "EMPTY_ELEMENTDATA", type := (.array (.object "java/lang/Object")), accessFlags := 26, slot := 2, constantValue := 0 }, { name := "DEFAULTCAPACITY_EMPTY_ELEMENTDATA", type := (.array (.object "java/lang/Object")), accessFlags := 26, slot := 3, constantValue := 0 }, { name := "elementData", type := (.array (.object "java/lang/Object")), accessFlags := 128, slot := 1, constantValue := 0 }, { name := "size", type := .int, accessFlags := 2, slot := 2, constantValue := 0 }]
  methods := #[k17m0, k17m1, k17m2, k17m3, k17m4, k17m5, k17m6]
  instanceTypes := #[.int, (.array (.object "java/lang/Object")), .int]
  staticTypes := #[.long, .int, (.array (.object "java/lang/Object")), (.array (.object "java/lang/Object"))]
  resolved := Array.replicate 509 none
  statics := some 1 }

def pool18 : Array CpInfo := pool [(1, .class_ 2), (0, u "java/lang/Math"), (1, .class_ 6), (1, u "java/lang/Object"), (0, u "<init>"), (0, u "()V"), (89, .class_ 100), (1, u "java/lang/Math$RandomNumberGeneratorHolder"), (71, u "negativeZeroFloatBits"), (0, u "J"), (2, u "negativeZeroDoubleBits"), (21, u "max"), (2, u "min"), (43, u "$assertionsDisabled"), (0, u "Z"), (88, u "(II)I"), (2, u "twoToTheDoubleScaleDown"), (0, u "D"), (4, u "twoToTheDoubleScaleUp"), (9, u "E"), (3, u "PI"), (2, u "TAU"), (2, u "DEGREES_TO_RADIANS"), (0, u "RADIANS_TO_DEGREES")] 94

def k18m0 : Method := { name := "<init>", desc := "()V", sig := { parameters := [], returnType := none }, accessFlags := 2, code := none }
def k18c1 : Code := { maxStack := 2, maxLocals := 2, code := jdk_29_method_65_code, exceptionTable := #[], attributes := #[] }
def k18m1 : Method := { name := "max", desc := "(II)I", sig := { parameters := [.int, .int], returnType := some .int }, accessFlags := 9, code := some k18c1 }
def k18c2 : Code := { maxStack := 2, maxLocals := 2, code := jdk_29_method_69_code, exceptionTable := #[], attributes := #[] }
def k18m2 : Method := { name := "min", desc := "(II)I", sig := { parameters := [.int, .int], returnType := some .int }, accessFlags := 9, code := some k18c2 }
/-- java/lang/Math -/
def k18 : Class := { plain "java/lang/Math" (some 0) with
  accessFlags := 49
  interfaces := #[]
  cf := some (fileOf pool18 1 #[.nestMembers #[98]] #[{ accessFlags := 2, nameIndex := 7, descriptorIndex := 8, attributes := #[] }, { accessFlags := 9, nameIndex := 198, descriptorIndex := 335, attributes := #[] }, { accessFlags := 9, nameIndex := 201, descriptorIndex := 335, attributes := #[] }] 49 4 #[] #[{ accessFlags := 25, nameIndex := 354, descriptorIndex := 339, attributes := #[] }, { accessFlags := 25, nameIndex := 358, descriptorIndex := 339, attributes := #[] }, { accessFlags := 25, nameIndex := 361, descriptorIndex := 339, attributes := #[] }, { accessFlags := 26, nameIndex := 364, descriptorIndex := 339, attributes := #[] }, { accessFlags := 26, nameIndex := 365, descriptorIndex := 339, attributes := #[] }, { accessFlags := 26, nameIndex := 172, descriptorIndex := 173, attributes := #[] }, { accessFlags := 26, nameIndex := 176, descriptorIndex := 173, attributes := #[] }, { accessFlags := 8, nameIndex := 344, descriptorIndex := 339, attributes := #[] }, { accessFlags := 8, nameIndex := 338, descriptorIndex := 339, attributes := #[] }, { accessFlags := 4120, nameIndex := 245, descriptorIndex := 246, attributes := #[] }])
  fields := #[{ name := "E", type := .double, accessFlags := 25, slot := 0, constantValue := 0 }, { name := "PI", type := .double, accessFlags := 25, slot := 1, constantValue := 0 }, { name := "TAU", type := .double, accessFlags := 25, slot := 2, constantValue := 0 }, { name := "DEGREES_TO_RADIANS", type := .double, accessFlags := 26, slot := 3, constantValue := 0 }, { name := "RADIANS_TO_DEGREES", type := .double, accessFlags := 26, slot := 4, constantValue := 0 }, { name := "negativeZeroFloatBits", type := .long, accessFlags := 26, slot := 5, constantValue := 0 }, { name := "negativeZeroDoubleBits", type := .long, accessFlags := 26, slot := 6, constantValue := 0 }, { name := "twoToTheDoubleScaleUp", type := .double, accessFlags := 8, slot := 7, constantValue := 0 }, { name := "twoToTheDoubleScaleDown", type := .double, accessFlags := 8, slot := 8, constantValue := 0 }, { name := "$assertionsDisabled", type := .boolean, accessFlags := 4120, slot := 9, constantValue := 0 }]
  methods := #[k18m0, k18m1, k18m2]
  instanceTypes := #[]
  staticTypes := #[.double, .double, .double, .double, .double, .long, .long, .double, .double, .boolean]
  resolved := Array.replicate 460 none
  statics := none }

def pool19 : Array CpInfo := pool [(1, .methodref 2 3), (0, .class_ 4), (0, .nameAndType 5 6), (0, u "java/lang/Object"), (0, u "<init>"), (0, u "()V"), (0, .class_ 8), (0, u "java/lang/Record")] 13

def k19c0 : Code := { maxStack := 1, maxLocals := 1, code := jdk_30_method_1_code, exceptionTable := #[], attributes := #[] }
def k19m0 : Method := { name := "<init>", desc := "()V", sig := { parameters := [], returnType := none }, accessFlags := 4, code := some k19c0 }
/-- java/lang/Record -/
def k19 : Class := { plain "java/lang/Record" (some 0) with
  accessFlags := 1057
  interfaces := #[]
  cf := some (fileOf pool19 7 #[] #[{ accessFlags := 4, nameIndex := 5, descriptorIndex := 6, attributes := #[] }] 1057 2 #[] #[])
  fields := #[]
  methods := #[k19m0]
  instanceTypes := #[]
  staticTypes := #[]
  resolved := Array.replicate 22 none
  statics := none }

def pool20 : Array CpInfo := pool [(1, .methodref 2 3), (0, .class_ 4), (0, .nameAndType 5 6), (0, u "java/lang/Record"), (0, u "<init>"), (0, u "()V"), (0, .string 8), (0, u "name"), (0, .methodref 10 11), (0, .class_ 12), (0, .nameAndType 13 14), (0, u "java/util/Objects"), (0, u "requireNonNull"), (0, u "(Ljava/lang/Object;Ljava/lang/String;)Ljava/lang/Object;"), (0, .string 16), (0, u "table"), (0, .string 18), (0, u "foreignKey"), (0, .interfaceMethodref 20 21), (0, .class_ 22), (0, .nameAndType 23 24), (0, u "java/util/List"), (0, u "copyOf"), (0, u "(Ljava/util/Collection;)Ljava/util/List;"), (0, .interfaceMethodref 20 26), (0, .nameAndType 27 28), (0, u "isEmpty"), (0, u "()Z"), (9, .fieldref 39 40), (0, .class_ 41), (0, .nameAndType 8 42), (0, u "com/example/ibex/ibex/model/Dimension"), (0, u "Ljava/lang/String;"), (0, .fieldref 39 44), (0, .nameAndType 16 42), (0, .fieldref 39 46), (0, .nameAndType 18 42), (0, .fieldref 39 48), (0, .nameAndType 49 50), (0, u "levels"), (0, u "Ljava/util/List;"), (0, .fieldref 39 52), (0, .nameAndType 53 50), (0, u "attributes"), (0, .interfaceMethodref 20 55), (0, .nameAndType 56 57), (0, u "get"), (0, u "(I)Ljava/lang/Object;"), (0, .class_ 59), (0, u "java/lang/String"), (16, u "key"), (0, u "()Ljava/lang/String;"), (41, u "(Ljava/lang/String;Ljava/lang/String;Ljava/lang/String;Ljava/util/List;Ljava/util/List;)V")] 47

def k20c0 : Code := { maxStack := 3, maxLocals := 6, code := prog_71_method_1_code, exceptionTable := #[], attributes := #[] }
def k20m0 : Method := { name := "<init>", desc := "(Ljava/lang/String;Ljava/lang/String;Ljava/lang/String;Ljava/util/List;Ljava/util/List;)V", sig := { parameters := [(.object "java/lang/String"), (.object "java/lang/String"), (.object "java/lang/String"), (.object "java/util/List"), (.object "java/util/List")], returnType := none }, accessFlags := 1, code := some k20c0 }
def k20c1 : Code := { maxStack := 2, maxLocals := 1, code := prog_71_method_2_code, exceptionTable := #[], attributes := #[] }
def k20m1 : Method := { name := "key", desc := "()Ljava/lang/String;", sig := { parameters := [], returnType := some (.object "java/lang/String") }, accessFlags := 1, code := some k20c1 }
/-- com/example/ibex/ibex/model/Dimension -/
def k20 : Class := { plain "com/example/ibex/ibex/model/Dimension" (some 19) with
  accessFlags := 49
  interfaces := #[]
  cf := some (fileOf pool20 39 #[] #[{ accessFlags := 1, nameIndex := 5, descriptorIndex := 119, attributes := #[] }, { accessFlags := 1, nameIndex := 76, descriptorIndex := 77, attributes := #[] }] 49 2 #[] #[{ accessFlags := 18, nameIndex := 8, descriptorIndex := 42, attributes := #[] }, { accessFlags := 18, nameIndex := 16, descriptorIndex := 42, attributes := #[] }, { accessFlags := 18, nameIndex := 18, descriptorIndex := 42, attributes := #[] }, { accessFlags := 18, nameIndex := 49, descriptorIndex := 50, attributes := #[] }, { accessFlags := 18, nameIndex := 53, descriptorIndex := 50, attributes := #[] }])
  fields := #[{ name := "name", type := (.object "java/lang/String"), accessFlags := 18, slot := 0, constantValue := 0 }, { name := "table", type := (.object "java/lang/String"), accessFlags := 18, slot := 1, constantValue := 0 }, { name := "foreignKey", type := (.object "java/lang/String"), accessFlags := 18, slot := 2, constantValue := 0 }, { name := "levels", type := (.object "java/util/List"), accessFlags := 18, slot := 3, constantValue := 0 }, { name := "attributes", type := (.object "java/util/List"), accessFlags := 18, slot := 4, constantValue := 0 }]
  methods := #[k20m0, k20m1]
  instanceTypes := #[(.object "java/lang/String"), (.object "java/lang/String"), (.object "java/lang/String"), (.object "java/util/List"), (.object "java/util/List")]
  staticTypes := #[]
  resolved := Array.replicate 167 none
  statics := none }

def pool21 : Array CpInfo := pool [(2, .class_ 4), (1, u "java/lang/Object"), (0, u "<init>"), (0, u "()V"), (35, .class_ 44), (1, u "java/util/Objects"), (0, u "requireNonNull"), (0, u "(Ljava/lang/Object;)Ljava/lang/Object;"), (47, u "(Ljava/lang/Object;Ljava/lang/String;)Ljava/lang/Object;")] 89

def k21m0 : Method := { name := "<init>", desc := "()V", sig := { parameters := [], returnType := none }, accessFlags := 2, code := none }
def k21c1 : Code := { maxStack := 2, maxLocals := 1, code := jdk_31_method_10_code, exceptionTable := #[], attributes := #[] }
def k21m1 : Method := { name := "requireNonNull", desc := "(Ljava/lang/Object;)Ljava/lang/Object;", sig := { parameters := [(.object "java/lang/Object")], returnType := some (.object "java/lang/Object") }, accessFlags := 9, code := some k21c1 }
def k21c2 : Code := { maxStack := 3, maxLocals := 2, code := jdk_31_method_11_code, exceptionTable := #[], attributes := #[] }
def k21m2 : Method := { name := "requireNonNull", desc := "(Ljava/lang/Object;Ljava/lang/String;)Ljava/lang/Object;", sig := { parameters := [(.object "java/lang/Object"), (.object "java/lang/String")], returnType := some (.object "java/lang/Object") }, accessFlags := 9, code := some k21c2 }
/-- java/util/Objects -/
def k21 : Class := { plain "java/util/Objects" (some 0) with
  accessFlags := 49
  interfaces := #[]
  cf := some (fileOf pool21 42 #[] #[{ accessFlags := 2, nameIndex := 5, descriptorIndex := 6, attributes := #[] }, { accessFlags := 9, nameIndex := 45, descriptorIndex := 46, attributes := #[] }, { accessFlags := 9, nameIndex := 45, descriptorIndex := 94, attributes := #[] }] 49 2 #[] #[])
  fields := #[]
  methods := #[k21m0, k21m1, k21m2]
  instanceTypes := #[]
  staticTypes := #[]
  resolved := Array.replicate 184 none
  statics := none }

def pool22 : Array CpInfo := pool [(2, .class_ 4), (1, u "java/lang/Object"), (0, u "<init>"), (0, u "()V"), (3, .class_ 11), (0, u "java/util/ImmutableCollections$List12"), (0, .class_ 13), (0, u "java/util/ImmutableCollections$ListN"), (3, u "Z"), (0, .class_ 19), (0, u "java/util/List"), (0, .interfaceMethodref 21 22), (0, .class_ 23), (0, .nameAndType 24 25), (0, u "java/util/Collection"), (0, u "isEmpty"), (0, u "()Z"), (0, .interfaceMethodref 18 27), (0, .nameAndType 28 29), (0, u "of"), (0, u "()Ljava/util/List;"), (0, .interfaceMethodref 21 31), (0, .nameAndType 32 33), (0, u "toArray"), (0, u "()[Ljava/lang/Object;"), (0, .interfaceMethodref 18 35), (0, .nameAndType 28 36), (0, u "([Ljava/lang/Object;)Ljava/util/List;"), (0, .methodref 38 39), (0, .class_ 40), (0, .nameAndType 41 42), (0, u "java/util/Objects"), (0, u "requireNonNull"), (0, u "(Ljava/lang/Object;)Ljava/lang/Object;"), (0, .methodref 12 44), (0, .nameAndType 5 45), (0, u "([Ljava/lang/Object;Z)V"), (1, .class_ 49), (1, u "java/util/ImmutableCollections"), (0, u "$assertionsDisabled"), (5, u "[Ljava/lang/Object;"), (5, u "EMPTY_LIST"), (0, u "Ljava/util/ImmutableCollections$ListN;"), (8, u "EMPTY_LIST_NULLS"), (22, u "SALT32L"), (0, u "J"), (2, u "REVERSE"), (6, u "archivedObjects"), (2, u "EMPTY"), (0, u "Ljava/lang/Object;"), (0, .class_ 112), (0, u "java/util/ImmutableCollections$SetN"), (5, u "EMPTY_SET"), (0, u "Ljava/util/ImmutableCollections$SetN;"), (0, .class_ 121), (0, u "java/util/ImmutableCollections$MapN"), (3, u "EMPTY_MAP"), (0, u "Ljava/util/ImmutableCollections$MapN;"), (4, u "EXPAND_FACTOR"), (0, u "I"), (9, u "listCopy"), (0, u "(Ljava/util/Collection;)Ljava/util/List;"), (7, u "listFromArray"), (17, .class_ 170), (0, u "java/util/ImmutableCollections$MapN$MapNIterator"), (0, .class_ 172), (0, u "java/util/ImmutableCollections$MapN$1"), (0, .class_ 174), (0, u "java/util/ImmutableCollections$Map1"), (0, .class_ 176), (0, u "java/util/ImmutableCollections$AbstractImmutableMap"), (0, .class_ 178), (0, u "java/util/ImmutableCollections$SetN$SetNIterator"), (0, .class_ 180), (0, u "java/util/ImmutableCollections$Set12"), (0, .class_ 182), (0, u "java/util/ImmutableCollections$Set12$1"), (0, .class_ 184), (0, u "java/util/ImmutableCollections$AbstractImmutableSet"), (0, .class_ 186), (0, u "java/util/ImmutableCollections$SubList"), (0, .class_ 188), (0, u "java/util/ImmutableCollections$ListItr"), (0, .class_ 190), (0, u "java/util/ImmutableCollections$AbstractImmutableList"), (0, .class_ 192), (0, u "java/util/ImmutableCollections$AbstractImmutableCollection"), (0, .class_ 194), (0, u "java/util/ImmutableCollections$Access"), (0, .class_ 196), (0, u "java/util/ImmutableCollections$Access$1")] 16

def k22m0 : Method := { name := "<init>", desc := "()V", sig := { parameters := [], returnType := none }, accessFlags := 2, code := none }
def k22c1 : Code := { maxStack := 1, maxLocals := 2, code := jdk_56_method_3_code, exceptionTable := #[], attributes := #[] }
def k22m1 : Method := { name := "listCopy", desc := "(Ljava/util/Collection;)Ljava/util/List;", sig := { parameters := [(.object "java/util/Collection")], returnType := some (.object "java/util/List") }, accessFlags := 8, code := some k22c1 }
def k22c2 : Code := { maxStack := 4, maxLocals := 3, code := jdk_56_method_4_code, exceptionTable := #[], attributes := #[] }
def k22m2 : Method := { name := "listFromArray", desc := "([Ljava/lang/Object;)Ljava/util/List;", sig := { parameters := [(.array (.object "java/lang/Object"))], returnType := some (.object "java/util/List") }, accessFlags := 136, code := some k22c2 }
/-- java/util/ImmutableCollections -/
def k22 : Class := { plain "java/util/ImmutableCollections" (some 0) with
  accessFlags := 32
  interfaces := #[]
  cf := some (fileOf pool22 47 #[.nestMembers #[120, 169, 171, 173, 175, 111, 177, 179, 181, 183, 12, 10, 185, 187, 189, 191, 193, 195]] #[{ accessFlags := 2, nameIndex := 5, descriptorIndex := 6, attributes := #[] }, { accessFlags := 8, nameIndex := 142, descriptorIndex := 143, attributes := #[] }, { accessFlags := 136, nameIndex := 151, descriptorIndex := 36, attributes := #[] }] 32 2 #[] #[{ accessFlags := 26, nameIndex := 95, descriptorIndex := 96, attributes := #[] }, { accessFlags := 26, nameIndex := 99, descriptorIndex := 17, attributes := #[] }, { accessFlags := 10, nameIndex := 106, descriptorIndex := 56, attributes := #[] }, { accessFlags := 26, nameIndex := 109, descriptorIndex := 110, attributes := #[] }, { accessFlags := 24, nameIndex := 62, descriptorIndex := 63, attributes := #[] }, { accessFlags := 24, nameIndex := 72, descriptorIndex := 63, attributes := #[] }, { accessFlags := 24, nameIndex := 118, descriptorIndex := 119, attributes := #[] }, { accessFlags := 24, nameIndex := 125, descriptorIndex := 126, attributes := #[] }, { accessFlags := 24, nameIndex := 131, descriptorIndex := 132, attributes := #[] }, { accessFlags := 4120, nameIndex := 50, descriptorIndex := 17, attributes := #[] }])
  fields := #[{ name := "SALT32L", type := .long, accessFlags := 26, slot := 0, constantValue := 0 }, { name := "REVERSE", type := .boolean, accessFlags := 26, slot := 1, constantValue := 0 }, { name := "archivedObjects", type := (.array (.object "java/lang/Object")), accessFlags := 10, slot := 2, constantValue := 0 }, { name := "EMPTY", type := (.object "java/lang/Object"), accessFlags := 26, slot := 3, constantValue := 0 }, { name := "EMPTY_LIST", type := (.object "java/util/ImmutableCollections$ListN"), accessFlags := 24, slot := 4, constantValue := 0 }, { name := "EMPTY_LIST_NULLS", type := (.object "java/util/ImmutableCollections$ListN"), accessFlags := 24, slot := 5, constantValue := 0 }, { name := "EMPTY_SET", type := (.object "java/util/ImmutableCollections$SetN"), accessFlags := 24, slot := 6, constantValue := 0 }, { name := "EMPTY_MAP", type := (.object "java/util/ImmutableCollections$MapN"), accessFlags := 24, slot := 7, constantValue := 0 }, { name := "EXPAND_FACTOR", type := .int, accessFlags := 24, slot := 8, constantValue := 0 }, { name := "$assertionsDisabled", type := .boolean, accessFlags := 4120, slot := 9, constantValue := 0 }]
  methods := #[k22m0, k22m1, k22m2]
  instanceTypes := #[]
  staticTypes := #[.long, .boolean, (.array (.object "java/lang/Object")), (.object "java/lang/Object"), (.object "java/util/ImmutableCollections$ListN"), (.object "java/util/ImmutableCollections$ListN"), (.object "java/util/ImmutableCollections$SetN"), (.object "java/util/ImmutableCollections$MapN"), .int, .boolean]
  resolved := Array.replicate 213 none
  statics := some 2 }

def pool23 : Array CpInfo := pool [(1, .methodref 2 3), (0, .class_ 4), (0, .nameAndType 5 6), (0, u "java/util/AbstractCollection"), (0, u "<init>"), (0, u "()V"), (1, .class_ 10), (1, u "java/util/ImmutableCollections"), (2, .class_ 14), (0, u "java/util/ImmutableCollections$AbstractImmutableCollection")] 41

def k23c0 : Code := { maxStack := 1, maxLocals := 1, code := jdk_47_method_1_code, exceptionTable := #[], attributes := #[] }
def k23m0 : Method := { name := "<init>", desc := "()V", sig := { parameters := [], returnType := none }, accessFlags := 0, code := some k23c0 }
/-- java/util/ImmutableCollections$AbstractImmutableCollection -/
def k23 : Class := { plain "java/util/ImmutableCollections$AbstractImmutableCollection" (some 11) with
  accessFlags := 1056
  interfaces := #[]
  cf := some (fileOf pool23 13 #[.nestHost 8] #[{ accessFlags := 0, nameIndex := 5, descriptorIndex := 6, attributes := #[] }] 1056 2 #[] #[])
  fields := #[]
  methods := #[k23m0]
  instanceTypes := #[]
  staticTypes := #[]
  resolved := Array.replicate 56 none
  statics := none }

def pool24 : Array CpInfo := pool [(1, .methodref 2 3), (0, .class_ 4), (0, .nameAndType 5 6), (0, u "java/util/ImmutableCollections$AbstractImmutableCollection"), (0, u "<init>"), (0, u "()V"), (1, .class_ 10), (1, u "java/util/ImmutableCollections"), (3, .class_ 16), (1, u "java/util/ImmutableCollections$AbstractImmutableList"), (60, .class_ 78), (0, u "java/util/List"), (45, .class_ 125), (0, u "java/util/RandomAccess")] 70

def k24c0 : Code := { maxStack := 1, maxLocals := 1, code := jdk_46_method_1_code, exceptionTable := #[], attributes := #[] }
def k24m0 : Method := { name := "<init>", desc := "()V", sig := { parameters := [], returnType := none }, accessFlags := 0, code := some k24c0 }
/-- java/util/ImmutableCollections$AbstractImmutableList -/
def k24 : Class := { plain "java/util/ImmutableCollections$AbstractImmutableList" (some 23) with
  accessFlags := 1056
  interfaces := #[13, 15]
  cf := some (fileOf pool24 14 #[.nestHost 8] #[{ accessFlags := 0, nameIndex := 5, descriptorIndex := 6, attributes := #[] }] 1056 2 #[77, 124] #[])
  fields := #[]
  methods := #[k24m0]
  instanceTypes := #[]
  staticTypes := #[]
  resolved := Array.replicate 196 none
  statics := none }

def pool25 : Array CpInfo := pool [(1, .methodref 2 3), (0, .class_ 4), (0, .nameAndType 5 6), (0, u "java/util/ImmutableCollections$AbstractImmutableList"), (0, u "<init>"), (0, u "()V"), (0, .methodref 8 9), (0, .class_ 10), (0, .nameAndType 11 12), (0, u "java/util/Objects"), (0, u "requireNonNull"), (0, u "(Ljava/lang/Object;)Ljava/lang/Object;"), (0, .fieldref 14 15), (0, .class_ 16), (0, .nameAndType 17 18), (0, u "java/util/ImmutableCollections$List12"), (0, u "e0"), (0, u "Ljava/lang/Object;"), (0, .fieldref 20 21), (0, .class_ 22), (0, .nameAndType 23 18), (0, u "java/util/ImmutableCollections"), (0, u "EMPTY"), (0, .fieldref 14 25), (0, .nameAndType 26 18), (0, u "e1"), (43, .class_ 71), (0, u "java/io/Serializable"), (4, u "(Ljava/lang/Object;)V"), (8, u "(Ljava/lang/Object;Ljava/lang/Object;)V"), (2, u "isEmpty"), (0, u "()Z"), (0, u "get"), (0, u "(I)Ljava/lang/Object;")] 33

def k25c0 : Code := { maxStack := 2, maxLocals := 2, code := jdk_44_method_1_code, exceptionTable := #[], attributes := #[] }
def k25m0 : Method := { name := "<init>", desc := "(Ljava/lang/Object;)V", sig := { parameters := [(.object "java/lang/Object")], returnType := none }, accessFlags := 0, code := some k25c0 }
def k25c1 : Code := { maxStack := 2, maxLocals := 3, code := jdk_44_method_2_code, exceptionTable := #[], attributes := #[] }
def k25m1 : Method := { name := "<init>", desc := "(Ljava/lang/Object;Ljava/lang/Object;)V", sig := { parameters := [(.object "java/lang/Object"), (.object "java/lang/Object")], returnType := none }, accessFlags := 0, code := some k25c1 }
def k25c2 : Code := { maxStack := 1, maxLocals := 1, code := jdk_44_method_4_code, exceptionTable := #[], attributes := #[] }
def k25m2 : Method := { name := "isEmpty", desc := "()Z", sig := { parameters := [], returnType := some .boolean }, accessFlags := 1, code := some k25c2 }
def k25c3 : Code := { maxStack := 2, maxLocals := 2, code := jdk_44_method_5_code, exceptionTable := #[], attributes := #[] }
def k25m3 : Method := { name := "get", desc := "(I)Ljava/lang/Object;", sig := { parameters := [.int], returnType := some (.object "java/lang/Object") }, accessFlags := 1, code := some k25c3 }
/-- java/util/ImmutableCollections$List12 -/
def k25 : Class := { plain "java/util/ImmutableCollections$List12" (some 24) with
  accessFlags := 48
  interfaces := #[2]
  cf := some (fileOf pool25 14 #[.nestHost 20] #[{ accessFlags := 0, nameIndex := 5, descriptorIndex := 76, attributes := #[] }, { accessFlags := 0, nameIndex := 5, descriptorIndex := 85, attributes := #[] }, { accessFlags := 1, nameIndex := 88, descriptorIndex := 89, attributes := #[] }, { accessFlags := 1, nameIndex := 90, descriptorIndex := 91, attributes := #[] }] 48 2 #[70] #[{ accessFlags := 18, nameIndex := 17, descriptorIndex := 18, attributes := #[] }, { accessFlags := 18, nameIndex := 26, descriptorIndex := 18, attributes := #[] }])
  fields := #[{ name := "e0", type := (.object "java/lang/Object"), accessFlags := 18, slot := 0, constantValue := 0 }, { name := "e1", type := (.object "java/lang/Object"), accessFlags := 18, slot := 1, constantValue := 0 }]
  methods := #[k25m0, k25m1, k25m2, k25m3]
  instanceTypes := #[(.object "java/lang/Object"), (.object "java/lang/Object")]
  staticTypes := #[]
  resolved := Array.replicate 125 none
  statics := none }

def pool26 : Array CpInfo := pool [(1, .methodref 2 3), (0, .class_ 4), (0, .nameAndType 5 6), (0, u "java/util/ImmutableCollections$AbstractImmutableList"), (0, u "<init>"), (0, u "()V"), (0, .fieldref 8 9), (0, .class_ 10), (0, .nameAndType 11 12), (0, u "java/util/ImmutableCollections$ListN"), (0, u "elements"), (0, u "[Ljava/lang/Object;"), (0, .fieldref 8 14), (0, .nameAndType 15 16), (0, u "allowNulls"), (0, u "Z"), (42, .class_ 60), (0, u "java/io/Serializable"), (4, u "([Ljava/lang/Object;Z)V"), (8, u "isEmpty"), (0, u "()Z"), (3, u "get"), (0, u "(I)Ljava/lang/Object;"), (33, .class_ 115), (0, u "java/util/ImmutableCollections")] 3

def k26c0 : Code := { maxStack := 2, maxLocals := 3, code := jdk_45_method_1_code, exceptionTable := #[], attributes := #[] }
def k26m0 : Method := { name := "<init>", desc := "([Ljava/lang/Object;Z)V", sig := { parameters := [(.array (.object "java/lang/Object")), .boolean], returnType := none }, accessFlags := 2, code := some k26c0 }
def k26c1 : Code := { maxStack := 1, maxLocals := 1, code := jdk_45_method_2_code, exceptionTable := #[], attributes := #[] }
def k26m1 : Method := { name := "isEmpty", desc := "()Z", sig := { parameters := [], returnType := some .boolean }, accessFlags := 1, code := some k26c1 }
def k26c2 : Code := { maxStack := 2, maxLocals := 2, code := jdk_45_method_4_code, exceptionTable := #[], attributes := #[] }
def k26m2 : Method := { name := "get", desc := "(I)Ljava/lang/Object;", sig := { parameters := [.int], returnType := some (.object "java/lang/Object") }, accessFlags := 1, code := some k26c2 }
/-- java/util/ImmutableCollections$ListN -/
def k26 : Class := { plain "java/util/ImmutableCollections$ListN" (some 24) with
  accessFlags := 48
  interfaces := #[2]
  cf := some (fileOf pool26 8 #[.nestHost 114] #[{ accessFlags := 2, nameIndex := 5, descriptorIndex := 65, attributes := #[] }, { accessFlags := 1, nameIndex := 74, descriptorIndex := 75, attributes := #[] }, { accessFlags := 1, nameIndex := 79, descriptorIndex := 80, attributes := #[] }] 48 2 #[59] #[{ accessFlags := 18, nameIndex := 11, descriptorIndex := 12, attributes := #[] }, { accessFlags := 18, nameIndex := 15, descriptorIndex := 16, attributes := #[] }])
  fields := #[{ name := "elements", type := (.array (.object "java/lang/Object")), accessFlags := 18, slot := 0, constantValue := 0 }, { name := "allowNulls", type := .boolean, accessFlags := 18, slot := 1, constantValue := 0 }]
  methods := #[k26m0, k26m1, k26m2]
  instanceTypes := #[(.array (.object "java/lang/Object")), .boolean]
  staticTypes := #[]
  resolved := Array.replicate 119 none
  statics := none }

def pool27 : Array CpInfo := pool [(2, .class_ 4), (1, u "java/lang/Object"), (0, u "<init>"), (0, u "()V"), (7, .class_ 16), (1, u "java/util/Arrays"), (57, .class_ 76), (1, u "java/util/Arrays$NaturalOrder"), (9, .methodref 2 87), (0, .nameAndType 88 89), (0, u "getClass"), (0, u "()Ljava/lang/Class;"), (20, .class_ 111), (0, u "[Ljava/lang/Object;"), (1, .class_ 115), (1, u "java/util/Arrays$LegacyMergeSort"), (1, u "Z"), (32, .methodref 151 152), (0, .class_ 153), (0, .nameAndType 154 155), (0, u "java/lang/System"), (0, u "arraycopy"), (0, u "(Ljava/lang/Object;ILjava/lang/Object;II)V"), (144, .methodref 14 301), (0, .nameAndType 302 303), (0, u "copyOf"), (0, u "([Ljava/lang/Object;ILjava/lang/Class;)[Ljava/lang/Object;"), (0, .methodref 305 306), (0, .class_ 307), (0, .nameAndType 308 309), (0, u "java/lang/Math"), (0, u "min"), (0, u "(II)I"), (65, .class_ 376), (0, u "java/util/Arrays$ArrayList"), (68, u "$assertionsDisabled"), (269, u "MIN_ARRAY_SORT_GRAN"), (0, u "I"), (2, u "INSERTIONSORT_THRESHOLD"), (140, u "([Ljava/lang/Object;I)[Ljava/lang/Object;"), (114, .class_ 976), (0, u "java/util/Arrays$ArrayItr")] 52

def k27m0 : Method := { name := "<init>", desc := "()V", sig := { parameters := [], returnType := none }, accessFlags := 2, code := none }
def k27c1 : Code := { maxStack := 3, maxLocals := 2, code := jdk_65_method_119_code, exceptionTable := #[], attributes := #[] }
def k27m1 : Method := { name := "copyOf", desc := "([Ljava/lang/Object;I)[Ljava/lang/Object;", sig := { parameters := [(.array (.object "java/lang/Object")), .int], returnType := some (.array (.object "java/lang/Object")) }, accessFlags := 9, code := some k27c1 }
def k27c2 : Code := { maxStack := 6, maxLocals := 4, code := jdk_65_method_120_code, exceptionTable := #[], attributes := #[] }
def k27m2 : Method := { name := "copyOf", desc := "([Ljava/lang/Object;ILjava/lang/Class;)[Ljava/lang/Object;", sig := { parameters := [(.array (.object "java/lang/Object")), .int, (.object "java/lang/Class")], returnType := some (.array (.object "java/lang/Object")) }, accessFlags := 9, code := some k27c2 }
/-- java/util/Arrays -/
def k27 : Class := { plain "java/util/Arrays" (some 0) with
  accessFlags := 49
  interfaces := #[]
  cf := some (fileOf pool27 14 #[.nestMembers #[975, 375, 113, 74]] #[{ accessFlags := 2, nameIndex := 5, descriptorIndex := 6, attributes := #[] }, { accessFlags := 9, nameIndex := 302, descriptorIndex := 860, attributes := #[] }, { accessFlags := 9, nameIndex := 302, descriptorIndex := 303, attributes := #[] }] 49 2 #[] #[{ accessFlags := 26, nameIndex := 715, descriptorIndex := 716, attributes := #[] }, { accessFlags := 26, nameIndex := 719, descriptorIndex := 716, attributes := #[] }, { accessFlags := 4120, nameIndex := 445, descriptorIndex := 117, attributes := #[] }])
  fields := #[{ name := "MIN_ARRAY_SORT_GRAN", type := .int, accessFlags := 26, slot := 0, constantValue := 0 }, { name := "INSERTIONSORT_THRESHOLD", type := .int, accessFlags := 26, slot := 1, constantValue := 0 }, { name := "$assertionsDisabled", type := .boolean, accessFlags := 4120, slot := 2, constantValue := 0 }]
  methods := #[k27m0, k27m1, k27m2]
  instanceTypes := #[]
  staticTypes := #[.int, .int, .boolean]
  resolved := Array.replicate 1029 none
  statics := none }

def pool28 : Array CpInfo := pool [(2, .class_ 4), (1, u "java/lang/Object"), (0, u "<init>"), (0, u "()V"), (1, .class_ 10), (1, u "java/lang/System"), (0, u "allowSecurityManager"), (0, u "I"), (16, u "cons"), (0, u "Ljava/io/Console;"), (77, .class_ 110), (1, u "java/lang/System$CallersHolder"), (43, u "initialErrStream"), (0, u "Ljava/io/PrintStream;"), (19, u "security"), (0, u "Ljava/lang/SecurityManager;"), (31, .class_ 209), (0, u "java/lang/System$1"), (7, u "props"), (0, u "Ljava/util/Properties;"), (2, u "lineSeparator"), (0, u "Ljava/lang/String;"), (96, .class_ 321), (1, u "java/lang/System$LoggerFinder"), (5, .class_ 328), (0, u "java/lang/System$Logger"), (67, u "err"), (2, u "out"), (91, u "notSupportedJnuEncoding"), (15, u "in"), (17, u "initialIn"), (0, u "Ljava/io/InputStream;"), (35, u "bootLayer"), (0, u "Ljava/lang/ModuleLayer;"), (99, .class_ 664), (0, u "java/lang/System$2"), (9, u "NEVER"), (2, u "MAYBE"), (49, u "arraycopy"), (0, u "(Ljava/lang/Object;ILjava/lang/Object;II)V"), (72, .class_ 802), (0, u "java/lang/System$Logger$Level")] 31

def k28m0 : Method := { name := "<init>", desc := "()V", sig := { parameters := [], returnType := none }, accessFlags := 2, code := none }
def k28m1 : Method := { name := "arraycopy", desc := "(Ljava/lang/Object;ILjava/lang/Object;II)V", sig := { parameters := [(.object "java/lang/Object"), .int, (.object "java/lang/Object"), .int, .int], returnType := none }, accessFlags := 265, code := none }
/-- java/lang/System -/
def k28 : Class := { plain "java/lang/System" (some 0) with
  accessFlags := 49
  interfaces := #[]
  cf := some (fileOf pool28 8 #[.nestMembers #[319, 327, 801, 108, 663, 208]] #[{ accessFlags := 2, nameIndex := 5, descriptorIndex := 6, attributes := #[] }, { accessFlags := 265, nameIndex := 727, descriptorIndex := 728, attributes := #[] }] 49 2 #[] #[{ accessFlags := 25, nameIndex := 507, descriptorIndex := 526, attributes := #[] }, { accessFlags := 25, nameIndex := 399, descriptorIndex := 155, attributes := #[] }, { accessFlags := 25, nameIndex := 396, descriptorIndex := 155, attributes := #[] }, { accessFlags := 10, nameIndex := 525, descriptorIndex := 526, attributes := #[] }, { accessFlags := 26, nameIndex := 674, descriptorIndex := 12, attributes := #[] }, { accessFlags := 26, nameIndex := 677, descriptorIndex := 12, attributes := #[] }, { accessFlags := 10, nameIndex := 11, descriptorIndex := 12, attributes := #[] }, { accessFlags := 74, nameIndex := 175, descriptorIndex := 176, attributes := #[] }, { accessFlags := 10, nameIndex := 491, descriptorIndex := 222, attributes := #[] }, { accessFlags := 74, nameIndex := 29, descriptorIndex := 30, attributes := #[] }, { accessFlags := 74, nameIndex := 154, descriptorIndex := 155, attributes := #[] }, { accessFlags := 10, nameIndex := 217, descriptorIndex := 218, attributes := #[] }, { accessFlags := 10, nameIndex := 221, descriptorIndex := 222, attributes := #[] }, { accessFlags := 8, nameIndex := 562, descriptorIndex := 563, attributes := #[] }])
  fields := #[{ name := "in", type := (.object "java/io/InputStream"), accessFlags := 25, slot := 0, constantValue := 0 }, { name := "out", type := (.object "java/io/PrintStream"), accessFlags := 25, slot := 1, constantValue := 0 }, { name := "err", type := (.object "java/io/PrintStream"), accessFlags := 25, slot := 2, constantValue := 0 }, { name := "initialIn", type := (.object "java/io/InputStream"), accessFlags := 10, slot := 3, constantValue := 0 }, { name := "NEVER", type := .int, accessFlags := 26, slot := 4, constantValue := 0 }, { name := "MAYBE", type := .int, accessFlags := 26, slot := 5, constantValue := 0 }, { name := "allowSecurityManager", type := .int, accessFlags := 10, slot := 6, constantValue := 0 }, { name := "security", type := (.object "java/lang/SecurityManager"), accessFlags := 74, slot := 7, constantValue := 0 }, { name := "notSupportedJnuEncoding", type := (.object "java/lang/String"), accessFlags := 10, slot := 8, constantValue := 0 }, { name := "cons", type := (.object "java/io/Console"), accessFlags := 74, slot := 9, constantValue := 0 }, { name := "initialErrStream", type := (.object "java/io/PrintStream"), accessFlags := 74, slot := 10, constantValue := 0 }, { name := "props", type := (.object "java/util/Properties"), accessFlags := 10, slot := 11, constantValue := 0 }, { name := "lineSeparator", type := (.object "java/lang/String"), accessFlags := 10, slot := 12, constantValue := 0 }, { name := "bootLayer", type := (.object "java/lang/ModuleLayer"), accessFlags := 8, slot := 13, constantValue := 0 }]
  methods := #[k28m0, k28m1]
  instanceTypes := #[]
  staticTypes := #[(.object "java/io/InputStream"), (.object "java/io/PrintStream"), (.object "java/io/PrintStream"), (.object "java/io/InputStream"), .int, .int, .int, (.object "java/lang/SecurityManager"), (.object "java/lang/String"), (.object "java/io/Console"), (.object "java/io/PrintStream"), (.object "java/util/Properties"), (.object "java/lang/String"), (.object "java/lang/ModuleLayer")]
  resolved := Array.replicate 834 none
  statics := none }

def pool29 : Array CpInfo := pool [(4, .class_ 6), (1, u "java/lang/Object"), (0, u "<init>"), (0, u "()V"), (5, .class_ 16), (1, u "java/lang/StringLatin1"), (104, u "$assertionsDisabled"), (0, u "Z"), (98, .class_ 223), (1, u "java/lang/StringLatin1$LinesSpliterator"), (166, .class_ 391), (0, u "java/lang/StringLatin1$CharsSpliterator")] 3

def k29m0 : Method := { name := "<init>", desc := "()V", sig := { parameters := [], returnType := none }, accessFlags := 0, code := none }
/-- java/lang/StringLatin1 -/
def k29 : Class := { plain "java/lang/StringLatin1" (some 0) with
  accessFlags := 48
  interfaces := #[]
  cf := some (fileOf pool29 14 #[.nestMembers #[390, 221]] #[{ accessFlags := 0, nameIndex := 7, descriptorIndex := 8, attributes := #[] }] 48 4 #[] #[{ accessFlags := 4120, nameIndex := 121, descriptorIndex := 122, attributes := #[] }])
  fields := #[{ name := "$assertionsDisabled", type := .boolean, accessFlags := 4120, slot := 0, constantValue := 0 }]
  methods := #[k29m0]
  instanceTypes := #[]
  staticTypes := #[.boolean]
  resolved := Array.replicate 395 none
  statics := none }

def pool30 : Array CpInfo := pool [(2, .class_ 4), (1, u "java/lang/Object"), (0, u "<init>"), (0, u "()V"), (17, .class_ 26), (1, u "jdk/internal/util/Preconditions"), (28, .class_ 56), (0, u "jdk/internal/util/Preconditions$4"), (57, .class_ 115), (0, u "jdk/internal/util/Preconditions$1"), (7, u "SIOOBE_FORMATTER"), (0, u "Ljava/util/function/BiFunction;"), (0, .class_ 126), (0, u "jdk/internal/util/Preconditions$2"), (3, u "AIOOBE_FORMATTER"), (0, .class_ 132), (0, u "jdk/internal/util/Preconditions$3"), (3, u "IOOBE_FORMATTER")] 57

def k30m0 : Method := { name := "<init>", desc := "()V", sig := { parameters := [], returnType := none }, accessFlags := 1, code := none }
/-- jdk/internal/util/Preconditions -/
def k30 : Class := { plain "jdk/internal/util/Preconditions" (some 0) with
  accessFlags := 33
  interfaces := #[]
  cf := some (fileOf pool30 24 #[.nestMembers #[55, 131, 125, 114]] #[{ accessFlags := 1, nameIndex := 5, descriptorIndex := 6, attributes := #[] }] 33 2 #[] #[{ accessFlags := 25, nameIndex := 123, descriptorIndex := 124, attributes := #[] }, { accessFlags := 25, nameIndex := 130, descriptorIndex := 124, attributes := #[] }, { accessFlags := 25, nameIndex := 136, descriptorIndex := 124, attributes := #[] }])
  fields := #[{ name := "SIOOBE_FORMATTER", type := (.object "java/util/function/BiFunction"), accessFlags := 25, slot := 0, constantValue := 0 }, { name := "AIOOBE_FORMATTER", type := (.object "java/util/function/BiFunction"), accessFlags := 25, slot := 1, constantValue := 0 }, { name := "IOOBE_FORMATTER", type := (.object "java/util/function/BiFunction"), accessFlags := 25, slot := 2, constantValue := 0 }]
  methods := #[k30m0]
  instanceTypes := #[]
  staticTypes := #[(.object "java/util/function/BiFunction"), (.object "java/util/function/BiFunction"), (.object "java/util/function/BiFunction")]
  resolved := Array.replicate 194 none
  statics := some 3 }

def pool31 : Array CpInfo := pool [(9, u "<init>"), (6, .class_ 18), (1, u "java/lang/Object"), (0, u "()V"), (1, .class_ 23), (1, u "jdk/internal/util/ArraysSupport"), (0, u "LOG2_ARRAY_LONG_INDEX_SCALE"), (0, u "I"), (2, u "U"), (0, u "Ljdk/internal/misc/Unsafe;"), (8, u "BIG_ENDIAN"), (0, u "Z"), (8, u "LOG2_BYTE_BIT_SIZE"), (4, u "LOG2_ARRAY_INT_INDEX_SCALE"), (54, u "JLA"), (0, u "Ljdk/internal/access/JavaLangAccess;"), (11, u "LOG2_ARRAY_BOOLEAN_INDEX_SCALE"), (9, u "LOG2_ARRAY_BYTE_INDEX_SCALE"), (5, u "LOG2_ARRAY_CHAR_INDEX_SCALE"), (5, u "LOG2_ARRAY_SHORT_INDEX_SCALE"), (18, u "LOG2_ARRAY_FLOAT_INDEX_SCALE"), (24, u "LOG2_ARRAY_DOUBLE_INDEX_SCALE"), (89, u "T_BOOLEAN"), (2, u "T_CHAR"), (1, u "T_FLOAT"), (1, u "T_DOUBLE"), (1, u "T_BYTE"), (1, u "T_SHORT"), (1, u "T_INT"), (1, u "T_LONG"), (1, u "SOFT_MAX_ARRAY_LENGTH")] 83

def k31m0 : Method := { name := "<init>", desc := "()V", sig := { parameters := [], returnType := none }, accessFlags := 2, code := none }
/-- jdk/internal/util/ArraysSupport -/
def k31 : Class := { plain "jdk/internal/util/ArraysSupport" (some 0) with
  accessFlags := 33
  interfaces := #[]
  cf := some (fileOf pool31 21 #[] #[{ accessFlags := 2, nameIndex := 9, descriptorIndex := 19, attributes := #[] }] 33 16 #[] #[{ accessFlags := 24, nameIndex := 28, descriptorIndex := 29, attributes := #[] }, { accessFlags := 26, nameIndex := 38, descriptorIndex := 39, attributes := #[] }, { accessFlags := 25, nameIndex := 121, descriptorIndex := 25, attributes := #[] }, { accessFlags := 25, nameIndex := 131, descriptorIndex := 25, attributes := #[] }, { accessFlags := 25, nameIndex := 137, descriptorIndex := 25, attributes := #[] }, { accessFlags := 25, nameIndex := 143, descriptorIndex := 25, attributes := #[] }, { accessFlags := 25, nameIndex := 53, descriptorIndex := 25, attributes := #[] }, { accessFlags := 25, nameIndex := 24, descriptorIndex := 25, attributes := #[] }, { accessFlags := 25, nameIndex := 162, descriptorIndex := 25, attributes := #[] }, { accessFlags := 25, nameIndex := 187, descriptorIndex := 25, attributes := #[] }, { accessFlags := 26, nameIndex := 48, descriptorIndex := 25, attributes := #[] }, { accessFlags := 25, nameIndex := 277, descriptorIndex := 25, attributes := #[] }, { accessFlags := 25, nameIndex := 280, descriptorIndex := 25, attributes := #[] }, { accessFlags := 25, nameIndex := 282, descriptorIndex := 25, attributes := #[] }, { accessFlags := 25, nameIndex := 284, descriptorIndex := 25, attributes := #[] }, { accessFlags := 25, nameIndex := 286, descriptorIndex := 25, attributes := #[] }, { accessFlags := 25, nameIndex := 288, descriptorIndex := 25, attributes := #[] }, { accessFlags := 25, nameIndex := 290, descriptorIndex := 25, attributes := #[] }, { accessFlags := 25, nameIndex := 292, descriptorIndex := 25, attributes := #[] }, { accessFlags := 26, nameIndex := 108, descriptorIndex := 109, attributes := #[] }, { accessFlags := 25, nameIndex := 294, descriptorIndex := 25, attributes := #[] }])
  fields := #[{ name := "U", type := (.object "jdk/internal/misc/Unsafe"), accessFlags := 24, slot := 0, constantValue := 0 }, { name := "BIG_ENDIAN", type := .boolean, accessFlags := 26, slot := 1, constantValue := 0 }, { name := "LOG2_ARRAY_BOOLEAN_INDEX_SCALE", type := .int, accessFlags := 25, slot := 2, constantValue := 0 }, { name := "LOG2_ARRAY_BYTE_INDEX_SCALE", type := .int, accessFlags := 25, slot := 3, constantValue := 0 }, { name := "LOG2_ARRAY_CHAR_INDEX_SCALE", type := .int, accessFlags := 25, slot := 4, constantValue := 0 }, { name := "LOG2_ARRAY_SHORT_INDEX_SCALE", type := .int, accessFlags := 25, slot := 5, constantValue := 0 }, { name := "LOG2_ARRAY_INT_INDEX_SCALE", type := .int, accessFlags := 25, slot := 6, constantValue := 0 }, { name := "LOG2_ARRAY_LONG_INDEX_SCALE", type := .int, accessFlags := 25, slot := 7, constantValue := 0 }, { name := "LOG2_ARRAY_FLOAT_INDEX_SCALE", type := .int, accessFlags := 25, slot := 8, constantValue := 0 }, { name := "LOG2_ARRAY_DOUBLE_INDEX_SCALE", type := .int, accessFlags := 25, slot := 9, constantValue := 0 }, { name := "LOG2_BYTE_BIT_SIZE", type := .int, accessFlags := 26, slot := 10, constantValue := 0 }, { name := "T_BOOLEAN", type := .int, accessFlags := 25, slot := 11, constantValue := 0 }, { name := "T_CHAR", type := .int, accessFlags := 25, slot := 12, constantValue := 0 }, { name := "T_FLOAT", type := .int, accessFlags := 25, slot := 13, constantValue := 0 }, { name := "T_DOUBLE", type := .int, accessFlags := 25, slot := 14, constantValue := 0 }, { name := "T_BYTE", type := .int, accessFlags := 25, slot := 15, constantValue := 0 }, { name := "T_SHORT", type := .int, accessFlags := 25, slot := 16, constantValue := 0 }, { name := "T_INT", type := .int, accessFlags := 25, slot := 17, constantValue := 0 }, { name := "T_LONG", type := .int, accessFlags := 25, slot := 18, constantValue := 0 }, { name := "JLA", type := (.object "jdk/internal/access/JavaLangAccess"), accessFlags := 26, slot := 19, constantValue := 0 }, { name := "SOFT_MAX_ARRAY_LENGTH", type := .int, accessFlags := 25, slot := 20, constantValue := 0 }]
  methods := #[k31m0]
  instanceTypes := #[]
  staticTypes := #[(.object "jdk/internal/misc/Unsafe"), .boolean, .int, .int, .int, .int, .int, .int, .int, .int, .int, .int, .int, .int, .int, .int, .int, .int, .int, (.object "jdk/internal/access/JavaLangAccess"), .int]
  resolved := Array.replicate 378 none
  statics := none }

/-- the primitive byte -/
def k32 : Class := { plain "byte" none with kind := .primitive 'B', accessFlags := 0x411 }
/-- [B -/
def k33 : Class := { plain "[B" (some 0) with kind := .array 32 .byte, interfaces := #[16, 2], accessFlags := 1041 }

/-- the primitive char -/
def k34 : Class := { plain "char" none with kind := .primitive 'C', accessFlags := 0x411 }
/-- [C -/
def k35 : Class := { plain "[C" (some 0) with kind := .array 34 .char, interfaces := #[16, 2], accessFlags := 1041 }

/-- the primitive int -/
def k36 : Class := { plain "int" none with kind := .primitive 'I', accessFlags := 0x411 }
/-- [I -/
def k37 : Class := { plain "[I" (some 0) with kind := .array 36 .int, interfaces := #[16, 2], accessFlags := 1041 }

/-- [Ljava/lang/Object; -/
def k38 : Class := { plain "[Ljava/lang/Object;" (some 0) with mirror := some 9, kind := .array 0 (.object "java/lang/Object"), interfaces := #[16, 2], accessFlags := 1041 }

def heap : Heap := #[{ cls := 7, slots := #[.long 0, .int 1, .null, .int 0, .null, .int 0, .int 0], vm := .statics 7 },
  { cls := 17, slots := #[.long 0, .int 0, .ref 6, .ref 7], vm := .statics 17 },
  { cls := 22, slots := #[.long 0, .int 0, .null, .ref 8, .ref 5, .null, .null, .null, .int 0, .int 1], vm := .statics 22 },
  { cls := 30, slots := #[.null, .null, .null], vm := .statics 30 },
  { cls := 38, slots := #[], vm := .none },
  { cls := 26, slots := #[.ref 4, .int 0], vm := .none },
  { cls := 38, slots := #[], vm := .none },
  { cls := 38, slots := #[], vm := .none },
  { cls := 0, slots := #[], vm := .none },
  { cls := 0, slots := #[], vm := .mirror 38 }]
def classes : Array Class := #[k0, k1, k2, k3, k4, k5, k6, k7, k8, k9, k10, k11, k12, k13, k14, k15, k16, k17, k18, k19, k20, k21, k22, k23, k24, k25, k26, k27, k28, k29, k30, k31, k32, k33, k34, k35, k36, k37, k38]
def interned : List (Array UInt16 × Addr) := []
def slotsUsed : Nat := 26
def theMethod : MethodId := ⟨1, 2⟩
def args0 : Array Value := #[.int 3, .int 4, .int 5, .int 6, .int 7, .int 8]
def aboutOver (below : List Frame) : State where
  vm := { classes := classes, interned := interned.toArray }
  heap := heap
  slotsUsed := slotsUsed
  threads := #[{ frames := .invoking theMethod args0 :: below }]
def below0 : List Frame := [.native { method := ⟨0, 0⟩, args := #[] }]
def about1 : State := aboutOver below0
def p0 : Program := .bare "" "" ""
def e0 : Env := launch0.env 0 0 0
theorem w_frames : about1.frames = Frame.invoking theMethod args0 :: below0 := rfl
set_option maxRecDepth 65536 in
theorem w_args : argsFit about1.vm theMethod args0 = true := by decide +kernel
set_option maxRecDepth 65536 in
theorem w_heap : heapFits about1 = true := by decide +kernel
set_option maxRecDepth 65536 in
theorem w_runnable : about1.curStatus? = some .runnable := by decide +kernel
set_option maxRecDepth 65536 in
theorem w_alone : about1.alone = true := by decide +kernel
set_option maxRecDepth 65536 in
theorem w_named : about1.methodNamed? x = some theMethod := by decide +kernel
set_option maxRecDepth 65536 in
theorem w_hears : about1.hears theMethod below0 = true := by decide +kernel
set_option maxRecDepth 65536 in
theorem w_ripe : about1.ripe theMethod args0 below0 = true := by decide +kernel
theorem w_running : about1.status = .running := rfl
set_option maxRecDepth 65536 in
theorem w_room : about1.hasRoom e0.platform room_1 = true :=
  launch0.hasRoom_least _ room_1 (by decide +kernel) (by decide +kernel) (by decide +kernel) (by decide +kernel) (by decide +kernel) (by decide +kernel)
theorem allAtoms_all (ts : List Jvm.Cond) (a : Array Jvm.Value) (st : Jvm.State) : (allAtoms ts).before a st = ts.all (fun c => c.before a st) := by
  induction ts with
  | nil => rfl
  | cons c t ih =>
    show (Jvm.Cond.and c (allAtoms t)).before a st = _
    rw [Jvm.Cond.before_and, ih, List.all_cons]
def words1 : List Jvm.Cond := Jvm.Cond.code x code maxLocals ret :: tables_1
/-- a 'code' word, met by the world's own term for the bytes: nothing is compared byte by byte -/
theorem code_word {y : MethodName} {bytes : ByteArray} {mx : Nat} {rt : Option FieldType} {a : Array Value} {s : State} {m : MethodId} {meth : Method} {c : Code} (h1 : s.methodNamed? y = some m) (h2 : s.vm.method? m = some meth) (h3 : meth.code = some c) (h4 : c.code = bytes)
    (h5 : (c.maxLocals == mx && c.exceptionTable.isEmpty && decide (c.maxStack ≤ mostOperands) && decide (meth.sig.returnType = rt) && !meth.locks && decide (parseMethodDescriptor y.desc = some meth.sig)) = true) : (Jvm.Cond.code y bytes mx rt).before a s = true := by
  simp only [Bool.and_eq_true, beq_iff_eq, Bool.not_eq_true', decide_eq_true_eq] at h5
  obtain ⟨⟨⟨⟨⟨g1, g2⟩, g3⟩, g4⟩, g5⟩, g6⟩ := h5
  simp [Cond.before, Cond.holds, Cond.value, h1, h2, h3, h4, g1, g2, g3, g4, g5, g6]
def isCode : Jvm.Cond → Bool
  | .code _ _ _ _ => true
  | _ => false
theorem all_split {L : List Jvm.Cond} {P : Jvm.Cond → Bool} (h1 : L.all (fun c => isCode c || P c) = true) (h2 : ∀ c ∈ L.filter isCode, P c = true) : L.all P = true := by
  refine List.all_eq_true.mpr fun c hc => ?_
  have h := List.all_eq_true.mp h1 c hc
  rcases Bool.eq_false_or_eq_true (isCode c) with hi | hi
  · exact h2 c (List.mem_filter.mpr ⟨hc, hi⟩)
  · simpa [hi] using h
set_option maxRecDepth 65536 in
theorem w_c0 : (Jvm.Cond.code x code maxLocals ret).before args0 about1 = true := code_word (m := ⟨1, 2⟩) (meth := k1m2) (c := k1c2) (by decide +kernel) rfl rfl rfl (by decide +kernel)
set_option maxRecDepth 65536 in
theorem w_c1 : (Jvm.Cond.code ({ cls := "com/example/ibex/ibex/model/DimensionKeyPinLaw", name := "str", desc := "(I)Ljava/lang/String;" } : Jvm.MethodName) method_2_code (2 : Nat) (Option.some (Jvm.ClassFile.FieldType.object "java/lang/String"))).before args0 about1 = true := code_word (m := ⟨1, 1⟩) (meth := k1m1) (c := k1c1) (by decide +kernel) rfl rfl rfl (by decide +kernel)
set_option maxRecDepth 65536 in
theorem w_c2 : (Jvm.Cond.code ({ cls := "java/lang/String", name := "<init>", desc := "([C)V" } : Jvm.MethodName) jdk_42_method_3_code (2 : Nat) (Option.none : Option Jvm.ClassFile.FieldType)).before args0 about1 = true := code_word (m := ⟨7, 1⟩) (meth := k7m1) (c := k7c1) (by decide +kernel) rfl rfl rfl (by decide +kernel)
set_option maxRecDepth 65536 in
theorem w_c3 : (Jvm.Cond.code ({ cls := "java/lang/String", name := "<init>", desc := "([CIILjava/lang/Void;)V" } : Jvm.MethodName) jdk_42_method_149_code (6 : Nat) (Option.none : Option Jvm.ClassFile.FieldType)).before args0 about1 = true := code_word (m := ⟨7, 3⟩) (meth := k7m3) (c := k7c3) (by decide +kernel) rfl rfl rfl (by decide +kernel)
set_option maxRecDepth 65536 in
theorem w_c4 : (Jvm.Cond.code ({ cls := "java/lang/Object", name := "<init>", desc := "()V" } : Jvm.MethodName) object_method_1_code (1 : Nat) (Option.none : Option Jvm.ClassFile.FieldType)).before args0 about1 = true := code_word (m := ⟨0, 0⟩) (meth := k0m0) (c := k0c0) (by decide +kernel) rfl rfl rfl (by decide +kernel)
set_option maxRecDepth 65536 in
theorem w_c5 : (Jvm.Cond.code ({ cls := "java/lang/StringUTF16", name := "compress", desc := "([CII)[B" } : Jvm.MethodName) jdk_52_method_16_code (6 : Nat) (Option.some (Jvm.ClassFile.FieldType.array Jvm.ClassFile.FieldType.byte))).before args0 about1 = true := code_word (m := ⟨8, 2⟩) (meth := k8m2) (c := k8c2) (by decide +kernel) rfl rfl rfl (by decide +kernel)
set_option maxRecDepth 65536 in
theorem w_c6 : (Jvm.Cond.code ({ cls := "java/lang/StringUTF16", name := "compress", desc := "([CI[BII)I" } : Jvm.MethodName) jdk_52_method_21_code (7 : Nat) (Option.some Jvm.ClassFile.FieldType.int)).before args0 about1 = true := code_word (m := ⟨8, 3⟩) (meth := k8m3) (c := k8c3) (by decide +kernel) rfl rfl rfl (by decide +kernel)
set_option maxRecDepth 65536 in
theorem w_c7 : (Jvm.Cond.code ({ cls := "java/lang/StringUTF16", name := "coderFromArrayLen", desc := "([BI)B" } : Jvm.MethodName) jdk_52_method_15_code (2 : Nat) (Option.some Jvm.ClassFile.FieldType.byte)).before args0 about1 = true := code_word (m := ⟨8, 1⟩) (meth := k8m1) (c := k8c1) (by decide +kernel) rfl rfl rfl (by decide +kernel)
set_option maxRecDepth 65536 in
theorem w_c8 : (Jvm.Cond.code ({ cls := "java/util/ArrayList", name := "<init>", desc := "()V" } : Jvm.MethodName) jdk_38_method_2_code (1 : Nat) (Option.none : Option Jvm.ClassFile.FieldType)).before args0 about1 = true := code_word (m := ⟨17, 0⟩) (meth := k17m0) (c := k17c0) (by decide +kernel) rfl rfl rfl (by decide +kernel)
set_option maxRecDepth 65536 in
theorem w_c9 : (Jvm.Cond.code ({ cls := "java/util/AbstractList", name := "<init>", desc := "()V" } : Jvm.MethodName) jdk_39_method_1_code (1 : Nat) (Option.none : Option Jvm.ClassFile.FieldType)).before args0 about1 = true := code_word (m := ⟨14, 0⟩) (meth := k14m0) (c := k14c0) (by decide +kernel) rfl rfl rfl (by decide +kernel)
set_option maxRecDepth 65536 in
theorem w_c10 : (Jvm.Cond.code ({ cls := "java/util/AbstractCollection", name := "<init>", desc := "()V" } : Jvm.MethodName) jdk_22_method_1_code (1 : Nat) (Option.none : Option Jvm.ClassFile.FieldType)).before args0 about1 = true := code_word (m := ⟨11, 0⟩) (meth := k11m0) (c := k11c0) (by decide +kernel) rfl rfl rfl (by decide +kernel)
set_option maxRecDepth 65536 in
theorem w_c11 : (Jvm.Cond.code ({ cls := "java/util/ArrayList", name := "add", desc := "(Ljava/lang/Object;)Z" } : Jvm.MethodName) jdk_38_method_25_code (2 : Nat) (Option.some Jvm.ClassFile.FieldType.boolean)).before args0 about1 = true := code_word (m := ⟨17, 6⟩) (meth := k17m6) (c := k17c6) (by decide +kernel) rfl rfl rfl (by decide +kernel)
set_option maxRecDepth 65536 in
theorem w_c12 : (Jvm.Cond.code ({ cls := "java/util/ArrayList", name := "add", desc := "(Ljava/lang/Object;[Ljava/lang/Object;I)V" } : Jvm.MethodName) jdk_38_method_24_code (4 : Nat) (Option.none : Option Jvm.ClassFile.FieldType)).before args0 about1 = true := code_word (m := ⟨17, 5⟩) (meth := k17m5) (c := k17c5) (by decide +kernel) rfl rfl rfl (by decide +kernel)
set_option maxRecDepth 65536 in
theorem w_c13 : (Jvm.Cond.code ({ cls := "java/util/ArrayList", name := "grow", desc := "()[Ljava/lang/Object;" } : Jvm.MethodName) jdk_38_method_7_code (1 : Nat) (Option.some (Jvm.ClassFile.FieldType.array (Jvm.ClassFile.FieldType.object "java/lang/Object")))).before args0 about1 = true := code_word (m := ⟨17, 2⟩) (meth := k17m2) (c := k17c2) (by decide +kernel) rfl rfl rfl (by decide +kernel)
set_option maxRecDepth 65536 in
theorem w_c14 : (Jvm.Cond.code ({ cls := "java/util/ArrayList", name := "grow", desc := "(I)[Ljava/lang/Object;" } : Jvm.MethodName) jdk_38_method_6_code (4 : Nat) (Option.some (Jvm.ClassFile.FieldType.array (Jvm.ClassFile.FieldType.object "java/lang/Object")))).before args0 about1 = true := code_word (m := ⟨17, 1⟩) (meth := k17m1) (c := k17c1) (by decide +kernel) rfl rfl rfl (by decide +kernel)
set_option maxRecDepth 65536 in
theorem w_c15 : (Jvm.Cond.code ({ cls := "java/lang/Math", name := "max", desc := "(II)I" } : Jvm.MethodName) jdk_29_method_65_code (2 : Nat) (Option.some Jvm.ClassFile.FieldType.int)).before args0 about1 = true := code_word (m := ⟨18, 1⟩) (meth := k18m1) (c := k18c1) (by decide +kernel) rfl rfl rfl (by decide +kernel)
set_option maxRecDepth 65536 in
theorem w_c16 : (Jvm.Cond.code ({ cls := "com/example/ibex/ibex/model/Dimension", name := "<init>", desc := "(Ljava/lang/String;Ljava/lang/String;Ljava/lang/String;Ljava/util/List;Ljava/util/List;)V" } : Jvm.MethodName) prog_71_method_1_code (6 : Nat) (Option.none : Option Jvm.ClassFile.FieldType)).before args0 about1 = true := code_word (m := ⟨20, 0⟩) (meth := k20m0) (c := k20c0) (by decide +kernel) rfl rfl rfl (by decide +kernel)
set_option maxRecDepth 65536 in
theorem w_c17 : (Jvm.Cond.code ({ cls := "java/lang/Record", name := "<init>", desc := "()V" } : Jvm.MethodName) jdk_30_method_1_code (1 : Nat) (Option.none : Option Jvm.ClassFile.FieldType)).before args0 about1 = true := code_word (m := ⟨19, 0⟩) (meth := k19m0) (c := k19c0) (by decide +kernel) rfl rfl rfl (by decide +kernel)
set_option maxRecDepth 65536 in
theorem w_c18 : (Jvm.Cond.code ({ cls := "java/util/Objects", name := "requireNonNull", desc := "(Ljava/lang/Object;Ljava/lang/String;)Ljava/lang/Object;" } : Jvm.MethodName) jdk_31_method_11_code (2 : Nat) (Option.some (Jvm.ClassFile.FieldType.object "java/lang/Object"))).before args0 about1 = true := code_word (m := ⟨21, 2⟩) (meth := k21m2) (c := k21c2) (by decide +kernel) rfl rfl rfl (by decide +kernel)
set_option maxRecDepth 65536 in
theorem w_c19 : (Jvm.Cond.code ({ cls := "java/util/List", name := "copyOf", desc := "(Ljava/util/Collection;)Ljava/util/List;" } : Jvm.MethodName) jdk_40_method_48_code (1 : Nat) (Option.some (Jvm.ClassFile.FieldType.object "java/util/List"))).before args0 about1 = true := code_word (m := ⟨13, 4⟩) (meth := k13m4) (c := k13c4) (by decide +kernel) rfl rfl rfl (by decide +kernel)
set_option maxRecDepth 65536 in
theorem w_c20 : (Jvm.Cond.code ({ cls := "java/util/ImmutableCollections", name := "listCopy", desc := "(Ljava/util/Collection;)Ljava/util/List;" } : Jvm.MethodName) jdk_56_method_3_code (2 : Nat) (Option.some (Jvm.ClassFile.FieldType.object "java/util/List"))).before args0 about1 = true := code_word (m := ⟨22, 1⟩) (meth := k22m1) (c := k22c1) (by decide +kernel) rfl rfl rfl (by decide +kernel)
set_option maxRecDepth 65536 in
theorem w_c21 : (Jvm.Cond.code ({ cls := "java/util/ArrayList", name := "isEmpty", desc := "()Z" } : Jvm.MethodName) jdk_38_method_9_code (1 : Nat) (Option.some Jvm.ClassFile.FieldType.boolean)).before args0 about1 = true := code_word (m := ⟨17, 3⟩) (meth := k17m3) (c := k17c3) (by decide +kernel) rfl rfl rfl (by decide +kernel)
set_option maxRecDepth 65536 in
theorem w_c22 : (Jvm.Cond.code ({ cls := "java/util/ArrayList", name := "toArray", desc := "()[Ljava/lang/Object;" } : Jvm.MethodName) jdk_38_method_16_code (1 : Nat) (Option.some (Jvm.ClassFile.FieldType.array (Jvm.ClassFile.FieldType.object "java/lang/Object")))).before args0 about1 = true := code_word (m := ⟨17, 4⟩) (meth := k17m4) (c := k17c4) (by decide +kernel) rfl rfl rfl (by decide +kernel)
set_option maxRecDepth 65536 in
theorem w_c23 : (Jvm.Cond.code ({ cls := "java/util/Arrays", name := "copyOf", desc := "([Ljava/lang/Object;I)[Ljava/lang/Object;" } : Jvm.MethodName) jdk_65_method_119_code (2 : Nat) (Option.some (Jvm.ClassFile.FieldType.array (Jvm.ClassFile.FieldType.object "java/lang/Object")))).before args0 about1 = true := code_word (m := ⟨27, 1⟩) (meth := k27m1) (c := k27c1) (by decide +kernel) rfl rfl rfl (by decide +kernel)
set_option maxRecDepth 65536 in
theorem w_c24 : (Jvm.Cond.code ({ cls := "java/util/Arrays", name := "copyOf", desc := "([Ljava/lang/Object;ILjava/lang/Class;)[Ljava/lang/Object;" } : Jvm.MethodName) jdk_65_method_120_code (4 : Nat) (Option.some (Jvm.ClassFile.FieldType.array (Jvm.ClassFile.FieldType.object "java/lang/Object")))).before args0 about1 = true := code_word (m := ⟨27, 2⟩) (meth := k27m2) (c := k27c2) (by decide +kernel) rfl rfl rfl (by decide +kernel)
set_option maxRecDepth 65536 in
theorem w_c25 : (Jvm.Cond.code ({ cls := "java/lang/Math", name := "min", desc := "(II)I" } : Jvm.MethodName) jdk_29_method_69_code (2 : Nat) (Option.some Jvm.ClassFile.FieldType.int)).before args0 about1 = true := code_word (m := ⟨18, 2⟩) (meth := k18m2) (c := k18c2) (by decide +kernel) rfl rfl rfl (by decide +kernel)
set_option maxRecDepth 65536 in
theorem w_c26 : (Jvm.Cond.code ({ cls := "java/util/List", name := "of", desc := "([Ljava/lang/Object;)Ljava/util/List;" } : Jvm.MethodName) jdk_40_method_47_code (2 : Nat) (Option.some (Jvm.ClassFile.FieldType.object "java/util/List"))).before args0 about1 = true := code_word (m := ⟨13, 3⟩) (meth := k13m3) (c := k13c3) (by decide +kernel) rfl rfl rfl (by decide +kernel)
set_option maxRecDepth 65536 in
theorem w_c27 : (Jvm.Cond.code ({ cls := "java/util/ImmutableCollections$List12", name := "<init>", desc := "(Ljava/lang/Object;)V" } : Jvm.MethodName) jdk_44_method_1_code (2 : Nat) (Option.none : Option Jvm.ClassFile.FieldType)).before args0 about1 = true := code_word (m := ⟨25, 0⟩) (meth := k25m0) (c := k25c0) (by decide +kernel) rfl rfl rfl (by decide +kernel)
set_option maxRecDepth 65536 in
theorem w_c28 : (Jvm.Cond.code ({ cls := "java/util/ImmutableCollections$AbstractImmutableList", name := "<init>", desc := "()V" } : Jvm.MethodName) jdk_46_method_1_code (1 : Nat) (Option.none : Option Jvm.ClassFile.FieldType)).before args0 about1 = true := code_word (m := ⟨24, 0⟩) (meth := k24m0) (c := k24c0) (by decide +kernel) rfl rfl rfl (by decide +kernel)
set_option maxRecDepth 65536 in
theorem w_c29 : (Jvm.Cond.code ({ cls := "java/util/ImmutableCollections$AbstractImmutableCollection", name := "<init>", desc := "()V" } : Jvm.MethodName) jdk_47_method_1_code (1 : Nat) (Option.none : Option Jvm.ClassFile.FieldType)).before args0 about1 = true := code_word (m := ⟨23, 0⟩) (meth := k23m0) (c := k23c0) (by decide +kernel) rfl rfl rfl (by decide +kernel)
set_option maxRecDepth 65536 in
theorem w_c30 : (Jvm.Cond.code ({ cls := "java/util/Objects", name := "requireNonNull", desc := "(Ljava/lang/Object;)Ljava/lang/Object;" } : Jvm.MethodName) jdk_31_method_10_code (1 : Nat) (Option.some (Jvm.ClassFile.FieldType.object "java/lang/Object"))).before args0 about1 = true := code_word (m := ⟨21, 1⟩) (meth := k21m1) (c := k21c1) (by decide +kernel) rfl rfl rfl (by decide +kernel)
set_option maxRecDepth 65536 in
theorem w_c31 : (Jvm.Cond.code ({ cls := "java/util/List", name := "of", desc := "()Ljava/util/List;" } : Jvm.MethodName) jdk_40_method_36_code (0 : Nat) (Option.some (Jvm.ClassFile.FieldType.object "java/util/List"))).before args0 about1 = true := code_word (m := ⟨13, 2⟩) (meth := k13m2) (c := k13c2) (by decide +kernel) rfl rfl rfl (by decide +kernel)
set_option maxRecDepth 65536 in
theorem w_c32 : (Jvm.Cond.code ({ cls := "java/util/ImmutableCollections$List12", name := "isEmpty", desc := "()Z" } : Jvm.MethodName) jdk_44_method_4_code (1 : Nat) (Option.some Jvm.ClassFile.FieldType.boolean)).before args0 about1 = true := code_word (m := ⟨25, 2⟩) (meth := k25m2) (c := k25c2) (by decide +kernel) rfl rfl rfl (by decide +kernel)
set_option maxRecDepth 65536 in
theorem w_c33 : (Jvm.Cond.code ({ cls := "com/example/ibex/ibex/model/Dimension", name := "key", desc := "()Ljava/lang/String;" } : Jvm.MethodName) prog_71_method_2_code (1 : Nat) (Option.some (Jvm.ClassFile.FieldType.object "java/lang/String"))).before args0 about1 = true := code_word (m := ⟨20, 1⟩) (meth := k20m1) (c := k20c1) (by decide +kernel) rfl rfl rfl (by decide +kernel)
set_option maxRecDepth 65536 in
theorem w_c34 : (Jvm.Cond.code ({ cls := "java/util/ImmutableCollections$List12", name := "get", desc := "(I)Ljava/lang/Object;" } : Jvm.MethodName) jdk_44_method_5_code (2 : Nat) (Option.some (Jvm.ClassFile.FieldType.object "java/lang/Object"))).before args0 about1 = true := code_word (m := ⟨25, 3⟩) (meth := k25m3) (c := k25c3) (by decide +kernel) rfl rfl rfl (by decide +kernel)
set_option maxRecDepth 65536 in
theorem w_c35 : (Jvm.Cond.code ({ cls := "java/lang/String", name := "equals", desc := "(Ljava/lang/Object;)Z" } : Jvm.MethodName) jdk_42_method_66_code (3 : Nat) (Option.some Jvm.ClassFile.FieldType.boolean)).before args0 about1 = true := code_word (m := ⟨7, 2⟩) (meth := k7m2) (c := k7c2) (by decide +kernel) rfl rfl rfl (by decide +kernel)
set_option maxRecDepth 65536 in
theorem w_c36 : (Jvm.Cond.code ({ cls := "java/util/ImmutableCollections", name := "listFromArray", desc := "([Ljava/lang/Object;)Ljava/util/List;" } : Jvm.MethodName) jdk_56_method_4_code (3 : Nat) (Option.some (Jvm.ClassFile.FieldType.object "java/util/List"))).before args0 about1 = true := code_word (m := ⟨22, 2⟩) (meth := k22m2) (c := k22c2) (by decide +kernel) rfl rfl rfl (by decide +kernel)
set_option maxRecDepth 65536 in
theorem w_c37 : (Jvm.Cond.code ({ cls := "java/util/ImmutableCollections$ListN", name := "<init>", desc := "([Ljava/lang/Object;Z)V" } : Jvm.MethodName) jdk_45_method_1_code (3 : Nat) (Option.none : Option Jvm.ClassFile.FieldType)).before args0 about1 = true := code_word (m := ⟨26, 0⟩) (meth := k26m0) (c := k26c0) (by decide +kernel) rfl rfl rfl (by decide +kernel)
set_option maxRecDepth 65536 in
theorem w_c38 : (Jvm.Cond.code ({ cls := "java/util/ImmutableCollections$ListN", name := "isEmpty", desc := "()Z" } : Jvm.MethodName) jdk_45_method_2_code (1 : Nat) (Option.some Jvm.ClassFile.FieldType.boolean)).before args0 about1 = true := code_word (m := ⟨26, 1⟩) (meth := k26m1) (c := k26c1) (by decide +kernel) rfl rfl rfl (by decide +kernel)
set_option maxRecDepth 65536 in
theorem w_c39 : (Jvm.Cond.code ({ cls := "java/util/ImmutableCollections$ListN", name := "get", desc := "(I)Ljava/lang/Object;" } : Jvm.MethodName) jdk_45_method_4_code (2 : Nat) (Option.some (Jvm.ClassFile.FieldType.object "java/lang/Object"))).before args0 about1 = true := code_word (m := ⟨26, 2⟩) (meth := k26m2) (c := k26c2) (by decide +kernel) rfl rfl rfl (by decide +kernel)
set_option maxRecDepth 65536 in
theorem w_c40 : (Jvm.Cond.code ({ cls := "java/util/ImmutableCollections$List12", name := "<init>", desc := "(Ljava/lang/Object;Ljava/lang/Object;)V" } : Jvm.MethodName) jdk_44_method_2_code (3 : Nat) (Option.none : Option Jvm.ClassFile.FieldType)).before args0 about1 = true := code_word (m := ⟨25, 1⟩) (meth := k25m1) (c := k25c1) (by decide +kernel) rfl rfl rfl (by decide +kernel)
def codes1 : List Jvm.Cond := [Jvm.Cond.code x code maxLocals ret, Jvm.Cond.code ({ cls := "com/example/ibex/ibex/model/DimensionKeyPinLaw", name := "str", desc := "(I)Ljava/lang/String;" } : Jvm.MethodName) method_2_code (2 : Nat) (Option.some (Jvm.ClassFile.FieldType.object "java/lang/String")), Jvm.Cond.code ({ cls := "java/lang/String", name := "<init>", desc := "([C)V" } : Jvm.MethodName) jdk_42_method_3_code (2 : Nat) (Option.none : Option Jvm.ClassFile.FieldType), Jvm.Cond.code ({ cls := "java/lang/String", name := "<init>", desc := "([CIILjava/lang/Void;)V" } : Jvm.MethodName) jdk_42_method_149_code (6 : Nat) (Option.none : Option Jvm.ClassFile.FieldType), Jvm.Cond.code ({ cls := "java/lang/Object", name := "<init>", desc := "()V" } : Jvm.MethodName) object_method_1_code (1 : Nat) (Option.none : Option Jvm.ClassFile.FieldType), Jvm.Cond.code ({ cls := "java/lang/StringUTF16", name := "compress", desc := "([CII)[B" } : Jvm.MethodName) jdk_52_method_16_code (6 : Nat) (Option.some (Jvm.ClassFile.FieldType.array Jvm.ClassFile.FieldType.byte)), Jvm.Cond.code ({ cls := "java/lang/StringUTF16", name := "compress", desc := "([CI[BII)I" } : Jvm.MethodName) jdk_52_method_21_code (7 : Nat) (Option.some Jvm.ClassFile.FieldType.int), Jvm.Cond.code ({ cls := "java/lang/StringUTF16", name := "coderFromArrayLen", desc := "([BI)B" } : Jvm.MethodName) jdk_52_method_15_code (2 : Nat) (Option.some Jvm.ClassFile.FieldType.byte), Jvm.Cond.code ({ cls := "java/util/ArrayList", name := "<init>", desc := "()V" } : Jvm.MethodName) jdk_38_method_2_code (1 : Nat) (Option.none : Option Jvm.ClassFile.FieldType), Jvm.Cond.code ({ cls := "java/util/AbstractList", name := "<init>", desc := "()V" } : Jvm.MethodName) jdk_39_method_1_code (1 : Nat) (Option.none : Option Jvm.ClassFile.FieldType), Jvm.Cond.code ({ cls := "java/util/AbstractCollection", name := "<init>", desc := "()V" } : Jvm.MethodName) jdk_22_method_1_code (1 : Nat) (Option.none : Option Jvm.ClassFile.FieldType), Jvm.Cond.code ({ cls := "java/util/ArrayList", name := "add", desc := "(Ljava/lang/Object;)Z" } : Jvm.MethodName) jdk_38_method_25_code (2 : Nat) (Option.some Jvm.ClassFile.FieldType.boolean), Jvm.Cond.code ({ cls := "java/util/ArrayList", name := "add", desc := "(Ljava/lang/Object;[Ljava/lang/Object;I)V" } : Jvm.MethodName) jdk_38_method_24_code (4 : Nat) (Option.none : Option Jvm.ClassFile.FieldType), Jvm.Cond.code ({ cls := "java/util/ArrayList", name := "grow", desc := "()[Ljava/lang/Object;" } : Jvm.MethodName) jdk_38_method_7_code (1 : Nat) (Option.some (Jvm.ClassFile.FieldType.array (Jvm.ClassFile.FieldType.object "java/lang/Object"))), Jvm.Cond.code ({ cls := "java/util/ArrayList", name := "grow", desc := "(I)[Ljava/lang/Object;" } : Jvm.MethodName) jdk_38_method_6_code (4 : Nat) (Option.some (Jvm.ClassFile.FieldType.array (Jvm.ClassFile.FieldType.object "java/lang/Object"))), Jvm.Cond.code ({ cls := "java/lang/Math", name := "max", desc := "(II)I" } : Jvm.MethodName) jdk_29_method_65_code (2 : Nat) (Option.some Jvm.ClassFile.FieldType.int), Jvm.Cond.code ({ cls := "com/example/ibex/ibex/model/Dimension", name := "<init>", desc := "(Ljava/lang/String;Ljava/lang/String;Ljava/lang/String;Ljava/util/List;Ljava/util/List;)V" } : Jvm.MethodName) prog_71_method_1_code (6 : Nat) (Option.none : Option Jvm.ClassFile.FieldType), Jvm.Cond.code ({ cls := "java/lang/Record", name := "<init>", desc := "()V" } : Jvm.MethodName) jdk_30_method_1_code (1 : Nat) (Option.none : Option Jvm.ClassFile.FieldType), Jvm.Cond.code ({ cls := "java/util/Objects", name := "requireNonNull", desc := "(Ljava/lang/Object;Ljava/lang/String;)Ljava/lang/Object;" } : Jvm.MethodName) jdk_31_method_11_code (2 : Nat) (Option.some (Jvm.ClassFile.FieldType.object "java/lang/Object")), Jvm.Cond.code ({ cls := "java/util/List", name := "copyOf", desc := "(Ljava/util/Collection;)Ljava/util/List;" } : Jvm.MethodName) jdk_40_method_48_code (1 : Nat) (Option.some (Jvm.ClassFile.FieldType.object "java/util/List")), Jvm.Cond.code ({ cls := "java/util/ImmutableCollections", name := "listCopy", desc := "(Ljava/util/Collection;)Ljava/util/List;" } : Jvm.MethodName) jdk_56_method_3_code (2 : Nat) (Option.some (Jvm.ClassFile.FieldType.object "java/util/List")), Jvm.Cond.code ({ cls := "java/util/ArrayList", name := "isEmpty", desc := "()Z" } : Jvm.MethodName) jdk_38_method_9_code (1 : Nat) (Option.some Jvm.ClassFile.FieldType.boolean), Jvm.Cond.code ({ cls := "java/util/ArrayList", name := "toArray", desc := "()[Ljava/lang/Object;" } : Jvm.MethodName) jdk_38_method_16_code (1 : Nat) (Option.some (Jvm.ClassFile.FieldType.array (Jvm.ClassFile.FieldType.object "java/lang/Object"))), Jvm.Cond.code ({ cls := "java/util/Arrays", name := "copyOf", desc := "([Ljava/lang/Object;I)[Ljava/lang/Object;" } : Jvm.MethodName) jdk_65_method_119_code (2 : Nat) (Option.some (Jvm.ClassFile.FieldType.array (Jvm.ClassFile.FieldType.object "java/lang/Object"))), Jvm.Cond.code ({ cls := "java/util/Arrays", name := "copyOf", desc := "([Ljava/lang/Object;ILjava/lang/Class;)[Ljava/lang/Object;" } : Jvm.MethodName) jdk_65_method_120_code (4 : Nat) (Option.some (Jvm.ClassFile.FieldType.array (Jvm.ClassFile.FieldType.object "java/lang/Object"))), Jvm.Cond.code ({ cls := "java/lang/Math", name := "min", desc := "(II)I" } : Jvm.MethodName) jdk_29_method_69_code (2 : Nat) (Option.some Jvm.ClassFile.FieldType.int), Jvm.Cond.code ({ cls := "java/util/List", name := "of", desc := "([Ljava/lang/Object;)Ljava/util/List;" } : Jvm.MethodName) jdk_40_method_47_code (2 : Nat) (Option.some (Jvm.ClassFile.FieldType.object "java/util/List")), Jvm.Cond.code ({ cls := "java/util/ImmutableCollections$List12", name := "<init>", desc := "(Ljava/lang/Object;)V" } : Jvm.MethodName) jdk_44_method_1_code (2 : Nat) (Option.none : Option Jvm.ClassFile.FieldType), Jvm.Cond.code ({ cls := "java/util/ImmutableCollections$AbstractImmutableList", name := "<init>", desc := "()V" } : Jvm.MethodName) jdk_46_method_1_code (1 : Nat) (Option.none : Option Jvm.ClassFile.FieldType), Jvm.Cond.code ({ cls := "java/util/ImmutableCollections$AbstractImmutableCollection", name := "<init>", desc := "()V" } : Jvm.MethodName) jdk_47_method_1_code (1 : Nat) (Option.none : Option Jvm.ClassFile.FieldType), Jvm.Cond.code ({ cls := "java/util/Objects", name := "requireNonNull", desc := "(Ljava/lang/Object;)Ljava/lang/Object;" } : Jvm.MethodName) jdk_31_method_10_code (1 : Nat) (Option.some (Jvm.ClassFile.FieldType.object "java/lang/Object")), Jvm.Cond.code ({ cls := "java/util/List", name := "of", desc := "()Ljava/util/List;" } : Jvm.MethodName) jdk_40_method_36_code (0 : Nat) (Option.some (Jvm.ClassFile.FieldType.object "java/util/List")), Jvm.Cond.code ({ cls := "java/util/ImmutableCollections$List12", name := "isEmpty", desc := "()Z" } : Jvm.MethodName) jdk_44_method_4_code (1 : Nat) (Option.some Jvm.ClassFile.FieldType.boolean), Jvm.Cond.code ({ cls := "com/example/ibex/ibex/model/Dimension", name := "key", desc := "()Ljava/lang/String;" } : Jvm.MethodName) prog_71_method_2_code (1 : Nat) (Option.some (Jvm.ClassFile.FieldType.object "java/lang/String")), Jvm.Cond.code ({ cls := "java/util/ImmutableCollections$List12", name := "get", desc := "(I)Ljava/lang/Object;" } : Jvm.MethodName) jdk_44_method_5_code (2 : Nat) (Option.some (Jvm.ClassFile.FieldType.object "java/lang/Object")), Jvm.Cond.code ({ cls := "java/lang/String", name := "equals", desc := "(Ljava/lang/Object;)Z" } : Jvm.MethodName) jdk_42_method_66_code (3 : Nat) (Option.some Jvm.ClassFile.FieldType.boolean), Jvm.Cond.code ({ cls := "java/util/ImmutableCollections", name := "listFromArray", desc := "([Ljava/lang/Object;)Ljava/util/List;" } : Jvm.MethodName) jdk_56_method_4_code (3 : Nat) (Option.some (Jvm.ClassFile.FieldType.object "java/util/List")), Jvm.Cond.code ({ cls := "java/util/ImmutableCollections$ListN", name := "<init>", desc := "([Ljava/lang/Object;Z)V" } : Jvm.MethodName) jdk_45_method_1_code (3 : Nat) (Option.none : Option Jvm.ClassFile.FieldType), Jvm.Cond.code ({ cls := "java/util/ImmutableCollections$ListN", name := "isEmpty", desc := "()Z" } : Jvm.MethodName) jdk_45_method_2_code (1 : Nat) (Option.some Jvm.ClassFile.FieldType.boolean), Jvm.Cond.code ({ cls := "java/util/ImmutableCollections$ListN", name := "get", desc := "(I)Ljava/lang/Object;" } : Jvm.MethodName) jdk_45_method_4_code (2 : Nat) (Option.some (Jvm.ClassFile.FieldType.object "java/lang/Object")), Jvm.Cond.code ({ cls := "java/util/ImmutableCollections$List12", name := "<init>", desc := "(Ljava/lang/Object;Ljava/lang/Object;)V" } : Jvm.MethodName) jdk_44_method_2_code (3 : Nat) (Option.none : Option Jvm.ClassFile.FieldType)]
set_option maxRecDepth 65536 in
theorem codes_eq : words1.filter isCode = codes1 := rfl
theorem w_codes : ∀ c ∈ words1.filter isCode, c.before args0 about1 = true := by
  rw [codes_eq]
  intro c hc
  simp only [codes1, List.mem_cons, List.not_mem_nil, or_false] at hc
  rcases hc with rfl | rfl | rfl | rfl | rfl | rfl | rfl | rfl | rfl | rfl | rfl | rfl | rfl | rfl | rfl | rfl | rfl | rfl | rfl | rfl | rfl | rfl | rfl | rfl | rfl | rfl | rfl | rfl | rfl | rfl | rfl | rfl | rfl | rfl | rfl | rfl | rfl | rfl | rfl | rfl | rfl
  · exact w_c0
  · exact w_c1
  · exact w_c2
  · exact w_c3
  · exact w_c4
  · exact w_c5
  · exact w_c6
  · exact w_c7
  · exact w_c8
  · exact w_c9
  · exact w_c10
  · exact w_c11
  · exact w_c12
  · exact w_c13
  · exact w_c14
  · exact w_c15
  · exact w_c16
  · exact w_c17
  · exact w_c18
  · exact w_c19
  · exact w_c20
  · exact w_c21
  · exact w_c22
  · exact w_c23
  · exact w_c24
  · exact w_c25
  · exact w_c26
  · exact w_c27
  · exact w_c28
  · exact w_c29
  · exact w_c30
  · exact w_c31
  · exact w_c32
  · exact w_c33
  · exact w_c34
  · exact w_c35
  · exact w_c36
  · exact w_c37
  · exact w_c38
  · exact w_c39
  · exact w_c40
set_option maxRecDepth 65536 in
theorem w_t1 : (words1.take 24).all (fun c => isCode c || c.before args0 about1) = true := by decide +kernel
set_option maxRecDepth 65536 in
theorem w_t2 : ((words1.drop 24).take 24).all (fun c => isCode c || c.before args0 about1) = true := by decide +kernel
set_option maxRecDepth 65536 in
theorem w_t3 : (((words1.drop 24).drop 24).take 24).all (fun c => isCode c || c.before args0 about1) = true := by decide +kernel
set_option maxRecDepth 65536 in
theorem w_t4 : ((((words1.drop 24).drop 24).drop 24).take 24).all (fun c => isCode c || c.before args0 about1) = true := by decide +kernel
set_option maxRecDepth 65536 in
theorem w_t5 : (((((words1.drop 24).drop 24).drop 24).drop 24).take 24).all (fun c => isCode c || c.before args0 about1) = true := by decide +kernel
set_option maxRecDepth 65536 in
theorem w_t6 : ((((((words1.drop 24).drop 24).drop 24).drop 24).drop 24).take 24).all (fun c => isCode c || c.before args0 about1) = true := by decide +kernel
set_option maxRecDepth 65536 in
theorem w_t7 : (((((((words1.drop 24).drop 24).drop 24).drop 24).drop 24).drop 24).take 24).all (fun c => isCode c || c.before args0 about1) = true := by decide +kernel
set_option maxRecDepth 65536 in
theorem w_t8 : ((((((((words1.drop 24).drop 24).drop 24).drop 24).drop 24).drop 24).drop 24).take 24).all (fun c => isCode c || c.before args0 about1) = true := by decide +kernel
set_option maxRecDepth 65536 in
theorem w_t9 : (((((((((words1.drop 24).drop 24).drop 24).drop 24).drop 24).drop 24).drop 24).drop 24).take 24).all (fun c => isCode c || c.before args0 about1) = true := by decide +kernel
set_option maxRecDepth 65536 in
theorem w_t10 : ((((((((((words1.drop 24).drop 24).drop 24).drop 24).drop 24).drop 24).drop 24).drop 24).drop 24).take 24).all (fun c => isCode c || c.before args0 about1) = true := by decide +kernel
set_option maxRecDepth 65536 in
theorem w_t11 : (((((((((((words1.drop 24).drop 24).drop 24).drop 24).drop 24).drop 24).drop 24).drop 24).drop 24).drop 24).take 24).all (fun c => isCode c || c.before args0 about1) = true := by decide +kernel
set_option maxRecDepth 65536 in
theorem w_t12 : (((((((((((words1.drop 24).drop 24).drop 24).drop 24).drop 24).drop 24).drop 24).drop 24).drop 24).drop 24).drop 24).all (fun c => isCode c || c.before args0 about1) = true := by decide +kernel
theorem w_tables : (allAtoms (Jvm.Cond.code x code maxLocals ret :: tables_1)).before args0 about1 = true := by
  rw [allAtoms_all]
  show words1.all (fun c => c.before args0 about1) = true
  refine all_split ?_ w_codes
  rw [← List.take_append_drop 24 words1, List.all_append, w_t1, ← List.take_append_drop 24 (words1.drop 24), List.all_append, w_t2, ← List.take_append_drop 24 ((words1.drop 24).drop 24), List.all_append, w_t3, ← List.take_append_drop 24 (((words1.drop 24).drop 24).drop 24), List.all_append, w_t4, ← List.take_append_drop 24 ((((words1.drop 24).drop 24).drop 24).drop 24), List.all_append, w_t5, ← List.take_append_drop 24 (((((words1.drop 24).drop 24).drop 24).drop 24).drop 24), List.all_append, w_t6, ← List.take_append_drop 24 ((((((words1.drop 24).drop 24).drop 24).drop 24).drop 24).drop 24), List.all_append, w_t7, ← List.take_append_drop 24 (((((((words1.drop 24).drop 24).drop 24).drop 24).drop 24).drop 24).drop 24), List.all_append, w_t8, ← List.take_append_drop 24 ((((((((words1.drop 24).drop 24).drop 24).drop 24).drop 24).drop 24).drop 24).drop 24), List.all_append, w_t9, ← List.take_append_drop 24 (((((((((words1.drop 24).drop 24).drop 24).drop 24).drop 24).drop 24).drop 24).drop 24).drop 24), List.all_append, w_t10, ← List.take_append_drop 24 ((((((((((words1.drop 24).drop 24).drop 24).drop 24).drop 24).drop 24).drop 24).drop 24).drop 24).drop 24), List.all_append, w_t11, w_t12]
  rfl
set_option maxRecDepth 65536 in
theorem w_rest : rest_1_c.before args0 about1 = true := by decide +kernel
set_option maxRecDepth 65536 in
theorem w_case : (Jvm.Cond.and given_1 narrow_1).before args0 about1 = true := by decide +kernel
theorem w_applies : (headSpec (Jvm.Cond.code x code maxLocals ret :: tables_1) room_1).applies x e0.platform about1 = true :=
  (Spec.applies_iff w_frames).mpr ⟨w_running, w_runnable, w_alone, w_named, w_hears, w_ripe, w_room, w_tables⟩
theorem atStart : AtStart classFile x code maxLocals ret World_1 tables_1 room_1 Calls_1 rest_1 Pre_1 launch0 p0 e0 about1 theMethod args0 below0 :=
  ⟨lists_1, trivial, launch0.admits_env _ _ _, launch0.least_env, fairChoices_fair.cas, fairChoices_fair.clock, w_frames, w_args, w_heap, w_applies, ⟨⟨38, k38, 9, by decide +kernel, rfl, rfl, _, rfl, rfl⟩, trivial⟩, w_rest, w_case⟩
end start1
theorem witness_1 : WitnessClaimed_1 := ⟨start1.p0, start1.e0, start1.about1, start1.theMethod, start1.args0, start1.below0, start1.atStart⟩
end Jvm.Pilot.@@N@@
