import JvmDerived
import JvmDerived.Pilot.@@N@@Statement
import JvmDerived.Pilot.@@N@@Code
set_option linter.unusedVariables false
set_option linter.unusedSimpArgs false
/- laws to paste: Road.backV (cut by pick.py; bodies as the Statement names them) -/
namespace Jvm.Pilot.@@N@@
namespace StrChars
open Jvm Sem ClassFile Op Lib Jvm.Stand Jvm.Free.XT Jvm.Free.ALB Jvm.Free.JM Jvm.Free
open Jvm.Lib.Cold (StaticIs)
/-- a char array whose places are chars -/
def Ch (a : Addr) (A : Cell) (U : State) : Prop := Arr .char a A U ∧ Typed .char A
theorem Ch.mv {a : Addr} {A : Cell} {U U' : State} (h : Ch a A U) (hal : U.vm.Alike U'.vm) (hh : U'.heap = U.heap) : Ch a A U' := ⟨h.1.mv hal hh, h.2⟩
theorem Ch.keep {a : Addr} {A : Cell} {U U' : State} (h : Ch a A U) (hal : U.vm.Alike U'.vm) (hk : U'.heap[a]? = some A) : Ch a A U' := ⟨h.1.keep hal hk, h.2⟩
/-- what place i of a char[]'s cell holds -/
def cv (A : Cell) (i : Nat) : Int32 := match A.slots[i]? with | some (.int x) => x | _ => 0
theorem Ch.get {a : Addr} {A : Cell} {U : State} (h : Ch a A U) {i : Nat} (hi : i < A.slots.size) : A.slots[i]? = some (.int (cv A i)) := by
  have e := Array.getElem?_eq_getElem hi
  have f := h.2 i _ e
  unfold cv; rw [e]
  generalize A.slots[i] = v at f
  cases v <;> simp [fits] at f ⊢
/-- the byte that i2b leaves of a char -/
def lo8 (x : Int32) : Int32 := x.toInt8.toInt32
theorem fits_lo8 (y : Int32) : fits .byte (.int (lo8 y)) = true := by
  have h1 := y.toInt8.le_toInt
  have h2 := y.toInt8.toInt_lt
  simp only [lo8, fits, Bool.and_eq_true, decide_eq_true_eq, Int32.le_iff_toInt_le, Int8.toInt_toInt32, show (-128 : Int32).toInt = -128 from by decide, show (127 : Int32).toInt = 127 from by decide]
  omega
/-- A' is A but that each place j of lo .. hi - 1 holds f j -/
def Laid (A A' : Cell) (lo hi : Nat) (f : Nat → Value) : Prop := A'.cls = A.cls ∧ A'.vm = A.vm ∧ A'.slots.size = A.slots.size ∧ ∀ i, A'.slots[i]? = if lo ≤ i ∧ i < hi then some (f i) else A.slots[i]?
theorem Laid.zero (A : Cell) (lo : Nat) (f : Nat → Value) : Laid A A lo (lo + 0) f := ⟨rfl, rfl, rfl, fun i => by rw [if_neg (by omega)]⟩
theorem Laid.step {A Ak : Cell} {lo k : Nat} {f : Nat → Value} {v : Value} (h : Laid A Ak lo k f) (hlo : lo ≤ k) (hk : k < Ak.slots.size) (hv : v = f k) : Laid A (Ak.setSlot k v) lo (k + 1) f := by
  refine ⟨h.1, h.2.1, by simpa [Cell.setSlot] using h.2.2.1, fun i => ?_⟩
  by_cases e : k = i
  · subst e; rw [Cell.slots_setSlot_self v hk, if_pos (by omega), hv]
  · rw [Cell.slots_setSlot_ne v e, h.2.2.2 i]
    by_cases q : lo ≤ i ∧ i < k
    · rw [if_pos q, if_pos (by omega)]
    · rw [if_neg q, if_neg (by omega)]
def U16 : String := "java/lang/StringUTF16"
namespace Cmp5
def yN : MethodName := ⟨"java/lang/StringUTF16", "compress", "([CI[BII)I"⟩
abbrev yB : ByteArray := jdk_52_method_21_code
theorem d0 : decode yB 0 = .ok (.iconst 0, 1) := by decide +kernel
theorem d1 : decode yB 1 = .ok (.istore 5, 2) := by decide +kernel
theorem d3 : decode yB 3 = .ok (.iload 5, 2) := by decide +kernel
theorem d5 : decode yB 5 = .ok (.iload 4, 2) := by decide +kernel
theorem d7 : decode yB 7 = .ok (.if_icmp (.ge) 37, 3) := by decide +kernel
theorem d10 : decode yB 10 = .ok (.aload_n 0, 1) := by decide +kernel
theorem d11 : decode yB 11 = .ok (.iload_n 1, 1) := by decide +kernel
theorem d12 : decode yB 12 = .ok (.caload, 1) := by decide +kernel
theorem d13 : decode yB 13 = .ok (.istore 6, 2) := by decide +kernel
theorem d15 : decode yB 15 = .ok (.iload 6, 2) := by decide +kernel
theorem d17 : decode yB 17 = .ok (.sipush 255, 3) := by decide +kernel
theorem d20 : decode yB 20 = .ok (.if_icmp (.le) 6, 3) := by decide +kernel
theorem d26 : decode yB 26 = .ok (.aload_n 2, 1) := by decide +kernel
theorem d27 : decode yB 27 = .ok (.iload_n 3, 1) := by decide +kernel
theorem d28 : decode yB 28 = .ok (.iload 6, 2) := by decide +kernel
theorem d30 : decode yB 30 = .ok (.i2b, 1) := by decide +kernel
theorem d31 : decode yB 31 = .ok (.bastore, 1) := by decide +kernel
theorem d32 : decode yB 32 = .ok (.iinc 1 1, 3) := by decide +kernel
theorem d35 : decode yB 35 = .ok (.iinc 3 1, 3) := by decide +kernel
theorem d38 : decode yB 38 = .ok (.iinc 5 1, 3) := by decide +kernel
theorem d41 : decode yB 41 = .ok (.goto (-38), 3) := by decide +kernel
theorem d44 : decode yB 44 = .ok (.iload 4, 2) := by decide +kernel
theorem d46 : decode yB 46 = .ok (.ireturn, 1) := by decide +kernel
def site : List Cond := []
def tab : Cond := tabOf yN yB 7 (some .int) site
def P (b : Addr) (A : Cell) (d : Addr) (B : Cell) (o q len : Nat) (args : Array Value) (s : State) : Prop := args = #[.ref b, .int (Int32.ofNat o), .ref d, .int (Int32.ofNat q), .int (Int32.ofNat len)] ∧ Ch b A s ∧ Arr .byte d B s ∧ b ≠ d ∧ o + len ≤ A.slots.size ∧ q + len ≤ B.slots.size ∧ ∀ i, i < len → ¬ 255 < cv A (o + i)
def E (b : Addr) (A : Cell) (d : Addr) (B : Cell) (o q len : Nat) (r : Option Value) (s u : State) : Prop := r = some (.int (Int32.ofNat len)) ∧ ∃ B', Put d B' s u ∧ Laid B B' q (q + len) (fun j => Value.int (lo8 (cv A (o + (j - q)))))
/-- no char of the range above 255: len; the places written hold each char's low byte -/
theorem law (l : Launch) (b : Addr) (A : Cell) (d : Addr) (B : Cell) (o q len : Nat) : Law l yN 5 5 0 0 yB 7 (some .int) site (P b A d B o q len) (E b A d B o q len) (copyLocs d q len) 0 0 := by
  refine Law.of_walk (plainFor_of_name (by decide +kernel)) (by decide +kernel) (by decide +kernel) (by decide) (fun _ _ h => by rw [h.1]; rfl) (fun _ U U' hal hh h => ⟨h.1, h.2.1.mv hal hh, h.2.2.1.mv hal hh, h.2.2.2⟩) (fun r U U' V V' h1 hal h2 h => ⟨h.1, h.2.elim fun B' q => ⟨B', q.1.mv h1 h2, q.2⟩⟩) ?_
  intro p e s m args below meth c s₁ X0 hexec hbytes hml hret hlk hnm hown hh0 W hP
  obtain ⟨rfl, hA, hB, hne, l1, l2, hp⟩ := hP
  have c1 : Steps p.tables e below (s₁.setTop (entryFrame m #[.ref b, .int (Int32.ofNat o), .ref d, .int (Int32.ofNat q), .int (Int32.ofNat len)] 7)) (s₁.setTop (mkF m 0 #[.val (.ref b), .val (.int (Int32.ofNat o)), .val (.ref d), .val (.int (Int32.ofNat q)), .val (.int (Int32.ofNat len)), .unset, .unset] [])) := entry rfl
  have hA0 := hA.1.mv X0.warmed.alike hh0
  have hB0 := hB.mv X0.warmed.alike hh0
  have a31 := hA.1.2.2.2
  have c2 : Steps p.tables e below (s₁.setTop (entryFrame m #[.ref b, .int (Int32.ofNat o), .ref d, .int (Int32.ofNat q), .int (Int32.ofNat len)] 7)) (s₁.setTop (mkF m 3 #[.val (.ref b), .val (.int (Int32.ofNat o)), .val (.ref d), .val (.int (Int32.ofNat q)), .val (.int (Int32.ofNat len)), .val (.int 0), .unset] [])) := c1.trans (by
    refine iconstV X0.here hexec rfl 0 (hb hbytes d0) (by decide) ?_
    refine XS.istore X0.here hexec rfl (hb hbytes d1) rfl rfl ?_
    exact Steps.refl _)
  have loop : ∀ (r i : Nat), i + r = len → ∀ (z : Slot), (z = .unset ∨ ∃ w, z = .val w ∧ w.category = 1) → ∀ (Tl : State) (Bk : Cell), Stand p l e { frames := 0, locals := 0, cells := 0, slots := 0 } s m #[.ref b, .int (Int32.ofNat o), .ref d, .int (Int32.ofNat q), .int (Int32.ofNat len)] below meth c Tl ([] ++ copyLocs d q i) 0 0 → Put d Bk s₁ Tl → Laid B Bk q (q + i) (fun j => Value.int (lo8 (cv A (o + (j - q))))) →
      Steps p.tables e below (s₁.setTop (entryFrame m #[.ref b, .int (Int32.ofNat o), .ref d, .int (Int32.ofNat q), .int (Int32.ofNat len)] 7)) (Tl.setTop (mkF m 3 #[.val (.ref b), .val (.int (Int32.ofNat (o + i))), .val (.ref d), .val (.int (Int32.ofNat (q + i))), .val (.int (Int32.ofNat len)), .val (.int (Int32.ofNat i)), z] [])) → ∃ (T' : State) (B' : Cell) (z' : Slot), Stand p l e { frames := 0, locals := 0, cells := 0, slots := 0 } s m #[.ref b, .int (Int32.ofNat o), .ref d, .int (Int32.ofNat q), .int (Int32.ofNat len)] below meth c T' ([] ++ copyLocs d q len) 0 0 ∧ Put d B' s₁ T' ∧ Laid B B' q (q + len) (fun j => Value.int (lo8 (cv A (o + (j - q))))) ∧
      Steps p.tables e below (s₁.setTop (entryFrame m #[.ref b, .int (Int32.ofNat o), .ref d, .int (Int32.ofNat q), .int (Int32.ofNat len)] 7)) (T'.setTop (mkF m 3 #[.val (.ref b), .val (.int (Int32.ofNat (o + len))), .val (.ref d), .val (.int (Int32.ofNat (q + len))), .val (.int (Int32.ofNat len)), .val (.int (Int32.ofNat len)), z'] [])) := by
    intro r
    induction r with
    | zero =>
      intro i hi z hz Tl Bk Xl pl fl cl
      have hil : i = len := by omega
      rw [hil] at Xl fl cl
      exact ⟨Tl, Bk, z, Xl, pl, fl, cl⟩
    | succ r ih =>
      intro i hi z hz Tl Bk Xl pl fl cl
      have all := X0.warmed.alike.symm.trans Xl.warmed.alike
      have hAl := hA0.keep all (pl.other hne hA0.1)
      have hBk := hB0.like all pl.1 fl.1 fl.2.1 fl.2.2.1
      have hlt : q + i < Bk.slots.size := by rw [fl.2.2.1]; omega
      have c3 : Steps p.tables e below (s₁.setTop (entryFrame m #[.ref b, .int (Int32.ofNat o), .ref d, .int (Int32.ofNat q), .int (Int32.ofNat len)] 7)) (Tl.setTop (mkF m 12 #[.val (.ref b), .val (.int (Int32.ofNat (o + i))), .val (.ref d), .val (.int (Int32.ofNat (q + i))), .val (.int (Int32.ofNat len)), .val (.int (Int32.ofNat i)), z] [.int (Int32.ofNat (o + i)), .ref b])) := cl.trans (by
        refine XS.iload Xl.here hexec rfl (hb hbytes d3) rfl ?_
        refine XS.iload Xl.here hexec rfl (hb hbytes d5) rfl ?_
        refine XS.icmpNo Xl.here hexec rfl (hb hbytes d7) rfl (ii_ge_f (lt32 (by omega) (by omega))) ?_
        refine XS.aloadN Xl.here hexec rfl (hb hbytes d10) rfl rfl ?_
        refine XS.iloadN Xl.here hexec rfl (hb hbytes d11) rfl ?_
        exact Steps.refl _)
      have c4 : Steps p.tables e below (s₁.setTop (entryFrame m #[.ref b, .int (Int32.ofNat o), .ref d, .int (Int32.ofNat q), .int (Int32.ofNat len)] 7)) (Tl.setTop (mkF m 13 #[.val (.ref b), .val (.int (Int32.ofNat (o + i))), .val (.ref d), .val (.int (Int32.ofNat (q + i))), .val (.int (Int32.ofNat len)), .val (.int (Int32.ofNat i)), z] [.int (cv A (o + i))])) := c3.trans (by
        refine Xl.aget hexec hAl rfl (hA.get (i := o + i) (by omega)) rfl rfl (hb hbytes d12) ?_
        exact Steps.refl _)
      have c5 : Steps p.tables e below (s₁.setTop (entryFrame m #[.ref b, .int (Int32.ofNat o), .ref d, .int (Int32.ofNat q), .int (Int32.ofNat len)] 7)) (Tl.setTop (mkF m 15 #[.val (.ref b), .val (.int (Int32.ofNat (o + i))), .val (.ref d), .val (.int (Int32.ofNat (q + i))), .val (.int (Int32.ofNat len)), .val (.int (Int32.ofNat i)), .val (.int (cv A (o + i)))] [])) := c4.trans (by
        refine XS.istoreS Xl.here hexec rfl (hb hbytes d13) rfl rfl hz ?_
        exact Steps.refl _)
      have c6 : Steps p.tables e below (s₁.setTop (entryFrame m #[.ref b, .int (Int32.ofNat o), .ref d, .int (Int32.ofNat q), .int (Int32.ofNat len)] 7)) (Tl.setTop (mkF m 31 #[.val (.ref b), .val (.int (Int32.ofNat (o + i))), .val (.ref d), .val (.int (Int32.ofNat (q + i))), .val (.int (Int32.ofNat len)), .val (.int (Int32.ofNat i)), .val (.int (cv A (o + i)))] [.int (lo8 (cv A (o + i))), .int (Int32.ofNat (q + i)), .ref d])) := c5.trans (by
        refine XS.iload Xl.here hexec rfl (hb hbytes d15) rfl ?_
        refine sipushV Xl.here hexec rfl 255 (hb hbytes d17) (by decide) ?_
        refine XS.icmpYes Xl.here hexec rfl (pc0 := 20) rfl (hb hbytes d20) rfl (ii_le_t (hp i (by omega))) (by decide) rfl ?_
        refine XS.aloadN Xl.here hexec rfl (hb hbytes d26) rfl rfl ?_
        refine XS.iloadN Xl.here hexec rfl (hb hbytes d27) rfl ?_
        refine XS.iload Xl.here hexec rfl (hb hbytes d28) rfl ?_
        refine i2b Xl.here hexec rfl (hb hbytes d30) rfl ?_
        exact Steps.refl _)
      obtain ⟨T7, X7, p7, st7⟩ := Xl.aput hexec hBk rfl hlt rfl (fits_lo8 (cv A (o + i))) (g := (mkF m 31 #[.val (.ref b), .val (.int (Int32.ofNat (o + i))), .val (.ref d), .val (.int (Int32.ofNat (q + i))), .val (.int (Int32.ofNat len)), .val (.int (Int32.ofNat i)), .val (.int (cv A (o + i)))] [.int (lo8 (cv A (o + i))), .int (Int32.ofNat (q + i)), .ref d])) rfl (rest := []) rfl (hb hbytes d31)
      have c8 : Steps p.tables e below (s₁.setTop (entryFrame m #[.ref b, .int (Int32.ofNat o), .ref d, .int (Int32.ofNat q), .int (Int32.ofNat len)] 7)) (T7.setTop (mkF m 32 #[.val (.ref b), .val (.int (Int32.ofNat (o + i))), .val (.ref d), .val (.int (Int32.ofNat (q + i))), .val (.int (Int32.ofNat len)), .val (.int (Int32.ofNat i)), .val (.int (cv A (o + i)))] [])) := c6.trans (st7 _ (Steps.refl _))
      have c9 : Steps p.tables e below (s₁.setTop (entryFrame m #[.ref b, .int (Int32.ofNat o), .ref d, .int (Int32.ofNat q), .int (Int32.ofNat len)] 7)) (T7.setTop (mkF m 3 #[.val (.ref b), .val (.int (Int32.ofNat (o + i) + 1)), .val (.ref d), .val (.int (Int32.ofNat (q + i) + 1)), .val (.int (Int32.ofNat len)), .val (.int (Int32.ofNat i + 1)), .val (.int (cv A (o + i)))] [])) := c8.trans (by
        refine iincV X7.here hexec rfl 1 (hb hbytes d32) (by decide) rfl rfl ?_
        refine iincV X7.here hexec rfl 1 (hb hbytes d35) (by decide) rfl rfl ?_
        refine iincV X7.here hexec rfl 1 (hb hbytes d38) (by decide) rfl rfl ?_
        refine XS.goto X7.here hexec rfl (pc0 := 41) rfl (hb hbytes d41) (by decide) rfl ?_
        exact Steps.refl _)
      have c10 : Steps p.tables e below (s₁.setTop (entryFrame m #[.ref b, .int (Int32.ofNat o), .ref d, .int (Int32.ofNat q), .int (Int32.ofNat len)] 7)) (T7.setTop (mkF m 3 #[.val (.ref b), .val (.int (Int32.ofNat (o + (i + 1)))), .val (.ref d), .val (.int (Int32.ofNat (q + (i + 1)))), .val (.int (Int32.ofNat len)), .val (.int (Int32.ofNat (i + 1))), .val (.int (cv A (o + i)))] [])) := by
        have := c9
        rw [succ32, succ32, succ32] at this
        exact this
      exact ih (i + 1) (by omega) _ (Or.inr ⟨_, rfl, rfl⟩) T7 _ (by rw [copyLocs_step, ← List.append_assoc]; exact X7) (pl.trans p7) (fl.step (by omega) hlt (by simp)) c10
  obtain ⟨T9, B9, z9, X9, p9, f9, g9⟩ := loop len 0 (by omega) .unset (Or.inl rfl) s₁ B (by simpa [copyLocs] using X0) ⟨hB0.1, fun _ _ => rfl, rfl⟩ (Laid.zero _ _ _) c2
  have c11 : Steps p.tables e below (s₁.setTop (entryFrame m #[.ref b, .int (Int32.ofNat o), .ref d, .int (Int32.ofNat q), .int (Int32.ofNat len)] 7)) (T9.setTop (mkF m 46 #[.val (.ref b), .val (.int (Int32.ofNat (o + len))), .val (.ref d), .val (.int (Int32.ofNat (q + len))), .val (.int (Int32.ofNat len)), .val (.int (Int32.ofNat len)), z9] [.int (Int32.ofNat len)])) := g9.trans (by
    refine XS.iload X9.here hexec rfl (hb hbytes d3) rfl ?_
    refine XS.iload X9.here hexec rfl (hb hbytes d5) rfl ?_
    refine XS.icmpYes X9.here hexec rfl (pc0 := 7) rfl (hb hbytes d7) rfl (ii_ge_t (nlt32 (by omega) (Nat.le_refl _))) (by decide) rfl ?_
    refine XS.iload X9.here hexec rfl (hb hbytes d44) rfl ?_
    exact Steps.refl _)
  exact ⟨T9, some (.int (Int32.ofNat len)), _, _, _, X9, by simp, rfl, rfl, (fun h => by cases h), ⟨rfl, B9, p9.from hh0, f9⟩, fun fs hl => c11.trans (X9.ireturnOut hexec hret rfl (Or.inl rfl) (hb hbytes d46) hl)⟩
end Cmp5
namespace Cmp3
def yN : MethodName := ⟨"java/lang/StringUTF16", "compress", "([CII)[B"⟩
abbrev yB : ByteArray := jdk_52_method_16_code
theorem d0 : decode yB 0 = .ok (.iload_n 2, 1) := by decide +kernel
theorem d1 : decode yB 1 = .ok (.newarray .byte, 2) := by decide +kernel
theorem d3 : decode yB 3 = .ok (.astore_n 3, 1) := by decide +kernel
theorem d4 : decode yB 4 = .ok (.aload_n 0, 1) := by decide +kernel
theorem d5 : decode yB 5 = .ok (.iload_n 1, 1) := by decide +kernel
theorem d6 : decode yB 6 = .ok (.aload_n 3, 1) := by decide +kernel
theorem d7 : decode yB 7 = .ok (.iconst 0, 1) := by decide +kernel
theorem d8 : decode yB 8 = .ok (.iload_n 2, 1) := by decide +kernel
theorem d9 : decode yB 9 = .ok (.invokestatic 115, 3) := by decide +kernel
theorem d12 : decode yB 12 = .ok (.istore 4, 2) := by decide +kernel
theorem d14 : decode yB 14 = .ok (.iload 4, 2) := by decide +kernel
theorem d16 : decode yB 16 = .ok (.iload_n 2, 1) := by decide +kernel
theorem d17 : decode yB 17 = .ok (.if_icmp (.eq) 40, 3) := by decide +kernel
theorem d57 : decode yB 57 = .ok (.aload_n 3, 1) := by decide +kernel
theorem d58 : decode yB 58 = .ok (.areturn, 1) := by decide +kernel
def site : List Cond := [.arrayClass .byte, Cmp5.tab] ++ staticW U16 115 Cmp5.yN
def tab : Cond := tabOf yN yB 6 (some (.array .byte)) site
def P (b : Addr) (A : Cell) (o len : Nat) (args : Array Value) (s : State) : Prop := args = #[.ref b, .int (Int32.ofNat o), .int (Int32.ofNat len)] ∧ Ch b A s ∧ o + len ≤ A.slots.size ∧ len ≤ 536870912 ∧ ∀ i, i < len → ¬ 255 < cv A (o + i)
def E (b : Addr) (A : Cell) (o len : Nat) (r : Option Value) (s u : State) : Prop := NewArr .byte "[B" len (fun j => .int (lo8 (cv A (o + j)))) r s u ∧ u.heap.size = s.heap.size + 1
/-- no char of the range above 255: a new byte[] of their low bytes -/
theorem law (l : Launch) (b : Addr) (A : Cell) (o len : Nat) : Law l yN 3 3 1 18 yB 6 (some (.array .byte)) site (P b A o len) (E b A o len) [] 1 len := by
  refine Law.of_walk (plainFor_of_name (by decide +kernel)) (by decide +kernel) (by decide +kernel) (by decide) (fun _ _ h => by rw [h.1]; rfl) (fun _ U U' hal hh h => ⟨h.1, h.2.1.mv hal hh, h.2.2⟩) (fun r U U' V V' h1 hal h2 h => ⟨NewArr.mv r U U' V V' h1 hal h2 h.1, by rw [h1, h2]; exact h.2⟩) ?_
  intro p e s m args below meth c s₁ X0 hexec hbytes hml hret hlk hnm hown hh0 W hP
  obtain ⟨rfl, hA, l1, l2, hp⟩ := hP
  have a31 := hA.1.2.2.2
  have c1 : Steps p.tables e below (s₁.setTop (entryFrame m #[.ref b, .int (Int32.ofNat o), .int (Int32.ofNat len)] 6)) (s₁.setTop (mkF m 0 #[.val (.ref b), .val (.int (Int32.ofNat o)), .val (.int (Int32.ofNat len)), .unset, .unset, .unset] [])) := entry rfl
  have c2 : Steps p.tables e below (s₁.setTop (entryFrame m #[.ref b, .int (Int32.ofNat o), .int (Int32.ofNat len)] 6)) (s₁.setTop (mkF m 1 #[.val (.ref b), .val (.int (Int32.ofNat o)), .val (.int (Int32.ofNat len)), .unset, .unset, .unset] [.int (Int32.ofNat len)])) := c1.trans (by
    refine XS.iloadN X0.here hexec rfl (hb hbytes d0) rfl ?_
    exact Steps.refl _)
  obtain ⟨T3, B3, X3, ba3, bs3, bv3, bh3, bf3, st3⟩ := X0.anew hexec (atype := .byte) (wk W (.arrayClass .byte)) rfl (by show len * 1 ≤ _; omega) (by omega) (g := (mkF m 1 #[.val (.ref b), .val (.int (Int32.ofNat o)), .val (.int (Int32.ofNat len)), .unset, .unset, .unset] [.int (Int32.ofNat len)])) rfl (hb hbytes d1) (rest := []) rfl (Nat.le_refl _) (by show 0 + len ≤ len; omega)
  rw [hh0] at ba3 st3
  have kp3 : XT.Kept s T3 := (XT.Kept.of_eq hh0).push bh3
  have hA3 := hA.keep X3.warmed.alike (kp3 _ _ hA.1.1)
  have hne : b ≠ s.heap.size := hA.1.ne
  have c4 : Steps p.tables e below (s₁.setTop (entryFrame m #[.ref b, .int (Int32.ofNat o), .int (Int32.ofNat len)] 6)) (T3.setTop (mkF m 3 #[.val (.ref b), .val (.int (Int32.ofNat o)), .val (.int (Int32.ofNat len)), .unset, .unset, .unset] [.ref s.heap.size])) := c2.trans (st3 _ (Steps.refl _))
  have c5 : Steps p.tables e below (s₁.setTop (entryFrame m #[.ref b, .int (Int32.ofNat o), .int (Int32.ofNat len)] 6)) (T3.setTop (mkF m 9 #[.val (.ref b), .val (.int (Int32.ofNat o)), .val (.int (Int32.ofNat len)), .val (.ref s.heap.size), .unset, .unset] [.int (Int32.ofNat len), .int 0, .ref s.heap.size, .int (Int32.ofNat o), .ref b])) := c4.trans (by
    refine XS.astoreN X3.here hexec rfl (hb hbytes d3) rfl rfl rfl ?_
    refine XS.aloadN X3.here hexec rfl (hb hbytes d4) rfl rfl ?_
    refine XS.iloadN X3.here hexec rfl (hb hbytes d5) rfl ?_
    refine XS.aloadN X3.here hexec rfl (hb hbytes d6) rfl rfl ?_
    refine iconstV X3.here hexec rfl 0 (hb hbytes d7) (by decide) ?_
    refine XS.iloadN X3.here hexec rfl (hb hbytes d8) rfl ?_
    exact Steps.refl _)
  obtain ⟨v6, T6, X6, E6, g6⟩ := X3.callS hexec (Cmp5.law l b A s.heap.size B3 o 0 len) hown (wks W (staticW U16 115 Cmp5.yN)) (wk W Cmp5.tab) (W := 0) (Nat.le_of_ble_eq_true rfl) (Nat.le_of_ble_eq_true rfl) (Nat.le_refl _) (by show 0 + len + 0 ≤ len; omega) (g := (mkF m 9 #[.val (.ref b), .val (.int (Int32.ofNat o)), .val (.int (Int32.ofNat len)), .val (.ref s.heap.size), .unset, .unset] [.int (Int32.ofNat len), .int (Int32.ofNat 0), .ref s.heap.size, .int (Int32.ofNat o), .ref b])) rfl (by rw [hml]; rfl) c5 (argsL := [.ref b, .int (Int32.ofNat o), .ref s.heap.size, .int (Int32.ofNat 0), .int (Int32.ofNat len)]) (rest := []) rfl rfl (by show 2 * 0 + 0 ≤ _; decide) (hb hbytes d9) (⟨rfl, hA3, ba3, hne, l1, by rw [bs3]; simp, hp⟩)
  obtain ⟨rfl, B6, p6, f6⟩ := E6
  have c7 : Steps p.tables e below (s₁.setTop (entryFrame m #[.ref b, .int (Int32.ofNat o), .int (Int32.ofNat len)] 6)) (T6.setTop (mkF m 12 #[.val (.ref b), .val (.int (Int32.ofNat o)), .val (.int (Int32.ofNat len)), .val (.ref s.heap.size), .unset, .unset] [.int (Int32.ofNat len)])) := g6
  have c8 : Steps p.tables e below (s₁.setTop (entryFrame m #[.ref b, .int (Int32.ofNat o), .int (Int32.ofNat len)] 6)) (T6.setTop (mkF m 58 #[.val (.ref b), .val (.int (Int32.ofNat o)), .val (.int (Int32.ofNat len)), .val (.ref s.heap.size), .val (.int (Int32.ofNat len)), .unset] [.ref s.heap.size])) := c7.trans (by
    refine XS.istore X6.here hexec rfl (hb hbytes d12) rfl rfl ?_
    refine XS.iload X6.here hexec rfl (hb hbytes d14) rfl ?_
    refine XS.iloadN X6.here hexec rfl (hb hbytes d16) rfl ?_
    refine XS.icmpYes X6.here hexec rfl (pc0 := 17) rfl (hb hbytes d17) rfl (ii_eq_t rfl) (by decide) rfl ?_
    refine XS.aloadN X6.here hexec rfl (hb hbytes d57) rfl rfl ?_
    exact Steps.refl _)
  have X8 := X6.wide (L' := []) (cells' := 1) (slots' := len) (fun x hx hlt => by
    simp only [List.nil_append, copyLocs, List.mem_map, List.mem_range] at hx
    obtain ⟨i, -, rfl⟩ := hx
    exact absurd hlt (Nat.lt_irrefl _)) (Nat.le_refl _) (by omega)
  exact ⟨T6, some (.ref s.heap.size), _, _, _, X8, rfl, rfl, rfl, (fun h => by cases h), ⟨⟨rfl, B6, ba3.like (X3.warmed.alike.symm.trans X6.warmed.alike) p6.1 f6.1 f6.2.1 f6.2.2.1, f6.2.1.trans bv3, by rw [X6.warmed.alike.findClass, f6.1]; exact bf3, by rw [f6.2.2.1, bs3]; simp, fun j hj => by rw [f6.2.2.2 j, if_pos (by omega)]; rfl, kp3.put p6 (Nat.le_refl _)⟩, by rw [p6.2.2, bh3, hh0]; simp⟩, fun fs hl => c8.trans (X8.areturnOut hexec rfl hret rfl (hb hbytes d58) hl)⟩
end Cmp3
namespace CodL
def yN : MethodName := ⟨"java/lang/StringUTF16", "coderFromArrayLen", "([BI)B"⟩
abbrev yB : ByteArray := jdk_52_method_15_code
theorem d0 : decode yB 0 = .ok (.iload_n 1, 1) := by decide +kernel
theorem d1 : decode yB 1 = .ok (.aload_n 0, 1) := by decide +kernel
theorem d2 : decode yB 2 = .ok (.arraylength, 1) := by decide +kernel
theorem d3 : decode yB 3 = .ok (.isub, 1) := by decide +kernel
theorem d4 : decode yB 4 = .ok (.bipush 31, 2) := by decide +kernel
theorem d6 : decode yB 6 = .ok (.iushr, 1) := by decide +kernel
theorem d7 : decode yB 7 = .ok (.i2b, 1) := by decide +kernel
theorem d8 : decode yB 8 = .ok (.ireturn, 1) := by decide +kernel
def site : List Cond := []
def tab : Cond := tabOf yN yB 2 (some .byte) site
def P (d : Addr) (B : Cell) (args : Array Value) (s : State) : Prop := args = #[.ref d, .int (Int32.ofNat B.slots.size)] ∧ Arr .byte d B s
def E (r : Option Value) (s u : State) : Prop := XT.PureE (some (.int 0)) r s u
/-- an array as long as the number of chars: LATIN1 -/
theorem law (l : Launch) (d : Addr) (B : Cell) : Law l yN 2 2 0 0 yB 2 (some .byte) site (P d B) E [] 0 0 := by
  refine Law.of_walk (plainFor_of_name (by decide +kernel)) (by decide +kernel) (by decide +kernel) (by decide) (fun _ _ h => by rw [h.1]; rfl) (fun _ U U' hal hh h => ⟨h.1, h.2.mv hal hh⟩) (fun r U U' V V' h1 hal h2 h => XT.PureE.mv r U U' V V' h1 hal h2 h) ?_
  intro p e s m args below meth c s₁ X0 hexec hbytes hml hret hlk hnm hown hh0 W hP
  obtain ⟨rfl, hB⟩ := hP
  have hB0 := hB.mv X0.warmed.alike hh0
  have c1 : Steps p.tables e below (s₁.setTop (entryFrame m #[.ref d, .int (Int32.ofNat B.slots.size)] 2)) (s₁.setTop (mkF m 0 #[.val (.ref d), .val (.int (Int32.ofNat B.slots.size))] [])) := entry rfl
  have c2 : Steps p.tables e below (s₁.setTop (entryFrame m #[.ref d, .int (Int32.ofNat B.slots.size)] 2)) (s₁.setTop (mkF m 2 #[.val (.ref d), .val (.int (Int32.ofNat B.slots.size))] [.ref d, .int (Int32.ofNat B.slots.size)])) := c1.trans (by
    refine XS.iloadN X0.here hexec rfl (hb hbytes d0) rfl ?_
    refine XS.aloadN X0.here hexec rfl (hb hbytes d1) rfl rfl ?_
    exact Steps.refl _)
  have c3 : Steps p.tables e below (s₁.setTop (entryFrame m #[.ref d, .int (Int32.ofNat B.slots.size)] 2)) (s₁.setTop (mkF m 8 #[.val (.ref d), .val (.int (Int32.ofNat B.slots.size))] [.int (lo8 (ushr (Int32.ofNat B.slots.size - Int32.ofNat B.slots.size) 31))])) := c2.trans (by
    refine X0.alen hexec hB0 rfl rfl (hb hbytes d2) ?_
    refine XS.isub X0.here hexec rfl (hb hbytes d3) rfl ?_
    refine bipushV X0.here hexec rfl 31 (hb hbytes d4) (by decide) ?_
    refine iushr X0.here hexec rfl (hb hbytes d6) rfl ?_
    refine i2b X0.here hexec rfl (hb hbytes d7) rfl ?_
    exact Steps.refl _)
  have e0 : lo8 (ushr (Int32.ofNat B.slots.size - Int32.ofNat B.slots.size) 31) = 0 := by rw [Int32.sub_self]; decide
  rw [e0] at c3
  exact ⟨s₁, some (.int 0), _, _, _, X0, rfl, rfl, rfl, (fun h => by cases h), ⟨rfl, hh0⟩, fun fs hl => c3.trans (X0.ireturnOut hexec hret rfl (Or.inr (Or.inr (Or.inl rfl))) (hb hbytes d8) hl)⟩
end CodL
/-- the String at a is Latin-1 over a new byte[] (the heap's one new cell): the low bytes of the len chars of A from o on; every cell but a is kept -/
def Got (a : Addr) (D : Cell) (fV fC : Field) (A : Cell) (o len : Nat) (r : Option Value) (s u : State) : Prop := r = none ∧ ∃ D' V : Cell, Blank "java/lang/String" a D' u ∧ Same D D' [fV.slot, fC.slot] ∧ D'.slots[fV.slot]? = some (.ref s.heap.size) ∧ D'.slots[fC.slot]? = some (.int 0) ∧ Arr .byte s.heap.size V u ∧ V.vm = .none ∧ u.vm.findClass "[B" = some V.cls ∧ V.slots.size = len ∧ (∀ j, j < len → V.slots[j]? = some (.int (lo8 (cv A (o + j))))) ∧ (∀ (y : Addr) (c : Cell), y ≠ a → s.heap[y]? = some c → u.heap[y]? = some c) ∧ u.heap.size = s.heap.size + 1
theorem Got.mv {a : Addr} {D A : Cell} {fV fC : Field} {o len : Nat} : ∀ r (U U' V V' : State), U'.heap = U.heap → V.vm.Alike V'.vm → V'.heap = V.heap → Got a D fV fC A o len r U V → Got a D fV fC A o len r U' V' :=
  fun r U U' V V' h1 hal h2 ⟨e0, D', X, a1, a2, a3, a4, a5, a6, a7, a8, a9, a10, a11⟩ => ⟨e0, D', X, a1.mv hal h2, a2, by rw [h1]; exact a3, a4, by rw [h1]; exact a5.mv hal h2, a6, by rw [hal.findClass]; exact a7, a8, a9, by rw [h1, h2]; exact a10, by rw [h1, h2]; exact a11⟩
namespace New4
def yN : MethodName := ⟨"java/lang/String", "<init>", "([CIILjava/lang/Void;)V"⟩
abbrev yB : ByteArray := jdk_42_method_149_code
theorem d0 : decode yB 0 = .ok (.aload_n 0, 1) := by decide +kernel
theorem d1 : decode yB 1 = .ok (.invokespecial 1, 3) := by decide +kernel
theorem d4 : decode yB 4 = .ok (.iload_n 3, 1) := by decide +kernel
theorem d5 : decode yB 5 = .ok (.ifCond (.ne) 22, 3) := by decide +kernel
theorem d27 : decode yB 27 = .ok (.getstatic 38, 3) := by decide +kernel
theorem d30 : decode yB 30 = .ok (.ifCond (.eq) 28, 3) := by decide +kernel
theorem d33 : decode yB 33 = .ok (.aload_n 1, 1) := by decide +kernel
theorem d34 : decode yB 34 = .ok (.iload_n 2, 1) := by decide +kernel
theorem d35 : decode yB 35 = .ok (.iload_n 3, 1) := by decide +kernel
theorem d36 : decode yB 36 = .ok (.invokestatic 177, 3) := by decide +kernel
theorem d39 : decode yB 39 = .ok (.astore 5, 2) := by decide +kernel
theorem d41 : decode yB 41 = .ok (.aload_n 0, 1) := by decide +kernel
theorem d42 : decode yB 42 = .ok (.aload 5, 2) := by decide +kernel
theorem d44 : decode yB 44 = .ok (.iload_n 3, 1) := by decide +kernel
theorem d45 : decode yB 45 = .ok (.invokestatic 47, 3) := by decide +kernel
theorem d48 : decode yB 48 = .ok (.putfield 15, 3) := by decide +kernel
theorem d51 : decode yB 51 = .ok (.aload_n 0, 1) := by decide +kernel
theorem d52 : decode yB 52 = .ok (.aload 5, 2) := by decide +kernel
theorem d54 : decode yB 54 = .ok (.putfield 9, 3) := by decide +kernel
theorem d57 : decode yB 57 = .ok (.return_, 1) := by decide +kernel
def site : List Cond := [.fieldLink "java/lang/String" 38 "java/lang/String" "COMPACT_STRINGS" "Z", Cmp3.tab, CodL.tab, .laysFinal "java/lang/String" "java/lang/String" "value" "[B", .fieldLink "java/lang/String" 9 "java/lang/String" "value" "[B", .laysFinal "java/lang/String" "java/lang/String" "coder" "B", .fieldLink "java/lang/String" 15 "java/lang/String" "coder" "B"] ++ objW "java/lang/String" 1 ++ staticW "java/lang/String" 177 Cmp3.yN ++ staticW "java/lang/String" 47 CodL.yN
def tab : Cond := tabOf yN yB 6 none site
def P (a : Addr) (D : Cell) (fV fC : Field) (b : Addr) (A : Cell) (z : Int32) (o len : Nat) (args : Array Value) (s : State) : Prop := args = #[.ref a, .ref b, .int (Int32.ofNat o), .int (Int32.ofNat len), .null] ∧ Blank "java/lang/String" a D s ∧ Found "java/lang/String" "value" "[B" fV s ∧ Found "java/lang/String" "coder" "B" fC s ∧ Ch b A s ∧ StaticIs s "java/lang/String" "COMPACT_STRINGS" "Z" (.int z) ∧ ¬ z = 0 ∧ 0 < len ∧ o + len ≤ A.slots.size ∧ len ≤ 536870912 ∧ ∀ i, i < len → ¬ 255 < cv A (o + i)
def E (a : Addr) (D : Cell) (fV fC : Field) (A : Cell) (o len : Nat) (r : Option Value) (s u : State) : Prop := Got a D fV fC A o len r s u
/-- len > 0, no char of the range above 255: a Latin-1 String of their low bytes -/
theorem law (l : Launch) (a : Addr) (D : Cell) (fV fC : Field) (b : Addr) (A : Cell) (z : Int32) (o len : Nat) : Law l yN 5 4 2 35 yB 6 none site (P a D fV fC b A z o len) (E a D fV fC A o len) [⟨a, fC.slot⟩, ⟨a, fV.slot⟩] 1 len := by
  refine Law.of_walk (plainFor_of_name (by decide +kernel)) (by decide +kernel) (by decide +kernel) (by decide) (fun _ _ h => by rw [h.1]; rfl) (fun _ U U' hal hh h => ⟨h.1, h.2.1.mv hal hh, h.2.2.1.al hal, h.2.2.2.1.al hal, h.2.2.2.2.1.mv hal hh, h.2.2.2.2.2.1.there hal hh, h.2.2.2.2.2.2⟩) (fun r U U' V V' h1 hal h2 h => Got.mv r U U' V V' h1 hal h2 h) ?_
  intro p e s m args below meth c s₁ X0 hexec hbytes hml hret hlk hnm hown hh0 W hP
  obtain ⟨rfl, hB, f1, f2, hA, s1, hz, l0, l1, l2, hp⟩ := hP
  have a31 := hA.1.2.2.2
  have c1 : Steps p.tables e below (s₁.setTop (entryFrame m #[.ref a, .ref b, .int (Int32.ofNat o), .int (Int32.ofNat len), .null] 6)) (s₁.setTop (mkF m 0 #[.val (.ref a), .val (.ref b), .val (.int (Int32.ofNat o)), .val (.int (Int32.ofNat len)), .val .null, .unset] [])) := entry rfl
  have c2 : Steps p.tables e below (s₁.setTop (entryFrame m #[.ref a, .ref b, .int (Int32.ofNat o), .int (Int32.ofNat len), .null] 6)) (s₁.setTop (mkF m 1 #[.val (.ref a), .val (.ref b), .val (.int (Int32.ofNat o)), .val (.int (Int32.ofNat len)), .val .null, .unset] [.ref a])) := c1.trans (by
    refine XS.aloadN X0.here hexec rfl (hb hbytes d0) rfl rfl ?_
    exact Steps.refl _)
  obtain ⟨T3, X3, q3, st3⟩ := X0.oinit hexec hown (wks W (objW "java/lang/String" 1)) (g := (mkF m 1 #[.val (.ref a), .val (.ref b), .val (.int (Int32.ofNat o)), .val (.int (Int32.ofNat len)), .val .null, .unset] [.ref a])) rfl (by rw [hml]; rfl) (rest := []) rfl (hb hbytes d1) (W := 0) (by show 2 * 0 + 0 ≤ _; decide) (Nat.le_of_ble_eq_true rfl) (Nat.le_of_ble_eq_true rfl)
  have hh3 := q3.trans hh0
  have c4 : Steps p.tables e below (s₁.setTop (entryFrame m #[.ref a, .ref b, .int (Int32.ofNat o), .int (Int32.ofNat len), .null] 6)) (T3.setTop (mkF m 27 #[.val (.ref a), .val (.ref b), .val (.int (Int32.ofNat o)), .val (.int (Int32.ofNat len)), .val .null, .unset] [])) := (c2.trans (st3 _ (Steps.refl _))).trans (by
    refine XS.iloadN X3.here hexec rfl (hb hbytes d4) rfl ?_
    refine XS.ifYes X3.here hexec rfl (pc0 := 5) rfl (hb hbytes d5) rfl (i0_ne_t (nz32 (by omega) l0)) (by decide) rfl ?_
    exact Steps.refl _)
  obtain ⟨T5, X5, q5, st5⟩ := X3.sget hexec hown (wk W (.fieldLink "java/lang/String" 38 "java/lang/String" "COMPACT_STRINGS" "Z")) s1 (fun _ _ h => by rw [hh3]; exact h) (g := (mkF m 27 #[.val (.ref a), .val (.ref b), .val (.int (Int32.ofNat o)), .val (.int (Int32.ofNat len)), .val .null, .unset] [])) rfl (hb hbytes d27)
  have hh5 := q5.trans hh3
  have c6 : Steps p.tables e below (s₁.setTop (entryFrame m #[.ref a, .ref b, .int (Int32.ofNat o), .int (Int32.ofNat len), .null] 6)) (T5.setTop (mkF m 30 #[.val (.ref a), .val (.ref b), .val (.int (Int32.ofNat o)), .val (.int (Int32.ofNat len)), .val .null, .unset] [.int z])) := c4.trans (st5 _ (Steps.refl _))
  have c7 : Steps p.tables e below (s₁.setTop (entryFrame m #[.ref a, .ref b, .int (Int32.ofNat o), .int (Int32.ofNat len), .null] 6)) (T5.setTop (mkF m 36 #[.val (.ref a), .val (.ref b), .val (.int (Int32.ofNat o)), .val (.int (Int32.ofNat len)), .val .null, .unset] [.int (Int32.ofNat len), .int (Int32.ofNat o), .ref b])) := c6.trans (by
    refine XS.ifNo X5.here hexec rfl (hb hbytes d30) rfl (i0_eq_f hz) ?_
    refine XS.aloadN X5.here hexec rfl (hb hbytes d33) rfl rfl ?_
    refine XS.iloadN X5.here hexec rfl (hb hbytes d34) rfl ?_
    refine XS.iloadN X5.here hexec rfl (hb hbytes d35) rfl ?_
    exact Steps.refl _)
  obtain ⟨v8, T8, X8, E8, g8⟩ := X5.callS hexec (Cmp3.law l b A o len) hown (wks W (staticW "java/lang/String" 177 Cmp3.yN)) (wk W Cmp3.tab) (W := 0) (Nat.le_of_ble_eq_true rfl) (Nat.le_of_ble_eq_true rfl) (Nat.le_refl _) (by show 0 + len ≤ len; omega) (g := (mkF m 36 #[.val (.ref a), .val (.ref b), .val (.int (Int32.ofNat o)), .val (.int (Int32.ofNat len)), .val .null, .unset] [.int (Int32.ofNat len), .int (Int32.ofNat o), .ref b])) rfl (by rw [hml]; rfl) c7 (argsL := [.ref b, .int (Int32.ofNat o), .int (Int32.ofNat len)]) (rest := []) rfl rfl (by show 2 * 0 + 0 ≤ _; decide) (hb hbytes d36) (⟨rfl, hA.mv X5.warmed.alike hh5, l1, l2, hp⟩)
  obtain ⟨e8, z8⟩ := E8
  obtain ⟨rfl, N, n1, n2, n3, n4, n5, n6⟩ := NewArr.mv _ T5 s _ _ hh5.symm (Vm.Alike.refl _) rfl e8
  rw [hh5] at z8
  have hB1 := hB.keep X8.warmed.alike (n6 _ _ hB.1)
  have hne : s.heap.size ≠ a := (Nat.ne_of_lt (Array.getElem?_eq_some_iff.mp hB.1).1).symm
  have c9 : Steps p.tables e below (s₁.setTop (entryFrame m #[.ref a, .ref b, .int (Int32.ofNat o), .int (Int32.ofNat len), .null] 6)) (T8.setTop (mkF m 39 #[.val (.ref a), .val (.ref b), .val (.int (Int32.ofNat o)), .val (.int (Int32.ofNat len)), .val .null, .unset] [.ref s.heap.size])) := g8
  have c10 : Steps p.tables e below (s₁.setTop (entryFrame m #[.ref a, .ref b, .int (Int32.ofNat o), .int (Int32.ofNat len), .null] 6)) (T8.setTop (mkF m 45 #[.val (.ref a), .val (.ref b), .val (.int (Int32.ofNat o)), .val (.int (Int32.ofNat len)), .val .null, .val (.ref s.heap.size)] [.int (Int32.ofNat N.slots.size), .ref s.heap.size, .ref a])) := by
    have hc : Steps p.tables e below (s₁.setTop (entryFrame m #[.ref a, .ref b, .int (Int32.ofNat o), .int (Int32.ofNat len), .null] 6)) (T8.setTop (mkF m 45 #[.val (.ref a), .val (.ref b), .val (.int (Int32.ofNat o)), .val (.int (Int32.ofNat len)), .val .null, .val (.ref s.heap.size)] [.int (Int32.ofNat len), .ref s.heap.size, .ref a])) := c9.trans (by
      refine XS.astore X8.here hexec rfl (hb hbytes d39) rfl rfl rfl ?_
      refine XS.aloadN X8.here hexec rfl (hb hbytes d41) rfl rfl ?_
      refine XS.aload X8.here hexec rfl (hb hbytes d42) rfl rfl ?_
      refine XS.iloadN X8.here hexec rfl (hb hbytes d44) rfl ?_
      exact Steps.refl _)
    rw [n4]; exact hc
  obtain ⟨v11, T11, X11, E11, g11⟩ := X8.callS hexec (CodL.law l s.heap.size N) hown (wks W (staticW "java/lang/String" 47 CodL.yN)) (wk W CodL.tab) (W := 1) (Nat.le_of_ble_eq_true rfl) (Nat.le_of_ble_eq_true rfl) (Nat.le_refl _) (by show 0 + len + 0 ≤ len; omega) (g := (mkF m 45 #[.val (.ref a), .val (.ref b), .val (.int (Int32.ofNat o)), .val (.int (Int32.ofNat len)), .val .null, .val (.ref s.heap.size)] [.int (Int32.ofNat N.slots.size), .ref s.heap.size, .ref a])) rfl (by rw [hml]; rfl) c10 (argsL := [.ref s.heap.size, .int (Int32.ofNat N.slots.size)]) (rest := [.ref a]) rfl rfl (by show 2 * 0 + (1 + 0) ≤ _; decide) (hb hbytes d45) (⟨rfl, n1⟩)
  obtain ⟨rfl, q11⟩ := E11
  have hB11 := hB1.mv (X8.warmed.alike.symm.trans X11.warmed.alike) q11
  have c12 : Steps p.tables e below (s₁.setTop (entryFrame m #[.ref a, .ref b, .int (Int32.ofNat o), .int (Int32.ofNat len), .null] 6)) (T11.setTop (mkF m 48 #[.val (.ref a), .val (.ref b), .val (.int (Int32.ofNat o)), .val (.int (Int32.ofNat len)), .val .null, .val (.ref s.heap.size)] [.int 0, .ref a])) := g11
  obtain ⟨T13, X13, p13, bl13, sl13, st13⟩ := X11.finit hexec hown (wk W (.fieldLink "java/lang/String" 15 "java/lang/String" "coder" "B")) (Or.inr ⟨_, (wk W (.laysFinal "java/lang/String" "java/lang/String" "coder" "B"))⟩) (Or.inl ⟨rfl, hnm⟩) f2 (Or.inl rfl) hB11 (t := .byte) (by decide +kernel) rfl (g := (mkF m 48 #[.val (.ref a), .val (.ref b), .val (.int (Int32.ofNat o)), .val (.int (Int32.ofNat len)), .val .null, .val (.ref s.heap.size)] [.int 0, .ref a])) rfl (rest := []) rfl (hb hbytes d48)
  have c14 : Steps p.tables e below (s₁.setTop (entryFrame m #[.ref a, .ref b, .int (Int32.ofNat o), .int (Int32.ofNat len), .null] 6)) (T13.setTop (mkF m 54 #[.val (.ref a), .val (.ref b), .val (.int (Int32.ofNat o)), .val (.int (Int32.ofNat len)), .val .null, .val (.ref s.heap.size)] [.ref s.heap.size, .ref a])) := (c12.trans (st13 _ (Steps.refl _))).trans (by
    refine XS.aloadN X13.here hexec rfl (hb hbytes d51) rfl rfl ?_
    refine XS.aload X13.here hexec rfl (hb hbytes d52) rfl rfl ?_
    exact Steps.refl _)
  obtain ⟨T15, X15, p15, bl15, sl15, st15⟩ := X13.finit hexec hown (wk W (.fieldLink "java/lang/String" 9 "java/lang/String" "value" "[B")) (Or.inr ⟨_, (wk W (.laysFinal "java/lang/String" "java/lang/String" "value" "[B"))⟩) (Or.inl ⟨rfl, hnm⟩) f1 (Or.inl rfl) bl13 (t := (.array .byte)) (by decide +kernel) rfl (g := (mkF m 54 #[.val (.ref a), .val (.ref b), .val (.int (Int32.ofNat o)), .val (.int (Int32.ofNat len)), .val .null, .val (.ref s.heap.size)] [.ref s.heap.size, .ref a])) rfl (rest := []) rfl (hb hbytes d54)
  have c16 : Steps p.tables e below (s₁.setTop (entryFrame m #[.ref a, .ref b, .int (Int32.ofNat o), .int (Int32.ofNat len), .null] 6)) (T15.setTop (mkF m 57 #[.val (.ref a), .val (.ref b), .val (.int (Int32.ofNat o)), .val (.int (Int32.ofNat len)), .val .null, .val (.ref s.heap.size)] [])) := c14.trans (st15 _ (Steps.refl _))
  have ap := apart (Or.inr ⟨_, (wk W (.laysFinal "java/lang/String" "java/lang/String" "value" "[B"))⟩) (Or.inr ⟨_, (wk W (.laysFinal "java/lang/String" "java/lang/String" "coder" "B"))⟩) f1 f2 (t₁ := .array .byte) (t₂ := .byte) (by decide +kernel) (by decide +kernel) (by decide)
  have al := X8.warmed.alike.symm.trans X15.warmed.alike
  have n7 : T11.heap[s.heap.size]? = some N := by rw [q11]; exact n1.1
  exact ⟨T15, none, _, _, _, X15, by simp, rfl, by omega, (fun _ => rfl), ⟨rfl, _, N, bl15, ((Same.refl D _).set _ (by simp)).set _ (by simp), sl15, (Cell.slots_setSlot_ne _ ap).trans sl13, n1.keep al (p15.other hne (p13.other hne n7)), n2, by rw [al.findClass]; exact n3, n4, n5, fun y c h1 h2 => p15.other h1 (p13.other h1 (by rw [q11]; exact n6 y c h2)), by rw [p15.2.2, p13.2.2, q11]; exact z8⟩, fun fs hl => c16.trans (X15.returnOut hexec hret (hb hbytes d57) hl)⟩
end New4
namespace New1
def yN : MethodName := ⟨"java/lang/String", "<init>", "([C)V"⟩
abbrev yB : ByteArray := jdk_42_method_3_code
theorem d0 : decode yB 0 = .ok (.aload_n 0, 1) := by decide +kernel
theorem d1 : decode yB 1 = .ok (.aload_n 1, 1) := by decide +kernel
theorem d2 : decode yB 2 = .ok (.iconst 0, 1) := by decide +kernel
theorem d3 : decode yB 3 = .ok (.aload_n 1, 1) := by decide +kernel
theorem d4 : decode yB 4 = .ok (.arraylength, 1) := by decide +kernel
theorem d5 : decode yB 5 = .ok (.aconst_null, 1) := by decide +kernel
theorem d6 : decode yB 6 = .ok (.invokespecial 27, 3) := by decide +kernel
theorem d9 : decode yB 9 = .ok (.return_, 1) := by decide +kernel
def site : List Cond := [New4.tab] ++ initW "java/lang/String" 27 New4.yN
def tab : Cond := tabOf yN yB 2 none site
def P (a : Addr) (D : Cell) (fV fC : Field) (b : Addr) (A : Cell) (z : Int32) (args : Array Value) (s : State) : Prop := args = #[.ref a, .ref b] ∧ Blank "java/lang/String" a D s ∧ Found "java/lang/String" "value" "[B" fV s ∧ Found "java/lang/String" "coder" "B" fC s ∧ Ch b A s ∧ StaticIs s "java/lang/String" "COMPACT_STRINGS" "Z" (.int z) ∧ ¬ z = 0 ∧ 0 < A.slots.size ∧ A.slots.size ≤ 536870912 ∧ ∀ i, i < A.slots.size → ¬ 255 < cv A i
def E (a : Addr) (D : Cell) (fV fC : Field) (A : Cell) (r : Option Value) (s u : State) : Prop := Got a D fV fC A 0 A.slots.size r s u
/-- new String(chars), not empty, no char above 255: a Latin-1 String of their low bytes -/
theorem law (l : Launch) (a : Addr) (D : Cell) (fV fC : Field) (b : Addr) (A : Cell) (z : Int32) : Law l yN 2 1 3 52 yB 2 none site (P a D fV fC b A z) (E a D fV fC A) [⟨a, fC.slot⟩, ⟨a, fV.slot⟩] 1 A.slots.size := by
  refine Law.of_walk (plainFor_of_name (by decide +kernel)) (by decide +kernel) (by decide +kernel) (by decide) (fun _ _ h => by rw [h.1]; rfl) (fun _ U U' hal hh h => ⟨h.1, h.2.1.mv hal hh, h.2.2.1.al hal, h.2.2.2.1.al hal, h.2.2.2.2.1.mv hal hh, h.2.2.2.2.2.1.there hal hh, h.2.2.2.2.2.2⟩) (fun r U U' V V' h1 hal h2 h => Got.mv r U U' V V' h1 hal h2 h) ?_
  intro p e s m args below meth c s₁ X0 hexec hbytes hml hret hlk hnm hown hh0 W hP
  obtain ⟨rfl, hB, f1, f2, hA, s1, hz, l0, l2, hp⟩ := hP
  have c1 : Steps p.tables e below (s₁.setTop (entryFrame m #[.ref a, .ref b] 2)) (s₁.setTop (mkF m 0 #[.val (.ref a), .val (.ref b)] [])) := entry rfl
  have c2 : Steps p.tables e below (s₁.setTop (entryFrame m #[.ref a, .ref b] 2)) (s₁.setTop (mkF m 6 #[.val (.ref a), .val (.ref b)] [.null, .int (Int32.ofNat A.slots.size), .int 0, .ref b, .ref a])) := c1.trans (by
    refine XS.aloadN X0.here hexec rfl (hb hbytes d0) rfl rfl ?_
    refine XS.aloadN X0.here hexec rfl (hb hbytes d1) rfl rfl ?_
    refine iconstV X0.here hexec rfl 0 (hb hbytes d2) (by decide) ?_
    refine XS.aloadN X0.here hexec rfl (hb hbytes d3) rfl rfl ?_
    refine X0.alen hexec (hA.1.mv X0.warmed.alike hh0) rfl rfl (hb hbytes d4) ?_
    refine XS.aconstNull X0.here hexec rfl (hb hbytes d5) ?_
    exact Steps.refl _)
  obtain ⟨v3, T3, X3, E3, g3⟩ := X0.callN hexec (New4.law l a D fV fC b A z 0 A.slots.size) rfl hown (wks W (initW "java/lang/String" 27 New4.yN)) (W New4.tab (by simp only [site, List.mem_cons, List.mem_append, true_or, or_true])) (W := 0) (Nat.le_of_ble_eq_true rfl) (Nat.le_of_ble_eq_true rfl) (Nat.le_refl _) (by show 0 + A.slots.size ≤ A.slots.size; omega) (g := (mkF m 6 #[.val (.ref a), .val (.ref b)] [.null, .int (Int32.ofNat A.slots.size), .int (Int32.ofNat 0), .ref b, .ref a])) rfl (by rw [hml]; rfl) c2 (argsL := [.ref b, .int (Int32.ofNat 0), .int (Int32.ofNat A.slots.size), .null]) (rest := []) rfl rfl (by show 2 * 0 + 0 ≤ _; decide) (hb hbytes d6) (⟨rfl, hB.mv X0.warmed.alike hh0, f1.al X0.warmed.alike, f2.al X0.warmed.alike, hA.mv X0.warmed.alike hh0, s1.there X0.warmed.alike hh0, hz, l0, by omega, l2, fun i hi => by rw [Nat.zero_add]; exact hp i hi⟩)
  have e0 := Got.mv _ s₁ s _ _ hh0.symm (Vm.Alike.refl _) rfl E3
  obtain rfl := e0.1
  have c4 : Steps p.tables e below (s₁.setTop (entryFrame m #[.ref a, .ref b] 2)) (T3.setTop (mkF m 9 #[.val (.ref a), .val (.ref b)] [])) := g3
  exact ⟨T3, none, _, _, _, X3, by simp, rfl, by omega, (fun _ => rfl), e0, fun fs hl => c4.trans (X3.returnOut hexec hret (hb hbytes d9) hl)⟩
theorem pays {l : Launch} {R : Room} {p : Program} {e : Env} {below : List Frame} {s : State} {sargs : Array Value} {len W : Nat} (a : Addr) (D : Cell) (fV fC : Field) (b : Addr) (A : Cell) (z : Int32) (htab : tab.before sargs s = true) (hfr : 4 ≤ R.frames) (hlo : W + 65 ≤ R.locals) :
    Back l R p e below s sargs yN len W (fun A₁ a₁ => A₁.cells + 1 ≤ R.cells ∧ A₁.slots + A.slots.size ≤ R.slots ∧ P a D fV fC b A z a₁ A₁.U) (fun A₁ _ v₁ B₁ => E a D fV fC A v₁ A₁.U B₁.U ∧ B₁.locs = A₁.locs ++ [⟨a, fC.slot⟩, ⟨a, fV.slot⟩] ∧ B₁.cells = A₁.cells + 1 ∧ B₁.slots = A₁.slots + A.slots.size) :=
  (law l a D fV fC b A z).pays htab hfr (by omega)
end New1
end StrChars
namespace StrChars.Road
open Jvm Sem ClassFile Op Lib Jvm.Stand Jvm.Free Jvm.Free.XT
open Jvm.Lib.Cold (StaticIs)
abbrev ST : String := "java/lang/String"
/-- every table word that New1's law asks, flat -/
abbrev words : List Jvm.Cond := [.code New1.yN New1.yB 2 none, .initialized ST, .methodLink ST 27 New4.yN, .instanceMethod New4.yN,
  .code New4.yN New4.yB 6 none, .fieldLink ST 38 ST "COMPACT_STRINGS" "Z", .laysFinal ST ST "value" "[B", .fieldLink ST 9 ST "value" "[B", .laysFinal ST ST "coder" "B", .fieldLink ST 15 ST "coder" "B",
  .methodLink ST 1 Lib.objectInit, .instanceMethod Lib.objectInit, .code Lib.objectInit ⟨#[0xb1]⟩ 1 none, .methodLink ST 177 Cmp3.yN, .static Cmp3.yN, .methodLink ST 47 CodL.yN, .static CodL.yN,
  .code Cmp3.yN Cmp3.yB 6 (some (.array .byte)), .initialized U16, .arrayClass .byte, .methodLink U16 115 Cmp5.yN, .static Cmp5.yN, .code Cmp5.yN Cmp5.yB 7 (some .int), .code CodL.yN CodL.yB 2 (some .byte)]
theorem tab_of {a : Array Value} {s : State} (h : ∀ w ∈ words, w.before a s = true) : New1.tab.before a s = true := by
  have h5 : Cmp5.tab.before a s = true := unparts (wk h (.code Cmp5.yN Cmp5.yB 7 (some .int))) (wks h (.initialized Cmp5.yN.cls :: Cmp5.site))
  have hc : CodL.tab.before a s = true := unparts (wk h (.code CodL.yN CodL.yB 2 (some .byte))) (wks h (.initialized CodL.yN.cls :: CodL.site))
  have q5 : ∀ w ∈ Cmp5.tab :: words, w.before a s = true := fun w hw => (List.mem_cons.mp hw).elim (fun e => e ▸ h5) (h w)
  have h3 : Cmp3.tab.before a s = true := unparts (wk q5 (.code Cmp3.yN Cmp3.yB 6 (some (.array .byte)))) (wks q5 (.initialized Cmp3.yN.cls :: Cmp3.site))
  have q3 : ∀ w ∈ Cmp3.tab :: CodL.tab :: words, w.before a s = true := fun w hw => (List.mem_cons.mp hw).elim (fun e => e ▸ h3) fun hw => (List.mem_cons.mp hw).elim (fun e => e ▸ hc) (h w)
  have h4 : New4.tab.before a s = true := unparts (wk q3 (.code New4.yN New4.yB 6 none)) (wks q3 (.initialized New4.yN.cls :: New4.site))
  have q4 : ∀ w ∈ New4.tab :: words, w.before a s = true := fun w hw => (List.mem_cons.mp hw).elim (fun e => e ▸ h4) (h w)
  exact unparts (wk q4 (.code New1.yN New1.yB 2 none)) (wks q4 (.initialized New1.yN.cls :: New1.site))
/-- the words ride from the start Z to the walk's own state -/
theorem moved {Z s : State} {a0 args : Array Value} (hZ : Z.Warmed39 s.vm) (hw : ∀ d ∈ words, d.before a0 Z = true) : ∀ d ∈ words, d.before args s = true := fun d hd => by
  have q := hw d hd
  have t : ∀ d ∈ words, d = .arrayClass .byte ∨ (d.onTables && d.keepsFace) = true := by decide +kernel
  rcases t d hd with rfl | t
  · exact RoadKit.mvA hZ q
  · exact RoadKit.mv hZ q t
/-- WHAT COMES BACK, over the tables of the start Z: h the heap at the call, h' behind it -/
def Q (Z : State) (x : Addr) (A : Cell) (h : Heap) (v : Option Value) (h' : Heap) (L : List Loc) : Prop := v = none ∧ (∀ y ∈ L, y.base = x) ∧ RoadKit.Keep h h' [x] ∧ h'.size = h.size + 1 ∧ RoadKit.Exa Z h' x ST ∧ RoadKit.Fld Z h' x ST "value" "[B" (.ref h.size) ∧ RoadKit.Fld Z h' x ST "coder" "B" (.int 0) ∧
  (∃ V : Cell, RoadKit.Arr Z h' h.size V .byte ∧ V.vm = .none ∧ Z.vm.findClass "[B" = some V.cls ∧ V.slots.size = A.slots.size ∧ ∀ j, j < A.slots.size → V.slots[j]? = some (.int (lo8 (cv A j)))) ∧
  ∀ (O n d : String) (w : Value), RoadKit.Fld Z h x O n d w → RoadKit.slotOf Z O n d ≠ RoadKit.slotOf Z ST "value" "[B" → RoadKit.slotOf Z O n d ≠ RoadKit.slotOf Z ST "coder" "B" → RoadKit.Fld Z h' x O n d w
/-- **new String(chars) AT A CALL, IN THE ROAD'S FORM**: for specialBack behind newO: x the fresh String, b the char[] with the cell A -/
theorem back {p : Program} {l : Launch} {e : Env} {R : Room} {s : State} {args : Array Value} {below : List Frame} {len W : Nat} {Z : State} {a0 : Array Value} {h : Heap} (hZ : Z.Warmed39 s.vm) (hw : ∀ d ∈ words, d.before a0 Z = true) {kI : Nat} (wi : (Jvm.Cond.instantiable ST kI).before a0 Z = true)
    {x b : Addr} {A : Cell} {z : Int32} {v0 c0 : Value} (E : RoadKit.Exa Z h x ST) (V : RoadKit.Fld Z h x ST "value" "[B" v0) (C : RoadKit.Fld Z h x ST "coder" "B" c0) (K : RoadKit.Arr Z h b A .char) (hty : Typed .char A) (S : RoadKit.Sta Z h ST "COMPACT_STRINGS" "Z" (.int z)) (hz : ¬ z = 0)
    (l0 : 0 < A.slots.size) (l2 : A.slots.size ≤ 536870912) (hp : ∀ i, i < A.slots.size → ¬ 255 < cv A i) (hfr : 4 ≤ R.frames) (hlo : W + 65 ≤ R.locals) :
    Back l R p e below s args New1.yN len W (fun P a => a = #[.ref x, .ref b] ∧ P.U.heap = h ∧ P.cells + 1 ≤ R.cells ∧ P.slots + A.slots.size ≤ R.slots)
      (fun P _ v B => ∃ L, Q Z x A h v B.U.heap L ∧ B.locs = P.locs ++ L ∧ B.cells = P.cells + 1 ∧ B.slots = P.slots + A.slots.size) := by
  intro m meth c P g ig mk a X hg hsize hdg hW hn hp'
  obtain ⟨rfl, rfl, r1, r2⟩ := hp'
  have al : Z.vm.Alike P.U.vm := hZ.alike.trans X.warmed.alike
  obtain ⟨D, cfV, kV, iV, fV, hD, gV, stV, knV, obV, asV, slV⟩ := id V
  obtain ⟨D', cfC, kC, iC, fC, hD', gC, stC, -, -, asC, slC⟩ := id C
  cases hD.symm.trans hD'
  obtain ⟨D2, kD, e1, e2, e3, e4, e5⟩ := id E
  cases hD.symm.trans e1
  obtain ⟨c2, k2, i1, i2, i3, -⟩ := Cond.instantiable_spec wi
  cases e2.symm.trans i1
  cases e3.symm.trans i2
  obtain ⟨kU, u1, u2⟩ := al.2.2 _ _ e3
  have hB : Blank ST x D P.U := ⟨hD, ⟨knV, fun q hq => by rw [hq] at obV; cases obV⟩, by rw [al.findClass]; exact e2, kU, u1, by rw [u2]; exact i3, by rw [u2]; exact e5 i3⟩
  have F1 : Found ST "value" "[B" fV P.U := ⟨SBG.found_only al ⟨cfV, kV, iV, gV⟩, stV⟩
  have F2 : Found ST "coder" "B" fC P.U := ⟨SBG.found_only al ⟨cfC, kC, iC, gC⟩, stC⟩
  have hA : Ch b A P.U := ⟨⟨K.1, State.isArrayOf_alike al K.2.1, K.2.2, by omega⟩, hty⟩
  have hS : StaticIs P.U ST "COMPACT_STRINGS" "Z" (.int z) := by
    obtain ⟨cfS, iS, kS, fS, st, cS, t1, t2, t3, t4, t5, t6, t7⟩ := S
    exact StaticIs.there (s := { Z with heap := P.U.heap }) ⟨cfS, iS, kS, fS, st, cS, t1, t2, t3, t4, t5, (fun q => by rw [q] at t6; cases t6), t7⟩ al rfl
  obtain ⟨v, B, X', ⟨⟨hv, E', V', q1, q2, q3, q4, q5, q6, q7, q8, q9, q10, q11⟩, hl, hc, hs⟩, st⟩ := New1.pays x D fV fC b A z (tab_of (moved hZ hw)) hfr hlo m meth c P g ig mk _ X hg hsize hdg hW hn ⟨r1, r2, rfl, hB, F1, F2, hA, hS, hz, l0, l2, hp⟩
  have al' : Z.vm.Alike B.U.vm := hZ.alike.trans X'.warmed.alike
  have hsz : E'.slots.size = D.slots.size := by
    obtain ⟨-, -, -, kB, w1, w2, w3⟩ := q1
    obtain ⟨kB', y1, y2⟩ := al'.2.2 _ _ e3
    rw [q2.2.1] at w1
    cases w1.symm.trans y1
    rw [w3, e5 i3, y2]
  refine ⟨v, B, X', ⟨_, ⟨hv, ?_, ⟨by omega, fun y cy hy hn' => q10 y cy (by simpa using hn') hy, fun y cy hy => ?_⟩, q11, ⟨E', _, q1.1, by rw [q2.2.1]; exact e2, by rw [q2.2.1]; exact e3, by rw [q2.1]; exact obV, fun _ => by rw [hsz]; exact e5 i3⟩,
    ⟨E', cfV, kV, iV, fV, q1.1, gV, stV, by rw [q2.1]; exact knV, by rw [q2.1]; exact obV, by rw [q2.2.1]; exact asV, q3⟩, ⟨E', cfC, kC, iC, fC, q1.1, gC, stC, by rw [q2.1]; exact knV, by rw [q2.1]; exact obV, by rw [q2.2.1]; exact asC, q4⟩,
    ⟨V', ⟨q5.1, State.isArrayOf_alike al'.symm q5.2.1, q5.2.2.1⟩, q6, by rw [← al'.findClass]; exact q7, q8, fun j hj => by have := q9 j hj; rwa [Nat.zero_add] at this⟩, fun O n d w F n1 n2 => ?_⟩, hl, hc, hs⟩, st⟩
  · intro y hy
    simp only [List.mem_cons, List.not_mem_nil, or_false] at hy
    rcases hy with rfl | rfl <;> rfl
  · by_cases q : y = x
    · subst q
      cases hD.symm.trans hy
      exact ⟨E', q1.1, q2.2.1, q2.1, hsz⟩
    · exact ⟨cy, q10 y cy q hy, rfl, rfl, rfl⟩
  · obtain ⟨D3, cf, k, i, f, g1, g2, g3, g4, g5, g6, g7⟩ := F
    cases hD.symm.trans g1
    simp only [RoadKit.slotOf, g2, gV, gC, Option.map_some, Option.getD_some] at n1 n2
    exact ⟨E', cf, k, i, f, q1.1, g2, g3, by rw [q2.1]; exact g4, by rw [q2.1]; exact g5, by rw [q2.2.1]; exact g6, by rw [q2.2.2 f.slot (by simp [n1, n2])]; exact g7⟩
end StrChars.Road
namespace StrChars.Road
open Jvm Sem ClassFile Op Lib Jvm.Stand Jvm.Free Jvm.Free.XT
/-- WHAT COMES BACK, the byte[] as a list of values -/
def QA (Z : State) (x : Addr) (zn : Int32) (cs : List Int32) (h : Heap) (v : Option Value) (h' : Heap) (L : List Loc) : Prop := v = none ∧ (∀ y ∈ L, y.base = x) ∧ RoadKit.Keep h h' [x] ∧ h'.size = h.size + 1 ∧ RoadKit.Exa Z h' x ST ∧ RoadKit.Fld Z h' x ST "value" "[B" (.ref h.size) ∧ RoadKit.Fld Z h' x ST "coder" "B" (.int 0) ∧
  (∃ kb, Z.vm.findClass "[B" = some kb ∧ RoadKit.Arv Z h' h.size kb .byte zn (cs.map fun c => .int (lo8 c)) (.int 0)) ∧
  ∀ (O n d : String) (w : Value), RoadKit.Fld Z h x O n d w → RoadKit.slotOf Z O n d ≠ RoadKit.slotOf Z ST "value" "[B" → RoadKit.slotOf Z O n d ≠ RoadKit.slotOf Z ST "coder" "B" → RoadKit.Fld Z h' x O n d w
/-- **new String(chars) AT A CALL, THE ARRAYS AS LISTS**: the char[] at b holds cs, not empty, no char above 255 -/
theorem backArv {p : Program} {l : Launch} {e : Env} {R : Room} {s : State} {args : Array Value} {below : List Frame} {len W : Nat} {Z : State} {a0 : Array Value} {h : Heap} (hZ : Z.Warmed39 s.vm) (hw : ∀ d ∈ words, d.before a0 Z = true) {kI : Nat} (wi : (Jvm.Cond.instantiable ST kI).before a0 Z = true)
    {x b : Addr} {k : ClassId} {zn z : Int32} {cs : List Int32} {dv v0 c0 : Value} (E : RoadKit.Exa Z h x ST) (V : RoadKit.Fld Z h x ST "value" "[B" v0) (C : RoadKit.Fld Z h x ST "coder" "B" c0) (K : RoadKit.Arv Z h b k .char zn (cs.map Value.int) dv) (S : RoadKit.Sta Z h ST "COMPACT_STRINGS" "Z" (.int z)) (hz : ¬ z = 0)
    (hlen : zn.toNatClampNeg = cs.length) (h0 : 0 < cs.length) (hbig : cs.length ≤ 536870912) (hall : ∀ c ∈ cs, ¬ 255 < c) (hfr : 4 ≤ R.frames) (hlo : W + 65 ≤ R.locals) :
    Back l R p e below s args New1.yN len W (fun P a => a = #[.ref x, .ref b] ∧ P.U.heap = h ∧ P.cells + 1 ≤ R.cells ∧ P.slots + cs.length ≤ R.slots)
      (fun P _ v B => ∃ L, QA Z x zn cs h v B.U.heap L ∧ B.locs = P.locs ++ L ∧ B.cells = P.cells + 1 ∧ B.slots = P.slots + cs.length) := by
  obtain ⟨A, K1, K2, K3, K4, K5, K6⟩ := K
  have e : A.slots.size = cs.length := K3.trans hlen
  have hat : ∀ (i : Nat) (hi : i < cs.length), A.slots[i]? = some (.int cs[i]) := fun i hi => by rw [K5 i (by omega)]; simp [List.getD_eq_getElem?_getD, hi]
  have hcv : ∀ (i : Nat) (hi : i < cs.length), cv A i = cs[i] := fun i hi => by unfold cv; rw [hat i hi]
  have hty : Typed .char A := fun i v hv => by
    have hi : i < A.slots.size := (Array.getElem?_eq_some_iff.mp hv).1
    have q := K5 i hi
    rw [hv] at q
    rw [Option.some.inj q]
    exact K6 i hi
  refine Back.mono (back hZ hw wi E V C K1 hty S hz (by omega) (by omega) (fun i hi => by rw [hcv i (by omega)]; exact hall _ (List.getElem_mem _)) hfr hlo) (fun P a hp => ⟨hp.1, hp.2.1, hp.2.2.1, by rw [e]; exact hp.2.2.2⟩) (fun P a v B hp hq => ?_)
  obtain ⟨L, ⟨q1, q2, q3, q4, q5, q6, q7, ⟨V', v1, v2, v3, v4, v5⟩, q9⟩, hl, hc, hs⟩ := hq
  refine ⟨L, ⟨q1, q2, q3, q4, q5, q6, q7, ⟨V'.cls, v3, V', v1, rfl, by rw [v4, e, hlen], K4, fun i hi => ?_, fun i hi => ?_⟩, q9⟩, hl, hc, by rw [hs, e]⟩
  · have hi' : i < cs.length := by omega
    rw [v5 i (by omega), hcv i hi']; simp [List.getD_eq_getElem?_getD, hi']
  · have hi' : i < cs.length := by omega
    simp only [List.getD_eq_getElem?_getD, List.getElem?_map, List.getElem?_eq_getElem hi', Option.map_some, Option.getD_some]
    exact fits_lo8 _
end StrChars.Road
namespace StrChars.Road
open Jvm Sem ClassFile Op Lib Jvm.Stand Jvm.Free Jvm.Free.XT
/-- WHAT COMES BACK, in the writer's own shape -/
def QV (Z : State) (x : Addr) (N : Int32) (bs : List Int32) (h : Heap) (n0 : Nat) (v : Option Value) (h' : Heap) (L : List Loc) : Prop := v = none ∧ RoadKit.Fr n0 L ∧ RoadKit.Keep h h' [x] ∧ RoadKit.Exa Z h' x ST ∧ RoadKit.Fld Z h' x ST "coder" "B" (.int 0) ∧
  ∃ (t : Addr) (kb : ClassId), n0 ≤ t ∧ h.size ≤ t ∧ ¬ t = x ∧ RoadKit.Fld Z h' x ST "value" "[B" (.ref t) ∧ RoadKit.Arv Z h' t kb .byte N (bs.map Value.int) (.int 0)
/-- **new String(chars) AT A CALL, FOR THE WRITER**: a char[] of n known ints, each 0 to 255 -/
theorem backV {p : Program} {l : Launch} {e : Env} {R : Room} {s : State} {args : Array Value} {below : List Frame} {len W : Nat} {Z : State} {a0 : Array Value} {h : Heap} (hZ : Z.Warmed39 s.vm) (hw : ∀ d ∈ words, d.before a0 Z = true) {kI : Nat} (wi : (Jvm.Cond.instantiable ST kI).before a0 Z = true)
    {x b : Addr} {kC : ClassId} {cs bs : List Int32} {d v0 c0 : Value} {z N : Int32} {n n0 : Nat} (hx0 : n0 ≤ x) (hh0 : n0 ≤ h.size) (E : RoadKit.Exa Z h x ST) (V : RoadKit.Fld Z h x ST "value" "[B" v0) (C : RoadKit.Fld Z h x ST "coder" "B" c0) (K : RoadKit.Arv Z h b kC .char N (cs.map Value.int) d) (S : RoadKit.Sta Z h ST "COMPACT_STRINGS" "Z" (.int z)) (hz : ¬ z = 0)
    (hn : cs.length = n) (hN : N = Int32.ofNat n) (l0 : 0 < n) (l2 : n ≤ 4000) (hp : ∀ c ∈ cs, ¬ c < 0 ∧ ¬ (255 : Int32) < c) (hb : bs = cs.map (fun c => c.toInt8.toInt32)) (hfr : 4 ≤ R.frames) (hlo : W + 65 ≤ R.locals) :
    Back l R p e below s args (⟨"java/lang/String", "<init>", "([C)V"⟩ : MethodName) len W (fun P a => a = #[.ref x, .ref b] ∧ P.U.heap = h ∧ P.cells + 1 ≤ R.cells ∧ P.slots + n ≤ R.slots)
      (fun P _ v B => ∃ L, QV Z x N bs h n0 v B.U.heap L ∧ B.locs = P.locs ++ L ∧ B.cells = P.cells + 1 ∧ B.slots = P.slots + n) := by
  subst hn hN hb
  refine Back.mono (backArv hZ hw wi E V C K S hz (n32 (by omega)) l0 (by omega) (fun c hc => (hp c hc).2) hfr hlo) (fun P a hp => hp) (fun P a v B hp hq => ?_)
  obtain ⟨L, ⟨q1, q2, q3, q4, q5, q6, q7, ⟨kb, v1, v2⟩, q9⟩, hl, hc, hs⟩ := hq
  exact ⟨L, ⟨q1, fun y hy => by rw [q2 y hy]; exact hx0, q3, q5, q7, h.size, kb, hh0, Nat.le_refl _, Nat.ne_of_gt E.lt, q6, by rw [List.map_map]; exact v2⟩, hl, hc, hs⟩
end StrChars.Road
end Jvm.Pilot.@@N@@

namespace Jvm.Pilot.@@N@@
open Jvm Jvm.ClassFile Sem Op Lib Jvm.Free Jvm.Stand Jvm.LawKit Jvm.RoadKit Bundle Jvm.Pilot.@@N@@.Jvm.D
/-- the run from U comes to a return whose value, heap and written places Q takes; it has made at most kc cells of ks slots -/
def own_Go (p : Program) (e : Env) (below : List Frame) (s : State) (Q : Option Value → Heap → List Loc → Prop) (kc ks : Nat) (U : State) : Prop :=
  ∃ t o, Steps p.tables e below U t ∧ t.status = .running ∧ Ended t below o ∧ ∃ v L, o = .returned v ∧ Q v t.heap L ∧ FrameEnd s o t L kc ks
section OwnKit
variable {p : Program} {l : Launch} {e : Env} {R : Room} {s : State} {m : MethodId} {args : Array Value} {below : List Frame} {meth : Method} {c : Code} {T : State} {locs : List Loc} {cells slots kc ks : Nat} {Z : State} {a0 : Array Value} {h : Heap} {Q : Option Value → Heap → List Loc → Prop}
theorem own_go {U U' : State} (f : ∀ t, Steps p.tables e below U' t → Steps p.tables e below U t) (g : own_Go p e below s Q kc ks U') : own_Go p e below s Q kc ks U := by
  obtain ⟨t, o, a, r⟩ := g
  exact ⟨t, o, f t a, r⟩
theorem own_end (X : Stand p l e R s m args below meth c T locs cells slots) (hlk : meth.locks = false) (eT : T.heap = h) {v : Option Value} (hv : meth.sig.returnType = none → v = none) (hc : cells ≤ kc) (hs : slots ≤ ks) (hq : Q v h locs) {U : State}
    (hst : ∀ fs, (∀ (f : JFrame) (acts : List Action), f.method = m → f.locked = none → f.entered = [] → (doReturn e (T.setTop f) acts v).1 = T.setFrames fs) → Steps p.tables e below U (T.setFrames fs)) : own_Go p e below s Q kc ks U := by
  obtain ⟨fs, hr, hrun, hended, hW, hsame⟩ := X.leave (v := v) hv hlk
  refine ⟨_, _, hst fs hr, hrun, hended, v, locs, rfl, ?_, ⟨v, rfl⟩, hW, hsame.mono hc hs⟩
  show Q v T.heap locs
  rw [eT]; exact hq
theorem own_retN (X : Stand p l e R s m args below meth c T locs cells slots) (hx : p.tables.exec = Jvm.exec) (hlk : meth.locks = false) (eT : T.heap = h) {pc : Nat} {Ls : Array Slot} {z : Int32} {t : FieldType} {rest : List Value} (hret : meth.sig.returnType = some t) (ht : t = .boolean ∨ t = .byte ∨ t = .char ∨ t = .short)
    (hd : decode c.code pc = .ok (.ireturn, 1)) (hc : cells ≤ kc) (hs : slots ≤ ks) (hq : Q (some (.int (nar t z))) h locs) : own_Go p e below s Q kc ks (T.setTop (mkF m pc Ls (.int z :: rest))) :=
  own_end X hlk eT (fun q => by rw [hret] at q; cases q) hc hs hq fun fs hr => retN X hx hret ht hd hr
theorem own_retI (X : Stand p l e R s m args below meth c T locs cells slots) (hx : p.tables.exec = Jvm.exec) (hlk : meth.locks = false) (eT : T.heap = h) {pc : Nat} {Ls : Array Slot} {z : Int32} {rest : List Value} (hret : meth.sig.returnType = some .int)
    (hd : decode c.code pc = .ok (.ireturn, 1)) (hc : cells ≤ kc) (hs : slots ≤ ks) (hq : Q (some (.int z)) h locs) : own_Go p e below s Q kc ks (T.setTop (mkF m pc Ls (.int z :: rest))) :=
  own_end X hlk eT (fun q => by rw [hret] at q; cases q) hc hs hq fun fs hr => retOut X hx hret rfl (Or.inl ⟨rfl, Or.inl rfl, z, rfl⟩) hd hr
theorem own_retJ (X : Stand p l e R s m args below meth c T locs cells slots) (hx : p.tables.exec = Jvm.exec) (hlk : meth.locks = false) (eT : T.heap = h) {pc : Nat} {Ls : Array Slot} {z : Int64} {rest : List Value} (hret : meth.sig.returnType = some .long)
    (hd : decode c.code pc = .ok (.lreturn, 1)) (hc : cells ≤ kc) (hs : slots ≤ ks) (hq : Q (some (.long z)) h locs) : own_Go p e below s Q kc ks (T.setTop (mkF m pc Ls (.long z :: rest))) :=
  own_end X hlk eT (fun q => by rw [hret] at q; cases q) hc hs hq fun fs hr => retOut X hx hret rfl (Or.inr (Or.inl ⟨rfl, rfl, z, rfl⟩)) hd hr
theorem own_retA (X : Stand p l e R s m args below meth c T locs cells slots) (hx : p.tables.exec = Jvm.exec) (hlk : meth.locks = false) (eT : T.heap = h) {pc : Nat} {Ls : Array Slot} {v : Value} {t : FieldType} {rest : List Value} (hret : meth.sig.returnType = some t) (ht : t.isReference = true) (hv : v.isRef = true)
    (hd : decode c.code pc = .ok (.areturn, 1)) (hc : cells ≤ kc) (hs : slots ≤ ks) (hq : Q (some v) h locs) : own_Go p e below s Q kc ks (T.setTop (mkF m pc Ls (v :: rest))) :=
  own_end X hlk eT (fun q => by rw [hret] at q; cases q) hc hs hq fun fs hr => retOut X hx hret (by cases t <;> first | (cases ht; done) | (rcases ref_cases hv with rfl | ⟨_, rfl⟩ <;> rfl)) (Or.inr (Or.inr (Or.inr (Or.inr ⟨rfl, ht, hv⟩)))) hd hr
theorem own_retV (X : Stand p l e R s m args below meth c T locs cells slots) (hx : p.tables.exec = Jvm.exec) (hlk : meth.locks = false) (eT : T.heap = h) {pc : Nat} {Ls : Array Slot} (hret : meth.sig.returnType = none)
    (hd : decode c.code pc = .ok (.return_, 1)) (hc : cells ≤ kc) (hs : slots ≤ ks) (hq : Q none h locs) : own_Go p e below s Q kc ks (T.setTop (mkF m pc Ls [])) :=
  own_end X hlk eT (fun _ => rfl) hc hs hq fun fs hr => X.returnOut hx hret hd hr
/-- a body's contract out of its walk -/
theorem own_met {y : MethodName} {bytes : ByteArray} {maxL : Nat} {ret : Option FieldType} {ws : List Jvm.Cond} {rm : Room} {as' : Array Value} (kc ks : Nat) (hpl : plainFor y = true)
    (body : ∀ (p : Program) (e : Env) (s : State) (m : MethodId) (below : List Frame) (meth : Method) (c : Code) (T : State), Stand p l e rm s m as' below meth c T [] 0 0 → p.tables.exec = Jvm.exec → c.code = bytes → c.maxLocals = maxL → meth.sig.returnType = ret → meth.locks = false → Z.Warmed39 s.vm → s.vm.findClass y.cls = some m.cls → meth.name = y.name → T.heap = h →
      own_Go p e below s Q kc ks (T.setTop (entryFrame m as' maxL))) :
    MetFree l y (head1 (Jvm.Cond.code y bytes maxL ret :: ws) rm) (fun a U => a = as' ∧ Z.Warmed39 U.vm ∧ U.heap = h) (fun _ _ _ _ _ => True) (fun _ U o U' => ∃ v L, o = .returned v ∧ Q v U'.heap L ∧ FrameEnd U o U' L kc ks) := by
  refine MetFree.of_bodySF hpl hisR ?_
  intro p e s m args below meth c s₁ Bd hml hP hK
  obtain ⟨rfl, hZ, hh⟩ := hP
  obtain ⟨t, o, h1, h2, h3, h4⟩ := body p e s m below meth c s₁ (Stand.of_body Bd) Bd.exec Bd.bytes hml Bd.returns Bd.notSynchronized hZ (findClass_of_methodNamed Bd.named) (name_of_methodNamed Bd.named Bd.method).1 (by rw [← hh, Bd.state]; rfl)
  exact ⟨t, o, h1, h2, h3, h4⟩
abbrev own_Met (l : Launch) (Z : State) (h : Heap) (y : MethodName) (bytes : ByteArray) (maxL : Nat) (ret : Option FieldType) (rm : Room) (as' : Array Value) (Q : Option Value → Heap → List Loc → Prop) : Prop :=
  MetFree l y (head1 [Jvm.Cond.code y bytes maxL ret] rm) (fun a U => a = as' ∧ Z.Warmed39 U.vm ∧ U.heap = h) (fun _ _ _ _ _ => True) (fun _ U o U' => ∃ v L, o = .returned v ∧ Q v U'.heap L ∧ FrameEnd U o U' L rm.cells rm.slots)
abbrev own_MF (l : Launch) (Z : State) (h : Heap) (y : MethodName) (bytes : ByteArray) (maxL : Nat) (ret : Option FieldType) (rm : Room) (as' : Array Value) (Q : Option Value → Heap → List Loc → Prop) (ws : List Jvm.Cond) : Prop :=
  MetFree l y (head1 (Jvm.Cond.code y bytes maxL ret :: ws) rm) (fun a U => a = as' ∧ Z.Warmed39 U.vm ∧ U.heap = h) (fun _ _ _ _ _ => True) (fun _ U o U' => ∃ v L, o = .returned v ∧ Q v U'.heap L ∧ FrameEnd U o U' L rm.cells rm.slots)
theorem own_callS {y : MethodName} {bytes : ByteArray} {maxL : Nat} {ret : Option FieldType} {rm : Room} {as' : Array Value} {own : String} {index : Nat} (X : Stand p l e R s m args below meth c T locs cells slots) (hx : p.tables.exec = Jvm.exec) (hZ : Z.Warmed39 s.vm) (hown : s.vm.findClass own = some m.cls)
    (w1 : (Jvm.Cond.methodLink own index y).before a0 Z = true) (w2 : (Jvm.Cond.static y).before a0 Z = true) (w3 : (Jvm.Cond.initialized y.cls).before a0 Z = true) (w4 : (Jvm.Cond.code y bytes maxL ret).before a0 Z = true) (hM : own_Met l Z h y bytes maxL ret rm as' Q) (W : Nat) (nc ns : Nat) 
    (hc : cells + nc ≤ R.cells) (hs : slots + ns ≤ R.slots) (eT : T.heap = h) {g : JFrame} (hg : g.method = m) (hsize : g.locals.size = c.maxLocals)
    (argsL rest : List Value) (hlen : ∀ sig, parseMethodDescriptor y.desc = some sig → argsL.length = sig.parameters.length) (hstack : g.stack = argsL.reverse ++ rest) (has : argsL.toArray = as') (hdg : decode c.code g.pc = .ok (.invokestatic index, 3))
    (hy : y.cls ≠ "java/lang/invoke/MethodHandle" ∧ y.cls ≠ "java/lang/invoke/VarHandle" := by decide) (hf : rm.frames + 1 ≤ R.frames := by decide) (hl : W + (maxL + 11) + rm.locals ≤ R.locals := by decide) (hW : 2 * g.monitorRoom + (rest.map fun v => v.category).sum ≤ W := by exact Nat.le_of_eq rfl) (hnc : rm.cells = nc := by rfl) (hns : rm.slots = ns := by rfl) :
    ∃ v T' L, Stand p l e R s m args below meth c T' (locs ++ L) (cells + nc) (slots + ns) ∧ Q v T'.heap L ∧ ∀ target, Steps p.tables e below (T'.setTop { g with pc := g.pc + 3, stack := v.toList ++ rest }) target → Steps p.tables e below (T.setTop g) target := by
  subst hnc hns
  obtain ⟨v, _, ⟨T', L', k', n'⟩, -, X', ⟨L, hQ, h1, h2, h3⟩, st⟩ := Jvm.LawKit.callS X hx hown (mvT hZ w1) (mvT hZ w2) (mvT hZ w3) (mvT hZ w4) hy (backOf (W := W) hM hZ w4 w3 hf hl) hg hsize hlen hstack hW hdg (fun _ _ => ⟨has, eT, hc, hs⟩)
  dsimp only [Pt.U, Pt.locs, Pt.cells, Pt.slots] at X' hQ h1 h2 h3 st
  subst h1 h2 h3
  exact ⟨v, T', L, X', hQ, st⟩
theorem own_callI {y : MethodName} {bytes : ByteArray} {maxL : Nat} {rm : Room} {as' : Array Value} {own : String} {index : Nat} (X : Stand p l e R s m args below meth c T locs cells slots) (hx : p.tables.exec = Jvm.exec) (hZ : Z.Warmed39 s.vm) (hown : s.vm.findClass own = some m.cls)
    (w1 : (Jvm.Cond.methodLink own index y).before a0 Z = true) (w2 : (Jvm.Cond.instanceMethod y).before a0 Z = true) (w3 : (Jvm.Cond.initialized y.cls).before a0 Z = true) (w4 : (Jvm.Cond.code y bytes maxL none).before a0 Z = true) (hM : own_Met l Z h y bytes maxL none rm as' Q) (W : Nat) (nc ns : Nat) (hy1 : y.name = "<init>")
    (hc : cells + nc ≤ R.cells) (hs : slots + ns ≤ R.slots) (eT : T.heap = h) {g : JFrame} (hg : g.method = m) (hsize : g.locals.size = c.maxLocals)
    (a : Addr) (argsL rest : List Value) (hlen : ∀ sig, parseMethodDescriptor y.desc = some sig → argsL.length = sig.parameters.length) (hstack : g.stack = argsL.reverse ++ .ref a :: rest) (has : (Value.ref a :: argsL).toArray = as') (hdg : decode c.code g.pc = .ok (.invokespecial index, 3))
    (hy : y.cls ≠ "java/lang/invoke/MethodHandle" ∧ y.cls ≠ "java/lang/invoke/VarHandle" := by decide) (hf : rm.frames + 1 ≤ R.frames := by decide) (hl : W + (maxL + 11) + rm.locals ≤ R.locals := by decide) (hW : 2 * g.monitorRoom + (rest.map fun v => v.category).sum ≤ W := by exact Nat.le_of_eq rfl) (hnc : rm.cells = nc := by rfl) (hns : rm.slots = ns := by rfl) :
    ∃ v T' L, Stand p l e R s m args below meth c T' (locs ++ L) (cells + nc) (slots + ns) ∧ Q v T'.heap L ∧ ∀ target, Steps p.tables e below (T'.setTop { g with pc := g.pc + 3, stack := v.toList ++ rest }) target → Steps p.tables e below (T.setTop g) target := by
  subst hnc hns
  obtain ⟨v, _, ⟨T', L', k', n'⟩, -, X', ⟨L, hQ, h1, h2, h3⟩, st⟩ := X.specialBack hx hy1 hown (mvT hZ w1) (mvT hZ w2) (mvT hZ w4) hy (backOf (W := W) hM hZ w4 w3 hf hl) hg hsize (Steps.refl _) (a := a) (argsL := argsL) (rest := rest) hlen hstack hW hdg (fun _ _ => ⟨has, eT, hc, hs⟩)
  dsimp only [Pt.U, Pt.locs, Pt.cells, Pt.slots] at X' hQ h1 h2 h3 st
  subst h1 h2 h3
  exact ⟨v, T', L, X', hQ, fun _ k => st.trans k⟩
theorem own_callV {y z : MethodName} {bytes : ByteArray} {maxL : Nat} {ret : Option FieldType} {rm : Room} {as' : Array Value} {own C : String} {index : Nat} (X : Stand p l e R s m args below meth c T locs cells slots) (hx : p.tables.exec = Jvm.exec) (hZ : Z.Warmed39 s.vm) (hown : s.vm.findClass own = some m.cls)
    (w1 : (Jvm.Cond.methodLink own index y).before a0 Z = true) (wd : (Jvm.Cond.declares y).before a0 Z = true) (nf : NotFace s y) (wsel : (Jvm.Cond.selects C y z).before a0 Z = true) (w2 : (Jvm.Cond.instanceMethod z).before a0 Z = true) (w3 : (Jvm.Cond.initialized z.cls).before a0 Z = true) (w4 : (Jvm.Cond.code z bytes maxL ret).before a0 Z = true) (hM : own_Met l Z h z bytes maxL ret rm as' Q) (W : Nat) (nc ns : Nat) 
    (hc : cells + nc ≤ R.cells) (hs : slots + ns ≤ R.slots) (eT : T.heap = h) {a : Addr} (E : Exa Z h a C) {g : JFrame} (hg : g.method = m) (hsize : g.locals.size = c.maxLocals)
    (argsL rest : List Value) (hlen : ∀ sig, parseMethodDescriptor y.desc = some sig → argsL.length = sig.parameters.length) (hstack : g.stack = argsL.reverse ++ .ref a :: rest) (has : (Value.ref a :: argsL).toArray = as') (hdg : decode c.code g.pc = .ok (.invokevirtual index, 3))
    (hy : y.cls ≠ "java/lang/invoke/MethodHandle" ∧ y.cls ≠ "java/lang/invoke/VarHandle" := by decide) (hf : rm.frames + 1 ≤ R.frames := by decide) (hl : W + (maxL + 11) + rm.locals ≤ R.locals := by decide) (hW : 2 * g.monitorRoom + (rest.map fun v => v.category).sum ≤ W := by exact Nat.le_of_eq rfl) (hnc : rm.cells = nc := by rfl) (hns : rm.slots = ns := by rfl) :
    ∃ v T' L, Stand p l e R s m args below meth c T' (locs ++ L) (cells + nc) (slots + ns) ∧ Q v T'.heap L ∧ ∀ target, Steps p.tables e below (T'.setTop { g with pc := g.pc + 3, stack := v.toList ++ rest }) target → Steps p.tables e below (T.setTop g) target := by
  subst hnc hns
  obtain ⟨cq, kq, qa, qb, qc⟩ := isOf hZ eT E
  obtain ⟨v, _, ⟨T', L', k', n'⟩, -, X', ⟨L, hQ, h1, h2, h3⟩, st⟩ := X.virtualBack hx hown (mvT hZ w1) (mvT hZ wd) nf (mvT hZ wsel) (mvT hZ w2) hy (backOf (W := W) hM hZ w4 w3 hf hl) qa qc hg hsize (Steps.refl _) (argsL := argsL) (rest := rest) hlen hstack hW hdg (fun _ _ => ⟨has, eT, hc, hs⟩)
  dsimp only [Pt.U, Pt.locs, Pt.cells, Pt.slots] at X' hQ h1 h2 h3 st
  subst h1 h2 h3
  exact ⟨v, T', L, X', hQ, fun _ k => st.trans k⟩
theorem own_callP {y : MethodName} {bytes : ByteArray} {maxL : Nat} {ret : Option FieldType} {rm : Room} {as' : Array Value} {own C : String} {index : Nat} (X : Stand p l e R s m args below meth c T locs cells slots) (hx : p.tables.exec = Jvm.exec) (hZ : Z.Warmed39 s.vm) (hown : s.vm.findClass own = some m.cls)
    (w1 : (Jvm.Cond.methodLink own index y).before a0 Z = true) (w2 : (Jvm.Cond.instanceMethod y).before a0 Z = true) (wsel : (Jvm.Cond.selects y.cls y y).before a0 Z = true) (wp : (Jvm.Cond.privateMethod y).before a0 Z = true) (w3 : (Jvm.Cond.initialized y.cls).before a0 Z = true) (w4 : (Jvm.Cond.code y bytes maxL ret).before a0 Z = true) (hM : own_Met l Z h y bytes maxL ret rm as' Q) (W : Nat) (nc ns : Nat) 
    (hc : cells + nc ≤ R.cells) (hs : slots + ns ≤ R.slots) (eT : T.heap = h) {a : Addr} (E : Exa Z h a C) {g : JFrame} (hg : g.method = m) (hsize : g.locals.size = c.maxLocals)
    (argsL rest : List Value) (hlen : ∀ sig, parseMethodDescriptor y.desc = some sig → argsL.length = sig.parameters.length) (hstack : g.stack = argsL.reverse ++ .ref a :: rest) (has : (Value.ref a :: argsL).toArray = as') (hdg : decode c.code g.pc = .ok (.invokevirtual index, 3))
    (hy : y.cls ≠ "java/lang/invoke/MethodHandle" ∧ y.cls ≠ "java/lang/invoke/VarHandle" := by decide) (hf : rm.frames + 1 ≤ R.frames := by decide) (hl : W + (maxL + 11) + rm.locals ≤ R.locals := by decide) (hW : 2 * g.monitorRoom + (rest.map fun v => v.category).sum ≤ W := by exact Nat.le_of_eq rfl) (hnc : rm.cells = nc := by rfl) (hns : rm.slots = ns := by rfl) :
    ∃ v T' L, Stand p l e R s m args below meth c T' (locs ++ L) (cells + nc) (slots + ns) ∧ Q v T'.heap L ∧ ∀ target, Steps p.tables e below (T'.setTop { g with pc := g.pc + 3, stack := v.toList ++ rest }) target → Steps p.tables e below (T.setTop g) target := by
  subst hnc hns
  obtain ⟨cq, q1, q2⟩ := E.cell
  obtain ⟨v, _, ⟨T', L', k', n'⟩, -, X', ⟨L, hQ, h1, h2, h3⟩, st⟩ := X.privateBack hx hown (mvT hZ w1) (mvT hZ w2) (mvT hZ wsel) (Cond.privateMethod_at (mvP hZ wp (args := #[]))) (mvT hZ w4) hy (backOf (W := W) hM hZ w4 w3 hf hl) hg hsize (Steps.refl _) (a := a) (by rw [eT]; exact q1) q2 (argsL := argsL) (rest := rest) hlen hstack hW hdg (fun _ _ => ⟨has, eT, hc, hs⟩)
  dsimp only [Pt.U, Pt.locs, Pt.cells, Pt.slots] at X' hQ h1 h2 h3 st
  subst h1 h2 h3
  exact ⟨v, T', L, X', hQ, fun _ k => st.trans k⟩
theorem own_callF {xi y : MethodName} {bytes : ByteArray} {maxL : Nat} {ret : Option FieldType} {rm : Room} {as' : Array Value} {own C : String} {index count : Nat} (X : Stand p l e R s m args below meth c T locs cells slots) (hx : p.tables.exec = Jvm.exec) (hZ : Z.Warmed39 s.vm) (hown : s.vm.findClass own = some m.cls)
    (w1 : (Jvm.Cond.methodLink own index xi).before a0 Z = true) (wd : (Jvm.Cond.declares xi).before a0 Z = true) (wfa : (Jvm.Cond.interfaceMethod xi.cls xi.cls xi.name xi.desc).before a0 Z = true) (wsel : (Jvm.Cond.selects C xi y).before a0 Z = true) (w2 : (Jvm.Cond.instanceMethod y).before a0 Z = true) (wp : (Jvm.Cond.publicMethod y).before a0 Z = true) (wu : (Jvm.Cond.unhidden C xi.name xi.desc).before a0 Z = true) (wk : (Jvm.Cond.castable C xi.cls).before a0 Z = true) (w3 : (Jvm.Cond.initialized y.cls).before a0 Z = true) (w4 : (Jvm.Cond.code y bytes maxL ret).before a0 Z = true) (hfk : ((Jvm.Cond.interfaceMethod xi.cls xi.cls xi.name xi.desc).onTables && (Jvm.Cond.interfaceMethod xi.cls xi.cls xi.name xi.desc).keepsFace) = true) (hM : own_Met l Z h y bytes maxL ret rm as' Q) (W : Nat) (nc ns : Nat) 
    (hc : cells + nc ≤ R.cells) (hs : slots + ns ≤ R.slots) (eT : T.heap = h) {a : Addr} (E : Exa Z h a C) {g : JFrame} (hg : g.method = m) (hsize : g.locals.size = c.maxLocals)
    (argsL rest : List Value) (hlen : ∀ sig, parseMethodDescriptor xi.desc = some sig → argsL.length = sig.parameters.length) (hstack : g.stack = argsL.reverse ++ .ref a :: rest) (has : (Value.ref a :: argsL).toArray = as') (hdg : decode c.code g.pc = .ok (.invokeinterface index count, 5))
    (hy : xi.cls ≠ "java/lang/invoke/MethodHandle" ∧ xi.cls ≠ "java/lang/invoke/VarHandle" := by decide) (hf : rm.frames + 1 ≤ R.frames := by decide) (hl : W + (maxL + 11) + rm.locals ≤ R.locals := by decide) (hW : 2 * g.monitorRoom + (rest.map fun v => v.category).sum ≤ W := by exact Nat.le_of_eq rfl) (hnc : rm.cells = nc := by rfl) (hns : rm.slots = ns := by rfl) :
    ∃ v T' L, Stand p l e R s m args below meth c T' (locs ++ L) (cells + nc) (slots + ns) ∧ Q v T'.heap L ∧ ∀ target, Steps p.tables e below (T'.setTop { g with pc := g.pc + 5, stack := v.toList ++ rest }) target → Steps p.tables e below (T.setTop g) target := by
  subst hnc hns
  obtain ⟨cq, kq, qa, qb, qc⟩ := isOf hZ eT E
  obtain ⟨v, _, ⟨T', L', k', n'⟩, -, X', ⟨L, hQ, h1, h2, h3⟩, st⟩ := X.interfaceBack hx hown (mvT hZ w1) (mvT hZ wd) (mvT hZ wfa hfk) (mvT hZ wsel) (mvT hZ w2) (mvT hZ wp) (mvT hZ wu) (mvT hZ wk) hy (backOf (W := W) hM hZ w4 w3 hf hl) qa qb qc hg hsize (Steps.refl _) (argsL := argsL) (rest := rest) hlen hstack hW hdg (fun _ _ => ⟨has, eT, hc, hs⟩)
  dsimp only [Pt.U, Pt.locs, Pt.cells, Pt.slots] at X' hQ h1 h2 h3 st
  subst h1 h2 h3
  exact ⟨v, T', L, X', hQ, fun _ k => st.trans k⟩
theorem own_callU {y z : MethodName} {bytes : ByteArray} {maxL : Nat} {ret : Option FieldType} {rm : Room} {as' : Array Value} {own owner C : String} {index : Nat} (X : Stand p l e R s m args below meth c T locs cells slots) (hx : p.tables.exec = Jvm.exec) (hZ : Z.Warmed39 s.vm) (hown : s.vm.findClass own = some m.cls)
    (w1 : (Jvm.Cond.methodLink own index y).before a0 Z = true) (wsm : (Jvm.Cond.sameMethod y.cls owner y.name y.desc).before a0 Z = true) (wd : (Jvm.Cond.declares ⟨owner, y.name, y.desc⟩).before a0 Z = true) (wsel : (Jvm.Cond.selects C y z).before a0 Z = true) (w2 : (Jvm.Cond.instanceMethod z).before a0 Z = true) (w3 : (Jvm.Cond.initialized z.cls).before a0 Z = true) (w4 : (Jvm.Cond.code z bytes maxL ret).before a0 Z = true) (hM : own_Met l Z h z bytes maxL ret rm as' Q) (W : Nat) (nc ns : Nat) 
    (hc : cells + nc ≤ R.cells) (hs : slots + ns ≤ R.slots) (eT : T.heap = h) {a : Addr} (E : Exa Z h a C) {g : JFrame} (hg : g.method = m) (hsize : g.locals.size = c.maxLocals)
    (argsL rest : List Value) (hlen : ∀ sig, parseMethodDescriptor y.desc = some sig → argsL.length = sig.parameters.length) (hstack : g.stack = argsL.reverse ++ .ref a :: rest) (has : (Value.ref a :: argsL).toArray = as') (hdg : decode c.code g.pc = .ok (.invokevirtual index, 3))
    (howner : owner ≠ "java/lang/invoke/MethodHandle" ∧ owner ≠ "java/lang/invoke/VarHandle" := by decide) (hf : rm.frames + 1 ≤ R.frames := by decide) (hl : W + (maxL + 11) + rm.locals ≤ R.locals := by decide) (hW : 2 * g.monitorRoom + (rest.map fun v => v.category).sum ≤ W := by exact Nat.le_of_eq rfl) (hnc : rm.cells = nc := by rfl) (hns : rm.slots = ns := by rfl) :
    ∃ v T' L, Stand p l e R s m args below meth c T' (locs ++ L) (cells + nc) (slots + ns) ∧ Q v T'.heap L ∧ ∀ target, Steps p.tables e below (T'.setTop { g with pc := g.pc + 3, stack := v.toList ++ rest }) target → Steps p.tables e below (T.setTop g) target := by
  subst hnc hns
  obtain ⟨cq, kq, qa, qb, qc⟩ := isOf hZ eT E
  obtain ⟨v, _, ⟨T', L', k', n'⟩, -, X', ⟨L, hQ, h1, h2, h3⟩, st⟩ := X.virtualBackUp hx hown (mvT hZ w1) (mvT hZ wsm) (mvT hZ wd) howner (mvT hZ wsel) (mvT hZ w2) (backOf (W := W) hM hZ w4 w3 hf hl) qa qc hg hsize (Steps.refl _) (argsL := argsL) (rest := rest) hlen hstack hW hdg (fun _ _ => ⟨has, eT, hc, hs⟩)
  dsimp only [Pt.U, Pt.locs, Pt.cells, Pt.slots] at X' hQ h1 h2 h3 st
  subst h1 h2 h3
  exact ⟨v, T', L, X', hQ, fun _ k => st.trans k⟩
theorem own_callIB {y : MethodName} {bytes : ByteArray} {maxL : Nat} {as' : Array Value} {own : String} {index : Nat} (X : Stand p l e R s m args below meth c T locs cells slots) (hx : p.tables.exec = Jvm.exec) (hZ : Z.Warmed39 s.vm) (hown : s.vm.findClass own = some m.cls)
    (w1 : (Jvm.Cond.methodLink own index y).before a0 Z = true) (w2 : (Jvm.Cond.instanceMethod y).before a0 Z = true) (w3 : (Jvm.Cond.initialized y.cls).before a0 Z = true) (w4 : (Jvm.Cond.code y bytes maxL none).before a0 Z = true) (W nc ns : Nat) (hB : Back l R p e below s args y 3 W (fun A a => a = as' ∧ A.U.heap = h ∧ A.cells + nc ≤ R.cells ∧ A.slots + ns ≤ R.slots) (fun A _ v B => ∃ L, Q v B.U.heap L ∧ B.locs = A.locs ++ L ∧ B.cells = A.cells + nc ∧ B.slots = A.slots + ns)) (hy1 : y.name = "<init>")
    (hc : cells + nc ≤ R.cells) (hs : slots + ns ≤ R.slots) (eT : T.heap = h) {g : JFrame} (hg : g.method = m) (hsize : g.locals.size = c.maxLocals)
    (a : Addr) (argsL rest : List Value) (hlen : ∀ sig, parseMethodDescriptor y.desc = some sig → argsL.length = sig.parameters.length) (hstack : g.stack = argsL.reverse ++ .ref a :: rest) (has : (Value.ref a :: argsL).toArray = as') (hdg : decode c.code g.pc = .ok (.invokespecial index, 3))
    (hy : y.cls ≠ "java/lang/invoke/MethodHandle" ∧ y.cls ≠ "java/lang/invoke/VarHandle" := by decide) (hW : 2 * g.monitorRoom + (rest.map fun v => v.category).sum ≤ W := by exact Nat.le_of_eq rfl) :
    ∃ v T' L, Stand p l e R s m args below meth c T' (locs ++ L) (cells + nc) (slots + ns) ∧ Q v T'.heap L ∧ ∀ target, Steps p.tables e below (T'.setTop { g with pc := g.pc + 3, stack := v.toList ++ rest }) target → Steps p.tables e below (T.setTop g) target := by
  obtain ⟨v, _, ⟨T', L', k', n'⟩, -, X', ⟨L, hQ, h1, h2, h3⟩, st⟩ := X.specialBack hx hy1 hown (mvT hZ w1) (mvT hZ w2) (mvT hZ w4) hy hB hg hsize (Steps.refl _) (a := a) (argsL := argsL) (rest := rest) hlen hstack hW hdg (fun _ _ => ⟨has, eT, hc, hs⟩)
  dsimp only [Pt.U, Pt.locs, Pt.cells, Pt.slots] at X' hQ h1 h2 h3 st
  subst h1 h2 h3
  exact ⟨v, T', L, X', hQ, fun _ k => st.trans k⟩
theorem own_callVB {y z : MethodName} {bytes : ByteArray} {maxL : Nat} {ret : Option FieldType} {as' : Array Value} {own C : String} {index : Nat} (X : Stand p l e R s m args below meth c T locs cells slots) (hx : p.tables.exec = Jvm.exec) (hZ : Z.Warmed39 s.vm) (hown : s.vm.findClass own = some m.cls)
    (w1 : (Jvm.Cond.methodLink own index y).before a0 Z = true) (wd : (Jvm.Cond.declares y).before a0 Z = true) (nf : NotFace s y) (wsel : (Jvm.Cond.selects C y z).before a0 Z = true) (w2 : (Jvm.Cond.instanceMethod z).before a0 Z = true) (w3 : (Jvm.Cond.initialized z.cls).before a0 Z = true) (w4 : (Jvm.Cond.code z bytes maxL ret).before a0 Z = true) (W nc ns : Nat) (hB : Back l R p e below s args z 3 W (fun A a => a = as' ∧ A.U.heap = h ∧ A.cells + nc ≤ R.cells ∧ A.slots + ns ≤ R.slots) (fun A _ v B => ∃ L, Q v B.U.heap L ∧ B.locs = A.locs ++ L ∧ B.cells = A.cells + nc ∧ B.slots = A.slots + ns)) 
    (hc : cells + nc ≤ R.cells) (hs : slots + ns ≤ R.slots) (eT : T.heap = h) {a : Addr} (E : Exa Z h a C) {g : JFrame} (hg : g.method = m) (hsize : g.locals.size = c.maxLocals)
    (argsL rest : List Value) (hlen : ∀ sig, parseMethodDescriptor y.desc = some sig → argsL.length = sig.parameters.length) (hstack : g.stack = argsL.reverse ++ .ref a :: rest) (has : (Value.ref a :: argsL).toArray = as') (hdg : decode c.code g.pc = .ok (.invokevirtual index, 3))
    (hy : y.cls ≠ "java/lang/invoke/MethodHandle" ∧ y.cls ≠ "java/lang/invoke/VarHandle" := by decide) (hW : 2 * g.monitorRoom + (rest.map fun v => v.category).sum ≤ W := by exact Nat.le_of_eq rfl) :
    ∃ v T' L, Stand p l e R s m args below meth c T' (locs ++ L) (cells + nc) (slots + ns) ∧ Q v T'.heap L ∧ ∀ target, Steps p.tables e below (T'.setTop { g with pc := g.pc + 3, stack := v.toList ++ rest }) target → Steps p.tables e below (T.setTop g) target := by
  obtain ⟨cq, kq, qa, qb, qc⟩ := isOf hZ eT E
  obtain ⟨v, _, ⟨T', L', k', n'⟩, -, X', ⟨L, hQ, h1, h2, h3⟩, st⟩ := X.virtualBack hx hown (mvT hZ w1) (mvT hZ wd) nf (mvT hZ wsel) (mvT hZ w2) hy hB qa qc hg hsize (Steps.refl _) (argsL := argsL) (rest := rest) hlen hstack hW hdg (fun _ _ => ⟨has, eT, hc, hs⟩)
  dsimp only [Pt.U, Pt.locs, Pt.cells, Pt.slots] at X' hQ h1 h2 h3 st
  subst h1 h2 h3
  exact ⟨v, T', L, X', hQ, fun _ k => st.trans k⟩
/-- the start's heap stands in h unchanged -/
theorem own_oldExt {h' : Heap} (O : Ext Z.heap h) (E : Ext h h') : Ext Z.heap h' := ⟨Nat.le_trans O.1 E.1, fun x c q => E.2 x c (O.2 x c q)⟩
theorem own_oldKeep {h' : Heap} {ws : List Addr} (O : Ext Z.heap h) (K : Keep h h' ws) (q : ∀ x ∈ ws, Z.heap.size ≤ x) : Ext Z.heap h' :=
  ⟨Nat.le_trans O.1 K.1, fun x c r => K.2.1 x c (O.2 x c r) fun z => absurd (Array.getElem?_eq_some_iff.mp r).1 (Nat.not_lt.mpr (q x z))⟩
theorem own_oldWr {h' : Heap} {a : Addr} {sl : Nat} {v : Value} (O : Ext Z.heap h) (W : Wr h h' a sl v) (q : Z.heap.size ≤ a) : Ext Z.heap h' := own_oldKeep O (Keep.of_wr W) (allS q all0)
theorem own_keepTrans {h0 h' : Heap} {ws : List Addr} (K : Keep h0 h ws) (K' : Keep h h' []) : Keep h0 h' ws := K.trans K' fun x q => nomatch q
theorem own_insKeep {h' : Heap} {ws : List Addr} {a : Addr} {C : String} {b : Bool} (F : Ins Z h a C b) (K : Keep h h' ws) : Ins Z h' a C b := by
  obtain ⟨cell, cT, h1, h2, h3⟩ := F
  obtain ⟨c', q1, q2, q3, -⟩ := K.2.2 a cell h1
  exact ⟨c', cT, q1, h2, by rw [q2, q3]; exact h3⟩
theorem own_cat1 {v : Value} (r : v.isRef = true) : v.category = 1 := by cases v <;> simp [Value.isRef, Value.category] at r ⊢
theorem own_fitsRef {v : Value} (t : FieldType) (r : v.isRef = true) (ht : t.isReference = true) : fits t v = true := by
  cases t <;> first | (cases ht; done) | (rcases ref_cases r with rfl | ⟨_, rfl⟩ <;> rfl)
theorem own_narRef {v : Value} (t : FieldType) (r : v.isRef = true) (ht : t.isReference = true) : narrow t v = v := by
  cases t <;> first | (cases ht; done) | (rcases ref_cases r with rfl | ⟨_, rfl⟩ <;> rfl)
theorem own_keepSub {h0 : Heap} {ws ws' : List Addr} (K : Keep h0 h ws) (q : ∀ x ∈ ws, x ∈ ws') : Keep h0 h ws' := ⟨K.1, fun x c r z => K.2.1 x c r fun u => z (q x u), K.2.2⟩
theorem own_neTy {a b : Addr} {k k' : ClassId} {ty ty' : FieldType} {z z' : Int32} {vs vs' : List Value} {d d' : Value} (F : Arv Z h a k ty z vs d) (G : Arv Z h b k' ty' z' vs' d') (hn : ty ≠ ty') : a ≠ b := by
  rintro rfl
  obtain ⟨c, A, -⟩ := F
  obtain ⟨c', A', -⟩ := G
  cases A.1.symm.trans A'.1
  obtain ⟨-, k1, q1, cm1, r1⟩ := A.2.1
  obtain ⟨-, k2, q2, cm2, r2⟩ := A'.2.1
  cases q1.symm.trans q2
  rw [r1] at r2
  cases r2
  exact hn rfl
theorem own_catR (a : Addr) : (Value.ref a).category = 1 := rfl
theorem own_catN : Value.null.category = 1 := rfl
theorem own_catI (a : Int32) : (Value.int a).category = 1 := rfl
theorem own_catJ (a : Int64) : (Value.long a).category = 2 := rfl
end OwnKit
/-- the state with these tables and this heap -/
abbrev own_at (Z : State) (vm : Vm) (h : Heap) : State := { Z with vm := vm, heap := h }
theorem own_byteV (u : UInt8) : byteValue u = .int u.toInt8.toInt32 := rfl
theorem own_slFacts {Z : State} {vm : Vm} {h : Heap} {a : Addr} {units : Array UInt16} (hW : Z.Warmed39 vm) (H : SlOf (own_at Z vm h) a units) (hlat : units.all (· < 256) = true) :
    ∃ (b : Addr) (k : ClassId), Exa Z h a "java/lang/String" ∧ Fld Z h a "java/lang/String" "coder" "B" (.int 0) ∧ Fld Z h a "java/lang/String" "value" "[B" (.ref b) ∧ Arv Z h b k .byte (Int32.ofNat units.size) (units.toList.map fun u => Value.int u.toUInt8.toInt8.toInt32) (.int 0) := by
  have hal : Z.vm.Alike (own_at Z vm h).vm := hW.alike
  obtain ⟨q, cS, rfl, ⟨⟨s1, s2, s3, ⟨cv, kv, iv', s4, s4'⟩, ⟨cc, kc, ic, s5, s5'⟩, s6, s7, s8, s9, s10, s11, s12, s13, s14, s15, s16⟩, hfS, hcS⟩, ⟨kS, k1, k2, k3⟩, hB, hby⟩ := H
  obtain ⟨kv', z4⟩ := ff_back hal s4
  obtain ⟨kc', z5⟩ := ff_back hal s5
  have hf : Z.vm.findClass "java/lang/String" = some q.sC.cls := by rw [hcS, ← hal.findClass]; exact hfS
  obtain ⟨kz, hkz, -⟩ := Vm.findClass_spec hf
  obtain ⟨kz', hkz', ekz⟩ := hal.2.2 _ _ hkz
  rw [hcS] at hkz'
  cases hkz'.symm.trans k1
  have hBZ : Z.vm.findClass "[B" = some q.SA.cls := by rw [← hal.findClass]; exact hB
  obtain ⟨kb, hkb, -⟩ := Vm.findClass_spec hBZ
  obtain ⟨kb', hkb', ekb⟩ := hal.2.2 _ _ hkb
  obtain ⟨hst, k9, hk9, comp, hkind⟩ := s11
  cases hk9.symm.trans hkb'
  have hsl : q.SA.slots = units.map fun u => byteValue u.toUInt8 := by rw [hby, SBG.stringBytes_lat hlat]
  have hsz : q.SA.slots.size = units.size := by rw [hsl, Array.size_map]
  have hlt : units.size < 2 ^ 31 := by omega
  have hn : (Int32.ofNat units.size).toNatClampNeg = units.size ∧ ¬ (Int32.ofNat units.size) < 0 := by
    have e : (Int32.ofNat units.size).toInt = units.size := by
      exact len_toInt hlt
    refine ⟨by simp [Int32.toNatClampNeg, e], ?_⟩
    rw [Int32.lt_iff_toInt_lt, e]; show ¬ ((units.size : Int) < 0); omega
  have H' : Has q.SA (units.toList.map fun u => Value.int u.toUInt8.toInt8.toInt32) (.int 0) := fun j hj => by
    have hj' : j < units.size := by omega
    rw [hsl]; simp [hj', own_byteV]
  refine ⟨q.sd, q.SA.cls, ⟨q.sC, kz, s1, hf, hkz, s3, fun _ => by rw [k3, ekz]⟩, ⟨q.sC, cc, kc', ic, q.fSC, s1, z5, s7, s2, s3, by rw [← hal.assignable]; exact s5', s9⟩, ⟨q.sC, cv, kv', iv', q.fSV, s1, z4, s6, s2, s3, by rw [← hal.assignable]; exact s4', s8⟩, q.SA, ⟨s10, ⟨hst, kb, hkb, comp, by rw [ekb] at hkind; exact hkind⟩, s12⟩, rfl, by rw [hsz, hn.1], hn.2, H', fun j hj => ?_⟩
  have e1 := s16 j hj
  rw [SBG.getD_of (H' j hj)] at e1
  exact e1
def own_L (Z : State) (a0 : Array Value) : Prop := ∀ e ∈ consts_1, ∃ text, (Jvm.Cond.stringLink e.1 e.2 text).before a0 Z = true
/-- whichever String the JVM holds for a constant of the list, she bears its text -/
def own_J (Z : State) (vm : Vm) (h : Heap) : Prop := ∀ e ∈ consts_1, ConstHeldL (own_at Z vm h) e.1 e.2
theorem own_Jstep {Z : State} {vm vm' : Vm} {h h' : Heap} {a0 : Array Value} (L : own_L Z a0) (hZ : Z.Warmed39 vm) (hJ : own_J Z vm h) (hW : (own_at Z vm h).Warmed39 vm')
    (hmv : ∀ a units, SlOf (own_at Z vm h) a units → SlOf (own_at Z vm' h') a units)
    (hfind : ∀ units a, vm'.interned.find? (fun p => p.1 == units) = some (units, a) → vm.interned.find? (fun p => p.1 == units) = some (units, a) ∨ SlOf (own_at Z vm' h') a units) : own_J Z vm' h' := by
  intro e he c k' cf i units a hc' hk' hcf' hp hu hor
  have hal : vm.Alike vm' := hW.alike
  have hc : vm.findClass e.1 = some c := by rw [← hal.findClass]; exact hc'
  obtain ⟨text, ht⟩ := L e he
  have ht' : (Jvm.Cond.stringLink e.1 e.2 text).before a0 (own_at Z vm h) = true := mvS (s := { Z with heap := h }) hZ ht
  obtain ⟨k, cf0, i0, units0, hk, hcf, hp0, hu0, hnm, -, -⟩ := Cond.stringLink_spec (s := own_at Z vm h) hc ht'
  obtain ⟨k2, hk2, hke, -, ee, -⟩ := hW.2.2.2 c k hk
  cases (show vm'.classes[c]? = some k' from hk').symm.trans hk2
  have hcfe : k'.cf = k.cf := by rw [hke]
  cases (hcfe ▸ hcf').symm.trans hcf
  cases hp.symm.trans hp0
  cases hu.symm.trans hu0
  have H := hJ e he c k cf i units
  rcases ee e.2 with e0 | ⟨hop, r, e1, hr | ⟨a3, t3, si, us, rfl, -, q3, q4, q5⟩⟩
  · rcases hor with h0 | ⟨h0, hf⟩
    · exact hmv _ _ (H a hc hk hcf hp hu (Or.inl (e0 ▸ h0)))
    · rcases hfind units a hf with hf | hs
      · exact hmv _ _ (H a hc hk hcf hp hu (Or.inr ⟨e0 ▸ h0, hf⟩))
      · exact hs
  · exfalso
    cases r <;> simp [State.rightAt, hk, hcf, hnm] at hr
  · have e3 : si = i := by
      rw [hcf] at q3
      have q := q3.symm.trans hp
      simpa using q
    subst e3
    have e4 : us = units := by
      rw [hcf] at q4
      simpa [ConstantPool.utf8?, hu] using q4.symm
    subst e4
    have ea : a3 = a := by
      rcases hor with h0 | ⟨h0, -⟩
      · have q := e1.symm.trans h0; simpa using q
      · have q := e1.symm.trans h0; simp at q
    subst ea
    rcases hfind us a3 q5 with hf | hs
    · exact hmv _ _ (H a3 hc hk hcf hp hu (Or.inr ⟨hop, hf⟩))
    · exact hs
theorem own_Jwarm {Z s : State} {vm vm' : Vm} {h : Heap} {a0 : Array Value} (L : own_L Z a0) (hZ : Z.Warmed39 vm) (hJ : own_J Z vm h) (hW : (s.setVm vm).WarmedH vm') : own_J Z vm' h := by
  have hW1 : (own_at Z vm h).WarmedH vm' := hW
  refine own_Jstep L hZ hJ hW1.wide (fun a u H => H.moved hW1.alike fun _ _ q => q) fun units a hf => Or.inl ?_
  have e : vm'.interned = vm.interned := hW1.interned_eq
  rw [← e]; exact hf
theorem own_Jext {Z : State} {vm : Vm} {h h' : Heap} (hJ : own_J Z vm h) (E : Ext h h') : own_J Z vm h' := fun e he c k cf i units a h1 h2 h3 h4 h5 h6 =>
  (hJ e he c k cf i units a h1 h2 h3 h4 h5 h6).moved (Vm.Alike.refl _) fun b c q => E.2 b c q
/-- the cell at w is no String and no byte[] -/
def own_Far (Z : State) (h : Heap) (w : Addr) : Prop := ∀ cell : Cell, h[w]? = some cell → ¬ Z.vm.findClass "java/lang/String" = some cell.cls ∧ ¬ Z.isArrayOf cell .byte
theorem own_farN {Z : State} {h : Heap} {w : Addr} (q : h.size ≤ w) : own_Far Z h w := fun cell hc => absurd (Array.getElem?_eq_some_iff.mp hc).1 (Nat.not_lt.mpr q)
theorem own_farE {Z : State} {h : Heap} {w : Addr} {C : String} {n : Nat} {a0 : Array Value} (E : Exa Z h w C) (hC : C ≠ "java/lang/String") (wi : (Jvm.Cond.instantiable C n).before a0 Z = true) : own_Far Z h w := fun cell hc => by
  obtain ⟨c1, k, e1, e2, e3, -, -⟩ := E
  cases hc.symm.trans e1
  refine ⟨fun q => ids_ne e2 q hC rfl, fun q => ?_⟩
  obtain ⟨c2, k2, i1, i2, i3, -⟩ := Cond.instantiable_spec wi
  cases e2.symm.trans i1
  cases e3.symm.trans i2
  obtain ⟨-, k3, j1, cm, j2⟩ := q
  cases e3.symm.trans j1
  rw [i3] at j2; cases j2
theorem own_farV {Z : State} {h : Heap} {w : Addr} {k : ClassId} {ty : FieldType} {z : Int32} {vs : List Value} {d : Value} {n : Nat} {a0 : Array Value} (V : Arv Z h w k ty z vs d) (hty : ty ≠ .byte) (wi : (Jvm.Cond.instantiable "java/lang/String" n).before a0 Z = true) : own_Far Z h w := fun cell hc => by
  obtain ⟨c1, A, -⟩ := V
  cases hc.symm.trans A.1
  obtain ⟨-, k3, j1, cm, j2⟩ := A.2.1
  refine ⟨fun q => ?_, fun q => ?_⟩
  · obtain ⟨c2, k2, i1, i2, i3, -⟩ := Cond.instantiable_spec wi
    cases q.symm.trans i1
    cases j1.symm.trans i2
    rw [i3] at j2; cases j2
  · obtain ⟨-, k4, r1, cm', r2⟩ := q
    cases j1.symm.trans r1
    rw [j2] at r2; cases r2
    exact hty rfl
theorem own_slKeep {Z : State} {vm : Vm} {h h' : Heap} {ws : List Addr} {a : Addr} {units : Array UInt16} (hZ : Z.Warmed39 vm) (H : SlOf (own_at Z vm h) a units) (K : Keep h h' ws) (far : ∀ w ∈ ws, own_Far Z h w) : SlOf (own_at Z vm h') a units := by
  obtain ⟨q, cS, h1, h2, h3, h4, h5⟩ := H
  have hal : Z.vm.Alike vm := hZ.alike
  obtain ⟨⟨s1, s2, s3, s4, s5, s6, s7, s8, s9, s10, s11, s12⟩, hfS, hcS⟩ := id h2
  have n1 : q.sa ∉ ws := fun m => (far _ m _ s1).1 (by rw [hcS, ← hal.findClass]; exact hfS)
  have n2 : q.sd ∉ ws := fun m => (far _ m _ s10).2 (by
    obtain ⟨t1, k, t2, cm, t3⟩ := s11
    obtain ⟨kb, hkb⟩ : ∃ kb, Z.vm.classes[q.SA.cls]? = some kb := by
      obtain ⟨kb, hkb, -⟩ := Vm.findClass_spec (show Z.vm.findClass "[B" = some q.SA.cls by rw [← hal.findClass]; exact h4)
      exact ⟨kb, hkb⟩
    obtain ⟨kb', hkb', ekb⟩ := hal.2.2 _ _ hkb
    cases t2.symm.trans hkb'
    exact ⟨t1, kb, hkb, cm, by rw [ekb] at t3; exact t3⟩)
  exact ⟨q, cS, h1, SBG.Sl.carry (U := own_at Z vm h) (U' := own_at Z vm h') (Vm.Alike.refl vm) (K.2.1 _ _ s1 n1) (K.2.1 _ _ s10 n2) h2, h3, h4, h5⟩
theorem own_Jkeep {Z : State} {vm : Vm} {h h' : Heap} {ws : List Addr} (hZ : Z.Warmed39 vm) (hJ : own_J Z vm h) (K : Keep h h' ws) (far : ∀ w ∈ ws, own_Far Z h w) : own_J Z vm h' := fun e he c k cf i units a h1 h2 h3 h4 h5 h6 =>
  own_slKeep hZ (hJ e he c k cf i units a h1 h2 h3 h4 h5 h6) K far
theorem own_Jwr {Z : State} {vm : Vm} {h h' : Heap} {w : Addr} {sl : Nat} {v : Value} (hZ : Z.Warmed39 vm) (hJ : own_J Z vm h) (W : Wr h h' w sl v) (far : own_Far Z h w) : own_J Z vm h' := own_Jkeep hZ hJ (Keep.of_wr W) (allS far all0)
theorem own_unitsEq {u v : Array UInt16} {text : String} (hu : utf16ToString? u = some text) (hv : utf16ToString? v = some text) (ht : ∀ c ∈ text.toList, c.toNat < 256) : u = v :=
  Array.toList_inj.mp ((Jvm.ClassFile.units_of_text hu ht).trans (Jvm.ClassFile.units_of_text hv ht).symm)
theorem own_slIn {lo hi : Nat} {W : State} {a : Addr} {units : Array UInt16} (H : SlIn lo hi W a units) : SlOf W a units := by
  obtain ⟨q, cS, h1, h2, h3, h4, h5, -⟩ := H
  exact ⟨q, cS, h1, h2, h3, h4, h5⟩
theorem own_slState {W W' : State} {a : Addr} {units : Array UInt16} (H : SlOf W a units) (hv : W.vm = W'.vm) (hh : W.heap = W'.heap) : SlOf W' a units :=
  H.moved (by rw [hv]; exact Vm.Alike.refl _) fun b c q => by rw [← hh]; exact q
section OwnLdc
variable {p : Program} {l : Launch} {e : Env} {R : Room} {s : State} {vm0 : Vm} {m : MethodId} {args : Array Value} {below : List Frame} {meth : Method} {c : Code} {T : State} {locs : List Loc} {cells slots : Nat} {Z : State} {a0 : Array Value} {h : Heap}
theorem own_ldcJ (X : Stand p l e R (s.setVm vm0) m args below meth c T locs cells slots) (hS : s.Since vm0 h.size) (hx : p.tables.exec = Jvm.exec) (hZ : Z.Warmed39 (s.setVm vm0).vm) {own text : String} {index : Nat} (hown : (s.setVm vm0).vm.findClass own = some m.cls)
    (L : own_L Z a0) (hmem : (own, index) ∈ consts_1) (w : (Jvm.Cond.stringLink own index text).before a0 Z = true) (wS : ∀ a ∈ Bundle.stringAtoms, a.before a0 Z = true) (eT : T.heap = h) (N : Fr s.heap.size locs)
    (hJ0 : own_J Z s.vm s.heap) (hZ0 : Z.Warmed39 s.vm) (hJ : own_J Z vm0 h) {Ts : List String} (I : IB s vm0 Ts) (hnot : text ∉ Ts) (ht : ∀ c ∈ text.toList, c.toNat < 256)
    {g : JFrame} (hg : g.method = m) (hd : decode c.code g.pc = .ok (.ldc index, 2)) {n : Nat} (hn : 4 * text.toList.length ≤ n) (hbig : n ≤ 536870912) (hc : cells + 2 ≤ R.cells) (hl : slots + (n + 4) ≤ R.slots) :
    ∃ (a : Addr) (T' : State) (h' : Heap) (vm1 : Vm) (units : Array UInt16), Stand p l e R (s.setVm vm1) m args below meth c T' locs (cells + 2) (slots + (n + 4)) ∧ T'.heap = h' ∧ Ext h h' ∧ s.Since vm1 h'.size ∧ Z.Warmed39 (s.setVm vm1).vm ∧ (s.setVm vm1).vm.findClass own = some m.cls ∧ own_J Z vm1 h' ∧ IB s vm1 (text :: Ts) ∧
      Lit (s.setVm vm1) own index a ∧ utf16ToString? units = some text ∧ SlOf (own_at Z vm1 h') a units ∧ ∀ target, Steps p.tables e below (T'.setTop { g with pc := g.pc + 2, stack := .ref a :: g.stack }) target → Steps p.tables e below (T.setTop g) target := by
  have w0 : (Jvm.Cond.stringLink own index text).before args (s.setVm vm0) = true := mvS hZ w
  obtain ⟨k, cf, i, units, hk, hcf, hp, hu, hnm, htext, hres⟩ := Cond.stringLink_spec (s := s.setVm vm0) hown w0
  rcases hres with hop | ⟨a, hra⟩
  · have hsW : s.Warmed39 vm0 := hS.1
    have wl : (Jvm.Cond.stringLink own index text).before a0 s = true := mvS (s := s) hZ0 w
    have hH : ConstHeldL (s.setVm vm0) own index := heldCarry (Z := s) (s := s) (a0 := a0) hsW wl I hnot (fun _ _ q => q) (fun c' k' cf' i' u' a' q1 q2 q3 q4 q5 q6 => own_slState (hJ0 _ hmem c' k' cf' i' u' a' q1 q2 q3 q4 q5 q6) rfl rfl)
    obtain ⟨a, T2, X2, hS2, ⟨k2, hk2, hr2⟩, hb, -, hint, ⟨u2, ht2, hin⟩, st⟩ := X.ldcColdF (oldF X N) hx (own := own) hown w0 (fun d hd => by
      have q := wS d hd
      simp only [Bundle.stringAtoms, List.mem_cons, List.not_mem_nil, or_false] at hd
      rcases hd with rfl | rfl | rfl | rfl | rfl | rfl | rfl
      · exact mv hZ q
      · exact mv hZ q
      · exact mvA hZ q
      · exact mv hZ q
      · exact mv hZ q
      · exact mv hZ q
      · exact mv hZ q) hH (fun u hu => Jvm.ClassFile.lat_of_text hu ht) hg hd hn hbig hc hl
    subst eT
    have E := ext_of hb
    have hW2 : (s.setVm vm0).Warmed39 T2.vm := hS2.1
    have hTi : T.vm.interned = vm0.interned := X.warmed.interned_eq
    rw [hTi] at hint
    have hsl : SlOf (own_at Z T2.vm T2.heap) a u2 := own_slState (own_slIn hin) rfl rfl
    have hu2 : u2 = units := own_unitsEq ht2 htext ht
    subst hu2
    have hq5 : T2.vm.interned.find? (fun p => p.1 == u2) = some (u2, a) := by
      obtain ⟨k3, hk3, hke, -, ee, -⟩ := hW2.2.2.2 m.cls k hk
      cases hk3.symm.trans hk2
      rcases ee index with e0 | ⟨-, r, e1, hr | ⟨a3, t3, si, us, rfl, -, q3, q4, q5⟩⟩
      · rw [hr2, hop] at e0; cases e0
      · exfalso
        have hk0 : vm0.classes[m.cls]? = some k := hk
        cases r <;> simp [State.rightAt, hk0, hcf, hnm] at hr
      · rw [hcf] at q3 q4
        have e3 : si = i := by have q := q3.symm.trans hp; simpa using q
        subst e3
        have e4 : us = u2 := by simpa [ConstantPool.utf8?, hu] using q4.symm
        subst e4
        have ea : a3 = a := by have q := e1.symm.trans hr2; simpa using q
        subst ea
        exact q5
    have hZ2 : Z.Warmed39 T2.vm := State.Warmed39.trans (t := s.setVm vm0) hZ hW2
    refine ⟨a, T2, T2.heap, T2.vm, u2, X2, rfl, E, hS.trans hS2 E.1, hZ2, by rw [show (s.setVm T2.vm).vm = T2.vm from rfl, hW2.alike.findClass]; exact hown, ?_, I.step hint, ?_, ht2, hsl, st⟩
    · refine own_Jstep L hZ hJ hW2 (fun a' u' H => H.moved hW2.alike fun b c q => E.2 b c q) fun u' a' hf => ?_
      rcases hint with q | ⟨u3, a3, hu3, q⟩
      · rw [q] at hf; exact Or.inl hf
      · rw [q, Array.find?_push] at hf
        cases hold : vm0.interned.find? (fun p => p.1 == u') with
        | some pr => rw [hold] at hf; simp at hf; exact Or.inl (hold.trans (by rw [hf]))
        | none =>
          rw [hold] at hf
          simp only [Option.none_or] at hf
          split at hf
          · cases hf
            have e5 : u' = u2 := own_unitsEq hu3 ht2 ht
            subst e5
            have e6 : a' = a := by
              rw [q, Array.find?_push, hold] at hq5
              simpa using hq5
            subst e6
            exact Or.inr hsl
          · cases hf
    · have hf : T2.vm.findClass own = some m.cls := by rw [hW2.alike.findClass]; exact hown
      simp [Lit, State.resolvedAt?, hf, hk2, hr2]
  · have hLit : Lit (s.setVm vm0) own index a := by
      have hf : vm0.findClass own = some m.cls := hown
      have hk' : vm0.classes[m.cls]? = some k := hk
      simp [Lit, State.resolvedAt?, hf, hk', hra]
    have hsl : SlOf (own_at Z vm0 h) a units := hJ _ hmem m.cls k cf i units a hown hk hcf hp hu (Or.inl hra)
    refine ⟨a, T, h, vm0, units, X.more (by omega) (by omega), eT, ⟨Nat.le_refl _, fun _ _ q => q⟩, hS, hZ, hown, hJ, ?_, hLit, htext, hsl, ldcAgain X hx hZ hown w hLit hg hd⟩
    obtain ⟨more, e1, e2⟩ := I
    exact ⟨more, e1, fun q hq => by obtain ⟨t, h1, h2⟩ := e2 q hq; exact ⟨t, List.mem_cons_of_mem _ h1, h2⟩⟩
end OwnLdc
/-- no String that the JVM holds for a constant of the list is x -/
def own_Apart (vm : Vm) (x : Addr) : Prop := ∀ e ∈ consts_1, ∀ (c : ClassId) (k : Class) (cf : ClassFile) (i : Nat) (units : Array UInt16) (a : Addr), vm.findClass e.1 = some c → vm.classes[c]? = some k → k.cf = some cf →
    cf.constantPool[e.2]? = some (.string i) → cf.constantPool[i]? = some (.utf8 units) → (k.resolved[e.2]? = some (some (.string a)) ∨ (k.resolved[e.2]? = some none ∧ vm.interned.find? (fun p => p.1 == units) = some (units, a))) → a ≠ x
theorem own_slValue {Z : State} {vm : Vm} {h : Heap} {a : Addr} {units : Array UInt16} (hZ : Z.Warmed39 vm) (H : SlOf (own_at Z vm h) a units) : ∃ b, Fld Z h a "java/lang/String" "value" "[B" (.ref b) := by
  have hal : Z.vm.Alike (own_at Z vm h).vm := hZ.alike
  obtain ⟨q, cS, rfl, ⟨⟨s1, s2, s3, ⟨cv, kv, iv', s4, s4'⟩, -, s6, -, s8, -⟩, -, -⟩, -⟩ := H
  obtain ⟨kv', z4⟩ := ff_back hal s4
  exact ⟨q.sd, q.sC, cv, kv', iv', q.fSV, s1, z4, s6, s2, s3, by rw [← hal.assignable]; exact s4', s8⟩
theorem own_apart {Z : State} {vm : Vm} {h : Heap} {x : Addr} (hZ : Z.Warmed39 vm) (hJ : own_J Z vm h) (F : Fld Z h x "java/lang/String" "value" "[B" .null) : own_Apart vm x := fun e he c k cf i units a h1 h2 h3 h4 h5 h6 => by
  obtain ⟨b, G⟩ := own_slValue hZ (hJ e he c k cf i units a h1 h2 h3 h4 h5 h6)
  exact Fld.ne G F (fun q => nomatch q)
theorem own_JkeepS {Z : State} {vm : Vm} {h h' : Heap} {x : Addr} {n : Nat} {a0 : Array Value} (hZ : Z.Warmed39 vm) (hJ : own_J Z vm h) (K : Keep h h' [x]) (hA : own_Apart vm x) (E : Exa Z h x "java/lang/String") (wi : (Jvm.Cond.instantiable "java/lang/String" n).before a0 Z = true) : own_J Z vm h' := fun e he c k cf i units a h1 h2 h3 h4 h5 h6 => by
  have ha : a ≠ x := hA e he c k cf i units a h1 h2 h3 h4 h5 h6
  obtain ⟨q, cS, e1, g2, g3, g4, g5⟩ := hJ e he c k cf i units a h1 h2 h3 h4 h5 h6
  have hal : Z.vm.Alike vm := hZ.alike
  obtain ⟨⟨s1, s2, s3, s4, s5, s6, s7, s8, s9, s10, s11, s12⟩, hfS, hcS⟩ := id g2
  have n2 : q.sd ≠ x := fun m => by
    obtain ⟨t1, k', t2, cm, t3⟩ := s11
    obtain ⟨kb, hkb, -⟩ := Vm.findClass_spec (show Z.vm.findClass "[B" = some q.SA.cls by rw [← hal.findClass]; exact g4)
    obtain ⟨kb', hkb', ekb⟩ := hal.2.2 _ _ hkb
    cases t2.symm.trans hkb'
    obtain ⟨c1, kx, x1, x2, x3, -, -⟩ := E
    cases (m ▸ s10).symm.trans x1
    obtain ⟨c2, k2, i1, i2, i3, -⟩ := Cond.instantiable_spec wi
    cases x2.symm.trans i1
    cases hkb.symm.trans i2
    rw [ekb] at t3
    rw [i3] at t3; cases t3
  exact ⟨q, cS, e1, SBG.Sl.carry (U := own_at Z vm h) (U' := own_at Z vm h') (Vm.Alike.refl vm) (K.2.1 _ _ s1 (by rw [e1]; simpa using ha)) (K.2.1 _ _ s10 (by simpa using n2)) g2, g3, g4, g5⟩
theorem own_JwrS {Z : State} {vm : Vm} {h h' : Heap} {x : Addr} {n sl : Nat} {v : Value} {a0 : Array Value} (hZ : Z.Warmed39 vm) (hJ : own_J Z vm h) (W : Wr h h' x sl v) (hA : own_Apart vm x) (E : Exa Z h x "java/lang/String") (wi : (Jvm.Cond.instantiable "java/lang/String" n).before a0 Z = true) : own_J Z vm h' := own_JkeepS hZ hJ (Keep.of_wr W) hA E wi
theorem own_litFacts {Z : State} {vm : Vm} {h : Heap} {a : Addr} {units : Array UInt16} {text : String} (hW : Z.Warmed39 vm) (H : SlOf (own_at Z vm h) a units) (hu : utf16ToString? units = some text) (ht : ∀ c ∈ text.toList, c.toNat < 256) :
    ∃ (b : Addr) (k : ClassId), Exa Z h a "java/lang/String" ∧ Fld Z h a "java/lang/String" "coder" "B" (.int 0) ∧ Fld Z h a "java/lang/String" "value" "[B" (.ref b) ∧ Arv Z h b k .byte (Int32.ofNat text.toList.length) (text.toList.map fun c => Value.int c.toNat.toUInt16.toUInt8.toInt8.toInt32) (.int 0) := by
  have e := Jvm.ClassFile.units_of_text hu ht
  obtain ⟨b, k, h1, h2, h3, h4⟩ := own_slFacts hW H (Jvm.ClassFile.lat_of_text hu ht)
  refine ⟨b, k, h1, h2, h3, ?_⟩
  have e2 : units.size = text.toList.length := by rw [← Array.length_toList, e, List.length_map]
  rw [e, List.map_map, e2] at h4
  exact h4
/-- the run from U comes to a return whose value, heap and written places Q takes; it has made at most kc cells of ks slots; String constants may have been resolved on the way -/
def own_GoW (p : Program) (e : Env) (below : List Frame) (s Z : State) (Q : Option Value → Heap → List Loc → Prop) (kc ks : Nat) (U : State) : Prop :=
  ∃ t o, Steps p.tables e below U t ∧ t.status = .running ∧ Ended t below o ∧ ∃ v L, o = .returned v ∧ (Q v t.heap L ∧ own_J Z t.vm t.heap) ∧ ReturnedEndW s o t L kc ks
section OwnKitW
variable {p : Program} {l : Launch} {e : Env} {R : Room} {s : State} {vm0 : Vm} {m : MethodId} {args : Array Value} {below : List Frame} {meth : Method} {c : Code} {T : State} {locs : List Loc} {cells slots kc ks : Nat} {Z : State} {a0 : Array Value} {h : Heap} {Q : Option Value → Heap → List Loc → Prop}
theorem own_since {vm : Vm} {k k' : Nat} (hS : s.Since vm k) (q : k ≤ k') : s.Since vm k' := ⟨hS.1, fun j p hj hp => ⟨(hS.2 j p hj hp).1, Nat.lt_of_lt_of_le (hS.2 j p hj hp).2 q⟩⟩
theorem own_goW {U U' : State} (f : ∀ t, Steps p.tables e below U' t → Steps p.tables e below U t) (g : own_GoW p e below s Z Q kc ks U') : own_GoW p e below s Z Q kc ks U := by
  obtain ⟨t, o, a, r⟩ := g
  exact ⟨t, o, f t a, r⟩
theorem own_sameMono {L : List Loc} {k n : Nat} {t : State} (hq : s.sameButNew t L k n) (hc : k ≤ kc) (hs : n ≤ ks) : s.sameButNew t L kc ks := hq.mono hc hs
theorem own_endW (X : Stand p l e R (s.setVm vm0) m args below meth c T locs cells slots) (hS : s.Since vm0 h.size) (hL : own_L Z a0) (hZ : Z.Warmed39 (s.setVm vm0).vm) (hJ : own_J Z vm0 h) (hlk : meth.locks = false) (eT : T.heap = h) {v : Option Value} (hv : meth.sig.returnType = none → v = none) (hc : cells ≤ kc) (hs : slots ≤ ks) (hq : Q v h locs) {U : State}
    (hst : ∀ fs, (∀ (f : JFrame) (acts : List Action), f.method = m → f.locked = none → f.entered = [] → (doReturn e (T.setTop f) acts v).1 = T.setFrames fs) → Steps p.tables e below U (T.setFrames fs)) : own_GoW p e below s Z Q kc ks U := by
  obtain ⟨fs, hr, hrun, hended, h1, h2, h3, h4⟩ := X.leaveW hS (by rw [eT]; exact Nat.le_refl _) (v := v) hv hlk
  refine ⟨_, _, hst fs hr, hrun, hended, v, locs, rfl, ⟨?_, ?_⟩, h1, h2, h3, own_sameMono h4 hc hs⟩
  · show Q v T.heap locs
    rw [eT]; exact hq
  · show own_J Z T.vm T.heap
    rw [eT]; exact own_Jwarm hL hZ hJ X.warmed
theorem own_retNW (X : Stand p l e R (s.setVm vm0) m args below meth c T locs cells slots) (hS : s.Since vm0 h.size) (hL : own_L Z a0) (hZ : Z.Warmed39 (s.setVm vm0).vm) (hJ : own_J Z vm0 h) (hx : p.tables.exec = Jvm.exec) (hlk : meth.locks = false) (eT : T.heap = h) {pc : Nat} {Ls : Array Slot} {z : Int32} {t : FieldType} {rest : List Value} (hret : meth.sig.returnType = some t) (ht : t = .boolean ∨ t = .byte ∨ t = .char ∨ t = .short)
    (hd : decode c.code pc = .ok (.ireturn, 1)) (hc : cells ≤ kc) (hs : slots ≤ ks) (hq : Q (some (.int (nar t z))) h locs) : own_GoW p e below s Z Q kc ks (T.setTop (mkF m pc Ls (.int z :: rest))) :=
  own_endW X hS hL hZ hJ hlk eT (fun q => by rw [hret] at q; cases q) hc hs hq fun fs hr => retN X hx hret ht hd hr
theorem own_retIW (X : Stand p l e R (s.setVm vm0) m args below meth c T locs cells slots) (hS : s.Since vm0 h.size) (hL : own_L Z a0) (hZ : Z.Warmed39 (s.setVm vm0).vm) (hJ : own_J Z vm0 h) (hx : p.tables.exec = Jvm.exec) (hlk : meth.locks = false) (eT : T.heap = h) {pc : Nat} {Ls : Array Slot} {z : Int32} {rest : List Value} (hret : meth.sig.returnType = some .int)
    (hd : decode c.code pc = .ok (.ireturn, 1)) (hc : cells ≤ kc) (hs : slots ≤ ks) (hq : Q (some (.int z)) h locs) : own_GoW p e below s Z Q kc ks (T.setTop (mkF m pc Ls (.int z :: rest))) :=
  own_endW X hS hL hZ hJ hlk eT (fun q => by rw [hret] at q; cases q) hc hs hq fun fs hr => retOut X hx hret rfl (Or.inl ⟨rfl, Or.inl rfl, z, rfl⟩) hd hr
theorem own_retJW (X : Stand p l e R (s.setVm vm0) m args below meth c T locs cells slots) (hS : s.Since vm0 h.size) (hL : own_L Z a0) (hZ : Z.Warmed39 (s.setVm vm0).vm) (hJ : own_J Z vm0 h) (hx : p.tables.exec = Jvm.exec) (hlk : meth.locks = false) (eT : T.heap = h) {pc : Nat} {Ls : Array Slot} {z : Int64} {rest : List Value} (hret : meth.sig.returnType = some .long)
    (hd : decode c.code pc = .ok (.lreturn, 1)) (hc : cells ≤ kc) (hs : slots ≤ ks) (hq : Q (some (.long z)) h locs) : own_GoW p e below s Z Q kc ks (T.setTop (mkF m pc Ls (.long z :: rest))) :=
  own_endW X hS hL hZ hJ hlk eT (fun q => by rw [hret] at q; cases q) hc hs hq fun fs hr => retOut X hx hret rfl (Or.inr (Or.inl ⟨rfl, rfl, z, rfl⟩)) hd hr
theorem own_retAW (X : Stand p l e R (s.setVm vm0) m args below meth c T locs cells slots) (hS : s.Since vm0 h.size) (hL : own_L Z a0) (hZ : Z.Warmed39 (s.setVm vm0).vm) (hJ : own_J Z vm0 h) (hx : p.tables.exec = Jvm.exec) (hlk : meth.locks = false) (eT : T.heap = h) {pc : Nat} {Ls : Array Slot} {v : Value} {t : FieldType} {rest : List Value} (hret : meth.sig.returnType = some t) (ht : t.isReference = true) (hv : v.isRef = true)
    (hd : decode c.code pc = .ok (.areturn, 1)) (hc : cells ≤ kc) (hs : slots ≤ ks) (hq : Q (some v) h locs) : own_GoW p e below s Z Q kc ks (T.setTop (mkF m pc Ls (v :: rest))) :=
  own_endW X hS hL hZ hJ hlk eT (fun q => by rw [hret] at q; cases q) hc hs hq fun fs hr => retOut X hx hret (by cases t <;> first | (cases ht; done) | (rcases ref_cases hv with rfl | ⟨_, rfl⟩ <;> rfl)) (Or.inr (Or.inr (Or.inr (Or.inr ⟨rfl, ht, hv⟩)))) hd hr
theorem own_retVW (X : Stand p l e R (s.setVm vm0) m args below meth c T locs cells slots) (hS : s.Since vm0 h.size) (hL : own_L Z a0) (hZ : Z.Warmed39 (s.setVm vm0).vm) (hJ : own_J Z vm0 h) (hx : p.tables.exec = Jvm.exec) (hlk : meth.locks = false) (eT : T.heap = h) {pc : Nat} {Ls : Array Slot} (hret : meth.sig.returnType = none)
    (hd : decode c.code pc = .ok (.return_, 1)) (hc : cells ≤ kc) (hs : slots ≤ ks) (hq : Q none h locs) : own_GoW p e below s Z Q kc ks (T.setTop (mkF m pc Ls [])) :=
  own_endW X hS hL hZ hJ hlk eT (fun _ => rfl) hc hs hq fun fs hr => X.returnOut hx hret hd hr
theorem own_metW {y : MethodName} {bytes : ByteArray} {maxL : Nat} {ret : Option FieldType} {ws : List Jvm.Cond} {rm : Room} {as' : Array Value} (kc ks : Nat) (hpl : plainFor y = true)
    (body : ∀ (p : Program) (e : Env) (s : State) (vm0 : Vm) (m : MethodId) (below : List Frame) (meth : Method) (c : Code) (T : State), Stand p l e rm (s.setVm vm0) m as' below meth c T [] 0 0 → s.Since vm0 h.size → own_J Z vm0 h → own_J Z s.vm s.heap → Z.Warmed39 s.vm → IB s vm0 [] → s.heap = h → p.tables.exec = Jvm.exec → c.code = bytes → c.maxLocals = maxL → meth.sig.returnType = ret → meth.locks = false → Z.Warmed39 (s.setVm vm0).vm → (s.setVm vm0).vm.findClass y.cls = some m.cls → meth.name = y.name → T.heap = h →
      own_GoW p e below s Z Q kc ks (T.setTop (entryFrame m as' maxL))) :
    MetFree l y (head1 (Jvm.Cond.code y bytes maxL ret :: ws) rm) (fun a U => a = as' ∧ Z.Warmed39 U.vm ∧ U.heap = h ∧ own_J Z U.vm U.heap) (fun _ _ _ _ _ => True) (fun _ U o U' => ∃ v L, o = .returned v ∧ (Q v U'.heap L ∧ own_J Z U'.vm U'.heap) ∧ ReturnedEndW U o U' L kc ks) := by
  refine MetFree.of_bodySF hpl hisR ?_
  intro p e s m args below meth c s₁ Bd hml hP hK
  obtain ⟨rfl, hZ, hh, hJ⟩ := hP
  obtain ⟨t, o, h1, h2, h3, h4⟩ := body p e s s.vm m below meth c s₁ (Stand.of_body Bd) ((State.WarmedH.refl s).since _) (by rw [← hh]; exact hJ) hJ hZ IB.start hh Bd.exec Bd.bytes hml Bd.returns Bd.notSynchronized hZ (findClass_of_methodNamed Bd.named) (name_of_methodNamed Bd.named Bd.method).1 (by rw [← hh, Bd.state]; rfl)
  exact ⟨t, o, h1, h2, h3, h4⟩
abbrev own_MetW (l : Launch) (Z : State) (h : Heap) (y : MethodName) (bytes : ByteArray) (maxL : Nat) (ret : Option FieldType) (rm : Room) (as' : Array Value) (Q : Option Value → Heap → List Loc → Prop) : Prop :=
  MetFree l y (head1 [Jvm.Cond.code y bytes maxL ret] rm) (fun a U => a = as' ∧ Z.Warmed39 U.vm ∧ U.heap = h ∧ own_J Z U.vm U.heap) (fun _ _ _ _ _ => True) (fun _ U o U' => ∃ v L, o = .returned v ∧ (Q v U'.heap L ∧ own_J Z U'.vm U'.heap) ∧ ReturnedEndW U o U' L rm.cells rm.slots)
end OwnKitW
section OwnBackJ
variable {p : Program} {l : Launch} {e : Env} {R : Room} {s : State} {vm0 : Vm} {m : MethodId} {args : Array Value} {below : List Frame} {meth : Method} {c : Code} {T : State} {locs : List Loc} {cells slots kc ks : Nat} {Z : State} {a0 : Array Value} {h : Heap} {Q : Option Value → Heap → List Loc → Prop}
theorem own_backJ {y : MethodName} {bytes : ByteArray} {maxL : Nat} {ret : Option FieldType} {rm : Room} {len W : Nat} {as' : Array Value} (hM : own_MetW l Z h y bytes maxL ret rm as' Q) (L : own_L Z a0)
    (hZ : Z.Warmed39 s.vm) (hJ : own_J Z s.vm h) (wc : (Jvm.Cond.code y bytes maxL ret).before a0 Z = true) (wz : (Jvm.Cond.initialized y.cls).before a0 Z = true) (hf : rm.frames + 1 ≤ R.frames) (hl : W + (maxL + 11) + rm.locals ≤ R.locals) :
    BackS l R p e below s args y len W (fun A a => a = as' ∧ A.U.heap = h ∧ A.cells + rm.cells ≤ R.cells ∧ A.slots + rm.slots ≤ R.slots)
      (fun A _ v B => ∃ L, (Q v B.U.heap L ∧ own_J Z B.U.vm B.U.heap) ∧ B.locs = A.locs ++ L ∧ B.cells = A.cells + rm.cells ∧ B.slots = A.slots + rm.slots) :=
  BackS.of_freeW (bytes := bytes) (maxL := maxL) (ret := ret) (E := fun _ _ o t L k n => k = rm.cells ∧ n = rm.slots ∧ ∃ v, o = .returned v ∧ (Q v t.heap L ∧ own_J Z t.vm t.heap)) hM hf hl
    (fun m meth c A a Y hp => have hU : Z.Warmed39 A.U.vm := wtrans hZ Y.warmed
      ⟨by show (Jvm.Cond.and _ .tt).before a A.U = true; rw [Cond.before_and, mv hU wc]; rfl, mv hU wc, mv hU wz, hp.2.2.1, hp.2.2.2⟩)
    (fun m meth c A a g mk Y hp => ⟨hp.1, wtrans hZ Y.warmed, hp.2.1, by
      have q : own_J Z A.U.vm h := own_Jwarm (s := s) L hZ hJ Y.warmed
      rw [← hp.2.1] at q; exact q⟩) (fun _ _ _ _ _ _ _ _ _ => trivial)
    (fun _ _ _ _ ⟨v, L, h1, h2, h3⟩ => ⟨L, _, _, h3, rfl, rfl, v, h1, h2⟩)
    (fun m meth c A a g mk v t L k n Y hp _ _ ⟨e1, e2, v', e3, e4⟩ => by cases e3; subst e1 e2; exact ⟨L, e4, rfl, rfl, rfl⟩)
end OwnBackJ
section OwnKitW2
variable {p : Program} {l : Launch} {e : Env} {R : Room} {s : State} {vm0 : Vm} {m : MethodId} {args : Array Value} {below : List Frame} {meth : Method} {c : Code} {T : State} {locs : List Loc} {cells slots kc ks : Nat} {Z : State} {a0 : Array Value} {h : Heap} {Q : Option Value → Heap → List Loc → Prop}
theorem own_callSW {y : MethodName} {bytes : ByteArray} {maxL : Nat} {ret : Option FieldType} {rm : Room} {as' : Array Value} {own : String} {index : Nat} (X : Stand p l e R (s.setVm vm0) m args below meth c T locs cells slots) (hS : s.Since vm0 h.size) (hL : own_L Z a0) (hJ : own_J Z vm0 h) (hx : p.tables.exec = Jvm.exec) (hZ : Z.Warmed39 (s.setVm vm0).vm) (hown : (s.setVm vm0).vm.findClass own = some m.cls)
    (w1 : (Jvm.Cond.methodLink own index y).before a0 Z = true) (w2 : (Jvm.Cond.static y).before a0 Z = true) (w3 : (Jvm.Cond.initialized y.cls).before a0 Z = true) (w4 : (Jvm.Cond.code y bytes maxL ret).before a0 Z = true) (hM : own_MetW l Z h y bytes maxL ret rm as' Q) (W : Nat) (nc ns : Nat) 
    (hc : cells + nc ≤ R.cells) (hs : slots + ns ≤ R.slots) (eT : T.heap = h) {g : JFrame} (hg : g.method = m) (hsize : g.locals.size = c.maxLocals)
    (argsL rest : List Value) (hlen : ∀ sig, parseMethodDescriptor y.desc = some sig → argsL.length = sig.parameters.length) (hstack : g.stack = argsL.reverse ++ rest) (has : argsL.toArray = as') (hdg : decode c.code g.pc = .ok (.invokestatic index, 3))
    (hy : y.cls ≠ "java/lang/invoke/MethodHandle" ∧ y.cls ≠ "java/lang/invoke/VarHandle" := by decide) (hf : rm.frames + 1 ≤ R.frames := by decide) (hl : W + (maxL + 11) + rm.locals ≤ R.locals := by decide) (hW : 2 * g.monitorRoom + (rest.map fun v => v.category).sum ≤ W := by exact Nat.le_of_eq rfl) (hnc : rm.cells = nc := by rfl) (hns : rm.slots = ns := by rfl) :
    ∃ v T' L, Stand p l e R (s.setVm T'.vm) m args below meth c T' (locs ++ L) (cells + nc) (slots + ns) ∧ s.Since T'.vm T'.heap.size ∧ Z.Warmed39 (s.setVm T'.vm).vm ∧ (s.setVm T'.vm).vm.findClass own = some m.cls ∧ Q v T'.heap L ∧ own_J Z T'.vm T'.heap ∧ ∀ target, Steps p.tables e below (T'.setTop { g with pc := g.pc + 3, stack := v.toList ++ rest }) target → Steps p.tables e below (T.setTop g) target := by
  subst hnc hns
  obtain ⟨v, _, ⟨T', L', k', n'⟩, -, X', hS', hgr, ⟨L, ⟨hQ, hJ'⟩, h1, h2, h3⟩, st⟩ := callSS X hx hown (mvT hZ w1) (mvT hZ w2) (mvT hZ w3) (mvT hZ w4) hy (own_backJ (W := W) hM hL hZ hJ w4 w3 hf hl) hg hsize hlen hstack hW hdg (fun _ _ => ⟨has, eT, hc, hs⟩)
  dsimp only [Pt.U, Pt.locs, Pt.cells, Pt.slots] at X' hS' hgr hQ hJ' h1 h2 h3 st
  subst h1 h2 h3
  have hS2 : s.Since T'.vm T'.heap.size := hS.trans hS' (by rw [← eT]; exact hgr)
  exact ⟨v, T', L, X', hS2, State.Warmed39.trans (t := s.setVm vm0) hZ hS'.1, by rw [show (s.setVm T'.vm).vm = T'.vm from rfl, hS'.1.alike.findClass]; exact hown, hQ, hJ', fun _ k => st.trans k⟩
theorem own_callIW {y : MethodName} {bytes : ByteArray} {maxL : Nat} {rm : Room} {as' : Array Value} {own : String} {index : Nat} (X : Stand p l e R (s.setVm vm0) m args below meth c T locs cells slots) (hS : s.Since vm0 h.size) (hL : own_L Z a0) (hJ : own_J Z vm0 h) (hx : p.tables.exec = Jvm.exec) (hZ : Z.Warmed39 (s.setVm vm0).vm) (hown : (s.setVm vm0).vm.findClass own = some m.cls)
    (w1 : (Jvm.Cond.methodLink own index y).before a0 Z = true) (w2 : (Jvm.Cond.instanceMethod y).before a0 Z = true) (w3 : (Jvm.Cond.initialized y.cls).before a0 Z = true) (w4 : (Jvm.Cond.code y bytes maxL none).before a0 Z = true) (hM : own_MetW l Z h y bytes maxL none rm as' Q) (W : Nat) (nc ns : Nat) (hy1 : y.name = "<init>")
    (hc : cells + nc ≤ R.cells) (hs : slots + ns ≤ R.slots) (eT : T.heap = h) {g : JFrame} (hg : g.method = m) (hsize : g.locals.size = c.maxLocals)
    (a : Addr) (argsL rest : List Value) (hlen : ∀ sig, parseMethodDescriptor y.desc = some sig → argsL.length = sig.parameters.length) (hstack : g.stack = argsL.reverse ++ .ref a :: rest) (has : (Value.ref a :: argsL).toArray = as') (hdg : decode c.code g.pc = .ok (.invokespecial index, 3))
    (hy : y.cls ≠ "java/lang/invoke/MethodHandle" ∧ y.cls ≠ "java/lang/invoke/VarHandle" := by decide) (hf : rm.frames + 1 ≤ R.frames := by decide) (hl : W + (maxL + 11) + rm.locals ≤ R.locals := by decide) (hW : 2 * g.monitorRoom + (rest.map fun v => v.category).sum ≤ W := by exact Nat.le_of_eq rfl) (hnc : rm.cells = nc := by rfl) (hns : rm.slots = ns := by rfl) :
    ∃ v T' L, Stand p l e R (s.setVm T'.vm) m args below meth c T' (locs ++ L) (cells + nc) (slots + ns) ∧ s.Since T'.vm T'.heap.size ∧ Z.Warmed39 (s.setVm T'.vm).vm ∧ (s.setVm T'.vm).vm.findClass own = some m.cls ∧ Q v T'.heap L ∧ own_J Z T'.vm T'.heap ∧ ∀ target, Steps p.tables e below (T'.setTop { g with pc := g.pc + 3, stack := v.toList ++ rest }) target → Steps p.tables e below (T.setTop g) target := by
  subst hnc hns
  obtain ⟨v, _, ⟨T', L', k', n'⟩, -, X', hS', hgr, ⟨L, ⟨hQ, hJ'⟩, h1, h2, h3⟩, st⟩ := X.specialBackS hx hy1 hown (mvT hZ w1) (mvT hZ w2) (mvT hZ w4) hy (own_backJ (W := W) hM hL hZ hJ w4 w3 hf hl) hg hsize (Steps.refl _) (a := a) (argsL := argsL) (rest := rest) hlen hstack hW hdg (fun _ _ => ⟨has, eT, hc, hs⟩)
  dsimp only [Pt.U, Pt.locs, Pt.cells, Pt.slots] at X' hS' hgr hQ hJ' h1 h2 h3 st
  subst h1 h2 h3
  have hS2 : s.Since T'.vm T'.heap.size := hS.trans hS' (by rw [← eT]; exact hgr)
  exact ⟨v, T', L, X', hS2, State.Warmed39.trans (t := s.setVm vm0) hZ hS'.1, by rw [show (s.setVm T'.vm).vm = T'.vm from rfl, hS'.1.alike.findClass]; exact hown, hQ, hJ', fun _ k => st.trans k⟩
theorem own_callVW {y z : MethodName} {bytes : ByteArray} {maxL : Nat} {ret : Option FieldType} {rm : Room} {as' : Array Value} {own C : String} {index : Nat} (X : Stand p l e R (s.setVm vm0) m args below meth c T locs cells slots) (hS : s.Since vm0 h.size) (hL : own_L Z a0) (hJ : own_J Z vm0 h) (hx : p.tables.exec = Jvm.exec) (hZ : Z.Warmed39 (s.setVm vm0).vm) (hown : (s.setVm vm0).vm.findClass own = some m.cls)
    (w1 : (Jvm.Cond.methodLink own index y).before a0 Z = true) (wd : (Jvm.Cond.declares y).before a0 Z = true) (nf : NotFace (s.setVm vm0) y) (wsel : (Jvm.Cond.selects C y z).before a0 Z = true) (w2 : (Jvm.Cond.instanceMethod z).before a0 Z = true) (w3 : (Jvm.Cond.initialized z.cls).before a0 Z = true) (w4 : (Jvm.Cond.code z bytes maxL ret).before a0 Z = true) (hM : own_MetW l Z h z bytes maxL ret rm as' Q) (W : Nat) (nc ns : Nat) 
    (hc : cells + nc ≤ R.cells) (hs : slots + ns ≤ R.slots) (eT : T.heap = h) {a : Addr} (E : Exa Z h a C) {g : JFrame} (hg : g.method = m) (hsize : g.locals.size = c.maxLocals)
    (argsL rest : List Value) (hlen : ∀ sig, parseMethodDescriptor y.desc = some sig → argsL.length = sig.parameters.length) (hstack : g.stack = argsL.reverse ++ .ref a :: rest) (has : (Value.ref a :: argsL).toArray = as') (hdg : decode c.code g.pc = .ok (.invokevirtual index, 3))
    (hy : y.cls ≠ "java/lang/invoke/MethodHandle" ∧ y.cls ≠ "java/lang/invoke/VarHandle" := by decide) (hf : rm.frames + 1 ≤ R.frames := by decide) (hl : W + (maxL + 11) + rm.locals ≤ R.locals := by decide) (hW : 2 * g.monitorRoom + (rest.map fun v => v.category).sum ≤ W := by exact Nat.le_of_eq rfl) (hnc : rm.cells = nc := by rfl) (hns : rm.slots = ns := by rfl) :
    ∃ v T' L, Stand p l e R (s.setVm T'.vm) m args below meth c T' (locs ++ L) (cells + nc) (slots + ns) ∧ s.Since T'.vm T'.heap.size ∧ Z.Warmed39 (s.setVm T'.vm).vm ∧ (s.setVm T'.vm).vm.findClass own = some m.cls ∧ Q v T'.heap L ∧ own_J Z T'.vm T'.heap ∧ ∀ target, Steps p.tables e below (T'.setTop { g with pc := g.pc + 3, stack := v.toList ++ rest }) target → Steps p.tables e below (T.setTop g) target := by
  subst hnc hns
  obtain ⟨cq, kq, qa, qb, qc⟩ := isOf hZ eT E
  obtain ⟨v, _, ⟨T', L', k', n'⟩, -, X', hS', hgr, ⟨L, ⟨hQ, hJ'⟩, h1, h2, h3⟩, st⟩ := X.virtualBackS hx hown (mvT hZ w1) (mvT hZ wd) nf (mvT hZ wsel) (mvT hZ w2) hy (own_backJ (W := W) hM hL hZ hJ w4 w3 hf hl) qa qc hg hsize (Steps.refl _) (argsL := argsL) (rest := rest) hlen hstack hW hdg (fun _ _ => ⟨has, eT, hc, hs⟩)
  dsimp only [Pt.U, Pt.locs, Pt.cells, Pt.slots] at X' hS' hgr hQ hJ' h1 h2 h3 st
  subst h1 h2 h3
  have hS2 : s.Since T'.vm T'.heap.size := hS.trans hS' (by rw [← eT]; exact hgr)
  exact ⟨v, T', L, X', hS2, State.Warmed39.trans (t := s.setVm vm0) hZ hS'.1, by rw [show (s.setVm T'.vm).vm = T'.vm from rfl, hS'.1.alike.findClass]; exact hown, hQ, hJ', fun _ k => st.trans k⟩
theorem own_callPW {y : MethodName} {bytes : ByteArray} {maxL : Nat} {ret : Option FieldType} {rm : Room} {as' : Array Value} {own C : String} {index : Nat} (X : Stand p l e R (s.setVm vm0) m args below meth c T locs cells slots) (hS : s.Since vm0 h.size) (hL : own_L Z a0) (hJ : own_J Z vm0 h) (hx : p.tables.exec = Jvm.exec) (hZ : Z.Warmed39 (s.setVm vm0).vm) (hown : (s.setVm vm0).vm.findClass own = some m.cls)
    (w1 : (Jvm.Cond.methodLink own index y).before a0 Z = true) (w2 : (Jvm.Cond.instanceMethod y).before a0 Z = true) (wsel : (Jvm.Cond.selects y.cls y y).before a0 Z = true) (wp : (Jvm.Cond.privateMethod y).before a0 Z = true) (w3 : (Jvm.Cond.initialized y.cls).before a0 Z = true) (w4 : (Jvm.Cond.code y bytes maxL ret).before a0 Z = true) (hM : own_MetW l Z h y bytes maxL ret rm as' Q) (W : Nat) (nc ns : Nat) 
    (hc : cells + nc ≤ R.cells) (hs : slots + ns ≤ R.slots) (eT : T.heap = h) {a : Addr} (E : Exa Z h a C) {g : JFrame} (hg : g.method = m) (hsize : g.locals.size = c.maxLocals)
    (argsL rest : List Value) (hlen : ∀ sig, parseMethodDescriptor y.desc = some sig → argsL.length = sig.parameters.length) (hstack : g.stack = argsL.reverse ++ .ref a :: rest) (has : (Value.ref a :: argsL).toArray = as') (hdg : decode c.code g.pc = .ok (.invokevirtual index, 3))
    (hy : y.cls ≠ "java/lang/invoke/MethodHandle" ∧ y.cls ≠ "java/lang/invoke/VarHandle" := by decide) (hf : rm.frames + 1 ≤ R.frames := by decide) (hl : W + (maxL + 11) + rm.locals ≤ R.locals := by decide) (hW : 2 * g.monitorRoom + (rest.map fun v => v.category).sum ≤ W := by exact Nat.le_of_eq rfl) (hnc : rm.cells = nc := by rfl) (hns : rm.slots = ns := by rfl) :
    ∃ v T' L, Stand p l e R (s.setVm T'.vm) m args below meth c T' (locs ++ L) (cells + nc) (slots + ns) ∧ s.Since T'.vm T'.heap.size ∧ Z.Warmed39 (s.setVm T'.vm).vm ∧ (s.setVm T'.vm).vm.findClass own = some m.cls ∧ Q v T'.heap L ∧ own_J Z T'.vm T'.heap ∧ ∀ target, Steps p.tables e below (T'.setTop { g with pc := g.pc + 3, stack := v.toList ++ rest }) target → Steps p.tables e below (T.setTop g) target := by
  subst hnc hns
  obtain ⟨cq, q1, q2⟩ := E.cell
  obtain ⟨v, _, ⟨T', L', k', n'⟩, -, X', hS', hgr, ⟨L, ⟨hQ, hJ'⟩, h1, h2, h3⟩, st⟩ := X.privateBackS hx hown (mvT hZ w1) (mvT hZ w2) (mvT hZ wsel) (Cond.privateMethod_at (mvP hZ wp (args := #[]))) (mvT hZ w4) hy (own_backJ (W := W) hM hL hZ hJ w4 w3 hf hl) hg hsize (Steps.refl _) (a := a) (by rw [eT]; exact q1) q2 (argsL := argsL) (rest := rest) hlen hstack hW hdg (fun _ _ => ⟨has, eT, hc, hs⟩)
  dsimp only [Pt.U, Pt.locs, Pt.cells, Pt.slots] at X' hS' hgr hQ hJ' h1 h2 h3 st
  subst h1 h2 h3
  have hS2 : s.Since T'.vm T'.heap.size := hS.trans hS' (by rw [← eT]; exact hgr)
  exact ⟨v, T', L, X', hS2, State.Warmed39.trans (t := s.setVm vm0) hZ hS'.1, by rw [show (s.setVm T'.vm).vm = T'.vm from rfl, hS'.1.alike.findClass]; exact hown, hQ, hJ', fun _ k => st.trans k⟩
theorem own_callFW {xi y : MethodName} {bytes : ByteArray} {maxL : Nat} {ret : Option FieldType} {rm : Room} {as' : Array Value} {own C : String} {index count : Nat} (X : Stand p l e R (s.setVm vm0) m args below meth c T locs cells slots) (hS : s.Since vm0 h.size) (hL : own_L Z a0) (hJ : own_J Z vm0 h) (hx : p.tables.exec = Jvm.exec) (hZ : Z.Warmed39 (s.setVm vm0).vm) (hown : (s.setVm vm0).vm.findClass own = some m.cls)
    (w1 : (Jvm.Cond.methodLink own index xi).before a0 Z = true) (wd : (Jvm.Cond.declares xi).before a0 Z = true) (wfa : (Jvm.Cond.interfaceMethod xi.cls xi.cls xi.name xi.desc).before a0 Z = true) (wsel : (Jvm.Cond.selects C xi y).before a0 Z = true) (w2 : (Jvm.Cond.instanceMethod y).before a0 Z = true) (wp : (Jvm.Cond.publicMethod y).before a0 Z = true) (wu : (Jvm.Cond.unhidden C xi.name xi.desc).before a0 Z = true) (wk : (Jvm.Cond.castable C xi.cls).before a0 Z = true) (w3 : (Jvm.Cond.initialized y.cls).before a0 Z = true) (w4 : (Jvm.Cond.code y bytes maxL ret).before a0 Z = true) (hfk : ((Jvm.Cond.interfaceMethod xi.cls xi.cls xi.name xi.desc).onTables && (Jvm.Cond.interfaceMethod xi.cls xi.cls xi.name xi.desc).keepsFace) = true) (hM : own_MetW l Z h y bytes maxL ret rm as' Q) (W : Nat) (nc ns : Nat) 
    (hc : cells + nc ≤ R.cells) (hs : slots + ns ≤ R.slots) (eT : T.heap = h) {a : Addr} (E : Exa Z h a C) {g : JFrame} (hg : g.method = m) (hsize : g.locals.size = c.maxLocals)
    (argsL rest : List Value) (hlen : ∀ sig, parseMethodDescriptor xi.desc = some sig → argsL.length = sig.parameters.length) (hstack : g.stack = argsL.reverse ++ .ref a :: rest) (has : (Value.ref a :: argsL).toArray = as') (hdg : decode c.code g.pc = .ok (.invokeinterface index count, 5))
    (hy : xi.cls ≠ "java/lang/invoke/MethodHandle" ∧ xi.cls ≠ "java/lang/invoke/VarHandle" := by decide) (hf : rm.frames + 1 ≤ R.frames := by decide) (hl : W + (maxL + 11) + rm.locals ≤ R.locals := by decide) (hW : 2 * g.monitorRoom + (rest.map fun v => v.category).sum ≤ W := by exact Nat.le_of_eq rfl) (hnc : rm.cells = nc := by rfl) (hns : rm.slots = ns := by rfl) :
    ∃ v T' L, Stand p l e R (s.setVm T'.vm) m args below meth c T' (locs ++ L) (cells + nc) (slots + ns) ∧ s.Since T'.vm T'.heap.size ∧ Z.Warmed39 (s.setVm T'.vm).vm ∧ (s.setVm T'.vm).vm.findClass own = some m.cls ∧ Q v T'.heap L ∧ own_J Z T'.vm T'.heap ∧ ∀ target, Steps p.tables e below (T'.setTop { g with pc := g.pc + 5, stack := v.toList ++ rest }) target → Steps p.tables e below (T.setTop g) target := by
  subst hnc hns
  obtain ⟨cq, kq, qa, qb, qc⟩ := isOf hZ eT E
  obtain ⟨v, _, ⟨T', L', k', n'⟩, -, X', hS', hgr, ⟨L, ⟨hQ, hJ'⟩, h1, h2, h3⟩, st⟩ := X.interfaceBackS hx hown (mvT hZ w1) (mvT hZ wd) (mvT hZ wfa hfk) (mvT hZ wsel) (mvT hZ w2) (mvT hZ wp) (mvT hZ wu) (mvT hZ wk) hy (own_backJ (W := W) hM hL hZ hJ w4 w3 hf hl) qa qb qc hg hsize (Steps.refl _) (argsL := argsL) (rest := rest) hlen hstack hW hdg (fun _ _ => ⟨has, eT, hc, hs⟩)
  dsimp only [Pt.U, Pt.locs, Pt.cells, Pt.slots] at X' hS' hgr hQ hJ' h1 h2 h3 st
  subst h1 h2 h3
  have hS2 : s.Since T'.vm T'.heap.size := hS.trans hS' (by rw [← eT]; exact hgr)
  exact ⟨v, T', L, X', hS2, State.Warmed39.trans (t := s.setVm vm0) hZ hS'.1, by rw [show (s.setVm T'.vm).vm = T'.vm from rfl, hS'.1.alike.findClass]; exact hown, hQ, hJ', fun _ k => st.trans k⟩
theorem own_callUW {y z : MethodName} {bytes : ByteArray} {maxL : Nat} {ret : Option FieldType} {rm : Room} {as' : Array Value} {own owner C : String} {index : Nat} (X : Stand p l e R (s.setVm vm0) m args below meth c T locs cells slots) (hS : s.Since vm0 h.size) (hL : own_L Z a0) (hJ : own_J Z vm0 h) (hx : p.tables.exec = Jvm.exec) (hZ : Z.Warmed39 (s.setVm vm0).vm) (hown : (s.setVm vm0).vm.findClass own = some m.cls)
    (w1 : (Jvm.Cond.methodLink own index y).before a0 Z = true) (wsm : (Jvm.Cond.sameMethod y.cls owner y.name y.desc).before a0 Z = true) (wd : (Jvm.Cond.declares ⟨owner, y.name, y.desc⟩).before a0 Z = true) (wsel : (Jvm.Cond.selects C y z).before a0 Z = true) (w2 : (Jvm.Cond.instanceMethod z).before a0 Z = true) (w3 : (Jvm.Cond.initialized z.cls).before a0 Z = true) (w4 : (Jvm.Cond.code z bytes maxL ret).before a0 Z = true) (hM : own_MetW l Z h z bytes maxL ret rm as' Q) (W : Nat) (nc ns : Nat) 
    (hc : cells + nc ≤ R.cells) (hs : slots + ns ≤ R.slots) (eT : T.heap = h) {a : Addr} (E : Exa Z h a C) {g : JFrame} (hg : g.method = m) (hsize : g.locals.size = c.maxLocals)
    (argsL rest : List Value) (hlen : ∀ sig, parseMethodDescriptor y.desc = some sig → argsL.length = sig.parameters.length) (hstack : g.stack = argsL.reverse ++ .ref a :: rest) (has : (Value.ref a :: argsL).toArray = as') (hdg : decode c.code g.pc = .ok (.invokevirtual index, 3))
    (howner : owner ≠ "java/lang/invoke/MethodHandle" ∧ owner ≠ "java/lang/invoke/VarHandle" := by decide) (hf : rm.frames + 1 ≤ R.frames := by decide) (hl : W + (maxL + 11) + rm.locals ≤ R.locals := by decide) (hW : 2 * g.monitorRoom + (rest.map fun v => v.category).sum ≤ W := by exact Nat.le_of_eq rfl) (hnc : rm.cells = nc := by rfl) (hns : rm.slots = ns := by rfl) :
    ∃ v T' L, Stand p l e R (s.setVm T'.vm) m args below meth c T' (locs ++ L) (cells + nc) (slots + ns) ∧ s.Since T'.vm T'.heap.size ∧ Z.Warmed39 (s.setVm T'.vm).vm ∧ (s.setVm T'.vm).vm.findClass own = some m.cls ∧ Q v T'.heap L ∧ own_J Z T'.vm T'.heap ∧ ∀ target, Steps p.tables e below (T'.setTop { g with pc := g.pc + 3, stack := v.toList ++ rest }) target → Steps p.tables e below (T.setTop g) target := by
  subst hnc hns
  obtain ⟨cq, kq, qa, qb, qc⟩ := isOf hZ eT E
  obtain ⟨v, _, ⟨T', L', k', n'⟩, -, X', hS', hgr, ⟨L, ⟨hQ, hJ'⟩, h1, h2, h3⟩, st⟩ := X.virtualBackUpS hx hown (mvT hZ w1) (mvT hZ wsm) (mvT hZ wd) howner (mvT hZ wsel) (mvT hZ w2) (own_backJ (W := W) hM hL hZ hJ w4 w3 hf hl) qa qc hg hsize (Steps.refl _) (argsL := argsL) (rest := rest) hlen hstack hW hdg (fun _ _ => ⟨has, eT, hc, hs⟩)
  dsimp only [Pt.U, Pt.locs, Pt.cells, Pt.slots] at X' hS' hgr hQ hJ' h1 h2 h3 st
  subst h1 h2 h3
  have hS2 : s.Since T'.vm T'.heap.size := hS.trans hS' (by rw [← eT]; exact hgr)
  exact ⟨v, T', L, X', hS2, State.Warmed39.trans (t := s.setVm vm0) hZ hS'.1, by rw [show (s.setVm T'.vm).vm = T'.vm from rfl, hS'.1.alike.findClass]; exact hown, hQ, hJ', fun _ k => st.trans k⟩
end OwnKitW2
theorem own_fd0 : parseFieldDescriptor "[B" = some (.array .byte) := by decide +kernel
theorem own_fd1 : parseFieldDescriptor "B" = some .byte := by decide +kernel
abbrev own_W (Z : State) (a0 : Array Value) : Prop := ∀ d ∈ tables_1, d.before a0 Z = true
abbrev own_y0 : MethodName := ⟨"java/lang/String", "<init>", "([CIILjava/lang/Void;)V"⟩
abbrev own_y1 : MethodName := ⟨"java/lang/String", "<init>", "([C)V"⟩
abbrev own_y2 : MethodName := ⟨"java/lang/String", "coder", "()B"⟩
abbrev own_y3 : MethodName := ⟨"java/lang/String", "length", "()I"⟩
abbrev own_y4 : MethodName := ⟨"com/example/padlock/padlock/lock/AccessOfNodePinLaw", "pick", "(ICIJ)C"⟩
abbrev own_y5 : MethodName := ⟨"java/lang/String", "startsWith", "(Ljava/lang/String;I)Z"⟩
abbrev own_y6 : MethodName := ⟨"java/lang/String", "startsWith", "(Ljava/lang/String;)Z"⟩
abbrev own_y7 : MethodName := ⟨"com/example/padlock/padlock/lock/Access", "ofNode", "(Ljava/lang/String;)Lcom/example/padlock/padlock/lock/Access;"⟩
abbrev own_y8 : MethodName := ⟨"jdk/internal/util/ArraysSupport", "mismatch", "([BI[BII)I"⟩
abbrev own_y9 : MethodName := ⟨"java/lang/Object", "<init>", "()V"⟩
theorem ow0 {Z : State} {a0 : Array Value} (hw : own_W Z a0) : (Cond.constant "com/example/padlock/padlock/lock/AccessOfNodePinLaw" (7 : Nat) (2147483647 : Int32)).before a0 Z = true := hw _ (List.mem_of_getElem? (i := 0) rfl)
theorem ow1 {Z : State} {a0 : Array Value} (hw : own_W Z a0) : (Cond.arrayClass Jvm.ClassFile.FieldType.char).before a0 Z = true := hw _ (List.mem_of_getElem? (i := 1) rfl)
theorem ow2 {Z : State} {a0 : Array Value} (hw : own_W Z a0) : (Cond.classLink "com/example/padlock/padlock/lock/AccessOfNodePinLaw" (16 : Nat) "java/lang/String").before a0 Z = true := hw _ (List.mem_of_getElem? (i := 2) rfl)
theorem ow3 {Z : State} {a0 : Array Value} (hw : own_W Z a0) : (Cond.instantiable "java/lang/String" (4 : Nat)).before a0 Z = true := hw _ (List.mem_of_getElem? (i := 3) rfl)
theorem ow4 {Z : State} {a0 : Array Value} (hw : own_W Z a0) : (Cond.initialized "java/lang/String").before a0 Z = true := hw _ (List.mem_of_getElem? (i := 4) rfl)
theorem ow5 {Z : State} {a0 : Array Value} (hw : own_W Z a0) : (Cond.methodLink "com/example/padlock/padlock/lock/AccessOfNodePinLaw" (18 : Nat) own_y1).before a0 Z = true := hw _ (List.mem_of_getElem? (i := 5) rfl)
theorem ow6 {Z : State} {a0 : Array Value} (hw : own_W Z a0) : (Cond.instanceMethod own_y1).before a0 Z = true := hw _ (List.mem_of_getElem? (i := 6) rfl)
theorem ow7 {Z : State} {a0 : Array Value} (hw : own_W Z a0) : (Cond.code own_y1 jdk_42_method_3_code (2 : Nat) (Option.none : Option Jvm.ClassFile.FieldType)).before a0 Z = true := hw _ (List.mem_of_getElem? (i := 7) rfl)
theorem ow8 {Z : State} {a0 : Array Value} (hw : own_W Z a0) : (Cond.methodLink "java/lang/String" (27 : Nat) own_y0).before a0 Z = true := hw _ (List.mem_of_getElem? (i := 8) rfl)
theorem ow9 {Z : State} {a0 : Array Value} (hw : own_W Z a0) : (Cond.instanceMethod own_y0).before a0 Z = true := hw _ (List.mem_of_getElem? (i := 9) rfl)
theorem ow11 {Z : State} {a0 : Array Value} (hw : own_W Z a0) : (Cond.code own_y0 jdk_42_method_149_code (6 : Nat) (Option.none : Option Jvm.ClassFile.FieldType)).before a0 Z = true := hw _ (List.mem_of_getElem? (i := 11) rfl)
theorem ow12 {Z : State} {a0 : Array Value} (hw : own_W Z a0) : (Cond.methodLink "java/lang/String" (1 : Nat) own_y9).before a0 Z = true := hw _ (List.mem_of_getElem? (i := 12) rfl)
theorem ow13 {Z : State} {a0 : Array Value} (hw : own_W Z a0) : (Cond.instanceMethod own_y9).before a0 Z = true := hw _ (List.mem_of_getElem? (i := 13) rfl)
theorem ow14 {Z : State} {a0 : Array Value} (hw : own_W Z a0) : (Cond.code own_y9 object_method_1_code (1 : Nat) (Option.none : Option Jvm.ClassFile.FieldType)).before a0 Z = true := hw _ (List.mem_of_getElem? (i := 14) rfl)
theorem ow15 {Z : State} {a0 : Array Value} (hw : own_W Z a0) : (Cond.stringLink "java/lang/String" (7 : Nat) "").before a0 Z = true := hw _ (List.mem_of_getElem? (i := 15) rfl)
theorem ow16 {Z : State} {a0 : Array Value} (hw : own_W Z a0) : (Cond.arrayClass Jvm.ClassFile.FieldType.byte).before a0 Z = true := hw _ (List.mem_of_getElem? (i := 16) rfl)
theorem ow17 {Z : State} {a0 : Array Value} (hw : own_W Z a0) : (Cond.laysFinal "java/lang/String" "java/lang/String" "value" "[B").before a0 Z = true := hw _ (List.mem_of_getElem? (i := 17) rfl)
theorem ow18 {Z : State} {a0 : Array Value} (hw : own_W Z a0) : (Cond.laysFinal "java/lang/String" "java/lang/String" "coder" "B").before a0 Z = true := hw _ (List.mem_of_getElem? (i := 18) rfl)
theorem ow19 {Z : State} {a0 : Array Value} (hw : own_W Z a0) : (Cond.soleField "java/lang/String" "value").before a0 Z = true := hw _ (List.mem_of_getElem? (i := 19) rfl)
theorem ow20 {Z : State} {a0 : Array Value} (hw : own_W Z a0) : (Cond.soleField "java/lang/String" "coder").before a0 Z = true := hw _ (List.mem_of_getElem? (i := 20) rfl)
theorem ow21 {Z : State} {a0 : Array Value} (hw : own_W Z a0) : (Cond.fieldLink "java/lang/String" (9 : Nat) "java/lang/String" "value" "[B").before a0 Z = true := hw _ (List.mem_of_getElem? (i := 21) rfl)
theorem ow22 {Z : State} {a0 : Array Value} (hw : own_W Z a0) : (Cond.fieldLink "java/lang/String" (15 : Nat) "java/lang/String" "coder" "B").before a0 Z = true := hw _ (List.mem_of_getElem? (i := 22) rfl)
theorem ow23 {Z : State} {a0 : Array Value} (hw : own_W Z a0) : (Cond.methodLink "com/example/padlock/padlock/lock/AccessOfNodePinLaw" (21 : Nat) own_y7).before a0 Z = true := hw _ (List.mem_of_getElem? (i := 23) rfl)
theorem ow24 {Z : State} {a0 : Array Value} (hw : own_W Z a0) : (Cond.static own_y7).before a0 Z = true := hw _ (List.mem_of_getElem? (i := 24) rfl)
theorem ow25 {Z : State} {a0 : Array Value} (hw : own_W Z a0) : (Cond.initialized "com/example/padlock/padlock/lock/Access").before a0 Z = true := hw _ (List.mem_of_getElem? (i := 25) rfl)
theorem ow26 {Z : State} {a0 : Array Value} (hw : own_W Z a0) : (Cond.code own_y7 prog_5_method_4_code (1 : Nat) (Option.some (Jvm.ClassFile.FieldType.object "com/example/padlock/padlock/lock/Access"))).before a0 Z = true := hw _ (List.mem_of_getElem? (i := 26) rfl)
theorem ow27 {Z : State} {a0 : Array Value} (hw : own_W Z a0) : (Cond.fieldLink "com/example/padlock/padlock/lock/Access" (7 : Nat) "com/example/padlock/padlock/lock/Access" "SHARED" "Lcom/example/padlock/padlock/lock/Access;").before a0 Z = true := hw _ (List.mem_of_getElem? (i := 27) rfl)
theorem ow28 {Z : State} {a0 : Array Value} (hw : own_W Z a0) : (Cond.laysStatic "com/example/padlock/padlock/lock/Access" "SHARED" "Lcom/example/padlock/padlock/lock/Access;").before a0 Z = true := hw _ (List.mem_of_getElem? (i := 28) rfl)
theorem ow29 {Z : State} {a0 : Array Value} (hw : own_W Z a0) : (Cond.fieldLink "com/example/padlock/padlock/lock/Access" (29 : Nat) "com/example/padlock/padlock/lock/Access" "nodePrefix" "Ljava/lang/String;").before a0 Z = true := hw _ (List.mem_of_getElem? (i := 29) rfl)
theorem ow31 {Z : State} {a0 : Array Value} (hw : own_W Z a0) : (Cond.methodLink "com/example/padlock/padlock/lock/Access" (36 : Nat) own_y6).before a0 Z = true := hw _ (List.mem_of_getElem? (i := 31) rfl)
theorem ow32 {Z : State} {a0 : Array Value} (hw : own_W Z a0) : (Cond.declares own_y6).before a0 Z = true := hw _ (List.mem_of_getElem? (i := 32) rfl)
theorem ow33 {Z : State} {a0 : Array Value} (hw : own_W Z a0) : (Cond.instanceMethod own_y6).before a0 Z = true := hw _ (List.mem_of_getElem? (i := 33) rfl)
theorem ow34 {Z : State} {a0 : Array Value} (hw : own_W Z a0) : (Cond.selects "java/lang/String" own_y6 own_y6).before a0 Z = true := hw _ (List.mem_of_getElem? (i := 34) rfl)
theorem ow35 {Z : State} {a0 : Array Value} (hw : own_W Z a0) : (Cond.code own_y6 jdk_42_method_76_code (2 : Nat) (Option.some Jvm.ClassFile.FieldType.boolean)).before a0 Z = true := hw _ (List.mem_of_getElem? (i := 35) rfl)
theorem ow36 {Z : State} {a0 : Array Value} (hw : own_W Z a0) : (Cond.methodLink "java/lang/String" (624 : Nat) own_y5).before a0 Z = true := hw _ (List.mem_of_getElem? (i := 36) rfl)
theorem ow37 {Z : State} {a0 : Array Value} (hw : own_W Z a0) : (Cond.declares own_y5).before a0 Z = true := hw _ (List.mem_of_getElem? (i := 37) rfl)
theorem ow38 {Z : State} {a0 : Array Value} (hw : own_W Z a0) : (Cond.instanceMethod own_y5).before a0 Z = true := hw _ (List.mem_of_getElem? (i := 38) rfl)
theorem ow39 {Z : State} {a0 : Array Value} (hw : own_W Z a0) : (Cond.selects "java/lang/String" own_y5 own_y5).before a0 Z = true := hw _ (List.mem_of_getElem? (i := 39) rfl)
theorem ow40 {Z : State} {a0 : Array Value} (hw : own_W Z a0) : (Cond.code own_y5 jdk_42_method_75_code (8 : Nat) (Option.some Jvm.ClassFile.FieldType.boolean)).before a0 Z = true := hw _ (List.mem_of_getElem? (i := 40) rfl)
theorem ow41 {Z : State} {a0 : Array Value} (hw : own_W Z a0) : (Cond.methodLink "java/lang/String" (505 : Nat) own_y3).before a0 Z = true := hw _ (List.mem_of_getElem? (i := 41) rfl)
theorem ow42 {Z : State} {a0 : Array Value} (hw : own_W Z a0) : (Cond.declares own_y3).before a0 Z = true := hw _ (List.mem_of_getElem? (i := 42) rfl)
theorem ow43 {Z : State} {a0 : Array Value} (hw : own_W Z a0) : (Cond.instanceMethod own_y3).before a0 Z = true := hw _ (List.mem_of_getElem? (i := 43) rfl)
theorem ow44 {Z : State} {a0 : Array Value} (hw : own_W Z a0) : (Cond.selects "java/lang/String" own_y3 own_y3).before a0 Z = true := hw _ (List.mem_of_getElem? (i := 44) rfl)
theorem ow45 {Z : State} {a0 : Array Value} (hw : own_W Z a0) : (Cond.code own_y3 jdk_42_method_54_code (1 : Nat) (Option.some Jvm.ClassFile.FieldType.int)).before a0 Z = true := hw _ (List.mem_of_getElem? (i := 45) rfl)
theorem ow46 {Z : State} {a0 : Array Value} (hw : own_W Z a0) : (Cond.methodLink "java/lang/String" (335 : Nat) own_y2).before a0 Z = true := hw _ (List.mem_of_getElem? (i := 46) rfl)
theorem ow47 {Z : State} {a0 : Array Value} (hw : own_W Z a0) : (Cond.declares own_y2).before a0 Z = true := hw _ (List.mem_of_getElem? (i := 47) rfl)
theorem ow48 {Z : State} {a0 : Array Value} (hw : own_W Z a0) : (Cond.instanceMethod own_y2).before a0 Z = true := hw _ (List.mem_of_getElem? (i := 48) rfl)
theorem ow49 {Z : State} {a0 : Array Value} (hw : own_W Z a0) : (Cond.selects "java/lang/String" own_y2 own_y2).before a0 Z = true := hw _ (List.mem_of_getElem? (i := 49) rfl)
theorem ow50 {Z : State} {a0 : Array Value} (hw : own_W Z a0) : (Cond.code own_y2 jdk_42_method_152_code (1 : Nat) (Option.some Jvm.ClassFile.FieldType.byte)).before a0 Z = true := hw _ (List.mem_of_getElem? (i := 50) rfl)
theorem ow51 {Z : State} {a0 : Array Value} (hw : own_W Z a0) : (Cond.fieldLink "java/lang/String" (38 : Nat) "java/lang/String" "COMPACT_STRINGS" "Z").before a0 Z = true := hw _ (List.mem_of_getElem? (i := 51) rfl)
theorem ow52 {Z : State} {a0 : Array Value} (hw : own_W Z a0) : (Cond.fieldLink "com/example/padlock/padlock/lock/Access" (3 : Nat) "com/example/padlock/padlock/lock/Access" "EXCLUSIVE" "Lcom/example/padlock/padlock/lock/Access;").before a0 Z = true := hw _ (List.mem_of_getElem? (i := 52) rfl)
theorem ow53 {Z : State} {a0 : Array Value} (hw : own_W Z a0) : (Cond.laysStatic "com/example/padlock/padlock/lock/Access" "EXCLUSIVE" "Lcom/example/padlock/padlock/lock/Access;").before a0 Z = true := hw _ (List.mem_of_getElem? (i := 53) rfl)
theorem ow54 {Z : State} {a0 : Array Value} (hw : own_W Z a0) : (Cond.fieldLink "com/example/padlock/padlock/lock/AccessOfNodePinLaw" (31 : Nat) "com/example/padlock/padlock/lock/Access" "EXCLUSIVE" "Lcom/example/padlock/padlock/lock/Access;").before a0 Z = true := hw _ (List.mem_of_getElem? (i := 54) rfl)
theorem ow55 {Z : State} {a0 : Array Value} (hw : own_W Z a0) : (Cond.methodLink "com/example/padlock/padlock/lock/AccessOfNodePinLaw" (8 : Nat) own_y4).before a0 Z = true := hw _ (List.mem_of_getElem? (i := 55) rfl)
theorem ow56 {Z : State} {a0 : Array Value} (hw : own_W Z a0) : (Cond.static own_y4).before a0 Z = true := hw _ (List.mem_of_getElem? (i := 56) rfl)
theorem ow57 {Z : State} {a0 : Array Value} (hw : own_W Z a0) : (Cond.initialized "com/example/padlock/padlock/lock/AccessOfNodePinLaw").before a0 Z = true := hw _ (List.mem_of_getElem? (i := 57) rfl)
theorem ow58 {Z : State} {a0 : Array Value} (hw : own_W Z a0) : (Cond.code own_y4 method_3_code (5 : Nat) (Option.some Jvm.ClassFile.FieldType.char)).before a0 Z = true := hw _ (List.mem_of_getElem? (i := 58) rfl)
theorem ow59 {Z : State} {a0 : Array Value} (hw : own_W Z a0) : (Cond.constantLong "com/example/padlock/padlock/lock/AccessOfNodePinLaw" (14 : Nat) (255 : Int64)).before a0 Z = true := hw _ (List.mem_of_getElem? (i := 59) rfl)
theorem ow70 {Z : State} {a0 : Array Value} (hw : own_W Z a0) : (Cond.methodLink "java/lang/String" (607 : Nat) own_y8).before a0 Z = true := hw _ (List.mem_of_getElem? (i := 70) rfl)
theorem ow71 {Z : State} {a0 : Array Value} (hw : own_W Z a0) : (Cond.static own_y8).before a0 Z = true := hw _ (List.mem_of_getElem? (i := 71) rfl)
theorem ow72 {Z : State} {a0 : Array Value} (hw : own_W Z a0) : (Cond.initialized "jdk/internal/util/ArraysSupport").before a0 Z = true := hw _ (List.mem_of_getElem? (i := 72) rfl)
theorem ow73 {Z : State} {a0 : Array Value} (hw : own_W Z a0) : (Cond.code own_y8 jdk_48_method_14_code (8 : Nat) (Option.some Jvm.ClassFile.FieldType.int)).before a0 Z = true := hw _ (List.mem_of_getElem? (i := 73) rfl)
theorem ow74 {Z : State} {a0 : Array Value} (hw : own_W Z a0) : (Cond.fieldLink "com/example/padlock/padlock/lock/AccessOfNodePinLaw" (27 : Nat) "com/example/padlock/padlock/lock/Access" "SHARED" "Lcom/example/padlock/padlock/lock/Access;").before a0 Z = true := hw _ (List.mem_of_getElem? (i := 74) rfl)
theorem own_sn0 {Z : State} {a0 : Array Value} (hw : own_W Z a0) : Jvm.RoadKit.slotOf Z "java/lang/String" "coder" "B" ≠ Jvm.RoadKit.slotOf Z "java/lang/String" "value" "[B" := slot_ne (Or.inr (ow18 hw)) (Or.inr (ow17 hw)) (by decide +kernel) (t := .byte) (t' := (.array .byte)) own_fd1 own_fd0
theorem own_Lhw {Z : State} {a0 : Array Value} (hw : own_W Z a0) : own_L Z a0 := by
  intro e he
  simp only [consts_1, List.mem_cons, List.not_mem_nil, or_false] at he
  rcases he with rfl
  · exact ⟨_, hw _ (List.mem_of_getElem? (i := 15) rfl)⟩
theorem own_Jstart {s : State} {a0 args : Array Value} {tb : Tables} {e : Env} (hw : ∀ d ∈ tables_1, d.before a0 s = true) (hcw : (Jvm.Cond.not (Jvm.Cond.eq (Jvm.Term.static "java/lang/String" "COMPACT_STRINGS" "Z") (Jvm.Term.int (0 : Int32)))).before a0 s = true) (hc : Calls_1 tb e args s) : own_J s s.vm s.heap := by
  intro e he
  have hh := hc.1 e he
  simp only [consts_1, List.mem_cons, List.not_mem_nil, or_false] at he
  rcases he with rfl
  · exact heldStart hh (hw _ (List.mem_of_getElem? (i := 15) rfl)) (by decide) hcw (hw _ (List.mem_of_getElem? (i := 16) rfl)) (hw _ (List.mem_of_getElem? (i := 3) rfl))
theorem own_pd_0 : parseMethodDescriptor "([CIILjava/lang/Void;)V" = some ⟨[(.array .char), .int, .int, (.object "java/lang/Void")], none⟩ := by decide +kernel
theorem own_pd_1 : parseMethodDescriptor "()B" = some ⟨[], some .byte⟩ := by decide +kernel
theorem own_pd_2 : parseMethodDescriptor "()I" = some ⟨[], some .int⟩ := by decide +kernel
theorem own_pd_3 : parseMethodDescriptor "(Ljava/lang/String;I)Z" = some ⟨[(.object "java/lang/String"), .int], some .boolean⟩ := by decide +kernel
theorem own_pd_4 : parseMethodDescriptor "(Ljava/lang/String;)Z" = some ⟨[(.object "java/lang/String")], some .boolean⟩ := by decide +kernel
theorem own_pd_5 : parseMethodDescriptor "([BI[BII)I" = some ⟨[(.array .byte), .int, (.array .byte), .int, .int], some .int⟩ := by decide +kernel
theorem own_pd_6 : parseMethodDescriptor "([C)V" = some ⟨[(.array .char)], none⟩ := by decide +kernel
theorem own_pd_7 : parseMethodDescriptor "(Ljava/lang/String;)Lcom/example/padlock/padlock/lock/Access;" = some ⟨[(.object "java/lang/String")], some (.object "com/example/padlock/padlock/lock/Access")⟩ := by decide +kernel
theorem own_pd_8 : parseMethodDescriptor "(ICIJ)C" = some ⟨[.int, .char, .int, .long], some .char⟩ := by decide +kernel
theorem own_pn_0 : plainName "java/lang/String" = true := by first | (simp [plainName, overriddenIn]; done) | decide +kernel
theorem own_pn_1 : plainName "com/example/padlock/padlock/lock/AccessOfNodePinLaw" = true := by first | (simp [plainName, overriddenIn]; done) | decide +kernel
theorem own_pn_2 : plainName "com/example/padlock/padlock/lock/Access" = true := by first | (simp [plainName, overriddenIn]; done) | decide +kernel
theorem own_pn_3 : plainName "jdk/internal/util/ArraysSupport" = true := by first | (simp [plainName, overriddenIn]; done) | decide +kernel
theorem own_wS {Z : State} {a0 : Array Value} (hw : ∀ d ∈ tables_1, d.before a0 Z = true) : ∀ a ∈ Bundle.stringAtoms, a.before a0 Z = true := by
  intro d hd
  simp only [Bundle.stringAtoms, List.mem_cons, List.not_mem_nil, or_false] at hd
  rcases hd with rfl | rfl | rfl | rfl | rfl | rfl | rfl
  · exact (ow4 hw)
  · exact (ow3 hw)
  · exact (ow16 hw)
  · exact (ow17 hw)
  · exact (ow18 hw)
  · exact (ow19 hw)
  · exact (ow20 hw)
def own_C8 (c : Int32) : Prop := ¬ c < 0 ∧ ¬ (255 : Int32) < c
theorem own_c8m (x : Int32) : own_C8 (x &&& (255 : Int32)) := by
  have a1 := c_and x 255 (by decide)
  have a2 : (255 : Int32).toInt = 255 := by decide
  have a3 : (0 : Int32).toInt = 0 := by decide
  exact ⟨by rw [Int32.lt_iff_toInt_lt]; omega, by rw [Int32.lt_iff_toInt_lt]; omega⟩
theorem own_narM (x : Int32) : nar .char (x &&& (255 : Int32)) = (x &&& (255 : Int32)) := i2c_mask x
theorem own_nar8 {c : Int32} (h : own_C8 c) : nar .char c = c := by
  have a1 := c_i2c c
  have a2 : (255 : Int32).toInt = 255 := by decide
  have a3 : (0 : Int32).toInt = 0 := by decide
  have a4 := mt Int32.lt_iff_toInt_lt.mpr h.1
  have a5 := mt Int32.lt_iff_toInt_lt.mpr h.2
  exact Int32.toInt_inj.mp (by show c.toUInt32.toUInt16.toUInt32.toInt32.toInt = c.toInt; omega)
theorem own_shr0 (x : Int32) : x >>> ((0 : Int32) &&& 31) = x := by
  have a := c_ishr x 0 0 (by decide)
  exact Int32.toInt_inj.mp (by rw [a]; simp)
theorem own_shl0 (x : Int32) : x <<< ((0 : Int32) &&& 31) = x := by
  have a := c_ishl x 0 0 (by decide)
  have b := rng32 x
  have c := rng32 (x <<< ((0 : Int32) &&& 31))
  have e : ((2 ^ 0 : Nat) : Int) = 1 := rfl
  rw [e, Int.mul_one] at a
  exact Int32.toInt_inj.mp (by omega)
theorem own_narB (x : Int32) : nar .byte x.toInt8.toInt32 = x.toInt8.toInt32 := by
  have a1 := c_i2b x
  have a2 := c_i2b x.toInt8.toInt32
  exact Int32.toInt_inj.mp (by show x.toInt8.toInt32.toInt8.toInt32.toInt = x.toInt8.toInt32.toInt; omega)
theorem own_c8n {c : Int32} (h : own_C8 c) : own_C8 (nar .char c) := by rw [own_nar8 h]; exact h
theorem own_c8l (x : Int64) : own_C8 (((x &&& (255 : Int64)).toInt32).toUInt32.toUInt16.toUInt32.toInt32) := by
  have a1 := c_i2c ((x &&& (255 : Int64)).toInt32)
  have a2 : (255 : Int32).toInt = 255 := by decide
  have a3 : (0 : Int32).toInt = 0 := by decide
  have a4 := c_maskL x 255 8 (by decide) (by decide)
  have a5 := c_l2i (x &&& (255 : Int64))
  have a6 := rng32 ((x &&& (255 : Int64)).toInt32)
  exact ⟨by rw [Int32.lt_iff_toInt_lt]; omega, by rw [Int32.lt_iff_toInt_lt]; omega⟩
theorem own_b8 {c k : Int32} (h : own_C8 c) (k0 : 0 ≤ k.toInt) (k1 : k.toInt < 128) : c.toInt8.toInt32 = k ↔ c = k := by
  have a1 := c_i2b c
  have a2 : (255 : Int32).toInt = 255 := by decide
  have a3 : (0 : Int32).toInt = 0 := by decide
  have a4 := mt Int32.lt_iff_toInt_lt.mpr h.1
  have a5 := mt Int32.lt_iff_toInt_lt.mpr h.2
  constructor
  · intro q; have q' := congrArg Int32.toInt q; exact Int32.toInt_inj.mp (by omega)
  · intro q; have q' := congrArg Int32.toInt q; exact Int32.toInt_inj.mp (by omega)
theorem own_cN : ∀ c ∈ ([] : List Int32), own_C8 c := fun _ q => nomatch q
theorem own_cC {a : Int32} {l : List Int32} (h : own_C8 a) (t : ∀ c ∈ l, own_C8 c) : ∀ c ∈ a :: l, own_C8 c := fun c q => (List.mem_cons.mp q).elim (fun e => e ▸ h) (t c)
theorem own_sw1 {Z : State} {a0 : Array Value} (hw : ∀ d ∈ tables_1, d.before a0 Z = true) : ∀ d ∈ StrChars.Road.words, d.before a0 Z = true := fun d hd => hw d ((by decide +kernel : ∀ d ∈ StrChars.Road.words, d ∈ tables_1) d hd)
theorem own_lenOf {args : Array Value} {s : State} {t : Term} {a : Addr} {c : Cell} {k : Int32} (et : t.eval args s none [] s = some (.ref a)) (A : s.arrayAt? a = some c) (h : (Jvm.Cond.eq (Term.length t) (Term.int k)).value args s none s [] = some true) : c.slots.size < 2 ^ 31 ∧ c.slots.size.toInt32 = k := by
  by_cases q : c.slots.size < 2 ^ 31
  · refine ⟨q, ?_⟩
    have e := len_f (o := none) (first := s) (idx := []) et A q
    exact gotT (Cond.eq_ints e (Term.int_eval k)) h
  · exfalso
    simp [Cond.value, Term.eval, et, A, q] at h
theorem own_subIdx {args : Array Value} {s : State} {j : Int32} (hj : ¬ j < 0) : (Term.sub (.index 0) (.int 128)).eval args s none [j.toNatClampNeg] s = some (.int (j - 128)) := by
  simp [Term.eval, (back32 hj).1]
theorem own_ordFld {args : Array Value} {s : State} {t : Term} {w : Addr} {C f d : String} {k : Int32} (n3 : (Jvm.Cond.eq (Term.field t C f d) (Term.int k)).value args s none s [] = some true)
    (e1 : t.eval args s none [] s = some (.ref w)) : s.fieldOf? w C f d = some (.int k) := (fld_at e1).symm.trans (eqv_i (Term.int_eval k) n3)
theorem own_elemI {args : Array Value} {s : State} {t : Term} {a : Addr} {c : Cell} {j k : Int32} (et : t.eval args s none [] s = some (.ref a)) (A : s.arrayAt? a = some c) (hj : ¬ j < 0) (h : (Jvm.Cond.eq (Term.elem t (Term.int j)) (Term.int k)).value args s none s [] = some true) : c.slots[j.toNatClampNeg]? = some (.int k) :=
  (elem_f et (Term.int_eval j) A hj).symm.trans (eqv_i (Term.int_eval k) h)
theorem own_neOrd {args : Array Value} {s : State} {t1 t2 : Term} {wx wy : Addr} {C f : String} (n3 : (Jvm.Cond.eq (Term.field t1 C f "I") (Term.int 0)).value args s none s [] = some true) (n4 : (Jvm.Cond.eq (Term.field t2 C f "I") (Term.int 1)).value args s none s [] = some true)
    (e1 : t1.eval args s none [] s = some (.ref wx)) (e2 : t2.eval args s none [] s = some (.ref wy)) : wx ≠ wy := by
  rintro rfl
  have h1 := (fld_at e1).symm.trans (eqv_i (Term.int_eval 0) n3)
  have h2 := (fld_at e2).symm.trans (eqv_i (Term.int_eval 1) n4)
  rw [h1] at h2
  revert h2; decide
def own_P7 (x0 x1 x2 x3 x4 x5 x6 : Int32) : Prop := x0 = (115 : Int32) ∧ x1 = (104 : Int32) ∧ x2 = (97 : Int32) ∧ x3 = (114 : Int32) ∧ x4 = (101 : Int32) ∧ x5 = (100 : Int32) ∧ x6 = (45 : Int32)
theorem own_m10 (x : Int32) : ((x &&& (2147483647 : Int32)) % (10 : Int32)) = (0 : Int32) ∨ ((x &&& (2147483647 : Int32)) % (10 : Int32)) = (1 : Int32) ∨ ((x &&& (2147483647 : Int32)) % (10 : Int32)) = (2 : Int32) ∨ ((x &&& (2147483647 : Int32)) % (10 : Int32)) = (3 : Int32) ∨ ((x &&& (2147483647 : Int32)) % (10 : Int32)) = (4 : Int32) ∨ ((x &&& (2147483647 : Int32)) % (10 : Int32)) = (5 : Int32) ∨ ((x &&& (2147483647 : Int32)) % (10 : Int32)) = (6 : Int32) ∨ ((x &&& (2147483647 : Int32)) % (10 : Int32)) = (7 : Int32) ∨ ((x &&& (2147483647 : Int32)) % (10 : Int32)) = (8 : Int32) ∨ ((x &&& (2147483647 : Int32)) % (10 : Int32)) = (9 : Int32) := by
  have a1 := c_mask x 2147483647 31 (by decide) (by decide)
  have a2 := c_irem (x &&& 2147483647) 10 10 rfl
  have h : ((x &&& 2147483647) % 10).toInt = 0 ∨ ((x &&& 2147483647) % 10).toInt = 1 ∨ ((x &&& 2147483647) % 10).toInt = 2 ∨ ((x &&& 2147483647) % 10).toInt = 3 ∨ ((x &&& 2147483647) % 10).toInt = 4 ∨ ((x &&& 2147483647) % 10).toInt = 5 ∨ ((x &&& 2147483647) % 10).toInt = 6 ∨ ((x &&& 2147483647) % 10).toInt = 7 ∨ ((x &&& 2147483647) % 10).toInt = 8 ∨ ((x &&& 2147483647) % 10).toInt = 9 := by omega
  have k : ∀ z : Int32, ((x &&& 2147483647) % 10).toInt = z.toInt → ((x &&& 2147483647) % 10) = z := fun z q => Int32.toInt_inj.mp q
  rcases h with h | h | h | h | h | h | h | h | h | h
  · exact Or.inl (k 0 (h.trans (by decide)))
  · exact Or.inr (Or.inl (k 1 (h.trans (by decide))))
  · exact Or.inr (Or.inr (Or.inl (k 2 (h.trans (by decide)))))
  · exact Or.inr (Or.inr (Or.inr (Or.inl (k 3 (h.trans (by decide))))))
  · exact Or.inr (Or.inr (Or.inr (Or.inr (Or.inl (k 4 (h.trans (by decide)))))))
  · exact Or.inr (Or.inr (Or.inr (Or.inr (Or.inr (Or.inl (k 5 (h.trans (by decide))))))))
  · exact Or.inr (Or.inr (Or.inr (Or.inr (Or.inr (Or.inr (Or.inl (k 6 (h.trans (by decide)))))))))
  · exact Or.inr (Or.inr (Or.inr (Or.inr (Or.inr (Or.inr (Or.inr (Or.inl (k 7 (h.trans (by decide))))))))))
  · exact Or.inr (Or.inr (Or.inr (Or.inr (Or.inr (Or.inr (Or.inr (Or.inr (Or.inl (k 8 (h.trans (by decide)))))))))))
  · exact Or.inr (Or.inr (Or.inr (Or.inr (Or.inr (Or.inr (Or.inr (Or.inr (Or.inr ((k 9 (h.trans (by decide))))))))))))
def own_Olds (Z : State) (zc : Int32) (wx : Addr) (wy : Addr) (wsp : Addr) (wspv : Addr) (wspk : ClassId) : Prop := Sta Z Z.heap "java/lang/String" "COMPACT_STRINGS" "Z" (.int zc) ∧ ¬ zc = (0 : Int32) ∧ Sta Z Z.heap "com/example/padlock/padlock/lock/Access" "EXCLUSIVE" "Lcom/example/padlock/padlock/lock/Access;" (.ref wx) ∧ Sta Z Z.heap "com/example/padlock/padlock/lock/Access" "SHARED" "Lcom/example/padlock/padlock/lock/Access;" (.ref wy) ∧ Fld Z Z.heap wy "com/example/padlock/padlock/lock/Access" "nodePrefix" "Ljava/lang/String;" (.ref wsp) ∧ Exa Z Z.heap wsp "java/lang/String" ∧ Fld Z Z.heap wsp "java/lang/String" "coder" "B" (.int (0 : Int32)) ∧ Fld Z Z.heap wsp "java/lang/String" "value" "[B" (.ref wspv) ∧ Arv Z Z.heap wspv wspk .byte (7 : Int32) [(.int (115 : Int32)), (.int (104 : Int32)), (.int (97 : Int32)), (.int (114 : Int32)), (.int (101 : Int32)), (.int (100 : Int32)), (.int (45 : Int32))] (.int (0 : Int32))
theorem d2_0 : decode jdk_42_method_149_code 0 = .ok (.aload_n 0, 1) := by decide +kernel
theorem d2_1 : decode jdk_42_method_149_code 1 = .ok (.invokespecial 1, 3) := by decide +kernel
theorem d2_4 : decode jdk_42_method_149_code 4 = .ok (.iload_n 3, 1) := by decide +kernel
theorem d2_5 : decode jdk_42_method_149_code 5 = .ok (.ifCond .ne 22, 3) := by decide +kernel
theorem d2_8 : decode jdk_42_method_149_code 8 = .ok (.aload_n 0, 1) := by decide +kernel
theorem d2_9 : decode jdk_42_method_149_code 9 = .ok (.ldc 7, 2) := by decide +kernel
theorem d2_11 : decode jdk_42_method_149_code 11 = .ok (.getfield 9, 3) := by decide +kernel
theorem d2_14 : decode jdk_42_method_149_code 14 = .ok (.putfield 9, 3) := by decide +kernel
theorem d2_17 : decode jdk_42_method_149_code 17 = .ok (.aload_n 0, 1) := by decide +kernel
theorem d2_18 : decode jdk_42_method_149_code 18 = .ok (.ldc 7, 2) := by decide +kernel
theorem d2_20 : decode jdk_42_method_149_code 20 = .ok (.getfield 15, 3) := by decide +kernel
theorem d2_23 : decode jdk_42_method_149_code 23 = .ok (.putfield 15, 3) := by decide +kernel
theorem d2_26 : decode jdk_42_method_149_code 26 = .ok (.return_, 1) := by decide +kernel
def Q_st2E (Z : State) (zc : Int32) (wx : Addr) (wy : Addr) (wsp : Addr) (wspv : Addr) (wspk : ClassId) (a1 : Addr) (a2 : Addr) (k : ClassId) (h0 : Heap) (v : Option Value) (h : Heap) (L : List Loc) : Prop := (∃ t : Addr, ∃ kt : ClassId, v = none ∧ Fr Z.heap.size L ∧ Keep h0 h [a1] ∧ Exa Z h a1 "java/lang/String" ∧ Fld Z h a1 "java/lang/String" "coder" "B" (.int (0 : Int32)) ∧ Fld Z h a1 "java/lang/String" "value" "[B" (.ref t) ∧ Arv Z h t kt .byte (0 : Int32) [] (.int (0 : Int32)))
theorem ef_st2E (m : MethodId) (x0 : Addr) (x1 : Addr) : entryFrame m #[(.ref x0), (.ref x1), (.int (0 : Int32)), (.int (0 : Int32)), .null] 6 = mkF m 0 #[rv x0, rv x1, iv (0 : Int32), iv (0 : Int32), .val .null, .unset] [] := by first | (simp [entryFrame, mkF, argsToLocals, Value.category]; done) | rfl
set_option maxRecDepth 65536 in
set_option maxHeartbeats 40000000 in
theorem rm_st2E (l : Launch) (Z : State) (a0 : Array Value) (hw : own_W Z a0) {zc : Int32} {wx : Addr} {wy : Addr} {wsp : Addr} {wspv : Addr} {wspk : ClassId} (hO : own_Olds Z zc wx wy wsp wspv wspk) (ws : List Jvm.Cond) (a1 : Addr) (a2 : Addr) (k : ClassId) (h0 : Heap) (O0 : Ext Z.heap h0) (fp0 : Exa Z h0 a1 "java/lang/String") (fp1 : Fld Z h0 a1 "java/lang/String" "value" "[B" .null) (fp2 : Fld Z h0 a1 "java/lang/String" "coder" "B" (.int (0 : Int32))) (fp3 : Arv Z h0 a2 k .char (0 : Int32) [] (.int (0 : Int32))) (big_a1 : Z.heap.size ≤ a1) :
    MetFree l own_y0 (head1 (Jvm.Cond.code own_y0 jdk_42_method_149_code 6 none :: ws) ({ frames := 1, cells := 2, slots := 4, locals := 12 } : Room)) (fun a U => a = #[(.ref a1), (.ref a2), (.int (0 : Int32)), (.int (0 : Int32)), .null] ∧ Z.Warmed39 U.vm ∧ U.heap = h0 ∧ own_J Z U.vm U.heap) (fun _ _ _ _ _ => True) (fun _ U o U' => ∃ v L, o = .returned v ∧ ((Q_st2E Z zc wx wy wsp wspv wspk a1 a2 k h0) v U'.heap L ∧ own_J Z U'.vm U'.heap) ∧ ReturnedEndW U o U' L ({ frames := 1, cells := 2, slots := 4, locals := 12 } : Room).cells ({ frames := 1, cells := 2, slots := 4, locals := 12 } : Room).slots) := by
  refine own_metW (Q := (Q_st2E Z zc wx wy wsp wspv wspk a1 a2 k h0)) _ _ (plainFor_of_name own_pn_0) ?_
  intro p e s vm0 m below meth c T X0 hS hJ hJ0 hZ0 hI hs0 hx hby hml hret hlk hZ hown hnm e0
  replace hown : (s.setVm vm0).vm.findClass "java/lang/String" = some m.cls := hown
  replace hnm : meth.name = "<init>" := hnm
  have hml : c.maxLocals = 6 := hml
  obtain ⟨oCS, oCz, oEx, oSh, oPF, oSPE, oSPC, oSPF, oSPV⟩ := id hO
  have N0 := Fr.nil Z.heap.size
  have hL := own_Lhw hw
  have K0 := Keep.refl h0 [a1]
  refine own_goW (fun _ k => castTop (ef_st2E m a1 a2) k) ?_
  have ne1 : a2 ≠ a1 := (Ne.symm (Exa.neArv fp0 fp3 (ow3 hw)))
  show own_GoW p e below s _ _ _ _ (T.setTop (mkF m 0 #[rv a1, rv a2, iv (0 : Int32), iv (0 : Int32), .val .null, .unset] []))
  refine own_goW (fun _ k => XS.aloadN X0.here hx rfl (hb hby d2_0) rfl rfl k) ?_
  obtain ⟨T2, X2, e2, st2⟩ := initO X0 hx hZ hown (ow12 hw) (ow13 hw) (ow14 hw) e0 (g := (mkF m 1 #[rv a1, rv a2, iv (0 : Int32), iv (0 : Int32), .val .null, .unset] [(.ref a1)])) rfl (by rw [hml]; rfl) rfl (hb hby d2_1) (by decide) (W := 0) (by show 2 * 0 + _ ≤ _; exact Nat.le_of_eq rfl) (by decide)
  refine own_goW st2 ?_
  clear st2 X0 e0
  refine own_goW (fun _ k => XS.iloadN X2.here hx rfl (hb hby d2_4) rfl (XS.ifNo X2.here hx rfl (hb hby d2_5) rfl ((if0 _ _).trans (teq (by decide : (0 : Int32) = (0 : Int32))).2) (XS.aloadN X2.here hx rfl (hb hby d2_8) rfl rfl k))) ?_
  obtain ⟨b3, T3, h3, vm3, u3, X3, e3, E3, hSn, hZn, hownn, hJn, hIn, li3, tx3, sl3, st3⟩ := own_ldcJ X2 hS hx hZ hown hL (List.mem_of_getElem? (i := 0) rfl) (ow15 hw) (own_wS hw) e2 (Fr.nil _) hJ0 hZ0 hJ hI (by decide) (by decide) (g := (mkF m 9 #[rv a1, rv a2, iv (0 : Int32), iv (0 : Int32), .val .null, .unset] [(.ref a1)])) rfl (hb hby d2_9) (n := 0) (by decide) (by decide) (by show _ ≤ 2; omega) (by show _ ≤ 4; omega)
  refine own_goW st3 ?_
  clear st3 X2 e2
  replace hS := hSn
  replace hZ := hZn
  replace hown := hownn
  replace hJ := hJn
  replace hI := hIn
  clear hSn hZn hownn hJn hIn
  replace fp0 := fp0.ext E3
  replace fp1 := fp1.ext E3
  replace fp2 := fp2.ext E3
  replace O0 := own_oldExt O0 E3
  replace K0 := K0.ext E3
  clear E3
  obtain ⟨t3, kt3, g13, g23, g33, g43⟩ := own_litFacts hZ sl3 tx3 (by decide)
  clear sl3 tx3
  replace g43 : Arv Z h3 t3 kt3 .byte (0 : Int32) [] (.int (0 : Int32)) := g43
  show own_GoW p e below s _ _ _ _ (T3.setTop (mkF m 11 #[rv a1, rv a2, iv (0 : Int32), iv (0 : Int32), .val .null, .unset] [(.ref b3), (.ref a1)]))
  obtain ⟨T4, X4, e4, st4⟩ := getF X3 hx hZ hown (host := "") (Or.inl (ow21 hw)) Via.refl e3 g33 (g := (mkF m 11 #[rv a1, rv a2, iv (0 : Int32), iv (0 : Int32), .val .null, .unset] [(.ref b3), (.ref a1)])) rfl rfl (hb hby d2_11)
  refine own_goW st4 ?_
  clear st4 X3 e3
  obtain ⟨T5, h5, X5, e5, W5, st5⟩ := putF X4 hx hZ hown (host := "") (Or.inl (ow21 hw)) Via.refl e4 fp1 fp0 (Or.inr ⟨(ow17 hw), rfl, hnm⟩) (ow3 hw) (ty := (.array .byte)) own_fd0 rfl rfl (g := (mkF m 14 #[rv a1, rv a2, iv (0 : Int32), iv (0 : Int32), .val .null, .unset] [(.ref t3), (.ref a1)])) rfl rfl (hb hby d2_14)
  refine own_goW st5 ?_
  clear st5 X4 e4
  replace N0 := Fr.snoc X5 N0 big_a1
  have hAp_a1 := own_apart hZ hJ fp1
  replace hJ := own_JwrS hZ hJ W5 hAp_a1 fp0 (ow3 hw)
  have ne6 : b3 ≠ a1 := (Fld.ne g33 fp1 (fun q => nomatch q))
  have ne7 : t3 ≠ a1 := (Ne.symm (Exa.neArv fp0 g43 (ow3 hw)))
  replace fp0 := fp0.wr W5
  replace fp1 := fp1.same W5
  replace fp2 := fp2.other W5 (.inr (own_sn0 hw))
  replace g13 := g13.wr W5
  replace g23 := g23.other W5 (Or.inl ne6)
  replace g33 := g33.other W5 (Or.inl ne6)
  replace g43 := g43.other W5 ne7
  replace O0 := own_oldWr O0 W5 big_a1
  replace K0 := K0.wr W5 (Or.inl (List.mem_of_getElem? (i := 0) rfl))
  replace hS := own_since hS (Nat.le_of_eq W5.size.symm)
  clear W5
  refine own_goW (fun _ k => XS.aloadN X5.here hx rfl (hb hby d2_17) rfl rfl k) ?_
  refine own_goW (ldcAgain X5 hx hZ hown (ow15 hw) li3 (g := (mkF m 18 #[rv a1, rv a2, iv (0 : Int32), iv (0 : Int32), .val .null, .unset] [(.ref a1)])) rfl (hb hby d2_18)) ?_
  obtain ⟨T9, X9, e9, st9⟩ := getF X5 hx hZ hown (host := "") (Or.inl (ow22 hw)) Via.refl e5 g23 (g := (mkF m 20 #[rv a1, rv a2, iv (0 : Int32), iv (0 : Int32), .val .null, .unset] [(.ref b3), (.ref a1)])) rfl rfl (hb hby d2_20)
  refine own_goW st9 ?_
  clear st9 X5 e5
  obtain ⟨T10, h10, X10, e10, W10, st10⟩ := putFN X9 hx hZ hown (ow22 hw) Via.refl e9 fp2 fp0 (Or.inr ⟨(ow18 hw), rfl, hnm⟩) (ow3 hw) (ty := .byte) (v' := (.int (0 : Int32))) own_fd1 rfl (by decide) (g := (mkF m 23 #[rv a1, rv a2, iv (0 : Int32), iv (0 : Int32), .val .null, .unset] [(.int (0 : Int32)), (.ref a1)])) rfl rfl (hb hby d2_23)
  refine own_goW st10 ?_
  clear st10 X9 e9
  replace N0 := Fr.snoc X10 N0 big_a1
  replace hJ := own_JwrS hZ hJ W10 hAp_a1 fp0 (ow3 hw)
  replace fp0 := fp0.wr W10
  replace fp1 := fp1.other W10 (.inr (own_sn0 hw).symm)
  replace fp2 := fp2.same W10
  replace g13 := g13.wr W10
  replace g23 := g23.other W10 (Or.inl ne6)
  replace g33 := g33.other W10 (Or.inl ne6)
  replace g43 := g43.other W10 ne7
  replace O0 := own_oldWr O0 W10 big_a1
  replace K0 := K0.wr W10 (Or.inl (List.mem_of_getElem? (i := 0) rfl))
  replace hS := own_since hS (Nat.le_of_eq W10.size.symm)
  clear W10
  show own_GoW p e below s _ _ _ _ (T10.setTop (mkF m 26 #[rv a1, rv a2, iv (0 : Int32), iv (0 : Int32), .val .null, .unset] []))
  refine own_retVW X10 hS hL hZ hJ hx hlk e10 hret (hb hby d2_26) (by show _ ≤ 2; omega) (by show _ ≤ 4; omega) ?_
  exact ⟨t3, kt3, rfl, N0, K0, fp0, fp2, fp1, g43⟩
theorem d1_0 : decode jdk_42_method_3_code 0 = .ok (.aload_n 0, 1) := by decide +kernel
theorem d1_1 : decode jdk_42_method_3_code 1 = .ok (.aload_n 1, 1) := by decide +kernel
theorem d1_2 : decode jdk_42_method_3_code 2 = .ok (.iconst 0, 1) := by decide +kernel
theorem d1_3 : decode jdk_42_method_3_code 3 = .ok (.aload_n 1, 1) := by decide +kernel
theorem d1_4 : decode jdk_42_method_3_code 4 = .ok (.arraylength, 1) := by decide +kernel
theorem d1_5 : decode jdk_42_method_3_code 5 = .ok (.aconst_null, 1) := by decide +kernel
theorem d1_6 : decode jdk_42_method_3_code 6 = .ok (.invokespecial 27, 3) := by decide +kernel
theorem d1_9 : decode jdk_42_method_3_code 9 = .ok (.return_, 1) := by decide +kernel
def Q_st1E (Z : State) (zc : Int32) (wx : Addr) (wy : Addr) (wsp : Addr) (wspv : Addr) (wspk : ClassId) (a1 : Addr) (a2 : Addr) (k : ClassId) (h0 : Heap) (v : Option Value) (h : Heap) (L : List Loc) : Prop := (∃ t : Addr, ∃ kt : ClassId, v = none ∧ Fr Z.heap.size L ∧ Keep h0 h [a1] ∧ Exa Z h a1 "java/lang/String" ∧ Fld Z h a1 "java/lang/String" "coder" "B" (.int (0 : Int32)) ∧ Fld Z h a1 "java/lang/String" "value" "[B" (.ref t) ∧ Arv Z h t kt .byte (0 : Int32) [] (.int (0 : Int32)))
theorem ef_st1E (m : MethodId) (x0 : Addr) (x1 : Addr) : entryFrame m #[(.ref x0), (.ref x1)] 2 = mkF m 0 #[rv x0, rv x1] [] := by first | (simp [entryFrame, mkF, argsToLocals, Value.category]; done) | rfl
set_option maxRecDepth 65536 in
set_option maxHeartbeats 40000000 in
theorem rm_st1E (l : Launch) (Z : State) (a0 : Array Value) (hw : own_W Z a0) {zc : Int32} {wx : Addr} {wy : Addr} {wsp : Addr} {wspv : Addr} {wspk : ClassId} (hO : own_Olds Z zc wx wy wsp wspv wspk) (ws : List Jvm.Cond) (a1 : Addr) (a2 : Addr) (k : ClassId) (h0 : Heap) (O0 : Ext Z.heap h0) (fp0 : Exa Z h0 a1 "java/lang/String") (fp1 : Fld Z h0 a1 "java/lang/String" "value" "[B" .null) (fp2 : Fld Z h0 a1 "java/lang/String" "coder" "B" (.int (0 : Int32))) (fp3 : Arv Z h0 a2 k .char (0 : Int32) [] (.int (0 : Int32))) (big_a1 : Z.heap.size ≤ a1) :
    MetFree l own_y1 (head1 (Jvm.Cond.code own_y1 jdk_42_method_3_code 2 none :: ws) ({ frames := 2, cells := 2, slots := 4, locals := 29 } : Room)) (fun a U => a = #[(.ref a1), (.ref a2)] ∧ Z.Warmed39 U.vm ∧ U.heap = h0 ∧ own_J Z U.vm U.heap) (fun _ _ _ _ _ => True) (fun _ U o U' => ∃ v L, o = .returned v ∧ ((Q_st1E Z zc wx wy wsp wspv wspk a1 a2 k h0) v U'.heap L ∧ own_J Z U'.vm U'.heap) ∧ ReturnedEndW U o U' L ({ frames := 2, cells := 2, slots := 4, locals := 29 } : Room).cells ({ frames := 2, cells := 2, slots := 4, locals := 29 } : Room).slots) := by
  refine own_metW (Q := (Q_st1E Z zc wx wy wsp wspv wspk a1 a2 k h0)) _ _ (plainFor_of_name own_pn_0) ?_
  intro p e s vm0 m below meth c T X0 hS hJ hJ0 hZ0 hI hs0 hx hby hml hret hlk hZ hown hnm e0
  replace hown : (s.setVm vm0).vm.findClass "java/lang/String" = some m.cls := hown
  replace hnm : meth.name = "<init>" := hnm
  have hml : c.maxLocals = 2 := hml
  obtain ⟨oCS, oCz, oEx, oSh, oPF, oSPE, oSPC, oSPF, oSPV⟩ := id hO
  have N0 := Fr.nil Z.heap.size
  have hL := own_Lhw hw
  have K0 := Keep.refl h0 [a1]
  refine own_goW (fun _ k => castTop (ef_st1E m a1 a2) k) ?_
  have ne1 : a2 ≠ a1 := (Ne.symm (Exa.neArv fp0 fp3 (ow3 hw)))
  show own_GoW p e below s _ _ _ _ (T.setTop (mkF m 0 #[rv a1, rv a2] []))
  refine own_goW (fun _ k => XS.aloadN X0.here hx rfl (hb hby d1_0) rfl rfl (XS.aloadN X0.here hx rfl (hb hby d1_1) rfl rfl (XS.iconst X0.here hx rfl (hb hby d1_2) (XS.aloadN X0.here hx rfl (hb hby d1_3) rfl rfl k)))) ?_
  show own_GoW p e below s _ _ _ _ (T.setTop (mkF m 4 #[rv a1, rv a2] [(.ref a2), (.int (0 : Int32)), (.ref a2), (.ref a1)]))
  obtain ⟨cl2, Ar2, -, S2, M2, -, -⟩ := id (fp3.keep K0 (ninS ne1 nin0))
  refine own_goW (X0.arraylength hx (by rw [e0]; exact Ar2.1) (State.isArrayOf_alike hZ.alike Ar2.2.1) (g := (mkF m 4 #[rv a1, rv a2] [(.ref a2), (.int (0 : Int32)), (.ref a2), (.ref a1)])) rfl rfl (hb hby d1_4)) ?_
  rw [len_of S2 M2]
  refine own_goW (fun _ k => XS.aconstNull X0.here hx rfl (hb hby d1_5) k) ?_
  obtain ⟨v3, T3, L3, X3, hSn, hZn, hownn, hQ3, hJn, st3⟩ := own_callIW (y := own_y0) X0 hS hL hJ hx hZ hown (ow8 hw) (ow9 hw) (ow4 hw) (ow11 hw) (rm_st2E l Z a0 hw hO [] a1 a2 k h0 O0 fp0 fp1 fp2 (fp3.keep K0 (ninS ne1 nin0)) big_a1) 0 2 4 rfl (by show _ ≤ 2; omega) (by show _ ≤ 4; omega) e0 (g := (mkF m 6 #[rv a1, rv a2] [.null, (.int (0 : Int32)), (.int (0 : Int32)), (.ref a2), (.ref a1)])) rfl (by rw [hml]; rfl) a1 [(.ref a2), (.int (0 : Int32)), (.int (0 : Int32)), .null] [] (lenOf own_pd_0 rfl) rfl rfl (hb hby d1_6)
  replace hS := hSn
  replace hZ := hZn
  replace hown := hownn
  replace hJ := hJn
  clear hSn hZn hownn hJn
  obtain ⟨w4, w5, rfl, Nc11, Kc10, f6, f7, f8, f9⟩ := hQ3
  refine own_goW st3 ?_
  clear st3 X0 e0
  replace N0 := Fr.app N0 Nc11
  clear Nc11
  replace fp0 := fp0.keep Kc10
  clear fp1
  clear fp2
  replace O0 := own_oldKeep O0 Kc10 (allS big_a1 all0)
  replace K0 := K0.trans Kc10 (allS (Or.inl (List.mem_of_getElem? (i := 0) rfl)) all0)
  clear Kc10
  show own_GoW p e below s _ _ _ _ (T3.setTop (mkF m 9 #[rv a1, rv a2] []))
  refine own_retVW X3 hS hL hZ hJ hx hlk (rfl : T3.heap = T3.heap) hret (hb hby d1_9) (by show _ ≤ 2; omega) (by show _ ≤ 4; omega) ?_
  exact ⟨w4, w5, rfl, N0, K0, f6, f7, f8, f9⟩
theorem d8_0 : decode jdk_42_method_152_code 0 = .ok (.getstatic 38, 3) := by decide +kernel
theorem d8_3 : decode jdk_42_method_152_code 3 = .ok (.ifCond .eq 10, 3) := by decide +kernel
theorem d8_6 : decode jdk_42_method_152_code 6 = .ok (.aload_n 0, 1) := by decide +kernel
theorem d8_7 : decode jdk_42_method_152_code 7 = .ok (.getfield 15, 3) := by decide +kernel
theorem d8_10 : decode jdk_42_method_152_code 10 = .ok (.goto 4, 3) := by decide +kernel
theorem d8_14 : decode jdk_42_method_152_code 14 = .ok (.ireturn, 1) := by decide +kernel
def Q_scoder (Z : State) (zc : Int32) (wx : Addr) (wy : Addr) (wsp : Addr) (wspv : Addr) (wspk : ClassId) (a1 : Addr) (h0 : Heap) (v : Option Value) (h : Heap) (L : List Loc) : Prop := (v = some (.int (0 : Int32)) ∧ Fr Z.heap.size L ∧ h = h0)
theorem ef_scoder (m : MethodId) (x0 : Addr) : entryFrame m #[(.ref x0)] 1 = mkF m 0 #[rv x0] [] := by first | (simp [entryFrame, mkF, argsToLocals, Value.category]; done) | rfl
set_option maxRecDepth 65536 in
set_option maxHeartbeats 40000000 in
theorem rm_scoder (l : Launch) (Z : State) (a0 : Array Value) (hw : own_W Z a0) {zc : Int32} {wx : Addr} {wy : Addr} {wsp : Addr} {wspv : Addr} {wspk : ClassId} (hO : own_Olds Z zc wx wy wsp wspv wspk) (ws : List Jvm.Cond) (a1 : Addr) (h0 : Heap) (O0 : Ext Z.heap h0) (fp0 : Fld Z h0 a1 "java/lang/String" "coder" "B" (.int (0 : Int32))) :
    own_MF l Z h0 own_y2 jdk_42_method_152_code 1 (some .byte) ({ frames := 0, cells := 0, slots := 0, locals := 0 } : Room) #[(.ref a1)] (Q_scoder Z zc wx wy wsp wspv wspk a1 h0) ws := by
  refine own_met (Q := (Q_scoder Z zc wx wy wsp wspv wspk a1 h0)) _ _ (plainFor_of_name own_pn_0) ?_
  intro p e s m below meth c T X0 hx hby hml hret hlk hZ hown hnm e0
  replace hown : s.vm.findClass "java/lang/String" = some m.cls := hown
  replace hnm : meth.name = "coder" := hnm
  have hml : c.maxLocals = 1 := hml
  obtain ⟨oCS, oCz, oEx, oSh, oPF, oSPE, oSPC, oSPF, oSPV⟩ := id hO
  have N0 := Fr.nil Z.heap.size
  have K0 := Keep.refl h0 []
  refine own_go (fun _ k => castTop (ef_scoder m a1) k) ?_
  show own_Go p e below s _ _ _ (T.setTop (mkF m 0 #[rv a1] []))
  obtain ⟨T1, X1, e1, st1⟩ := getS2 X0 hx hZ hown (host := "") (Or.inl (ow51 hw)) Via.refl e0 (oCS.ext O0) (g := (mkF m 0 #[rv a1] [])) rfl (hb hby d8_0)
  refine own_go st1 ?_
  clear st1 X0 e0
  refine own_go (fun _ k => XS.ifNo X1.here hx rfl (hb hby d8_3) rfl ((if0 _ _).trans (feq oCz).1) (XS.aloadN X1.here hx rfl (hb hby d8_6) rfl rfl k)) ?_
  obtain ⟨T2, X2, e2, st2⟩ := getF X1 hx hZ hown (host := "") (Or.inl (ow22 hw)) Via.refl e1 (fp0.keep K0 nin0) (g := (mkF m 7 #[rv a1] [(.ref a1)])) rfl rfl (hb hby d8_7)
  refine own_go st2 ?_
  clear st2 X1 e1
  refine own_go (fun _ k => XS.goto X2.here hx rfl (pc0 := 10) (pc' := 14) rfl (hb hby d8_10) (by decide) (by decide) k) ?_
  show own_Go p e below s _ _ _ (T2.setTop (mkF m 14 #[rv a1] [(.int (0 : Int32))]))
  refine own_retN X2 hx hlk e2 (t := .byte) hret (by simp) (hb hby d8_14) (by show _ ≤ 0; omega) (by show _ ≤ 0; omega) ?_
  exact ⟨(congrArg (fun z => some (Value.int z)) (by decide)), N0, rfl⟩
theorem d7_0 : decode jdk_42_method_54_code 0 = .ok (.aload_n 0, 1) := by decide +kernel
theorem d7_1 : decode jdk_42_method_54_code 1 = .ok (.getfield 9, 3) := by decide +kernel
theorem d7_4 : decode jdk_42_method_54_code 4 = .ok (.arraylength, 1) := by decide +kernel
theorem d7_5 : decode jdk_42_method_54_code 5 = .ok (.aload_n 0, 1) := by decide +kernel
theorem d7_6 : decode jdk_42_method_54_code 6 = .ok (.invokevirtual 335, 3) := by decide +kernel
theorem d7_9 : decode jdk_42_method_54_code 9 = .ok (.ishr, 1) := by decide +kernel
theorem d7_10 : decode jdk_42_method_54_code 10 = .ok (.ireturn, 1) := by decide +kernel
def Q_slen0 (Z : State) (zc : Int32) (wx : Addr) (wy : Addr) (wsp : Addr) (wspv : Addr) (wspk : ClassId) (a1 : Addr) (t : Addr) (kt : ClassId) (h0 : Heap) (v : Option Value) (h : Heap) (L : List Loc) : Prop := (v = some (.int (0 : Int32)) ∧ Fr Z.heap.size L ∧ h = h0)
theorem ef_slen0 (m : MethodId) (x0 : Addr) : entryFrame m #[(.ref x0)] 1 = mkF m 0 #[rv x0] [] := by first | (simp [entryFrame, mkF, argsToLocals, Value.category]; done) | rfl
set_option maxRecDepth 65536 in
set_option maxHeartbeats 40000000 in
theorem rm_slen0 (l : Launch) (Z : State) (a0 : Array Value) (hw : own_W Z a0) {zc : Int32} {wx : Addr} {wy : Addr} {wsp : Addr} {wspv : Addr} {wspk : ClassId} (hO : own_Olds Z zc wx wy wsp wspv wspk) (ws : List Jvm.Cond) (a1 : Addr) (t : Addr) (kt : ClassId) (h0 : Heap) (O0 : Ext Z.heap h0) (fp0 : Exa Z h0 a1 "java/lang/String") (fp1 : Fld Z h0 a1 "java/lang/String" "value" "[B" (.ref t)) (fp2 : Fld Z h0 a1 "java/lang/String" "coder" "B" (.int (0 : Int32))) (fp3 : Arv Z h0 t kt .byte (0 : Int32) [] (.int (0 : Int32))) :
    own_MF l Z h0 own_y3 jdk_42_method_54_code 1 (some .int) ({ frames := 1, cells := 0, slots := 0, locals := 13 } : Room) #[(.ref a1)] (Q_slen0 Z zc wx wy wsp wspv wspk a1 t kt h0) ws := by
  refine own_met (Q := (Q_slen0 Z zc wx wy wsp wspv wspk a1 t kt h0)) _ _ (plainFor_of_name own_pn_0) ?_
  intro p e s m below meth c T X0 hx hby hml hret hlk hZ hown hnm e0
  replace hown : s.vm.findClass "java/lang/String" = some m.cls := hown
  replace hnm : meth.name = "length" := hnm
  have hml : c.maxLocals = 1 := hml
  obtain ⟨oCS, oCz, oEx, oSh, oPF, oSPE, oSPC, oSPF, oSPV⟩ := id hO
  have N0 := Fr.nil Z.heap.size
  have K0 := Keep.refl h0 []
  refine own_go (fun _ k => castTop (ef_slen0 m a1) k) ?_
  show own_Go p e below s _ _ _ (T.setTop (mkF m 0 #[rv a1] []))
  refine own_go (fun _ k => XS.aloadN X0.here hx rfl (hb hby d7_0) rfl rfl k) ?_
  obtain ⟨T1, X1, e1, st1⟩ := getF X0 hx hZ hown (host := "") (Or.inl (ow21 hw)) Via.refl e0 (fp1.keep K0 nin0) (g := (mkF m 1 #[rv a1] [(.ref a1)])) rfl rfl (hb hby d7_1)
  refine own_go st1 ?_
  clear st1 X0 e0
  show own_Go p e below s _ _ _ (T1.setTop (mkF m 4 #[rv a1] [(.ref t)]))
  obtain ⟨cl2, Ar2, -, S2, M2, -, -⟩ := id (fp3.keep K0 nin0)
  refine own_go (X1.arraylength hx (by rw [e1]; exact Ar2.1) (State.isArrayOf_alike hZ.alike Ar2.2.1) (g := (mkF m 4 #[rv a1] [(.ref t)])) rfl rfl (hb hby d7_4)) ?_
  rw [len_of S2 M2]
  refine own_go (fun _ k => XS.aloadN X1.here hx rfl (hb hby d7_5) rfl rfl k) ?_
  obtain ⟨v3, T3, L3, X3, hQ3, st3⟩ := own_callV (y := own_y2) (z := own_y2) X1 hx hZ hown (ow46 hw) (ow47 hw) (notFace_of_selects (args := #[]) (mvT hZ (ow49 hw))) (ow49 hw) (ow48 hw) (ow4 hw) (ow50 hw) (rm_scoder l Z a0 hw hO [] a1 h0 O0 (fp2.keep K0 nin0)) 1 0 0 (by show _ ≤ 0; omega) (by show _ ≤ 0; omega) e1 (fp0.keep K0) (g := (mkF m 6 #[rv a1] [(.ref a1), (.int (0 : Int32))])) rfl (by rw [hml]; rfl) [] [(.int (0 : Int32))] (lenOf own_pd_1 rfl) rfl rfl (hb hby d7_6)
  obtain ⟨rfl, Nc5, Kc4⟩ := hQ3
  refine own_go st3 ?_
  clear st3 X1 e1
  replace N0 := Fr.app N0 Nc5
  clear Nc5
  refine own_go (fun _ k => XS.ishr X3.here hx rfl (hb hby d7_9) rfl k) ?_
  show own_Go p e below s _ _ _ (T3.setTop (mkF m 10 #[rv a1] [(.int ((0 : Int32) >>> ((0 : Int32) &&& 31)))]))
  rw [show ((0 : Int32) >>> ((0 : Int32) &&& 31)) = (0 : Int32) from by decide]
  show own_Go p e below s _ _ _ (T3.setTop (mkF m 10 #[rv a1] [(.int (0 : Int32))]))
  refine own_retI X3 hx hlk Kc4 hret (hb hby d7_10) (by show _ ≤ 0; omega) (by show _ ≤ 0; omega) ?_
  exact ⟨rfl, N0, rfl⟩
def Q_slen1 (Z : State) (zc : Int32) (wx : Addr) (wy : Addr) (wsp : Addr) (wspv : Addr) (wspk : ClassId) (a1 : Addr) (t : Addr) (kt : ClassId) (xb0 : Int32) (h0 : Heap) (v : Option Value) (h : Heap) (L : List Loc) : Prop := (v = some (.int (1 : Int32)) ∧ Fr Z.heap.size L ∧ h = h0)
theorem ef_slen1 (m : MethodId) (x0 : Addr) : entryFrame m #[(.ref x0)] 1 = mkF m 0 #[rv x0] [] := by first | (simp [entryFrame, mkF, argsToLocals, Value.category]; done) | rfl
set_option maxRecDepth 65536 in
set_option maxHeartbeats 40000000 in
theorem rm_slen1 (l : Launch) (Z : State) (a0 : Array Value) (hw : own_W Z a0) {zc : Int32} {wx : Addr} {wy : Addr} {wsp : Addr} {wspv : Addr} {wspk : ClassId} (hO : own_Olds Z zc wx wy wsp wspv wspk) (ws : List Jvm.Cond) (a1 : Addr) (t : Addr) (kt : ClassId) (xb0 : Int32) (h0 : Heap) (O0 : Ext Z.heap h0) (fp0 : Exa Z h0 a1 "java/lang/String") (fp1 : Fld Z h0 a1 "java/lang/String" "value" "[B" (.ref t)) (fp2 : Fld Z h0 a1 "java/lang/String" "coder" "B" (.int (0 : Int32))) (fp3 : Arv Z h0 t kt .byte (1 : Int32) [(.int xb0)] (.int (0 : Int32))) :
    own_MF l Z h0 own_y3 jdk_42_method_54_code 1 (some .int) ({ frames := 1, cells := 0, slots := 0, locals := 13 } : Room) #[(.ref a1)] (Q_slen1 Z zc wx wy wsp wspv wspk a1 t kt xb0 h0) ws := by
  refine own_met (Q := (Q_slen1 Z zc wx wy wsp wspv wspk a1 t kt xb0 h0)) _ _ (plainFor_of_name own_pn_0) ?_
  intro p e s m below meth c T X0 hx hby hml hret hlk hZ hown hnm e0
  replace hown : s.vm.findClass "java/lang/String" = some m.cls := hown
  replace hnm : meth.name = "length" := hnm
  have hml : c.maxLocals = 1 := hml
  obtain ⟨oCS, oCz, oEx, oSh, oPF, oSPE, oSPC, oSPF, oSPV⟩ := id hO
  have N0 := Fr.nil Z.heap.size
  have K0 := Keep.refl h0 []
  refine own_go (fun _ k => castTop (ef_slen1 m a1) k) ?_
  show own_Go p e below s _ _ _ (T.setTop (mkF m 0 #[rv a1] []))
  refine own_go (fun _ k => XS.aloadN X0.here hx rfl (hb hby d7_0) rfl rfl k) ?_
  obtain ⟨T1, X1, e1, st1⟩ := getF X0 hx hZ hown (host := "") (Or.inl (ow21 hw)) Via.refl e0 (fp1.keep K0 nin0) (g := (mkF m 1 #[rv a1] [(.ref a1)])) rfl rfl (hb hby d7_1)
  refine own_go st1 ?_
  clear st1 X0 e0
  show own_Go p e below s _ _ _ (T1.setTop (mkF m 4 #[rv a1] [(.ref t)]))
  obtain ⟨cl2, Ar2, -, S2, M2, -, -⟩ := id (fp3.keep K0 nin0)
  refine own_go (X1.arraylength hx (by rw [e1]; exact Ar2.1) (State.isArrayOf_alike hZ.alike Ar2.2.1) (g := (mkF m 4 #[rv a1] [(.ref t)])) rfl rfl (hb hby d7_4)) ?_
  rw [len_of S2 M2]
  refine own_go (fun _ k => XS.aloadN X1.here hx rfl (hb hby d7_5) rfl rfl k) ?_
  obtain ⟨v3, T3, L3, X3, hQ3, st3⟩ := own_callV (y := own_y2) (z := own_y2) X1 hx hZ hown (ow46 hw) (ow47 hw) (notFace_of_selects (args := #[]) (mvT hZ (ow49 hw))) (ow49 hw) (ow48 hw) (ow4 hw) (ow50 hw) (rm_scoder l Z a0 hw hO [] a1 h0 O0 (fp2.keep K0 nin0)) 1 0 0 (by show _ ≤ 0; omega) (by show _ ≤ 0; omega) e1 (fp0.keep K0) (g := (mkF m 6 #[rv a1] [(.ref a1), (.int (1 : Int32))])) rfl (by rw [hml]; rfl) [] [(.int (1 : Int32))] (lenOf own_pd_1 rfl) rfl rfl (hb hby d7_6)
  obtain ⟨rfl, Nc5, Kc4⟩ := hQ3
  refine own_go st3 ?_
  clear st3 X1 e1
  replace N0 := Fr.app N0 Nc5
  clear Nc5
  refine own_go (fun _ k => XS.ishr X3.here hx rfl (hb hby d7_9) rfl k) ?_
  show own_Go p e below s _ _ _ (T3.setTop (mkF m 10 #[rv a1] [(.int ((1 : Int32) >>> ((0 : Int32) &&& 31)))]))
  rw [show ((1 : Int32) >>> ((0 : Int32) &&& 31)) = (1 : Int32) from by decide]
  show own_Go p e below s _ _ _ (T3.setTop (mkF m 10 #[rv a1] [(.int (1 : Int32))]))
  refine own_retI X3 hx hlk Kc4 hret (hb hby d7_10) (by show _ ≤ 0; omega) (by show _ ≤ 0; omega) ?_
  exact ⟨rfl, N0, rfl⟩
def Q_slen2 (Z : State) (zc : Int32) (wx : Addr) (wy : Addr) (wsp : Addr) (wspv : Addr) (wspk : ClassId) (a1 : Addr) (t : Addr) (kt : ClassId) (xb0 : Int32) (xb1 : Int32) (h0 : Heap) (v : Option Value) (h : Heap) (L : List Loc) : Prop := (v = some (.int (2 : Int32)) ∧ Fr Z.heap.size L ∧ h = h0)
theorem ef_slen2 (m : MethodId) (x0 : Addr) : entryFrame m #[(.ref x0)] 1 = mkF m 0 #[rv x0] [] := by first | (simp [entryFrame, mkF, argsToLocals, Value.category]; done) | rfl
set_option maxRecDepth 65536 in
set_option maxHeartbeats 40000000 in
theorem rm_slen2 (l : Launch) (Z : State) (a0 : Array Value) (hw : own_W Z a0) {zc : Int32} {wx : Addr} {wy : Addr} {wsp : Addr} {wspv : Addr} {wspk : ClassId} (hO : own_Olds Z zc wx wy wsp wspv wspk) (ws : List Jvm.Cond) (a1 : Addr) (t : Addr) (kt : ClassId) (xb0 : Int32) (xb1 : Int32) (h0 : Heap) (O0 : Ext Z.heap h0) (fp0 : Exa Z h0 a1 "java/lang/String") (fp1 : Fld Z h0 a1 "java/lang/String" "value" "[B" (.ref t)) (fp2 : Fld Z h0 a1 "java/lang/String" "coder" "B" (.int (0 : Int32))) (fp3 : Arv Z h0 t kt .byte (2 : Int32) [(.int xb0), (.int xb1)] (.int (0 : Int32))) :
    own_MF l Z h0 own_y3 jdk_42_method_54_code 1 (some .int) ({ frames := 1, cells := 0, slots := 0, locals := 13 } : Room) #[(.ref a1)] (Q_slen2 Z zc wx wy wsp wspv wspk a1 t kt xb0 xb1 h0) ws := by
  refine own_met (Q := (Q_slen2 Z zc wx wy wsp wspv wspk a1 t kt xb0 xb1 h0)) _ _ (plainFor_of_name own_pn_0) ?_
  intro p e s m below meth c T X0 hx hby hml hret hlk hZ hown hnm e0
  replace hown : s.vm.findClass "java/lang/String" = some m.cls := hown
  replace hnm : meth.name = "length" := hnm
  have hml : c.maxLocals = 1 := hml
  obtain ⟨oCS, oCz, oEx, oSh, oPF, oSPE, oSPC, oSPF, oSPV⟩ := id hO
  have N0 := Fr.nil Z.heap.size
  have K0 := Keep.refl h0 []
  refine own_go (fun _ k => castTop (ef_slen2 m a1) k) ?_
  show own_Go p e below s _ _ _ (T.setTop (mkF m 0 #[rv a1] []))
  refine own_go (fun _ k => XS.aloadN X0.here hx rfl (hb hby d7_0) rfl rfl k) ?_
  obtain ⟨T1, X1, e1, st1⟩ := getF X0 hx hZ hown (host := "") (Or.inl (ow21 hw)) Via.refl e0 (fp1.keep K0 nin0) (g := (mkF m 1 #[rv a1] [(.ref a1)])) rfl rfl (hb hby d7_1)
  refine own_go st1 ?_
  clear st1 X0 e0
  show own_Go p e below s _ _ _ (T1.setTop (mkF m 4 #[rv a1] [(.ref t)]))
  obtain ⟨cl2, Ar2, -, S2, M2, -, -⟩ := id (fp3.keep K0 nin0)
  refine own_go (X1.arraylength hx (by rw [e1]; exact Ar2.1) (State.isArrayOf_alike hZ.alike Ar2.2.1) (g := (mkF m 4 #[rv a1] [(.ref t)])) rfl rfl (hb hby d7_4)) ?_
  rw [len_of S2 M2]
  refine own_go (fun _ k => XS.aloadN X1.here hx rfl (hb hby d7_5) rfl rfl k) ?_
  obtain ⟨v3, T3, L3, X3, hQ3, st3⟩ := own_callV (y := own_y2) (z := own_y2) X1 hx hZ hown (ow46 hw) (ow47 hw) (notFace_of_selects (args := #[]) (mvT hZ (ow49 hw))) (ow49 hw) (ow48 hw) (ow4 hw) (ow50 hw) (rm_scoder l Z a0 hw hO [] a1 h0 O0 (fp2.keep K0 nin0)) 1 0 0 (by show _ ≤ 0; omega) (by show _ ≤ 0; omega) e1 (fp0.keep K0) (g := (mkF m 6 #[rv a1] [(.ref a1), (.int (2 : Int32))])) rfl (by rw [hml]; rfl) [] [(.int (2 : Int32))] (lenOf own_pd_1 rfl) rfl rfl (hb hby d7_6)
  obtain ⟨rfl, Nc5, Kc4⟩ := hQ3
  refine own_go st3 ?_
  clear st3 X1 e1
  replace N0 := Fr.app N0 Nc5
  clear Nc5
  refine own_go (fun _ k => XS.ishr X3.here hx rfl (hb hby d7_9) rfl k) ?_
  show own_Go p e below s _ _ _ (T3.setTop (mkF m 10 #[rv a1] [(.int ((2 : Int32) >>> ((0 : Int32) &&& 31)))]))
  rw [show ((2 : Int32) >>> ((0 : Int32) &&& 31)) = (2 : Int32) from by decide]
  show own_Go p e below s _ _ _ (T3.setTop (mkF m 10 #[rv a1] [(.int (2 : Int32))]))
  refine own_retI X3 hx hlk Kc4 hret (hb hby d7_10) (by show _ ≤ 0; omega) (by show _ ≤ 0; omega) ?_
  exact ⟨rfl, N0, rfl⟩
def Q_slen3 (Z : State) (zc : Int32) (wx : Addr) (wy : Addr) (wsp : Addr) (wspv : Addr) (wspk : ClassId) (a1 : Addr) (t : Addr) (kt : ClassId) (xb0 : Int32) (xb1 : Int32) (xb2 : Int32) (h0 : Heap) (v : Option Value) (h : Heap) (L : List Loc) : Prop := (v = some (.int (3 : Int32)) ∧ Fr Z.heap.size L ∧ h = h0)
theorem ef_slen3 (m : MethodId) (x0 : Addr) : entryFrame m #[(.ref x0)] 1 = mkF m 0 #[rv x0] [] := by first | (simp [entryFrame, mkF, argsToLocals, Value.category]; done) | rfl
set_option maxRecDepth 65536 in
set_option maxHeartbeats 40000000 in
theorem rm_slen3 (l : Launch) (Z : State) (a0 : Array Value) (hw : own_W Z a0) {zc : Int32} {wx : Addr} {wy : Addr} {wsp : Addr} {wspv : Addr} {wspk : ClassId} (hO : own_Olds Z zc wx wy wsp wspv wspk) (ws : List Jvm.Cond) (a1 : Addr) (t : Addr) (kt : ClassId) (xb0 : Int32) (xb1 : Int32) (xb2 : Int32) (h0 : Heap) (O0 : Ext Z.heap h0) (fp0 : Exa Z h0 a1 "java/lang/String") (fp1 : Fld Z h0 a1 "java/lang/String" "value" "[B" (.ref t)) (fp2 : Fld Z h0 a1 "java/lang/String" "coder" "B" (.int (0 : Int32))) (fp3 : Arv Z h0 t kt .byte (3 : Int32) [(.int xb0), (.int xb1), (.int xb2)] (.int (0 : Int32))) :
    own_MF l Z h0 own_y3 jdk_42_method_54_code 1 (some .int) ({ frames := 1, cells := 0, slots := 0, locals := 13 } : Room) #[(.ref a1)] (Q_slen3 Z zc wx wy wsp wspv wspk a1 t kt xb0 xb1 xb2 h0) ws := by
  refine own_met (Q := (Q_slen3 Z zc wx wy wsp wspv wspk a1 t kt xb0 xb1 xb2 h0)) _ _ (plainFor_of_name own_pn_0) ?_
  intro p e s m below meth c T X0 hx hby hml hret hlk hZ hown hnm e0
  replace hown : s.vm.findClass "java/lang/String" = some m.cls := hown
  replace hnm : meth.name = "length" := hnm
  have hml : c.maxLocals = 1 := hml
  obtain ⟨oCS, oCz, oEx, oSh, oPF, oSPE, oSPC, oSPF, oSPV⟩ := id hO
  have N0 := Fr.nil Z.heap.size
  have K0 := Keep.refl h0 []
  refine own_go (fun _ k => castTop (ef_slen3 m a1) k) ?_
  show own_Go p e below s _ _ _ (T.setTop (mkF m 0 #[rv a1] []))
  refine own_go (fun _ k => XS.aloadN X0.here hx rfl (hb hby d7_0) rfl rfl k) ?_
  obtain ⟨T1, X1, e1, st1⟩ := getF X0 hx hZ hown (host := "") (Or.inl (ow21 hw)) Via.refl e0 (fp1.keep K0 nin0) (g := (mkF m 1 #[rv a1] [(.ref a1)])) rfl rfl (hb hby d7_1)
  refine own_go st1 ?_
  clear st1 X0 e0
  show own_Go p e below s _ _ _ (T1.setTop (mkF m 4 #[rv a1] [(.ref t)]))
  obtain ⟨cl2, Ar2, -, S2, M2, -, -⟩ := id (fp3.keep K0 nin0)
  refine own_go (X1.arraylength hx (by rw [e1]; exact Ar2.1) (State.isArrayOf_alike hZ.alike Ar2.2.1) (g := (mkF m 4 #[rv a1] [(.ref t)])) rfl rfl (hb hby d7_4)) ?_
  rw [len_of S2 M2]
  refine own_go (fun _ k => XS.aloadN X1.here hx rfl (hb hby d7_5) rfl rfl k) ?_
  obtain ⟨v3, T3, L3, X3, hQ3, st3⟩ := own_callV (y := own_y2) (z := own_y2) X1 hx hZ hown (ow46 hw) (ow47 hw) (notFace_of_selects (args := #[]) (mvT hZ (ow49 hw))) (ow49 hw) (ow48 hw) (ow4 hw) (ow50 hw) (rm_scoder l Z a0 hw hO [] a1 h0 O0 (fp2.keep K0 nin0)) 1 0 0 (by show _ ≤ 0; omega) (by show _ ≤ 0; omega) e1 (fp0.keep K0) (g := (mkF m 6 #[rv a1] [(.ref a1), (.int (3 : Int32))])) rfl (by rw [hml]; rfl) [] [(.int (3 : Int32))] (lenOf own_pd_1 rfl) rfl rfl (hb hby d7_6)
  obtain ⟨rfl, Nc5, Kc4⟩ := hQ3
  refine own_go st3 ?_
  clear st3 X1 e1
  replace N0 := Fr.app N0 Nc5
  clear Nc5
  refine own_go (fun _ k => XS.ishr X3.here hx rfl (hb hby d7_9) rfl k) ?_
  show own_Go p e below s _ _ _ (T3.setTop (mkF m 10 #[rv a1] [(.int ((3 : Int32) >>> ((0 : Int32) &&& 31)))]))
  rw [show ((3 : Int32) >>> ((0 : Int32) &&& 31)) = (3 : Int32) from by decide]
  show own_Go p e below s _ _ _ (T3.setTop (mkF m 10 #[rv a1] [(.int (3 : Int32))]))
  refine own_retI X3 hx hlk Kc4 hret (hb hby d7_10) (by show _ ≤ 0; omega) (by show _ ≤ 0; omega) ?_
  exact ⟨rfl, N0, rfl⟩
def Q_slen4 (Z : State) (zc : Int32) (wx : Addr) (wy : Addr) (wsp : Addr) (wspv : Addr) (wspk : ClassId) (a1 : Addr) (t : Addr) (kt : ClassId) (xb0 : Int32) (xb1 : Int32) (xb2 : Int32) (xb3 : Int32) (h0 : Heap) (v : Option Value) (h : Heap) (L : List Loc) : Prop := (v = some (.int (4 : Int32)) ∧ Fr Z.heap.size L ∧ h = h0)
theorem ef_slen4 (m : MethodId) (x0 : Addr) : entryFrame m #[(.ref x0)] 1 = mkF m 0 #[rv x0] [] := by first | (simp [entryFrame, mkF, argsToLocals, Value.category]; done) | rfl
set_option maxRecDepth 65536 in
set_option maxHeartbeats 40000000 in
theorem rm_slen4 (l : Launch) (Z : State) (a0 : Array Value) (hw : own_W Z a0) {zc : Int32} {wx : Addr} {wy : Addr} {wsp : Addr} {wspv : Addr} {wspk : ClassId} (hO : own_Olds Z zc wx wy wsp wspv wspk) (ws : List Jvm.Cond) (a1 : Addr) (t : Addr) (kt : ClassId) (xb0 : Int32) (xb1 : Int32) (xb2 : Int32) (xb3 : Int32) (h0 : Heap) (O0 : Ext Z.heap h0) (fp0 : Exa Z h0 a1 "java/lang/String") (fp1 : Fld Z h0 a1 "java/lang/String" "value" "[B" (.ref t)) (fp2 : Fld Z h0 a1 "java/lang/String" "coder" "B" (.int (0 : Int32))) (fp3 : Arv Z h0 t kt .byte (4 : Int32) [(.int xb0), (.int xb1), (.int xb2), (.int xb3)] (.int (0 : Int32))) :
    own_MF l Z h0 own_y3 jdk_42_method_54_code 1 (some .int) ({ frames := 1, cells := 0, slots := 0, locals := 13 } : Room) #[(.ref a1)] (Q_slen4 Z zc wx wy wsp wspv wspk a1 t kt xb0 xb1 xb2 xb3 h0) ws := by
  refine own_met (Q := (Q_slen4 Z zc wx wy wsp wspv wspk a1 t kt xb0 xb1 xb2 xb3 h0)) _ _ (plainFor_of_name own_pn_0) ?_
  intro p e s m below meth c T X0 hx hby hml hret hlk hZ hown hnm e0
  replace hown : s.vm.findClass "java/lang/String" = some m.cls := hown
  replace hnm : meth.name = "length" := hnm
  have hml : c.maxLocals = 1 := hml
  obtain ⟨oCS, oCz, oEx, oSh, oPF, oSPE, oSPC, oSPF, oSPV⟩ := id hO
  have N0 := Fr.nil Z.heap.size
  have K0 := Keep.refl h0 []
  refine own_go (fun _ k => castTop (ef_slen4 m a1) k) ?_
  show own_Go p e below s _ _ _ (T.setTop (mkF m 0 #[rv a1] []))
  refine own_go (fun _ k => XS.aloadN X0.here hx rfl (hb hby d7_0) rfl rfl k) ?_
  obtain ⟨T1, X1, e1, st1⟩ := getF X0 hx hZ hown (host := "") (Or.inl (ow21 hw)) Via.refl e0 (fp1.keep K0 nin0) (g := (mkF m 1 #[rv a1] [(.ref a1)])) rfl rfl (hb hby d7_1)
  refine own_go st1 ?_
  clear st1 X0 e0
  show own_Go p e below s _ _ _ (T1.setTop (mkF m 4 #[rv a1] [(.ref t)]))
  obtain ⟨cl2, Ar2, -, S2, M2, -, -⟩ := id (fp3.keep K0 nin0)
  refine own_go (X1.arraylength hx (by rw [e1]; exact Ar2.1) (State.isArrayOf_alike hZ.alike Ar2.2.1) (g := (mkF m 4 #[rv a1] [(.ref t)])) rfl rfl (hb hby d7_4)) ?_
  rw [len_of S2 M2]
  refine own_go (fun _ k => XS.aloadN X1.here hx rfl (hb hby d7_5) rfl rfl k) ?_
  obtain ⟨v3, T3, L3, X3, hQ3, st3⟩ := own_callV (y := own_y2) (z := own_y2) X1 hx hZ hown (ow46 hw) (ow47 hw) (notFace_of_selects (args := #[]) (mvT hZ (ow49 hw))) (ow49 hw) (ow48 hw) (ow4 hw) (ow50 hw) (rm_scoder l Z a0 hw hO [] a1 h0 O0 (fp2.keep K0 nin0)) 1 0 0 (by show _ ≤ 0; omega) (by show _ ≤ 0; omega) e1 (fp0.keep K0) (g := (mkF m 6 #[rv a1] [(.ref a1), (.int (4 : Int32))])) rfl (by rw [hml]; rfl) [] [(.int (4 : Int32))] (lenOf own_pd_1 rfl) rfl rfl (hb hby d7_6)
  obtain ⟨rfl, Nc5, Kc4⟩ := hQ3
  refine own_go st3 ?_
  clear st3 X1 e1
  replace N0 := Fr.app N0 Nc5
  clear Nc5
  refine own_go (fun _ k => XS.ishr X3.here hx rfl (hb hby d7_9) rfl k) ?_
  show own_Go p e below s _ _ _ (T3.setTop (mkF m 10 #[rv a1] [(.int ((4 : Int32) >>> ((0 : Int32) &&& 31)))]))
  rw [show ((4 : Int32) >>> ((0 : Int32) &&& 31)) = (4 : Int32) from by decide]
  show own_Go p e below s _ _ _ (T3.setTop (mkF m 10 #[rv a1] [(.int (4 : Int32))]))
  refine own_retI X3 hx hlk Kc4 hret (hb hby d7_10) (by show _ ≤ 0; omega) (by show _ ≤ 0; omega) ?_
  exact ⟨rfl, N0, rfl⟩
def Q_slen5 (Z : State) (zc : Int32) (wx : Addr) (wy : Addr) (wsp : Addr) (wspv : Addr) (wspk : ClassId) (a1 : Addr) (t : Addr) (kt : ClassId) (xb0 : Int32) (xb1 : Int32) (xb2 : Int32) (xb3 : Int32) (xb4 : Int32) (h0 : Heap) (v : Option Value) (h : Heap) (L : List Loc) : Prop := (v = some (.int (5 : Int32)) ∧ Fr Z.heap.size L ∧ h = h0)
theorem ef_slen5 (m : MethodId) (x0 : Addr) : entryFrame m #[(.ref x0)] 1 = mkF m 0 #[rv x0] [] := by first | (simp [entryFrame, mkF, argsToLocals, Value.category]; done) | rfl
set_option maxRecDepth 65536 in
set_option maxHeartbeats 40000000 in
theorem rm_slen5 (l : Launch) (Z : State) (a0 : Array Value) (hw : own_W Z a0) {zc : Int32} {wx : Addr} {wy : Addr} {wsp : Addr} {wspv : Addr} {wspk : ClassId} (hO : own_Olds Z zc wx wy wsp wspv wspk) (ws : List Jvm.Cond) (a1 : Addr) (t : Addr) (kt : ClassId) (xb0 : Int32) (xb1 : Int32) (xb2 : Int32) (xb3 : Int32) (xb4 : Int32) (h0 : Heap) (O0 : Ext Z.heap h0) (fp0 : Exa Z h0 a1 "java/lang/String") (fp1 : Fld Z h0 a1 "java/lang/String" "value" "[B" (.ref t)) (fp2 : Fld Z h0 a1 "java/lang/String" "coder" "B" (.int (0 : Int32))) (fp3 : Arv Z h0 t kt .byte (5 : Int32) [(.int xb0), (.int xb1), (.int xb2), (.int xb3), (.int xb4)] (.int (0 : Int32))) :
    own_MF l Z h0 own_y3 jdk_42_method_54_code 1 (some .int) ({ frames := 1, cells := 0, slots := 0, locals := 13 } : Room) #[(.ref a1)] (Q_slen5 Z zc wx wy wsp wspv wspk a1 t kt xb0 xb1 xb2 xb3 xb4 h0) ws := by
  refine own_met (Q := (Q_slen5 Z zc wx wy wsp wspv wspk a1 t kt xb0 xb1 xb2 xb3 xb4 h0)) _ _ (plainFor_of_name own_pn_0) ?_
  intro p e s m below meth c T X0 hx hby hml hret hlk hZ hown hnm e0
  replace hown : s.vm.findClass "java/lang/String" = some m.cls := hown
  replace hnm : meth.name = "length" := hnm
  have hml : c.maxLocals = 1 := hml
  obtain ⟨oCS, oCz, oEx, oSh, oPF, oSPE, oSPC, oSPF, oSPV⟩ := id hO
  have N0 := Fr.nil Z.heap.size
  have K0 := Keep.refl h0 []
  refine own_go (fun _ k => castTop (ef_slen5 m a1) k) ?_
  show own_Go p e below s _ _ _ (T.setTop (mkF m 0 #[rv a1] []))
  refine own_go (fun _ k => XS.aloadN X0.here hx rfl (hb hby d7_0) rfl rfl k) ?_
  obtain ⟨T1, X1, e1, st1⟩ := getF X0 hx hZ hown (host := "") (Or.inl (ow21 hw)) Via.refl e0 (fp1.keep K0 nin0) (g := (mkF m 1 #[rv a1] [(.ref a1)])) rfl rfl (hb hby d7_1)
  refine own_go st1 ?_
  clear st1 X0 e0
  show own_Go p e below s _ _ _ (T1.setTop (mkF m 4 #[rv a1] [(.ref t)]))
  obtain ⟨cl2, Ar2, -, S2, M2, -, -⟩ := id (fp3.keep K0 nin0)
  refine own_go (X1.arraylength hx (by rw [e1]; exact Ar2.1) (State.isArrayOf_alike hZ.alike Ar2.2.1) (g := (mkF m 4 #[rv a1] [(.ref t)])) rfl rfl (hb hby d7_4)) ?_
  rw [len_of S2 M2]
  refine own_go (fun _ k => XS.aloadN X1.here hx rfl (hb hby d7_5) rfl rfl k) ?_
  obtain ⟨v3, T3, L3, X3, hQ3, st3⟩ := own_callV (y := own_y2) (z := own_y2) X1 hx hZ hown (ow46 hw) (ow47 hw) (notFace_of_selects (args := #[]) (mvT hZ (ow49 hw))) (ow49 hw) (ow48 hw) (ow4 hw) (ow50 hw) (rm_scoder l Z a0 hw hO [] a1 h0 O0 (fp2.keep K0 nin0)) 1 0 0 (by show _ ≤ 0; omega) (by show _ ≤ 0; omega) e1 (fp0.keep K0) (g := (mkF m 6 #[rv a1] [(.ref a1), (.int (5 : Int32))])) rfl (by rw [hml]; rfl) [] [(.int (5 : Int32))] (lenOf own_pd_1 rfl) rfl rfl (hb hby d7_6)
  obtain ⟨rfl, Nc5, Kc4⟩ := hQ3
  refine own_go st3 ?_
  clear st3 X1 e1
  replace N0 := Fr.app N0 Nc5
  clear Nc5
  refine own_go (fun _ k => XS.ishr X3.here hx rfl (hb hby d7_9) rfl k) ?_
  show own_Go p e below s _ _ _ (T3.setTop (mkF m 10 #[rv a1] [(.int ((5 : Int32) >>> ((0 : Int32) &&& 31)))]))
  rw [show ((5 : Int32) >>> ((0 : Int32) &&& 31)) = (5 : Int32) from by decide]
  show own_Go p e below s _ _ _ (T3.setTop (mkF m 10 #[rv a1] [(.int (5 : Int32))]))
  refine own_retI X3 hx hlk Kc4 hret (hb hby d7_10) (by show _ ≤ 0; omega) (by show _ ≤ 0; omega) ?_
  exact ⟨rfl, N0, rfl⟩
def Q_slen6 (Z : State) (zc : Int32) (wx : Addr) (wy : Addr) (wsp : Addr) (wspv : Addr) (wspk : ClassId) (a1 : Addr) (t : Addr) (kt : ClassId) (xb0 : Int32) (xb1 : Int32) (xb2 : Int32) (xb3 : Int32) (xb4 : Int32) (xb5 : Int32) (h0 : Heap) (v : Option Value) (h : Heap) (L : List Loc) : Prop := (v = some (.int (6 : Int32)) ∧ Fr Z.heap.size L ∧ h = h0)
theorem ef_slen6 (m : MethodId) (x0 : Addr) : entryFrame m #[(.ref x0)] 1 = mkF m 0 #[rv x0] [] := by first | (simp [entryFrame, mkF, argsToLocals, Value.category]; done) | rfl
set_option maxRecDepth 65536 in
set_option maxHeartbeats 40000000 in
theorem rm_slen6 (l : Launch) (Z : State) (a0 : Array Value) (hw : own_W Z a0) {zc : Int32} {wx : Addr} {wy : Addr} {wsp : Addr} {wspv : Addr} {wspk : ClassId} (hO : own_Olds Z zc wx wy wsp wspv wspk) (ws : List Jvm.Cond) (a1 : Addr) (t : Addr) (kt : ClassId) (xb0 : Int32) (xb1 : Int32) (xb2 : Int32) (xb3 : Int32) (xb4 : Int32) (xb5 : Int32) (h0 : Heap) (O0 : Ext Z.heap h0) (fp0 : Exa Z h0 a1 "java/lang/String") (fp1 : Fld Z h0 a1 "java/lang/String" "value" "[B" (.ref t)) (fp2 : Fld Z h0 a1 "java/lang/String" "coder" "B" (.int (0 : Int32))) (fp3 : Arv Z h0 t kt .byte (6 : Int32) [(.int xb0), (.int xb1), (.int xb2), (.int xb3), (.int xb4), (.int xb5)] (.int (0 : Int32))) :
    own_MF l Z h0 own_y3 jdk_42_method_54_code 1 (some .int) ({ frames := 1, cells := 0, slots := 0, locals := 13 } : Room) #[(.ref a1)] (Q_slen6 Z zc wx wy wsp wspv wspk a1 t kt xb0 xb1 xb2 xb3 xb4 xb5 h0) ws := by
  refine own_met (Q := (Q_slen6 Z zc wx wy wsp wspv wspk a1 t kt xb0 xb1 xb2 xb3 xb4 xb5 h0)) _ _ (plainFor_of_name own_pn_0) ?_
  intro p e s m below meth c T X0 hx hby hml hret hlk hZ hown hnm e0
  replace hown : s.vm.findClass "java/lang/String" = some m.cls := hown
  replace hnm : meth.name = "length" := hnm
  have hml : c.maxLocals = 1 := hml
  obtain ⟨oCS, oCz, oEx, oSh, oPF, oSPE, oSPC, oSPF, oSPV⟩ := id hO
  have N0 := Fr.nil Z.heap.size
  have K0 := Keep.refl h0 []
  refine own_go (fun _ k => castTop (ef_slen6 m a1) k) ?_
  show own_Go p e below s _ _ _ (T.setTop (mkF m 0 #[rv a1] []))
  refine own_go (fun _ k => XS.aloadN X0.here hx rfl (hb hby d7_0) rfl rfl k) ?_
  obtain ⟨T1, X1, e1, st1⟩ := getF X0 hx hZ hown (host := "") (Or.inl (ow21 hw)) Via.refl e0 (fp1.keep K0 nin0) (g := (mkF m 1 #[rv a1] [(.ref a1)])) rfl rfl (hb hby d7_1)
  refine own_go st1 ?_
  clear st1 X0 e0
  show own_Go p e below s _ _ _ (T1.setTop (mkF m 4 #[rv a1] [(.ref t)]))
  obtain ⟨cl2, Ar2, -, S2, M2, -, -⟩ := id (fp3.keep K0 nin0)
  refine own_go (X1.arraylength hx (by rw [e1]; exact Ar2.1) (State.isArrayOf_alike hZ.alike Ar2.2.1) (g := (mkF m 4 #[rv a1] [(.ref t)])) rfl rfl (hb hby d7_4)) ?_
  rw [len_of S2 M2]
  refine own_go (fun _ k => XS.aloadN X1.here hx rfl (hb hby d7_5) rfl rfl k) ?_
  obtain ⟨v3, T3, L3, X3, hQ3, st3⟩ := own_callV (y := own_y2) (z := own_y2) X1 hx hZ hown (ow46 hw) (ow47 hw) (notFace_of_selects (args := #[]) (mvT hZ (ow49 hw))) (ow49 hw) (ow48 hw) (ow4 hw) (ow50 hw) (rm_scoder l Z a0 hw hO [] a1 h0 O0 (fp2.keep K0 nin0)) 1 0 0 (by show _ ≤ 0; omega) (by show _ ≤ 0; omega) e1 (fp0.keep K0) (g := (mkF m 6 #[rv a1] [(.ref a1), (.int (6 : Int32))])) rfl (by rw [hml]; rfl) [] [(.int (6 : Int32))] (lenOf own_pd_1 rfl) rfl rfl (hb hby d7_6)
  obtain ⟨rfl, Nc5, Kc4⟩ := hQ3
  refine own_go st3 ?_
  clear st3 X1 e1
  replace N0 := Fr.app N0 Nc5
  clear Nc5
  refine own_go (fun _ k => XS.ishr X3.here hx rfl (hb hby d7_9) rfl k) ?_
  show own_Go p e below s _ _ _ (T3.setTop (mkF m 10 #[rv a1] [(.int ((6 : Int32) >>> ((0 : Int32) &&& 31)))]))
  rw [show ((6 : Int32) >>> ((0 : Int32) &&& 31)) = (6 : Int32) from by decide]
  show own_Go p e below s _ _ _ (T3.setTop (mkF m 10 #[rv a1] [(.int (6 : Int32))]))
  refine own_retI X3 hx hlk Kc4 hret (hb hby d7_10) (by show _ ≤ 0; omega) (by show _ ≤ 0; omega) ?_
  exact ⟨rfl, N0, rfl⟩
def Q_slen7 (Z : State) (zc : Int32) (wx : Addr) (wy : Addr) (wsp : Addr) (wspv : Addr) (wspk : ClassId) (a1 : Addr) (t : Addr) (kt : ClassId) (xb0 : Int32) (xb1 : Int32) (xb2 : Int32) (xb3 : Int32) (xb4 : Int32) (xb5 : Int32) (xb6 : Int32) (h0 : Heap) (v : Option Value) (h : Heap) (L : List Loc) : Prop := (v = some (.int (7 : Int32)) ∧ Fr Z.heap.size L ∧ h = h0)
theorem ef_slen7 (m : MethodId) (x0 : Addr) : entryFrame m #[(.ref x0)] 1 = mkF m 0 #[rv x0] [] := by first | (simp [entryFrame, mkF, argsToLocals, Value.category]; done) | rfl
set_option maxRecDepth 65536 in
set_option maxHeartbeats 40000000 in
theorem rm_slen7 (l : Launch) (Z : State) (a0 : Array Value) (hw : own_W Z a0) {zc : Int32} {wx : Addr} {wy : Addr} {wsp : Addr} {wspv : Addr} {wspk : ClassId} (hO : own_Olds Z zc wx wy wsp wspv wspk) (ws : List Jvm.Cond) (a1 : Addr) (t : Addr) (kt : ClassId) (xb0 : Int32) (xb1 : Int32) (xb2 : Int32) (xb3 : Int32) (xb4 : Int32) (xb5 : Int32) (xb6 : Int32) (h0 : Heap) (O0 : Ext Z.heap h0) (fp0 : Exa Z h0 a1 "java/lang/String") (fp1 : Fld Z h0 a1 "java/lang/String" "value" "[B" (.ref t)) (fp2 : Fld Z h0 a1 "java/lang/String" "coder" "B" (.int (0 : Int32))) (fp3 : Arv Z h0 t kt .byte (7 : Int32) [(.int xb0), (.int xb1), (.int xb2), (.int xb3), (.int xb4), (.int xb5), (.int xb6)] (.int (0 : Int32))) :
    own_MF l Z h0 own_y3 jdk_42_method_54_code 1 (some .int) ({ frames := 1, cells := 0, slots := 0, locals := 13 } : Room) #[(.ref a1)] (Q_slen7 Z zc wx wy wsp wspv wspk a1 t kt xb0 xb1 xb2 xb3 xb4 xb5 xb6 h0) ws := by
  refine own_met (Q := (Q_slen7 Z zc wx wy wsp wspv wspk a1 t kt xb0 xb1 xb2 xb3 xb4 xb5 xb6 h0)) _ _ (plainFor_of_name own_pn_0) ?_
  intro p e s m below meth c T X0 hx hby hml hret hlk hZ hown hnm e0
  replace hown : s.vm.findClass "java/lang/String" = some m.cls := hown
  replace hnm : meth.name = "length" := hnm
  have hml : c.maxLocals = 1 := hml
  obtain ⟨oCS, oCz, oEx, oSh, oPF, oSPE, oSPC, oSPF, oSPV⟩ := id hO
  have N0 := Fr.nil Z.heap.size
  have K0 := Keep.refl h0 []
  refine own_go (fun _ k => castTop (ef_slen7 m a1) k) ?_
  show own_Go p e below s _ _ _ (T.setTop (mkF m 0 #[rv a1] []))
  refine own_go (fun _ k => XS.aloadN X0.here hx rfl (hb hby d7_0) rfl rfl k) ?_
  obtain ⟨T1, X1, e1, st1⟩ := getF X0 hx hZ hown (host := "") (Or.inl (ow21 hw)) Via.refl e0 (fp1.keep K0 nin0) (g := (mkF m 1 #[rv a1] [(.ref a1)])) rfl rfl (hb hby d7_1)
  refine own_go st1 ?_
  clear st1 X0 e0
  show own_Go p e below s _ _ _ (T1.setTop (mkF m 4 #[rv a1] [(.ref t)]))
  obtain ⟨cl2, Ar2, -, S2, M2, -, -⟩ := id (fp3.keep K0 nin0)
  refine own_go (X1.arraylength hx (by rw [e1]; exact Ar2.1) (State.isArrayOf_alike hZ.alike Ar2.2.1) (g := (mkF m 4 #[rv a1] [(.ref t)])) rfl rfl (hb hby d7_4)) ?_
  rw [len_of S2 M2]
  refine own_go (fun _ k => XS.aloadN X1.here hx rfl (hb hby d7_5) rfl rfl k) ?_
  obtain ⟨v3, T3, L3, X3, hQ3, st3⟩ := own_callV (y := own_y2) (z := own_y2) X1 hx hZ hown (ow46 hw) (ow47 hw) (notFace_of_selects (args := #[]) (mvT hZ (ow49 hw))) (ow49 hw) (ow48 hw) (ow4 hw) (ow50 hw) (rm_scoder l Z a0 hw hO [] a1 h0 O0 (fp2.keep K0 nin0)) 1 0 0 (by show _ ≤ 0; omega) (by show _ ≤ 0; omega) e1 (fp0.keep K0) (g := (mkF m 6 #[rv a1] [(.ref a1), (.int (7 : Int32))])) rfl (by rw [hml]; rfl) [] [(.int (7 : Int32))] (lenOf own_pd_1 rfl) rfl rfl (hb hby d7_6)
  obtain ⟨rfl, Nc5, Kc4⟩ := hQ3
  refine own_go st3 ?_
  clear st3 X1 e1
  replace N0 := Fr.app N0 Nc5
  clear Nc5
  refine own_go (fun _ k => XS.ishr X3.here hx rfl (hb hby d7_9) rfl k) ?_
  show own_Go p e below s _ _ _ (T3.setTop (mkF m 10 #[rv a1] [(.int ((7 : Int32) >>> ((0 : Int32) &&& 31)))]))
  rw [show ((7 : Int32) >>> ((0 : Int32) &&& 31)) = (7 : Int32) from by decide]
  show own_Go p e below s _ _ _ (T3.setTop (mkF m 10 #[rv a1] [(.int (7 : Int32))]))
  refine own_retI X3 hx hlk Kc4 hret (hb hby d7_10) (by show _ ≤ 0; omega) (by show _ ≤ 0; omega) ?_
  exact ⟨rfl, N0, rfl⟩
def Q_slen8 (Z : State) (zc : Int32) (wx : Addr) (wy : Addr) (wsp : Addr) (wspv : Addr) (wspk : ClassId) (a1 : Addr) (t : Addr) (kt : ClassId) (xb0 : Int32) (xb1 : Int32) (xb2 : Int32) (xb3 : Int32) (xb4 : Int32) (xb5 : Int32) (xb6 : Int32) (xb7 : Int32) (h0 : Heap) (v : Option Value) (h : Heap) (L : List Loc) : Prop := (v = some (.int (8 : Int32)) ∧ Fr Z.heap.size L ∧ h = h0)
theorem ef_slen8 (m : MethodId) (x0 : Addr) : entryFrame m #[(.ref x0)] 1 = mkF m 0 #[rv x0] [] := by first | (simp [entryFrame, mkF, argsToLocals, Value.category]; done) | rfl
set_option maxRecDepth 65536 in
set_option maxHeartbeats 40000000 in
theorem rm_slen8 (l : Launch) (Z : State) (a0 : Array Value) (hw : own_W Z a0) {zc : Int32} {wx : Addr} {wy : Addr} {wsp : Addr} {wspv : Addr} {wspk : ClassId} (hO : own_Olds Z zc wx wy wsp wspv wspk) (ws : List Jvm.Cond) (a1 : Addr) (t : Addr) (kt : ClassId) (xb0 : Int32) (xb1 : Int32) (xb2 : Int32) (xb3 : Int32) (xb4 : Int32) (xb5 : Int32) (xb6 : Int32) (xb7 : Int32) (h0 : Heap) (O0 : Ext Z.heap h0) (fp0 : Exa Z h0 a1 "java/lang/String") (fp1 : Fld Z h0 a1 "java/lang/String" "value" "[B" (.ref t)) (fp2 : Fld Z h0 a1 "java/lang/String" "coder" "B" (.int (0 : Int32))) (fp3 : Arv Z h0 t kt .byte (8 : Int32) [(.int xb0), (.int xb1), (.int xb2), (.int xb3), (.int xb4), (.int xb5), (.int xb6), (.int xb7)] (.int (0 : Int32))) :
    own_MF l Z h0 own_y3 jdk_42_method_54_code 1 (some .int) ({ frames := 1, cells := 0, slots := 0, locals := 13 } : Room) #[(.ref a1)] (Q_slen8 Z zc wx wy wsp wspv wspk a1 t kt xb0 xb1 xb2 xb3 xb4 xb5 xb6 xb7 h0) ws := by
  refine own_met (Q := (Q_slen8 Z zc wx wy wsp wspv wspk a1 t kt xb0 xb1 xb2 xb3 xb4 xb5 xb6 xb7 h0)) _ _ (plainFor_of_name own_pn_0) ?_
  intro p e s m below meth c T X0 hx hby hml hret hlk hZ hown hnm e0
  replace hown : s.vm.findClass "java/lang/String" = some m.cls := hown
  replace hnm : meth.name = "length" := hnm
  have hml : c.maxLocals = 1 := hml
  obtain ⟨oCS, oCz, oEx, oSh, oPF, oSPE, oSPC, oSPF, oSPV⟩ := id hO
  have N0 := Fr.nil Z.heap.size
  have K0 := Keep.refl h0 []
  refine own_go (fun _ k => castTop (ef_slen8 m a1) k) ?_
  show own_Go p e below s _ _ _ (T.setTop (mkF m 0 #[rv a1] []))
  refine own_go (fun _ k => XS.aloadN X0.here hx rfl (hb hby d7_0) rfl rfl k) ?_
  obtain ⟨T1, X1, e1, st1⟩ := getF X0 hx hZ hown (host := "") (Or.inl (ow21 hw)) Via.refl e0 (fp1.keep K0 nin0) (g := (mkF m 1 #[rv a1] [(.ref a1)])) rfl rfl (hb hby d7_1)
  refine own_go st1 ?_
  clear st1 X0 e0
  show own_Go p e below s _ _ _ (T1.setTop (mkF m 4 #[rv a1] [(.ref t)]))
  obtain ⟨cl2, Ar2, -, S2, M2, -, -⟩ := id (fp3.keep K0 nin0)
  refine own_go (X1.arraylength hx (by rw [e1]; exact Ar2.1) (State.isArrayOf_alike hZ.alike Ar2.2.1) (g := (mkF m 4 #[rv a1] [(.ref t)])) rfl rfl (hb hby d7_4)) ?_
  rw [len_of S2 M2]
  refine own_go (fun _ k => XS.aloadN X1.here hx rfl (hb hby d7_5) rfl rfl k) ?_
  obtain ⟨v3, T3, L3, X3, hQ3, st3⟩ := own_callV (y := own_y2) (z := own_y2) X1 hx hZ hown (ow46 hw) (ow47 hw) (notFace_of_selects (args := #[]) (mvT hZ (ow49 hw))) (ow49 hw) (ow48 hw) (ow4 hw) (ow50 hw) (rm_scoder l Z a0 hw hO [] a1 h0 O0 (fp2.keep K0 nin0)) 1 0 0 (by show _ ≤ 0; omega) (by show _ ≤ 0; omega) e1 (fp0.keep K0) (g := (mkF m 6 #[rv a1] [(.ref a1), (.int (8 : Int32))])) rfl (by rw [hml]; rfl) [] [(.int (8 : Int32))] (lenOf own_pd_1 rfl) rfl rfl (hb hby d7_6)
  obtain ⟨rfl, Nc5, Kc4⟩ := hQ3
  refine own_go st3 ?_
  clear st3 X1 e1
  replace N0 := Fr.app N0 Nc5
  clear Nc5
  refine own_go (fun _ k => XS.ishr X3.here hx rfl (hb hby d7_9) rfl k) ?_
  show own_Go p e below s _ _ _ (T3.setTop (mkF m 10 #[rv a1] [(.int ((8 : Int32) >>> ((0 : Int32) &&& 31)))]))
  rw [show ((8 : Int32) >>> ((0 : Int32) &&& 31)) = (8 : Int32) from by decide]
  show own_Go p e below s _ _ _ (T3.setTop (mkF m 10 #[rv a1] [(.int (8 : Int32))]))
  refine own_retI X3 hx hlk Kc4 hret (hb hby d7_10) (by show _ ≤ 0; omega) (by show _ ≤ 0; omega) ?_
  exact ⟨rfl, N0, rfl⟩
def Q_slen9 (Z : State) (zc : Int32) (wx : Addr) (wy : Addr) (wsp : Addr) (wspv : Addr) (wspk : ClassId) (a1 : Addr) (t : Addr) (kt : ClassId) (xb0 : Int32) (xb1 : Int32) (xb2 : Int32) (xb3 : Int32) (xb4 : Int32) (xb5 : Int32) (xb6 : Int32) (xb7 : Int32) (xb8 : Int32) (h0 : Heap) (v : Option Value) (h : Heap) (L : List Loc) : Prop := (v = some (.int (9 : Int32)) ∧ Fr Z.heap.size L ∧ h = h0)
theorem ef_slen9 (m : MethodId) (x0 : Addr) : entryFrame m #[(.ref x0)] 1 = mkF m 0 #[rv x0] [] := by first | (simp [entryFrame, mkF, argsToLocals, Value.category]; done) | rfl
set_option maxRecDepth 65536 in
set_option maxHeartbeats 40000000 in
theorem rm_slen9 (l : Launch) (Z : State) (a0 : Array Value) (hw : own_W Z a0) {zc : Int32} {wx : Addr} {wy : Addr} {wsp : Addr} {wspv : Addr} {wspk : ClassId} (hO : own_Olds Z zc wx wy wsp wspv wspk) (ws : List Jvm.Cond) (a1 : Addr) (t : Addr) (kt : ClassId) (xb0 : Int32) (xb1 : Int32) (xb2 : Int32) (xb3 : Int32) (xb4 : Int32) (xb5 : Int32) (xb6 : Int32) (xb7 : Int32) (xb8 : Int32) (h0 : Heap) (O0 : Ext Z.heap h0) (fp0 : Exa Z h0 a1 "java/lang/String") (fp1 : Fld Z h0 a1 "java/lang/String" "value" "[B" (.ref t)) (fp2 : Fld Z h0 a1 "java/lang/String" "coder" "B" (.int (0 : Int32))) (fp3 : Arv Z h0 t kt .byte (9 : Int32) [(.int xb0), (.int xb1), (.int xb2), (.int xb3), (.int xb4), (.int xb5), (.int xb6), (.int xb7), (.int xb8)] (.int (0 : Int32))) :
    own_MF l Z h0 own_y3 jdk_42_method_54_code 1 (some .int) ({ frames := 1, cells := 0, slots := 0, locals := 13 } : Room) #[(.ref a1)] (Q_slen9 Z zc wx wy wsp wspv wspk a1 t kt xb0 xb1 xb2 xb3 xb4 xb5 xb6 xb7 xb8 h0) ws := by
  refine own_met (Q := (Q_slen9 Z zc wx wy wsp wspv wspk a1 t kt xb0 xb1 xb2 xb3 xb4 xb5 xb6 xb7 xb8 h0)) _ _ (plainFor_of_name own_pn_0) ?_
  intro p e s m below meth c T X0 hx hby hml hret hlk hZ hown hnm e0
  replace hown : s.vm.findClass "java/lang/String" = some m.cls := hown
  replace hnm : meth.name = "length" := hnm
  have hml : c.maxLocals = 1 := hml
  obtain ⟨oCS, oCz, oEx, oSh, oPF, oSPE, oSPC, oSPF, oSPV⟩ := id hO
  have N0 := Fr.nil Z.heap.size
  have K0 := Keep.refl h0 []
  refine own_go (fun _ k => castTop (ef_slen9 m a1) k) ?_
  show own_Go p e below s _ _ _ (T.setTop (mkF m 0 #[rv a1] []))
  refine own_go (fun _ k => XS.aloadN X0.here hx rfl (hb hby d7_0) rfl rfl k) ?_
  obtain ⟨T1, X1, e1, st1⟩ := getF X0 hx hZ hown (host := "") (Or.inl (ow21 hw)) Via.refl e0 (fp1.keep K0 nin0) (g := (mkF m 1 #[rv a1] [(.ref a1)])) rfl rfl (hb hby d7_1)
  refine own_go st1 ?_
  clear st1 X0 e0
  show own_Go p e below s _ _ _ (T1.setTop (mkF m 4 #[rv a1] [(.ref t)]))
  obtain ⟨cl2, Ar2, -, S2, M2, -, -⟩ := id (fp3.keep K0 nin0)
  refine own_go (X1.arraylength hx (by rw [e1]; exact Ar2.1) (State.isArrayOf_alike hZ.alike Ar2.2.1) (g := (mkF m 4 #[rv a1] [(.ref t)])) rfl rfl (hb hby d7_4)) ?_
  rw [len_of S2 M2]
  refine own_go (fun _ k => XS.aloadN X1.here hx rfl (hb hby d7_5) rfl rfl k) ?_
  obtain ⟨v3, T3, L3, X3, hQ3, st3⟩ := own_callV (y := own_y2) (z := own_y2) X1 hx hZ hown (ow46 hw) (ow47 hw) (notFace_of_selects (args := #[]) (mvT hZ (ow49 hw))) (ow49 hw) (ow48 hw) (ow4 hw) (ow50 hw) (rm_scoder l Z a0 hw hO [] a1 h0 O0 (fp2.keep K0 nin0)) 1 0 0 (by show _ ≤ 0; omega) (by show _ ≤ 0; omega) e1 (fp0.keep K0) (g := (mkF m 6 #[rv a1] [(.ref a1), (.int (9 : Int32))])) rfl (by rw [hml]; rfl) [] [(.int (9 : Int32))] (lenOf own_pd_1 rfl) rfl rfl (hb hby d7_6)
  obtain ⟨rfl, Nc5, Kc4⟩ := hQ3
  refine own_go st3 ?_
  clear st3 X1 e1
  replace N0 := Fr.app N0 Nc5
  clear Nc5
  refine own_go (fun _ k => XS.ishr X3.here hx rfl (hb hby d7_9) rfl k) ?_
  show own_Go p e below s _ _ _ (T3.setTop (mkF m 10 #[rv a1] [(.int ((9 : Int32) >>> ((0 : Int32) &&& 31)))]))
  rw [show ((9 : Int32) >>> ((0 : Int32) &&& 31)) = (9 : Int32) from by decide]
  show own_Go p e below s _ _ _ (T3.setTop (mkF m 10 #[rv a1] [(.int (9 : Int32))]))
  refine own_retI X3 hx hlk Kc4 hret (hb hby d7_10) (by show _ ≤ 0; omega) (by show _ ≤ 0; omega) ?_
  exact ⟨rfl, N0, rfl⟩
theorem d9_0 : decode method_3_code 0 = .ok (.iload_n 2, 1) := by decide +kernel
theorem d9_1 : decode method_3_code 1 = .ok (.iload_n 0, 1) := by decide +kernel
theorem d9_2 : decode method_3_code 2 = .ok (.iushr, 1) := by decide +kernel
theorem d9_3 : decode method_3_code 3 = .ok (.iconst 1, 1) := by decide +kernel
theorem d9_4 : decode method_3_code 4 = .ok (.iand, 1) := by decide +kernel
theorem d9_5 : decode method_3_code 5 = .ok (.ifCond .eq 5, 3) := by decide +kernel
theorem d9_8 : decode method_3_code 8 = .ok (.iload_n 1, 1) := by decide +kernel
theorem d9_9 : decode method_3_code 9 = .ok (.ireturn, 1) := by decide +kernel
theorem d9_10 : decode method_3_code 10 = .ok (.lload_n 3, 1) := by decide +kernel
theorem d9_11 : decode method_3_code 11 = .ok (.bipush 8, 2) := by decide +kernel
theorem d9_13 : decode method_3_code 13 = .ok (.iload_n 0, 1) := by decide +kernel
theorem d9_14 : decode method_3_code 14 = .ok (.imul, 1) := by decide +kernel
theorem d9_15 : decode method_3_code 15 = .ok (.lushr, 1) := by decide +kernel
theorem d9_16 : decode method_3_code 16 = .ok (.ldc2_w 14, 3) := by decide +kernel
theorem d9_19 : decode method_3_code 19 = .ok (.land, 1) := by decide +kernel
theorem d9_20 : decode method_3_code 20 = .ok (.l2i, 1) := by decide +kernel
theorem d9_21 : decode method_3_code 21 = .ok (.i2c, 1) := by decide +kernel
theorem d9_22 : decode method_3_code 22 = .ok (.ireturn, 1) := by decide +kernel
def Q_pick (Z : State) (zc : Int32) (wx : Addr) (wy : Addr) (wsp : Addr) (wspv : Addr) (wspk : ClassId) (p1 : Int32) (p2 : Int32) (p3 : Int32) (q4 : Int64) (h0 : Heap) (v : Option Value) (h : Heap) (L : List Loc) : Prop := (∃ cv : Int32, v = some (.int cv) ∧ Fr Z.heap.size L ∧ own_C8 cv ∧ h = h0)
theorem ef_pick (m : MethodId) (x0 : Int32) (x1 : Int32) (x2 : Int32) (x3 : Int64) : entryFrame m #[(.int x0), (.int x1), (.int x2), (.long x3)] 5 = mkF m 0 #[iv x0, iv x1, iv x2, .val (.long x3), .second] [] := by first | (simp [entryFrame, mkF, argsToLocals, Value.category]; done) | rfl
set_option maxRecDepth 65536 in
set_option maxHeartbeats 40000000 in
theorem rm_pick (l : Launch) (Z : State) (a0 : Array Value) (hw : own_W Z a0) {zc : Int32} {wx : Addr} {wy : Addr} {wsp : Addr} {wspv : Addr} {wspk : ClassId} (hO : own_Olds Z zc wx wy wsp wspv wspk) (ws : List Jvm.Cond) (p1 : Int32) (p2 : Int32) (p3 : Int32) (q4 : Int64) (h0 : Heap) (O0 : Ext Z.heap h0) (hp1 : own_C8 p2) :
    own_MF l Z h0 own_y4 method_3_code 5 (some .char) ({ frames := 0, cells := 0, slots := 0, locals := 0 } : Room) #[(.int p1), (.int p2), (.int p3), (.long q4)] (Q_pick Z zc wx wy wsp wspv wspk p1 p2 p3 q4 h0) ws := by
  refine own_met (Q := (Q_pick Z zc wx wy wsp wspv wspk p1 p2 p3 q4 h0)) _ _ (plainFor_of_name own_pn_1) ?_
  intro p e s m below meth c T X0 hx hby hml hret hlk hZ hown hnm e0
  replace hown : s.vm.findClass "com/example/padlock/padlock/lock/AccessOfNodePinLaw" = some m.cls := hown
  replace hnm : meth.name = "pick" := hnm
  have hml : c.maxLocals = 5 := hml
  obtain ⟨oCS, oCz, oEx, oSh, oPF, oSPE, oSPC, oSPF, oSPV⟩ := id hO
  have N0 := Fr.nil Z.heap.size
  have K0 := Keep.refl h0 []
  refine own_go (fun _ k => castTop (ef_pick m p1 p2 p3 q4) k) ?_
  show own_Go p e below s _ _ _ (T.setTop (mkF m 0 #[iv p1, iv p2, iv p3, .val (.long q4), .second] []))
  refine own_go (fun _ k => XS.iloadN X0.here hx rfl (hb hby d9_0) rfl (XS.iloadN X0.here hx rfl (hb hby d9_1) rfl (XS.iushr X0.here hx rfl (hb hby d9_2) rfl (XS.iconst X0.here hx rfl (hb hby d9_3) (XS.iand X0.here hx rfl (hb hby d9_4) rfl k))))) ?_
  by_cases hc1 : (((p3.toUInt32 >>> (p1 &&& 31).toUInt32).toInt32) &&& (1 : Int32)) = (0 : Int32)
  · refine own_go (fun _ k => XS.ifYes X0.here hx rfl (pc0 := 5) (pc' := 10) rfl (hb hby d9_5) rfl ((if0 _ _).trans (teq hc1).1) (by decide) (by decide) k) ?_
    show own_Go p e below s _ _ _ (T.setTop (mkF m 10 #[iv p1, iv p2, iv p3, .val (.long q4), .second] []))
    refine own_go (fun _ k => XS.lloadN X0.here hx rfl (hb hby d9_10) rfl (XS.bipush X0.here hx rfl (hb hby d9_11) (XS.iloadN X0.here hx rfl (hb hby d9_13) rfl (XS.imul X0.here hx rfl (hb hby d9_14) rfl (XS.lushr X0.here hx rfl (hb hby d9_15) rfl k))))) ?_
    refine own_go (X0.ldc2Long hx hown (mvT hZ (ow59 hw)) (g := (mkF m 16 #[iv p1, iv p2, iv p3, .val (.long q4), .second] [(.long ((q4.toUInt64 >>> (((8 : Int32) * p1) &&& 0x3f).toInt64.toUInt64).toInt64))])) rfl (hb hby d9_16)) ?_
    show own_Go p e below s _ _ _ (T.setTop (mkF m 19 #[iv p1, iv p2, iv p3, .val (.long q4), .second] [(.long (255 : Int64)), (.long ((q4.toUInt64 >>> (((8 : Int32) * p1) &&& 0x3f).toInt64.toUInt64).toInt64))]))
    refine own_go (fun _ k => XS.land X0.here hx rfl (hb hby d9_19) rfl (XS.l2i X0.here hx rfl (hb hby d9_20) rfl (XS.i2c X0.here hx rfl (hb hby d9_21) rfl k))) ?_
    show own_Go p e below s _ _ _ (T.setTop (mkF m 22 #[iv p1, iv p2, iv p3, .val (.long q4), .second] [(.int (((((q4.toUInt64 >>> (((8 : Int32) * p1) &&& 0x3f).toInt64.toUInt64).toInt64) &&& (255 : Int64)).toInt32).toUInt32.toUInt16.toUInt32.toInt32))]))
    refine own_retN X0 hx hlk e0 (t := .char) hret (by simp) (hb hby d9_22) (by show _ ≤ 0; omega) (by show _ ≤ 0; omega) ?_
    exact ⟨(nar .char (((((q4.toUInt64 >>> (((8 : Int32) * p1) &&& 0x3f).toInt64.toUInt64).toInt64) &&& (255 : Int64)).toInt32).toUInt32.toUInt16.toUInt32.toInt32)), rfl, N0, (own_c8n (own_c8l _)), rfl⟩
  · refine own_go (fun _ k => XS.ifNo X0.here hx rfl (hb hby d9_5) rfl ((if0 _ _).trans (feq hc1).1) k) ?_
    show own_Go p e below s _ _ _ (T.setTop (mkF m 8 #[iv p1, iv p2, iv p3, .val (.long q4), .second] []))
    refine own_go (fun _ k => XS.iloadN X0.here hx rfl (hb hby d9_8) rfl k) ?_
    show own_Go p e below s _ _ _ (T.setTop (mkF m 9 #[iv p1, iv p2, iv p3, .val (.long q4), .second] [(.int p2)]))
    refine own_retN X0 hx hlk e0 (t := .char) hret (by simp) (hb hby d9_9) (by show _ ≤ 0; omega) (by show _ ≤ 0; omega) ?_
    exact ⟨(nar .char p2), rfl, N0, (own_c8n hp1), rfl⟩
theorem d6_0 : decode jdk_42_method_75_code 0 = .ok (.iload_n 2, 1) := by decide +kernel
theorem d6_1 : decode jdk_42_method_75_code 1 = .ok (.ifCond .lt 16, 3) := by decide +kernel
theorem d6_4 : decode jdk_42_method_75_code 4 = .ok (.iload_n 2, 1) := by decide +kernel
theorem d6_5 : decode jdk_42_method_75_code 5 = .ok (.aload_n 0, 1) := by decide +kernel
theorem d6_6 : decode jdk_42_method_75_code 6 = .ok (.invokevirtual 505, 3) := by decide +kernel
theorem d6_9 : decode jdk_42_method_75_code 9 = .ok (.aload_n 1, 1) := by decide +kernel
theorem d6_10 : decode jdk_42_method_75_code 10 = .ok (.invokevirtual 505, 3) := by decide +kernel
theorem d6_13 : decode jdk_42_method_75_code 13 = .ok (.isub, 1) := by decide +kernel
theorem d6_14 : decode jdk_42_method_75_code 14 = .ok (.if_icmp .le 5, 3) := by decide +kernel
theorem d6_17 : decode jdk_42_method_75_code 17 = .ok (.iconst 0, 1) := by decide +kernel
theorem d6_18 : decode jdk_42_method_75_code 18 = .ok (.ireturn, 1) := by decide +kernel
def Q_swi0 (Z : State) (zc : Int32) (wx : Addr) (wy : Addr) (wsp : Addr) (wspv : Addr) (wspk : ClassId) (a1 : Addr) (t : Addr) (kt : ClassId) (h0 : Heap) (v : Option Value) (h : Heap) (L : List Loc) : Prop := (v = some (.int (0 : Int32)) ∧ Fr Z.heap.size L ∧ h = h0)
theorem ef_swi0 (m : MethodId) (x0 : Addr) (x1 : Addr) : entryFrame m #[(.ref x0), (.ref x1), (.int (0 : Int32))] 8 = mkF m 0 #[rv x0, rv x1, iv (0 : Int32), .unset, .unset, .unset, .unset, .unset] [] := by first | (simp [entryFrame, mkF, argsToLocals, Value.category]; done) | rfl
set_option maxRecDepth 65536 in
set_option maxHeartbeats 40000000 in
theorem rm_swi0 (l : Launch) (Z : State) (a0 : Array Value) (hw : own_W Z a0) {zc : Int32} {wx : Addr} {wy : Addr} {wsp : Addr} {wspv : Addr} {wspk : ClassId} (hO : own_Olds Z zc wx wy wsp wspv wspk) (ws : List Jvm.Cond) (a1 : Addr) (t : Addr) (kt : ClassId) (h0 : Heap) (O0 : Ext Z.heap h0) (fp0 : Exa Z h0 a1 "java/lang/String") (fp1 : Fld Z h0 a1 "java/lang/String" "value" "[B" (.ref t)) (fp2 : Fld Z h0 a1 "java/lang/String" "coder" "B" (.int (0 : Int32))) (fp3 : Arv Z h0 t kt .byte (0 : Int32) [] (.int (0 : Int32))) :
    own_MF l Z h0 own_y5 jdk_42_method_75_code 8 (some .boolean) ({ frames := 2, cells := 0, slots := 0, locals := 27 } : Room) #[(.ref a1), (.ref wsp), (.int (0 : Int32))] (Q_swi0 Z zc wx wy wsp wspv wspk a1 t kt h0) ws := by
  refine own_met (Q := (Q_swi0 Z zc wx wy wsp wspv wspk a1 t kt h0)) _ _ (plainFor_of_name own_pn_0) ?_
  intro p e s m below meth c T X0 hx hby hml hret hlk hZ hown hnm e0
  replace hown : s.vm.findClass "java/lang/String" = some m.cls := hown
  replace hnm : meth.name = "startsWith" := hnm
  have hml : c.maxLocals = 8 := hml
  obtain ⟨oCS, oCz, oEx, oSh, oPF, oSPE, oSPC, oSPF, oSPV⟩ := id hO
  have N0 := Fr.nil Z.heap.size
  have K0 := Keep.refl h0 []
  refine own_go (fun _ k => castTop (ef_swi0 m a1 wsp) k) ?_
  show own_Go p e below s _ _ _ (T.setTop (mkF m 0 #[rv a1, rv wsp, iv (0 : Int32), .unset, .unset, .unset, .unset, .unset] []))
  refine own_go (fun _ k => XS.iloadN X0.here hx rfl (hb hby d6_0) rfl (XS.ifNo X0.here hx rfl (hb hby d6_1) rfl ((if0 _ _).trans (flt (by decide : ¬ ((0 : Int32) < (0 : Int32)))).1) (XS.iloadN X0.here hx rfl (hb hby d6_4) rfl (XS.aloadN X0.here hx rfl (hb hby d6_5) rfl rfl k)))) ?_
  obtain ⟨v1, T1, L1, X1, hQ1, st1⟩ := own_callV (y := own_y3) (z := own_y3) X0 hx hZ hown (ow41 hw) (ow42 hw) (notFace_of_selects (args := #[]) (mvT hZ (ow44 hw))) (ow44 hw) (ow43 hw) (ow4 hw) (ow45 hw) (rm_slen0 l Z a0 hw hO [] a1 t kt h0 O0 (fp0.keep K0) (fp1.keep K0 nin0) (fp2.keep K0 nin0) (fp3.keep K0 nin0)) 1 0 0 (by show _ ≤ 0; omega) (by show _ ≤ 0; omega) e0 (fp0.keep K0) (g := (mkF m 6 #[rv a1, rv wsp, iv (0 : Int32), .unset, .unset, .unset, .unset, .unset] [(.ref a1), (.int (0 : Int32))])) rfl (by rw [hml]; rfl) [] [(.int (0 : Int32))] (lenOf own_pd_2 rfl) rfl rfl (hb hby d6_6)
  obtain ⟨rfl, Nc3, Kc2⟩ := hQ1
  refine own_go st1 ?_
  clear st1 X0 e0
  replace N0 := Fr.app N0 Nc3
  clear Nc3
  refine own_go (fun _ k => XS.aloadN X1.here hx rfl (hb hby d6_9) rfl rfl k) ?_
  show own_Go p e below s _ _ _ (T1.setTop (mkF m 10 #[rv a1, rv wsp, iv (0 : Int32), .unset, .unset, .unset, .unset, .unset] [(.ref wsp), (.int (0 : Int32)), (.int (0 : Int32))]))
  obtain ⟨v4, T4, L4, X4, hQ4, st4⟩ := own_callV (y := own_y3) (z := own_y3) X1 hx hZ hown (ow41 hw) (ow42 hw) (notFace_of_selects (args := #[]) (mvT hZ (ow44 hw))) (ow44 hw) (ow43 hw) (ow4 hw) (ow45 hw) (rm_slen7 l Z a0 hw hO [] wsp wspv wspk (115 : Int32) (104 : Int32) (97 : Int32) (114 : Int32) (101 : Int32) (100 : Int32) (45 : Int32) h0 O0 (oSPE.ext O0) (oSPF.ext O0) (oSPC.ext O0) (oSPV.ext O0)) 2 0 0 (by show _ ≤ 0; omega) (by show _ ≤ 0; omega) Kc2 (oSPE.ext O0) (g := (mkF m 10 #[rv a1, rv wsp, iv (0 : Int32), .unset, .unset, .unset, .unset, .unset] [(.ref wsp), (.int (0 : Int32)), (.int (0 : Int32))])) rfl (by rw [hml]; rfl) [] [(.int (0 : Int32)), (.int (0 : Int32))] (lenOf own_pd_2 rfl) rfl rfl (hb hby d6_10)
  obtain ⟨rfl, Nc6, Kc5⟩ := hQ4
  refine own_go st4 ?_
  clear st4 X1 Kc2
  replace N0 := Fr.app N0 Nc6
  clear Nc6
  refine own_go (fun _ k => XS.isub X4.here hx rfl (hb hby d6_13) rfl (XS.icmpNo X4.here hx rfl (hb hby d6_14) rfl (tlt (by decide : (-7 : Int32) < (0 : Int32))).2.2.2 (XS.iconst X4.here hx rfl (hb hby d6_17) k))) ?_
  show own_Go p e below s _ _ _ (T4.setTop (mkF m 18 #[rv a1, rv wsp, iv (0 : Int32), .unset, .unset, .unset, .unset, .unset] [(.int (0 : Int32))]))
  refine own_retN X4 hx hlk Kc5 (t := .boolean) hret (by simp) (hb hby d6_18) (by show _ ≤ 0; omega) (by show _ ≤ 0; omega) ?_
  exact ⟨rfl, N0, rfl⟩
theorem d5_0 : decode jdk_42_method_76_code 0 = .ok (.aload_n 0, 1) := by decide +kernel
theorem d5_1 : decode jdk_42_method_76_code 1 = .ok (.aload_n 1, 1) := by decide +kernel
theorem d5_2 : decode jdk_42_method_76_code 2 = .ok (.iconst 0, 1) := by decide +kernel
theorem d5_3 : decode jdk_42_method_76_code 3 = .ok (.invokevirtual 624, 3) := by decide +kernel
theorem d5_6 : decode jdk_42_method_76_code 6 = .ok (.ireturn, 1) := by decide +kernel
def Q_sw0 (Z : State) (zc : Int32) (wx : Addr) (wy : Addr) (wsp : Addr) (wspv : Addr) (wspk : ClassId) (a1 : Addr) (t : Addr) (kt : ClassId) (h0 : Heap) (v : Option Value) (h : Heap) (L : List Loc) : Prop := (v = some (.int (0 : Int32)) ∧ Fr Z.heap.size L ∧ h = h0)
theorem ef_sw0 (m : MethodId) (x0 : Addr) (x1 : Addr) : entryFrame m #[(.ref x0), (.ref x1)] 2 = mkF m 0 #[rv x0, rv x1] [] := by first | (simp [entryFrame, mkF, argsToLocals, Value.category]; done) | rfl
set_option maxRecDepth 65536 in
set_option maxHeartbeats 40000000 in
theorem rm_sw0 (l : Launch) (Z : State) (a0 : Array Value) (hw : own_W Z a0) {zc : Int32} {wx : Addr} {wy : Addr} {wsp : Addr} {wspv : Addr} {wspk : ClassId} (hO : own_Olds Z zc wx wy wsp wspv wspk) (ws : List Jvm.Cond) (a1 : Addr) (t : Addr) (kt : ClassId) (h0 : Heap) (O0 : Ext Z.heap h0) (fp0 : Exa Z h0 a1 "java/lang/String") (fp1 : Fld Z h0 a1 "java/lang/String" "value" "[B" (.ref t)) (fp2 : Fld Z h0 a1 "java/lang/String" "coder" "B" (.int (0 : Int32))) (fp3 : Arv Z h0 t kt .byte (0 : Int32) [] (.int (0 : Int32))) :
    own_MF l Z h0 own_y6 jdk_42_method_76_code 2 (some .boolean) ({ frames := 3, cells := 0, slots := 0, locals := 46 } : Room) #[(.ref a1), (.ref wsp)] (Q_sw0 Z zc wx wy wsp wspv wspk a1 t kt h0) ws := by
  refine own_met (Q := (Q_sw0 Z zc wx wy wsp wspv wspk a1 t kt h0)) _ _ (plainFor_of_name own_pn_0) ?_
  intro p e s m below meth c T X0 hx hby hml hret hlk hZ hown hnm e0
  replace hown : s.vm.findClass "java/lang/String" = some m.cls := hown
  replace hnm : meth.name = "startsWith" := hnm
  have hml : c.maxLocals = 2 := hml
  obtain ⟨oCS, oCz, oEx, oSh, oPF, oSPE, oSPC, oSPF, oSPV⟩ := id hO
  have N0 := Fr.nil Z.heap.size
  have K0 := Keep.refl h0 []
  refine own_go (fun _ k => castTop (ef_sw0 m a1 wsp) k) ?_
  show own_Go p e below s _ _ _ (T.setTop (mkF m 0 #[rv a1, rv wsp] []))
  refine own_go (fun _ k => XS.aloadN X0.here hx rfl (hb hby d5_0) rfl rfl (XS.aloadN X0.here hx rfl (hb hby d5_1) rfl rfl (XS.iconst X0.here hx rfl (hb hby d5_2) k))) ?_
  obtain ⟨v1, T1, L1, X1, hQ1, st1⟩ := own_callV (y := own_y5) (z := own_y5) X0 hx hZ hown (ow36 hw) (ow37 hw) (notFace_of_selects (args := #[]) (mvT hZ (ow39 hw))) (ow39 hw) (ow38 hw) (ow4 hw) (ow40 hw) (rm_swi0 l Z a0 hw hO [] a1 t kt h0 O0 (fp0.keep K0) (fp1.keep K0 nin0) (fp2.keep K0 nin0) (fp3.keep K0 nin0)) 0 0 0 (by show _ ≤ 0; omega) (by show _ ≤ 0; omega) e0 (fp0.keep K0) (g := (mkF m 3 #[rv a1, rv wsp] [(.int (0 : Int32)), (.ref wsp), (.ref a1)])) rfl (by rw [hml]; rfl) [(.ref wsp), (.int (0 : Int32))] [] (lenOf own_pd_3 rfl) rfl rfl (hb hby d5_3)
  obtain ⟨rfl, Nc3, Kc2⟩ := hQ1
  refine own_go st1 ?_
  clear st1 X0 e0
  replace N0 := Fr.app N0 Nc3
  clear Nc3
  show own_Go p e below s _ _ _ (T1.setTop (mkF m 6 #[rv a1, rv wsp] [(.int (0 : Int32))]))
  refine own_retN X1 hx hlk Kc2 (t := .boolean) hret (by simp) (hb hby d5_6) (by show _ ≤ 0; omega) (by show _ ≤ 0; omega) ?_
  exact ⟨rfl, N0, rfl⟩
theorem d4_0 : decode prog_5_method_4_code 0 = .ok (.aload_n 0, 1) := by decide +kernel
theorem d4_1 : decode prog_5_method_4_code 1 = .ok (.getstatic 7, 3) := by decide +kernel
theorem d4_4 : decode prog_5_method_4_code 4 = .ok (.getfield 29, 3) := by decide +kernel
theorem d4_7 : decode prog_5_method_4_code 7 = .ok (.invokevirtual 36, 3) := by decide +kernel
theorem d4_10 : decode prog_5_method_4_code 10 = .ok (.ifCond .eq 9, 3) := by decide +kernel
theorem d4_19 : decode prog_5_method_4_code 19 = .ok (.getstatic 3, 3) := by decide +kernel
theorem d4_22 : decode prog_5_method_4_code 22 = .ok (.areturn, 1) := by decide +kernel
def Q_ofn0 (Z : State) (zc : Int32) (wx : Addr) (wy : Addr) (wsp : Addr) (wspv : Addr) (wspk : ClassId) (a1 : Addr) (t : Addr) (kt : ClassId) (h0 : Heap) (v : Option Value) (h : Heap) (L : List Loc) : Prop := (v = some (.ref wx) ∧ Fr Z.heap.size L ∧ h = h0)
theorem ef_ofn0 (m : MethodId) (x0 : Addr) : entryFrame m #[(.ref x0)] 1 = mkF m 0 #[rv x0] [] := by first | (simp [entryFrame, mkF, argsToLocals, Value.category]; done) | rfl
set_option maxRecDepth 65536 in
set_option maxHeartbeats 40000000 in
theorem rm_ofn0 (l : Launch) (Z : State) (a0 : Array Value) (hw : own_W Z a0) {zc : Int32} {wx : Addr} {wy : Addr} {wsp : Addr} {wspv : Addr} {wspk : ClassId} (hO : own_Olds Z zc wx wy wsp wspv wspk) (ws : List Jvm.Cond) (a1 : Addr) (t : Addr) (kt : ClassId) (h0 : Heap) (O0 : Ext Z.heap h0) (fp0 : Exa Z h0 a1 "java/lang/String") (fp1 : Fld Z h0 a1 "java/lang/String" "value" "[B" (.ref t)) (fp2 : Fld Z h0 a1 "java/lang/String" "coder" "B" (.int (0 : Int32))) (fp3 : Arv Z h0 t kt .byte (0 : Int32) [] (.int (0 : Int32))) :
    own_MF l Z h0 own_y7 prog_5_method_4_code 1 (some (.object "com/example/padlock/padlock/lock/Access")) ({ frames := 4, cells := 0, slots := 0, locals := 59 } : Room) #[(.ref a1)] (Q_ofn0 Z zc wx wy wsp wspv wspk a1 t kt h0) ws := by
  refine own_met (Q := (Q_ofn0 Z zc wx wy wsp wspv wspk a1 t kt h0)) _ _ (plainFor_of_name own_pn_2) ?_
  intro p e s m below meth c T X0 hx hby hml hret hlk hZ hown hnm e0
  replace hown : s.vm.findClass "com/example/padlock/padlock/lock/Access" = some m.cls := hown
  replace hnm : meth.name = "ofNode" := hnm
  have hml : c.maxLocals = 1 := hml
  obtain ⟨oCS, oCz, oEx, oSh, oPF, oSPE, oSPC, oSPF, oSPV⟩ := id hO
  have N0 := Fr.nil Z.heap.size
  have K0 := Keep.refl h0 []
  refine own_go (fun _ k => castTop (ef_ofn0 m a1) k) ?_
  show own_Go p e below s _ _ _ (T.setTop (mkF m 0 #[rv a1] []))
  refine own_go (fun _ k => XS.aloadN X0.here hx rfl (hb hby d4_0) rfl rfl k) ?_
  obtain ⟨T1, X1, e1, st1⟩ := getS2 X0 hx hZ hown (host := "") (Or.inl (ow27 hw)) Via.refl e0 (oSh.ext O0) (g := (mkF m 1 #[rv a1] [(.ref a1)])) rfl (hb hby d4_1)
  refine own_go st1 ?_
  clear st1 X0 e0
  obtain ⟨T2, X2, e2, st2⟩ := getF X1 hx hZ hown (host := "") (Or.inl (ow29 hw)) Via.refl e1 (oPF.ext O0) (g := (mkF m 4 #[rv a1] [(.ref wy), (.ref a1)])) rfl rfl (hb hby d4_4)
  refine own_go st2 ?_
  clear st2 X1 e1
  obtain ⟨v3, T3, L3, X3, hQ3, st3⟩ := own_callV (y := own_y6) (z := own_y6) X2 hx hZ hown (ow31 hw) (ow32 hw) (notFace_of_selects (args := #[]) (mvT hZ (ow34 hw))) (ow34 hw) (ow33 hw) (ow4 hw) (ow35 hw) (rm_sw0 l Z a0 hw hO [] a1 t kt h0 O0 (fp0.keep K0) (fp1.keep K0 nin0) (fp2.keep K0 nin0) (fp3.keep K0 nin0)) 0 0 0 (by show _ ≤ 0; omega) (by show _ ≤ 0; omega) e2 (fp0.keep K0) (g := (mkF m 7 #[rv a1] [(.ref wsp), (.ref a1)])) rfl (by rw [hml]; rfl) [(.ref wsp)] [] (lenOf own_pd_4 rfl) rfl rfl (hb hby d4_7)
  obtain ⟨rfl, Nc5, Kc4⟩ := hQ3
  refine own_go st3 ?_
  clear st3 X2 e2
  replace N0 := Fr.app N0 Nc5
  clear Nc5
  refine own_go (fun _ k => XS.ifYes X3.here hx rfl (pc0 := 10) (pc' := 19) rfl (hb hby d4_10) rfl ((if0 _ _).trans (teq (by decide : (0 : Int32) = (0 : Int32))).1) (by decide) (by decide) k) ?_
  obtain ⟨T6, X6, e6, st6⟩ := getS2 X3 hx hZ hown (host := "") (Or.inl (ow52 hw)) Via.refl Kc4 (oEx.ext O0) (g := (mkF m 19 #[rv a1] [])) rfl (hb hby d4_19)
  refine own_go st6 ?_
  clear st6 X3 Kc4
  show own_Go p e below s _ _ _ (T6.setTop (mkF m 22 #[rv a1] [(.ref wx)]))
  refine own_retA X6 hx hlk e6 hret rfl rfl (hb hby d4_22) (by show _ ≤ 0; omega) (by show _ ≤ 0; omega) ?_
  exact ⟨rfl, N0, rfl⟩
def Q_swi1 (Z : State) (zc : Int32) (wx : Addr) (wy : Addr) (wsp : Addr) (wspv : Addr) (wspk : ClassId) (a1 : Addr) (t : Addr) (kt : ClassId) (x0 : Int32) (h0 : Heap) (v : Option Value) (h : Heap) (L : List Loc) : Prop := (v = some (.int (0 : Int32)) ∧ Fr Z.heap.size L ∧ h = h0)
theorem ef_swi1 (m : MethodId) (x0 : Addr) (x1 : Addr) : entryFrame m #[(.ref x0), (.ref x1), (.int (0 : Int32))] 8 = mkF m 0 #[rv x0, rv x1, iv (0 : Int32), .unset, .unset, .unset, .unset, .unset] [] := by first | (simp [entryFrame, mkF, argsToLocals, Value.category]; done) | rfl
set_option maxRecDepth 65536 in
set_option maxHeartbeats 40000000 in
theorem rm_swi1 (l : Launch) (Z : State) (a0 : Array Value) (hw : own_W Z a0) {zc : Int32} {wx : Addr} {wy : Addr} {wsp : Addr} {wspv : Addr} {wspk : ClassId} (hO : own_Olds Z zc wx wy wsp wspv wspk) (ws : List Jvm.Cond) (a1 : Addr) (t : Addr) (kt : ClassId) (x0 : Int32) (h0 : Heap) (O0 : Ext Z.heap h0) (fp0 : Exa Z h0 a1 "java/lang/String") (fp1 : Fld Z h0 a1 "java/lang/String" "value" "[B" (.ref t)) (fp2 : Fld Z h0 a1 "java/lang/String" "coder" "B" (.int (0 : Int32))) (fp3 : Arv Z h0 t kt .byte (1 : Int32) [(.int x0)] (.int (0 : Int32))) :
    own_MF l Z h0 own_y5 jdk_42_method_75_code 8 (some .boolean) ({ frames := 2, cells := 0, slots := 0, locals := 27 } : Room) #[(.ref a1), (.ref wsp), (.int (0 : Int32))] (Q_swi1 Z zc wx wy wsp wspv wspk a1 t kt x0 h0) ws := by
  refine own_met (Q := (Q_swi1 Z zc wx wy wsp wspv wspk a1 t kt x0 h0)) _ _ (plainFor_of_name own_pn_0) ?_
  intro p e s m below meth c T X0 hx hby hml hret hlk hZ hown hnm e0
  replace hown : s.vm.findClass "java/lang/String" = some m.cls := hown
  replace hnm : meth.name = "startsWith" := hnm
  have hml : c.maxLocals = 8 := hml
  obtain ⟨oCS, oCz, oEx, oSh, oPF, oSPE, oSPC, oSPF, oSPV⟩ := id hO
  have N0 := Fr.nil Z.heap.size
  have K0 := Keep.refl h0 []
  refine own_go (fun _ k => castTop (ef_swi1 m a1 wsp) k) ?_
  show own_Go p e below s _ _ _ (T.setTop (mkF m 0 #[rv a1, rv wsp, iv (0 : Int32), .unset, .unset, .unset, .unset, .unset] []))
  refine own_go (fun _ k => XS.iloadN X0.here hx rfl (hb hby d6_0) rfl (XS.ifNo X0.here hx rfl (hb hby d6_1) rfl ((if0 _ _).trans (flt (by decide : ¬ ((0 : Int32) < (0 : Int32)))).1) (XS.iloadN X0.here hx rfl (hb hby d6_4) rfl (XS.aloadN X0.here hx rfl (hb hby d6_5) rfl rfl k)))) ?_
  obtain ⟨v1, T1, L1, X1, hQ1, st1⟩ := own_callV (y := own_y3) (z := own_y3) X0 hx hZ hown (ow41 hw) (ow42 hw) (notFace_of_selects (args := #[]) (mvT hZ (ow44 hw))) (ow44 hw) (ow43 hw) (ow4 hw) (ow45 hw) (rm_slen1 l Z a0 hw hO [] a1 t kt x0 h0 O0 (fp0.keep K0) (fp1.keep K0 nin0) (fp2.keep K0 nin0) (fp3.keep K0 nin0)) 1 0 0 (by show _ ≤ 0; omega) (by show _ ≤ 0; omega) e0 (fp0.keep K0) (g := (mkF m 6 #[rv a1, rv wsp, iv (0 : Int32), .unset, .unset, .unset, .unset, .unset] [(.ref a1), (.int (0 : Int32))])) rfl (by rw [hml]; rfl) [] [(.int (0 : Int32))] (lenOf own_pd_2 rfl) rfl rfl (hb hby d6_6)
  obtain ⟨rfl, Nc3, Kc2⟩ := hQ1
  refine own_go st1 ?_
  clear st1 X0 e0
  replace N0 := Fr.app N0 Nc3
  clear Nc3
  refine own_go (fun _ k => XS.aloadN X1.here hx rfl (hb hby d6_9) rfl rfl k) ?_
  show own_Go p e below s _ _ _ (T1.setTop (mkF m 10 #[rv a1, rv wsp, iv (0 : Int32), .unset, .unset, .unset, .unset, .unset] [(.ref wsp), (.int (1 : Int32)), (.int (0 : Int32))]))
  obtain ⟨v4, T4, L4, X4, hQ4, st4⟩ := own_callV (y := own_y3) (z := own_y3) X1 hx hZ hown (ow41 hw) (ow42 hw) (notFace_of_selects (args := #[]) (mvT hZ (ow44 hw))) (ow44 hw) (ow43 hw) (ow4 hw) (ow45 hw) (rm_slen7 l Z a0 hw hO [] wsp wspv wspk (115 : Int32) (104 : Int32) (97 : Int32) (114 : Int32) (101 : Int32) (100 : Int32) (45 : Int32) h0 O0 (oSPE.ext O0) (oSPF.ext O0) (oSPC.ext O0) (oSPV.ext O0)) 2 0 0 (by show _ ≤ 0; omega) (by show _ ≤ 0; omega) Kc2 (oSPE.ext O0) (g := (mkF m 10 #[rv a1, rv wsp, iv (0 : Int32), .unset, .unset, .unset, .unset, .unset] [(.ref wsp), (.int (1 : Int32)), (.int (0 : Int32))])) rfl (by rw [hml]; rfl) [] [(.int (1 : Int32)), (.int (0 : Int32))] (lenOf own_pd_2 rfl) rfl rfl (hb hby d6_10)
  obtain ⟨rfl, Nc6, Kc5⟩ := hQ4
  refine own_go st4 ?_
  clear st4 X1 Kc2
  replace N0 := Fr.app N0 Nc6
  clear Nc6
  refine own_go (fun _ k => XS.isub X4.here hx rfl (hb hby d6_13) rfl (XS.icmpNo X4.here hx rfl (hb hby d6_14) rfl (tlt (by decide : (-6 : Int32) < (0 : Int32))).2.2.2 (XS.iconst X4.here hx rfl (hb hby d6_17) k))) ?_
  show own_Go p e below s _ _ _ (T4.setTop (mkF m 18 #[rv a1, rv wsp, iv (0 : Int32), .unset, .unset, .unset, .unset, .unset] [(.int (0 : Int32))]))
  refine own_retN X4 hx hlk Kc5 (t := .boolean) hret (by simp) (hb hby d6_18) (by show _ ≤ 0; omega) (by show _ ≤ 0; omega) ?_
  exact ⟨rfl, N0, rfl⟩
def Q_sw1 (Z : State) (zc : Int32) (wx : Addr) (wy : Addr) (wsp : Addr) (wspv : Addr) (wspk : ClassId) (a1 : Addr) (t : Addr) (kt : ClassId) (x0 : Int32) (h0 : Heap) (v : Option Value) (h : Heap) (L : List Loc) : Prop := (v = some (.int (0 : Int32)) ∧ Fr Z.heap.size L ∧ h = h0)
theorem ef_sw1 (m : MethodId) (x0 : Addr) (x1 : Addr) : entryFrame m #[(.ref x0), (.ref x1)] 2 = mkF m 0 #[rv x0, rv x1] [] := by first | (simp [entryFrame, mkF, argsToLocals, Value.category]; done) | rfl
set_option maxRecDepth 65536 in
set_option maxHeartbeats 40000000 in
theorem rm_sw1 (l : Launch) (Z : State) (a0 : Array Value) (hw : own_W Z a0) {zc : Int32} {wx : Addr} {wy : Addr} {wsp : Addr} {wspv : Addr} {wspk : ClassId} (hO : own_Olds Z zc wx wy wsp wspv wspk) (ws : List Jvm.Cond) (a1 : Addr) (t : Addr) (kt : ClassId) (x0 : Int32) (h0 : Heap) (O0 : Ext Z.heap h0) (fp0 : Exa Z h0 a1 "java/lang/String") (fp1 : Fld Z h0 a1 "java/lang/String" "value" "[B" (.ref t)) (fp2 : Fld Z h0 a1 "java/lang/String" "coder" "B" (.int (0 : Int32))) (fp3 : Arv Z h0 t kt .byte (1 : Int32) [(.int x0)] (.int (0 : Int32))) :
    own_MF l Z h0 own_y6 jdk_42_method_76_code 2 (some .boolean) ({ frames := 3, cells := 0, slots := 0, locals := 46 } : Room) #[(.ref a1), (.ref wsp)] (Q_sw1 Z zc wx wy wsp wspv wspk a1 t kt x0 h0) ws := by
  refine own_met (Q := (Q_sw1 Z zc wx wy wsp wspv wspk a1 t kt x0 h0)) _ _ (plainFor_of_name own_pn_0) ?_
  intro p e s m below meth c T X0 hx hby hml hret hlk hZ hown hnm e0
  replace hown : s.vm.findClass "java/lang/String" = some m.cls := hown
  replace hnm : meth.name = "startsWith" := hnm
  have hml : c.maxLocals = 2 := hml
  obtain ⟨oCS, oCz, oEx, oSh, oPF, oSPE, oSPC, oSPF, oSPV⟩ := id hO
  have N0 := Fr.nil Z.heap.size
  have K0 := Keep.refl h0 []
  refine own_go (fun _ k => castTop (ef_sw1 m a1 wsp) k) ?_
  show own_Go p e below s _ _ _ (T.setTop (mkF m 0 #[rv a1, rv wsp] []))
  refine own_go (fun _ k => XS.aloadN X0.here hx rfl (hb hby d5_0) rfl rfl (XS.aloadN X0.here hx rfl (hb hby d5_1) rfl rfl (XS.iconst X0.here hx rfl (hb hby d5_2) k))) ?_
  obtain ⟨v1, T1, L1, X1, hQ1, st1⟩ := own_callV (y := own_y5) (z := own_y5) X0 hx hZ hown (ow36 hw) (ow37 hw) (notFace_of_selects (args := #[]) (mvT hZ (ow39 hw))) (ow39 hw) (ow38 hw) (ow4 hw) (ow40 hw) (rm_swi1 l Z a0 hw hO [] a1 t kt x0 h0 O0 (fp0.keep K0) (fp1.keep K0 nin0) (fp2.keep K0 nin0) (fp3.keep K0 nin0)) 0 0 0 (by show _ ≤ 0; omega) (by show _ ≤ 0; omega) e0 (fp0.keep K0) (g := (mkF m 3 #[rv a1, rv wsp] [(.int (0 : Int32)), (.ref wsp), (.ref a1)])) rfl (by rw [hml]; rfl) [(.ref wsp), (.int (0 : Int32))] [] (lenOf own_pd_3 rfl) rfl rfl (hb hby d5_3)
  obtain ⟨rfl, Nc3, Kc2⟩ := hQ1
  refine own_go st1 ?_
  clear st1 X0 e0
  replace N0 := Fr.app N0 Nc3
  clear Nc3
  show own_Go p e below s _ _ _ (T1.setTop (mkF m 6 #[rv a1, rv wsp] [(.int (0 : Int32))]))
  refine own_retN X1 hx hlk Kc2 (t := .boolean) hret (by simp) (hb hby d5_6) (by show _ ≤ 0; omega) (by show _ ≤ 0; omega) ?_
  exact ⟨rfl, N0, rfl⟩
def Q_ofn1 (Z : State) (zc : Int32) (wx : Addr) (wy : Addr) (wsp : Addr) (wspv : Addr) (wspk : ClassId) (a1 : Addr) (t : Addr) (kt : ClassId) (x0 : Int32) (h0 : Heap) (v : Option Value) (h : Heap) (L : List Loc) : Prop := (v = some (.ref wx) ∧ Fr Z.heap.size L ∧ h = h0)
theorem ef_ofn1 (m : MethodId) (x0 : Addr) : entryFrame m #[(.ref x0)] 1 = mkF m 0 #[rv x0] [] := by first | (simp [entryFrame, mkF, argsToLocals, Value.category]; done) | rfl
set_option maxRecDepth 65536 in
set_option maxHeartbeats 40000000 in
theorem rm_ofn1 (l : Launch) (Z : State) (a0 : Array Value) (hw : own_W Z a0) {zc : Int32} {wx : Addr} {wy : Addr} {wsp : Addr} {wspv : Addr} {wspk : ClassId} (hO : own_Olds Z zc wx wy wsp wspv wspk) (ws : List Jvm.Cond) (a1 : Addr) (t : Addr) (kt : ClassId) (x0 : Int32) (h0 : Heap) (O0 : Ext Z.heap h0) (fp0 : Exa Z h0 a1 "java/lang/String") (fp1 : Fld Z h0 a1 "java/lang/String" "value" "[B" (.ref t)) (fp2 : Fld Z h0 a1 "java/lang/String" "coder" "B" (.int (0 : Int32))) (fp3 : Arv Z h0 t kt .byte (1 : Int32) [(.int x0)] (.int (0 : Int32))) :
    own_MF l Z h0 own_y7 prog_5_method_4_code 1 (some (.object "com/example/padlock/padlock/lock/Access")) ({ frames := 4, cells := 0, slots := 0, locals := 59 } : Room) #[(.ref a1)] (Q_ofn1 Z zc wx wy wsp wspv wspk a1 t kt x0 h0) ws := by
  refine own_met (Q := (Q_ofn1 Z zc wx wy wsp wspv wspk a1 t kt x0 h0)) _ _ (plainFor_of_name own_pn_2) ?_
  intro p e s m below meth c T X0 hx hby hml hret hlk hZ hown hnm e0
  replace hown : s.vm.findClass "com/example/padlock/padlock/lock/Access" = some m.cls := hown
  replace hnm : meth.name = "ofNode" := hnm
  have hml : c.maxLocals = 1 := hml
  obtain ⟨oCS, oCz, oEx, oSh, oPF, oSPE, oSPC, oSPF, oSPV⟩ := id hO
  have N0 := Fr.nil Z.heap.size
  have K0 := Keep.refl h0 []
  refine own_go (fun _ k => castTop (ef_ofn1 m a1) k) ?_
  show own_Go p e below s _ _ _ (T.setTop (mkF m 0 #[rv a1] []))
  refine own_go (fun _ k => XS.aloadN X0.here hx rfl (hb hby d4_0) rfl rfl k) ?_
  obtain ⟨T1, X1, e1, st1⟩ := getS2 X0 hx hZ hown (host := "") (Or.inl (ow27 hw)) Via.refl e0 (oSh.ext O0) (g := (mkF m 1 #[rv a1] [(.ref a1)])) rfl (hb hby d4_1)
  refine own_go st1 ?_
  clear st1 X0 e0
  obtain ⟨T2, X2, e2, st2⟩ := getF X1 hx hZ hown (host := "") (Or.inl (ow29 hw)) Via.refl e1 (oPF.ext O0) (g := (mkF m 4 #[rv a1] [(.ref wy), (.ref a1)])) rfl rfl (hb hby d4_4)
  refine own_go st2 ?_
  clear st2 X1 e1
  obtain ⟨v3, T3, L3, X3, hQ3, st3⟩ := own_callV (y := own_y6) (z := own_y6) X2 hx hZ hown (ow31 hw) (ow32 hw) (notFace_of_selects (args := #[]) (mvT hZ (ow34 hw))) (ow34 hw) (ow33 hw) (ow4 hw) (ow35 hw) (rm_sw1 l Z a0 hw hO [] a1 t kt x0 h0 O0 (fp0.keep K0) (fp1.keep K0 nin0) (fp2.keep K0 nin0) (fp3.keep K0 nin0)) 0 0 0 (by show _ ≤ 0; omega) (by show _ ≤ 0; omega) e2 (fp0.keep K0) (g := (mkF m 7 #[rv a1] [(.ref wsp), (.ref a1)])) rfl (by rw [hml]; rfl) [(.ref wsp)] [] (lenOf own_pd_4 rfl) rfl rfl (hb hby d4_7)
  obtain ⟨rfl, Nc5, Kc4⟩ := hQ3
  refine own_go st3 ?_
  clear st3 X2 e2
  replace N0 := Fr.app N0 Nc5
  clear Nc5
  refine own_go (fun _ k => XS.ifYes X3.here hx rfl (pc0 := 10) (pc' := 19) rfl (hb hby d4_10) rfl ((if0 _ _).trans (teq (by decide : (0 : Int32) = (0 : Int32))).1) (by decide) (by decide) k) ?_
  obtain ⟨T6, X6, e6, st6⟩ := getS2 X3 hx hZ hown (host := "") (Or.inl (ow52 hw)) Via.refl Kc4 (oEx.ext O0) (g := (mkF m 19 #[rv a1] [])) rfl (hb hby d4_19)
  refine own_go st6 ?_
  clear st6 X3 Kc4
  show own_Go p e below s _ _ _ (T6.setTop (mkF m 22 #[rv a1] [(.ref wx)]))
  refine own_retA X6 hx hlk e6 hret rfl rfl (hb hby d4_22) (by show _ ≤ 0; omega) (by show _ ≤ 0; omega) ?_
  exact ⟨rfl, N0, rfl⟩
def Q_swi2 (Z : State) (zc : Int32) (wx : Addr) (wy : Addr) (wsp : Addr) (wspv : Addr) (wspk : ClassId) (a1 : Addr) (t : Addr) (kt : ClassId) (x0 : Int32) (x1 : Int32) (h0 : Heap) (v : Option Value) (h : Heap) (L : List Loc) : Prop := (v = some (.int (0 : Int32)) ∧ Fr Z.heap.size L ∧ h = h0)
theorem ef_swi2 (m : MethodId) (x0 : Addr) (x1 : Addr) : entryFrame m #[(.ref x0), (.ref x1), (.int (0 : Int32))] 8 = mkF m 0 #[rv x0, rv x1, iv (0 : Int32), .unset, .unset, .unset, .unset, .unset] [] := by first | (simp [entryFrame, mkF, argsToLocals, Value.category]; done) | rfl
set_option maxRecDepth 65536 in
set_option maxHeartbeats 40000000 in
theorem rm_swi2 (l : Launch) (Z : State) (a0 : Array Value) (hw : own_W Z a0) {zc : Int32} {wx : Addr} {wy : Addr} {wsp : Addr} {wspv : Addr} {wspk : ClassId} (hO : own_Olds Z zc wx wy wsp wspv wspk) (ws : List Jvm.Cond) (a1 : Addr) (t : Addr) (kt : ClassId) (x0 : Int32) (x1 : Int32) (h0 : Heap) (O0 : Ext Z.heap h0) (fp0 : Exa Z h0 a1 "java/lang/String") (fp1 : Fld Z h0 a1 "java/lang/String" "value" "[B" (.ref t)) (fp2 : Fld Z h0 a1 "java/lang/String" "coder" "B" (.int (0 : Int32))) (fp3 : Arv Z h0 t kt .byte (2 : Int32) [(.int x0), (.int x1)] (.int (0 : Int32))) :
    own_MF l Z h0 own_y5 jdk_42_method_75_code 8 (some .boolean) ({ frames := 2, cells := 0, slots := 0, locals := 27 } : Room) #[(.ref a1), (.ref wsp), (.int (0 : Int32))] (Q_swi2 Z zc wx wy wsp wspv wspk a1 t kt x0 x1 h0) ws := by
  refine own_met (Q := (Q_swi2 Z zc wx wy wsp wspv wspk a1 t kt x0 x1 h0)) _ _ (plainFor_of_name own_pn_0) ?_
  intro p e s m below meth c T X0 hx hby hml hret hlk hZ hown hnm e0
  replace hown : s.vm.findClass "java/lang/String" = some m.cls := hown
  replace hnm : meth.name = "startsWith" := hnm
  have hml : c.maxLocals = 8 := hml
  obtain ⟨oCS, oCz, oEx, oSh, oPF, oSPE, oSPC, oSPF, oSPV⟩ := id hO
  have N0 := Fr.nil Z.heap.size
  have K0 := Keep.refl h0 []
  refine own_go (fun _ k => castTop (ef_swi2 m a1 wsp) k) ?_
  show own_Go p e below s _ _ _ (T.setTop (mkF m 0 #[rv a1, rv wsp, iv (0 : Int32), .unset, .unset, .unset, .unset, .unset] []))
  refine own_go (fun _ k => XS.iloadN X0.here hx rfl (hb hby d6_0) rfl (XS.ifNo X0.here hx rfl (hb hby d6_1) rfl ((if0 _ _).trans (flt (by decide : ¬ ((0 : Int32) < (0 : Int32)))).1) (XS.iloadN X0.here hx rfl (hb hby d6_4) rfl (XS.aloadN X0.here hx rfl (hb hby d6_5) rfl rfl k)))) ?_
  obtain ⟨v1, T1, L1, X1, hQ1, st1⟩ := own_callV (y := own_y3) (z := own_y3) X0 hx hZ hown (ow41 hw) (ow42 hw) (notFace_of_selects (args := #[]) (mvT hZ (ow44 hw))) (ow44 hw) (ow43 hw) (ow4 hw) (ow45 hw) (rm_slen2 l Z a0 hw hO [] a1 t kt x0 x1 h0 O0 (fp0.keep K0) (fp1.keep K0 nin0) (fp2.keep K0 nin0) (fp3.keep K0 nin0)) 1 0 0 (by show _ ≤ 0; omega) (by show _ ≤ 0; omega) e0 (fp0.keep K0) (g := (mkF m 6 #[rv a1, rv wsp, iv (0 : Int32), .unset, .unset, .unset, .unset, .unset] [(.ref a1), (.int (0 : Int32))])) rfl (by rw [hml]; rfl) [] [(.int (0 : Int32))] (lenOf own_pd_2 rfl) rfl rfl (hb hby d6_6)
  obtain ⟨rfl, Nc3, Kc2⟩ := hQ1
  refine own_go st1 ?_
  clear st1 X0 e0
  replace N0 := Fr.app N0 Nc3
  clear Nc3
  refine own_go (fun _ k => XS.aloadN X1.here hx rfl (hb hby d6_9) rfl rfl k) ?_
  show own_Go p e below s _ _ _ (T1.setTop (mkF m 10 #[rv a1, rv wsp, iv (0 : Int32), .unset, .unset, .unset, .unset, .unset] [(.ref wsp), (.int (2 : Int32)), (.int (0 : Int32))]))
  obtain ⟨v4, T4, L4, X4, hQ4, st4⟩ := own_callV (y := own_y3) (z := own_y3) X1 hx hZ hown (ow41 hw) (ow42 hw) (notFace_of_selects (args := #[]) (mvT hZ (ow44 hw))) (ow44 hw) (ow43 hw) (ow4 hw) (ow45 hw) (rm_slen7 l Z a0 hw hO [] wsp wspv wspk (115 : Int32) (104 : Int32) (97 : Int32) (114 : Int32) (101 : Int32) (100 : Int32) (45 : Int32) h0 O0 (oSPE.ext O0) (oSPF.ext O0) (oSPC.ext O0) (oSPV.ext O0)) 2 0 0 (by show _ ≤ 0; omega) (by show _ ≤ 0; omega) Kc2 (oSPE.ext O0) (g := (mkF m 10 #[rv a1, rv wsp, iv (0 : Int32), .unset, .unset, .unset, .unset, .unset] [(.ref wsp), (.int (2 : Int32)), (.int (0 : Int32))])) rfl (by rw [hml]; rfl) [] [(.int (2 : Int32)), (.int (0 : Int32))] (lenOf own_pd_2 rfl) rfl rfl (hb hby d6_10)
  obtain ⟨rfl, Nc6, Kc5⟩ := hQ4
  refine own_go st4 ?_
  clear st4 X1 Kc2
  replace N0 := Fr.app N0 Nc6
  clear Nc6
  refine own_go (fun _ k => XS.isub X4.here hx rfl (hb hby d6_13) rfl (XS.icmpNo X4.here hx rfl (hb hby d6_14) rfl (tlt (by decide : (-5 : Int32) < (0 : Int32))).2.2.2 (XS.iconst X4.here hx rfl (hb hby d6_17) k))) ?_
  show own_Go p e below s _ _ _ (T4.setTop (mkF m 18 #[rv a1, rv wsp, iv (0 : Int32), .unset, .unset, .unset, .unset, .unset] [(.int (0 : Int32))]))
  refine own_retN X4 hx hlk Kc5 (t := .boolean) hret (by simp) (hb hby d6_18) (by show _ ≤ 0; omega) (by show _ ≤ 0; omega) ?_
  exact ⟨rfl, N0, rfl⟩
def Q_sw2 (Z : State) (zc : Int32) (wx : Addr) (wy : Addr) (wsp : Addr) (wspv : Addr) (wspk : ClassId) (a1 : Addr) (t : Addr) (kt : ClassId) (x0 : Int32) (x1 : Int32) (h0 : Heap) (v : Option Value) (h : Heap) (L : List Loc) : Prop := (v = some (.int (0 : Int32)) ∧ Fr Z.heap.size L ∧ h = h0)
theorem ef_sw2 (m : MethodId) (x0 : Addr) (x1 : Addr) : entryFrame m #[(.ref x0), (.ref x1)] 2 = mkF m 0 #[rv x0, rv x1] [] := by first | (simp [entryFrame, mkF, argsToLocals, Value.category]; done) | rfl
set_option maxRecDepth 65536 in
set_option maxHeartbeats 40000000 in
theorem rm_sw2 (l : Launch) (Z : State) (a0 : Array Value) (hw : own_W Z a0) {zc : Int32} {wx : Addr} {wy : Addr} {wsp : Addr} {wspv : Addr} {wspk : ClassId} (hO : own_Olds Z zc wx wy wsp wspv wspk) (ws : List Jvm.Cond) (a1 : Addr) (t : Addr) (kt : ClassId) (x0 : Int32) (x1 : Int32) (h0 : Heap) (O0 : Ext Z.heap h0) (fp0 : Exa Z h0 a1 "java/lang/String") (fp1 : Fld Z h0 a1 "java/lang/String" "value" "[B" (.ref t)) (fp2 : Fld Z h0 a1 "java/lang/String" "coder" "B" (.int (0 : Int32))) (fp3 : Arv Z h0 t kt .byte (2 : Int32) [(.int x0), (.int x1)] (.int (0 : Int32))) :
    own_MF l Z h0 own_y6 jdk_42_method_76_code 2 (some .boolean) ({ frames := 3, cells := 0, slots := 0, locals := 46 } : Room) #[(.ref a1), (.ref wsp)] (Q_sw2 Z zc wx wy wsp wspv wspk a1 t kt x0 x1 h0) ws := by
  refine own_met (Q := (Q_sw2 Z zc wx wy wsp wspv wspk a1 t kt x0 x1 h0)) _ _ (plainFor_of_name own_pn_0) ?_
  intro p e s m below meth c T X0 hx hby hml hret hlk hZ hown hnm e0
  replace hown : s.vm.findClass "java/lang/String" = some m.cls := hown
  replace hnm : meth.name = "startsWith" := hnm
  have hml : c.maxLocals = 2 := hml
  obtain ⟨oCS, oCz, oEx, oSh, oPF, oSPE, oSPC, oSPF, oSPV⟩ := id hO
  have N0 := Fr.nil Z.heap.size
  have K0 := Keep.refl h0 []
  refine own_go (fun _ k => castTop (ef_sw2 m a1 wsp) k) ?_
  show own_Go p e below s _ _ _ (T.setTop (mkF m 0 #[rv a1, rv wsp] []))
  refine own_go (fun _ k => XS.aloadN X0.here hx rfl (hb hby d5_0) rfl rfl (XS.aloadN X0.here hx rfl (hb hby d5_1) rfl rfl (XS.iconst X0.here hx rfl (hb hby d5_2) k))) ?_
  obtain ⟨v1, T1, L1, X1, hQ1, st1⟩ := own_callV (y := own_y5) (z := own_y5) X0 hx hZ hown (ow36 hw) (ow37 hw) (notFace_of_selects (args := #[]) (mvT hZ (ow39 hw))) (ow39 hw) (ow38 hw) (ow4 hw) (ow40 hw) (rm_swi2 l Z a0 hw hO [] a1 t kt x0 x1 h0 O0 (fp0.keep K0) (fp1.keep K0 nin0) (fp2.keep K0 nin0) (fp3.keep K0 nin0)) 0 0 0 (by show _ ≤ 0; omega) (by show _ ≤ 0; omega) e0 (fp0.keep K0) (g := (mkF m 3 #[rv a1, rv wsp] [(.int (0 : Int32)), (.ref wsp), (.ref a1)])) rfl (by rw [hml]; rfl) [(.ref wsp), (.int (0 : Int32))] [] (lenOf own_pd_3 rfl) rfl rfl (hb hby d5_3)
  obtain ⟨rfl, Nc3, Kc2⟩ := hQ1
  refine own_go st1 ?_
  clear st1 X0 e0
  replace N0 := Fr.app N0 Nc3
  clear Nc3
  show own_Go p e below s _ _ _ (T1.setTop (mkF m 6 #[rv a1, rv wsp] [(.int (0 : Int32))]))
  refine own_retN X1 hx hlk Kc2 (t := .boolean) hret (by simp) (hb hby d5_6) (by show _ ≤ 0; omega) (by show _ ≤ 0; omega) ?_
  exact ⟨rfl, N0, rfl⟩
def Q_ofn2 (Z : State) (zc : Int32) (wx : Addr) (wy : Addr) (wsp : Addr) (wspv : Addr) (wspk : ClassId) (a1 : Addr) (t : Addr) (kt : ClassId) (x0 : Int32) (x1 : Int32) (h0 : Heap) (v : Option Value) (h : Heap) (L : List Loc) : Prop := (v = some (.ref wx) ∧ Fr Z.heap.size L ∧ h = h0)
theorem ef_ofn2 (m : MethodId) (x0 : Addr) : entryFrame m #[(.ref x0)] 1 = mkF m 0 #[rv x0] [] := by first | (simp [entryFrame, mkF, argsToLocals, Value.category]; done) | rfl
set_option maxRecDepth 65536 in
set_option maxHeartbeats 40000000 in
theorem rm_ofn2 (l : Launch) (Z : State) (a0 : Array Value) (hw : own_W Z a0) {zc : Int32} {wx : Addr} {wy : Addr} {wsp : Addr} {wspv : Addr} {wspk : ClassId} (hO : own_Olds Z zc wx wy wsp wspv wspk) (ws : List Jvm.Cond) (a1 : Addr) (t : Addr) (kt : ClassId) (x0 : Int32) (x1 : Int32) (h0 : Heap) (O0 : Ext Z.heap h0) (fp0 : Exa Z h0 a1 "java/lang/String") (fp1 : Fld Z h0 a1 "java/lang/String" "value" "[B" (.ref t)) (fp2 : Fld Z h0 a1 "java/lang/String" "coder" "B" (.int (0 : Int32))) (fp3 : Arv Z h0 t kt .byte (2 : Int32) [(.int x0), (.int x1)] (.int (0 : Int32))) :
    own_MF l Z h0 own_y7 prog_5_method_4_code 1 (some (.object "com/example/padlock/padlock/lock/Access")) ({ frames := 4, cells := 0, slots := 0, locals := 59 } : Room) #[(.ref a1)] (Q_ofn2 Z zc wx wy wsp wspv wspk a1 t kt x0 x1 h0) ws := by
  refine own_met (Q := (Q_ofn2 Z zc wx wy wsp wspv wspk a1 t kt x0 x1 h0)) _ _ (plainFor_of_name own_pn_2) ?_
  intro p e s m below meth c T X0 hx hby hml hret hlk hZ hown hnm e0
  replace hown : s.vm.findClass "com/example/padlock/padlock/lock/Access" = some m.cls := hown
  replace hnm : meth.name = "ofNode" := hnm
  have hml : c.maxLocals = 1 := hml
  obtain ⟨oCS, oCz, oEx, oSh, oPF, oSPE, oSPC, oSPF, oSPV⟩ := id hO
  have N0 := Fr.nil Z.heap.size
  have K0 := Keep.refl h0 []
  refine own_go (fun _ k => castTop (ef_ofn2 m a1) k) ?_
  show own_Go p e below s _ _ _ (T.setTop (mkF m 0 #[rv a1] []))
  refine own_go (fun _ k => XS.aloadN X0.here hx rfl (hb hby d4_0) rfl rfl k) ?_
  obtain ⟨T1, X1, e1, st1⟩ := getS2 X0 hx hZ hown (host := "") (Or.inl (ow27 hw)) Via.refl e0 (oSh.ext O0) (g := (mkF m 1 #[rv a1] [(.ref a1)])) rfl (hb hby d4_1)
  refine own_go st1 ?_
  clear st1 X0 e0
  obtain ⟨T2, X2, e2, st2⟩ := getF X1 hx hZ hown (host := "") (Or.inl (ow29 hw)) Via.refl e1 (oPF.ext O0) (g := (mkF m 4 #[rv a1] [(.ref wy), (.ref a1)])) rfl rfl (hb hby d4_4)
  refine own_go st2 ?_
  clear st2 X1 e1
  obtain ⟨v3, T3, L3, X3, hQ3, st3⟩ := own_callV (y := own_y6) (z := own_y6) X2 hx hZ hown (ow31 hw) (ow32 hw) (notFace_of_selects (args := #[]) (mvT hZ (ow34 hw))) (ow34 hw) (ow33 hw) (ow4 hw) (ow35 hw) (rm_sw2 l Z a0 hw hO [] a1 t kt x0 x1 h0 O0 (fp0.keep K0) (fp1.keep K0 nin0) (fp2.keep K0 nin0) (fp3.keep K0 nin0)) 0 0 0 (by show _ ≤ 0; omega) (by show _ ≤ 0; omega) e2 (fp0.keep K0) (g := (mkF m 7 #[rv a1] [(.ref wsp), (.ref a1)])) rfl (by rw [hml]; rfl) [(.ref wsp)] [] (lenOf own_pd_4 rfl) rfl rfl (hb hby d4_7)
  obtain ⟨rfl, Nc5, Kc4⟩ := hQ3
  refine own_go st3 ?_
  clear st3 X2 e2
  replace N0 := Fr.app N0 Nc5
  clear Nc5
  refine own_go (fun _ k => XS.ifYes X3.here hx rfl (pc0 := 10) (pc' := 19) rfl (hb hby d4_10) rfl ((if0 _ _).trans (teq (by decide : (0 : Int32) = (0 : Int32))).1) (by decide) (by decide) k) ?_
  obtain ⟨T6, X6, e6, st6⟩ := getS2 X3 hx hZ hown (host := "") (Or.inl (ow52 hw)) Via.refl Kc4 (oEx.ext O0) (g := (mkF m 19 #[rv a1] [])) rfl (hb hby d4_19)
  refine own_go st6 ?_
  clear st6 X3 Kc4
  show own_Go p e below s _ _ _ (T6.setTop (mkF m 22 #[rv a1] [(.ref wx)]))
  refine own_retA X6 hx hlk e6 hret rfl rfl (hb hby d4_22) (by show _ ≤ 0; omega) (by show _ ≤ 0; omega) ?_
  exact ⟨rfl, N0, rfl⟩
def Q_swi3 (Z : State) (zc : Int32) (wx : Addr) (wy : Addr) (wsp : Addr) (wspv : Addr) (wspk : ClassId) (a1 : Addr) (t : Addr) (kt : ClassId) (x0 : Int32) (x1 : Int32) (x2 : Int32) (h0 : Heap) (v : Option Value) (h : Heap) (L : List Loc) : Prop := (v = some (.int (0 : Int32)) ∧ Fr Z.heap.size L ∧ h = h0)
theorem ef_swi3 (m : MethodId) (x0 : Addr) (x1 : Addr) : entryFrame m #[(.ref x0), (.ref x1), (.int (0 : Int32))] 8 = mkF m 0 #[rv x0, rv x1, iv (0 : Int32), .unset, .unset, .unset, .unset, .unset] [] := by first | (simp [entryFrame, mkF, argsToLocals, Value.category]; done) | rfl
set_option maxRecDepth 65536 in
set_option maxHeartbeats 40000000 in
theorem rm_swi3 (l : Launch) (Z : State) (a0 : Array Value) (hw : own_W Z a0) {zc : Int32} {wx : Addr} {wy : Addr} {wsp : Addr} {wspv : Addr} {wspk : ClassId} (hO : own_Olds Z zc wx wy wsp wspv wspk) (ws : List Jvm.Cond) (a1 : Addr) (t : Addr) (kt : ClassId) (x0 : Int32) (x1 : Int32) (x2 : Int32) (h0 : Heap) (O0 : Ext Z.heap h0) (fp0 : Exa Z h0 a1 "java/lang/String") (fp1 : Fld Z h0 a1 "java/lang/String" "value" "[B" (.ref t)) (fp2 : Fld Z h0 a1 "java/lang/String" "coder" "B" (.int (0 : Int32))) (fp3 : Arv Z h0 t kt .byte (3 : Int32) [(.int x0), (.int x1), (.int x2)] (.int (0 : Int32))) :
    own_MF l Z h0 own_y5 jdk_42_method_75_code 8 (some .boolean) ({ frames := 2, cells := 0, slots := 0, locals := 27 } : Room) #[(.ref a1), (.ref wsp), (.int (0 : Int32))] (Q_swi3 Z zc wx wy wsp wspv wspk a1 t kt x0 x1 x2 h0) ws := by
  refine own_met (Q := (Q_swi3 Z zc wx wy wsp wspv wspk a1 t kt x0 x1 x2 h0)) _ _ (plainFor_of_name own_pn_0) ?_
  intro p e s m below meth c T X0 hx hby hml hret hlk hZ hown hnm e0
  replace hown : s.vm.findClass "java/lang/String" = some m.cls := hown
  replace hnm : meth.name = "startsWith" := hnm
  have hml : c.maxLocals = 8 := hml
  obtain ⟨oCS, oCz, oEx, oSh, oPF, oSPE, oSPC, oSPF, oSPV⟩ := id hO
  have N0 := Fr.nil Z.heap.size
  have K0 := Keep.refl h0 []
  refine own_go (fun _ k => castTop (ef_swi3 m a1 wsp) k) ?_
  show own_Go p e below s _ _ _ (T.setTop (mkF m 0 #[rv a1, rv wsp, iv (0 : Int32), .unset, .unset, .unset, .unset, .unset] []))
  refine own_go (fun _ k => XS.iloadN X0.here hx rfl (hb hby d6_0) rfl (XS.ifNo X0.here hx rfl (hb hby d6_1) rfl ((if0 _ _).trans (flt (by decide : ¬ ((0 : Int32) < (0 : Int32)))).1) (XS.iloadN X0.here hx rfl (hb hby d6_4) rfl (XS.aloadN X0.here hx rfl (hb hby d6_5) rfl rfl k)))) ?_
  obtain ⟨v1, T1, L1, X1, hQ1, st1⟩ := own_callV (y := own_y3) (z := own_y3) X0 hx hZ hown (ow41 hw) (ow42 hw) (notFace_of_selects (args := #[]) (mvT hZ (ow44 hw))) (ow44 hw) (ow43 hw) (ow4 hw) (ow45 hw) (rm_slen3 l Z a0 hw hO [] a1 t kt x0 x1 x2 h0 O0 (fp0.keep K0) (fp1.keep K0 nin0) (fp2.keep K0 nin0) (fp3.keep K0 nin0)) 1 0 0 (by show _ ≤ 0; omega) (by show _ ≤ 0; omega) e0 (fp0.keep K0) (g := (mkF m 6 #[rv a1, rv wsp, iv (0 : Int32), .unset, .unset, .unset, .unset, .unset] [(.ref a1), (.int (0 : Int32))])) rfl (by rw [hml]; rfl) [] [(.int (0 : Int32))] (lenOf own_pd_2 rfl) rfl rfl (hb hby d6_6)
  obtain ⟨rfl, Nc3, Kc2⟩ := hQ1
  refine own_go st1 ?_
  clear st1 X0 e0
  replace N0 := Fr.app N0 Nc3
  clear Nc3
  refine own_go (fun _ k => XS.aloadN X1.here hx rfl (hb hby d6_9) rfl rfl k) ?_
  show own_Go p e below s _ _ _ (T1.setTop (mkF m 10 #[rv a1, rv wsp, iv (0 : Int32), .unset, .unset, .unset, .unset, .unset] [(.ref wsp), (.int (3 : Int32)), (.int (0 : Int32))]))
  obtain ⟨v4, T4, L4, X4, hQ4, st4⟩ := own_callV (y := own_y3) (z := own_y3) X1 hx hZ hown (ow41 hw) (ow42 hw) (notFace_of_selects (args := #[]) (mvT hZ (ow44 hw))) (ow44 hw) (ow43 hw) (ow4 hw) (ow45 hw) (rm_slen7 l Z a0 hw hO [] wsp wspv wspk (115 : Int32) (104 : Int32) (97 : Int32) (114 : Int32) (101 : Int32) (100 : Int32) (45 : Int32) h0 O0 (oSPE.ext O0) (oSPF.ext O0) (oSPC.ext O0) (oSPV.ext O0)) 2 0 0 (by show _ ≤ 0; omega) (by show _ ≤ 0; omega) Kc2 (oSPE.ext O0) (g := (mkF m 10 #[rv a1, rv wsp, iv (0 : Int32), .unset, .unset, .unset, .unset, .unset] [(.ref wsp), (.int (3 : Int32)), (.int (0 : Int32))])) rfl (by rw [hml]; rfl) [] [(.int (3 : Int32)), (.int (0 : Int32))] (lenOf own_pd_2 rfl) rfl rfl (hb hby d6_10)
  obtain ⟨rfl, Nc6, Kc5⟩ := hQ4
  refine own_go st4 ?_
  clear st4 X1 Kc2
  replace N0 := Fr.app N0 Nc6
  clear Nc6
  refine own_go (fun _ k => XS.isub X4.here hx rfl (hb hby d6_13) rfl (XS.icmpNo X4.here hx rfl (hb hby d6_14) rfl (tlt (by decide : (-4 : Int32) < (0 : Int32))).2.2.2 (XS.iconst X4.here hx rfl (hb hby d6_17) k))) ?_
  show own_Go p e below s _ _ _ (T4.setTop (mkF m 18 #[rv a1, rv wsp, iv (0 : Int32), .unset, .unset, .unset, .unset, .unset] [(.int (0 : Int32))]))
  refine own_retN X4 hx hlk Kc5 (t := .boolean) hret (by simp) (hb hby d6_18) (by show _ ≤ 0; omega) (by show _ ≤ 0; omega) ?_
  exact ⟨rfl, N0, rfl⟩
def Q_sw3 (Z : State) (zc : Int32) (wx : Addr) (wy : Addr) (wsp : Addr) (wspv : Addr) (wspk : ClassId) (a1 : Addr) (t : Addr) (kt : ClassId) (x0 : Int32) (x1 : Int32) (x2 : Int32) (h0 : Heap) (v : Option Value) (h : Heap) (L : List Loc) : Prop := (v = some (.int (0 : Int32)) ∧ Fr Z.heap.size L ∧ h = h0)
theorem ef_sw3 (m : MethodId) (x0 : Addr) (x1 : Addr) : entryFrame m #[(.ref x0), (.ref x1)] 2 = mkF m 0 #[rv x0, rv x1] [] := by first | (simp [entryFrame, mkF, argsToLocals, Value.category]; done) | rfl
set_option maxRecDepth 65536 in
set_option maxHeartbeats 40000000 in
theorem rm_sw3 (l : Launch) (Z : State) (a0 : Array Value) (hw : own_W Z a0) {zc : Int32} {wx : Addr} {wy : Addr} {wsp : Addr} {wspv : Addr} {wspk : ClassId} (hO : own_Olds Z zc wx wy wsp wspv wspk) (ws : List Jvm.Cond) (a1 : Addr) (t : Addr) (kt : ClassId) (x0 : Int32) (x1 : Int32) (x2 : Int32) (h0 : Heap) (O0 : Ext Z.heap h0) (fp0 : Exa Z h0 a1 "java/lang/String") (fp1 : Fld Z h0 a1 "java/lang/String" "value" "[B" (.ref t)) (fp2 : Fld Z h0 a1 "java/lang/String" "coder" "B" (.int (0 : Int32))) (fp3 : Arv Z h0 t kt .byte (3 : Int32) [(.int x0), (.int x1), (.int x2)] (.int (0 : Int32))) :
    own_MF l Z h0 own_y6 jdk_42_method_76_code 2 (some .boolean) ({ frames := 3, cells := 0, slots := 0, locals := 46 } : Room) #[(.ref a1), (.ref wsp)] (Q_sw3 Z zc wx wy wsp wspv wspk a1 t kt x0 x1 x2 h0) ws := by
  refine own_met (Q := (Q_sw3 Z zc wx wy wsp wspv wspk a1 t kt x0 x1 x2 h0)) _ _ (plainFor_of_name own_pn_0) ?_
  intro p e s m below meth c T X0 hx hby hml hret hlk hZ hown hnm e0
  replace hown : s.vm.findClass "java/lang/String" = some m.cls := hown
  replace hnm : meth.name = "startsWith" := hnm
  have hml : c.maxLocals = 2 := hml
  obtain ⟨oCS, oCz, oEx, oSh, oPF, oSPE, oSPC, oSPF, oSPV⟩ := id hO
  have N0 := Fr.nil Z.heap.size
  have K0 := Keep.refl h0 []
  refine own_go (fun _ k => castTop (ef_sw3 m a1 wsp) k) ?_
  show own_Go p e below s _ _ _ (T.setTop (mkF m 0 #[rv a1, rv wsp] []))
  refine own_go (fun _ k => XS.aloadN X0.here hx rfl (hb hby d5_0) rfl rfl (XS.aloadN X0.here hx rfl (hb hby d5_1) rfl rfl (XS.iconst X0.here hx rfl (hb hby d5_2) k))) ?_
  obtain ⟨v1, T1, L1, X1, hQ1, st1⟩ := own_callV (y := own_y5) (z := own_y5) X0 hx hZ hown (ow36 hw) (ow37 hw) (notFace_of_selects (args := #[]) (mvT hZ (ow39 hw))) (ow39 hw) (ow38 hw) (ow4 hw) (ow40 hw) (rm_swi3 l Z a0 hw hO [] a1 t kt x0 x1 x2 h0 O0 (fp0.keep K0) (fp1.keep K0 nin0) (fp2.keep K0 nin0) (fp3.keep K0 nin0)) 0 0 0 (by show _ ≤ 0; omega) (by show _ ≤ 0; omega) e0 (fp0.keep K0) (g := (mkF m 3 #[rv a1, rv wsp] [(.int (0 : Int32)), (.ref wsp), (.ref a1)])) rfl (by rw [hml]; rfl) [(.ref wsp), (.int (0 : Int32))] [] (lenOf own_pd_3 rfl) rfl rfl (hb hby d5_3)
  obtain ⟨rfl, Nc3, Kc2⟩ := hQ1
  refine own_go st1 ?_
  clear st1 X0 e0
  replace N0 := Fr.app N0 Nc3
  clear Nc3
  show own_Go p e below s _ _ _ (T1.setTop (mkF m 6 #[rv a1, rv wsp] [(.int (0 : Int32))]))
  refine own_retN X1 hx hlk Kc2 (t := .boolean) hret (by simp) (hb hby d5_6) (by show _ ≤ 0; omega) (by show _ ≤ 0; omega) ?_
  exact ⟨rfl, N0, rfl⟩
def Q_ofn3 (Z : State) (zc : Int32) (wx : Addr) (wy : Addr) (wsp : Addr) (wspv : Addr) (wspk : ClassId) (a1 : Addr) (t : Addr) (kt : ClassId) (x0 : Int32) (x1 : Int32) (x2 : Int32) (h0 : Heap) (v : Option Value) (h : Heap) (L : List Loc) : Prop := (v = some (.ref wx) ∧ Fr Z.heap.size L ∧ h = h0)
theorem ef_ofn3 (m : MethodId) (x0 : Addr) : entryFrame m #[(.ref x0)] 1 = mkF m 0 #[rv x0] [] := by first | (simp [entryFrame, mkF, argsToLocals, Value.category]; done) | rfl
set_option maxRecDepth 65536 in
set_option maxHeartbeats 40000000 in
theorem rm_ofn3 (l : Launch) (Z : State) (a0 : Array Value) (hw : own_W Z a0) {zc : Int32} {wx : Addr} {wy : Addr} {wsp : Addr} {wspv : Addr} {wspk : ClassId} (hO : own_Olds Z zc wx wy wsp wspv wspk) (ws : List Jvm.Cond) (a1 : Addr) (t : Addr) (kt : ClassId) (x0 : Int32) (x1 : Int32) (x2 : Int32) (h0 : Heap) (O0 : Ext Z.heap h0) (fp0 : Exa Z h0 a1 "java/lang/String") (fp1 : Fld Z h0 a1 "java/lang/String" "value" "[B" (.ref t)) (fp2 : Fld Z h0 a1 "java/lang/String" "coder" "B" (.int (0 : Int32))) (fp3 : Arv Z h0 t kt .byte (3 : Int32) [(.int x0), (.int x1), (.int x2)] (.int (0 : Int32))) :
    own_MF l Z h0 own_y7 prog_5_method_4_code 1 (some (.object "com/example/padlock/padlock/lock/Access")) ({ frames := 4, cells := 0, slots := 0, locals := 59 } : Room) #[(.ref a1)] (Q_ofn3 Z zc wx wy wsp wspv wspk a1 t kt x0 x1 x2 h0) ws := by
  refine own_met (Q := (Q_ofn3 Z zc wx wy wsp wspv wspk a1 t kt x0 x1 x2 h0)) _ _ (plainFor_of_name own_pn_2) ?_
  intro p e s m below meth c T X0 hx hby hml hret hlk hZ hown hnm e0
  replace hown : s.vm.findClass "com/example/padlock/padlock/lock/Access" = some m.cls := hown
  replace hnm : meth.name = "ofNode" := hnm
  have hml : c.maxLocals = 1 := hml
  obtain ⟨oCS, oCz, oEx, oSh, oPF, oSPE, oSPC, oSPF, oSPV⟩ := id hO
  have N0 := Fr.nil Z.heap.size
  have K0 := Keep.refl h0 []
  refine own_go (fun _ k => castTop (ef_ofn3 m a1) k) ?_
  show own_Go p e below s _ _ _ (T.setTop (mkF m 0 #[rv a1] []))
  refine own_go (fun _ k => XS.aloadN X0.here hx rfl (hb hby d4_0) rfl rfl k) ?_
  obtain ⟨T1, X1, e1, st1⟩ := getS2 X0 hx hZ hown (host := "") (Or.inl (ow27 hw)) Via.refl e0 (oSh.ext O0) (g := (mkF m 1 #[rv a1] [(.ref a1)])) rfl (hb hby d4_1)
  refine own_go st1 ?_
  clear st1 X0 e0
  obtain ⟨T2, X2, e2, st2⟩ := getF X1 hx hZ hown (host := "") (Or.inl (ow29 hw)) Via.refl e1 (oPF.ext O0) (g := (mkF m 4 #[rv a1] [(.ref wy), (.ref a1)])) rfl rfl (hb hby d4_4)
  refine own_go st2 ?_
  clear st2 X1 e1
  obtain ⟨v3, T3, L3, X3, hQ3, st3⟩ := own_callV (y := own_y6) (z := own_y6) X2 hx hZ hown (ow31 hw) (ow32 hw) (notFace_of_selects (args := #[]) (mvT hZ (ow34 hw))) (ow34 hw) (ow33 hw) (ow4 hw) (ow35 hw) (rm_sw3 l Z a0 hw hO [] a1 t kt x0 x1 x2 h0 O0 (fp0.keep K0) (fp1.keep K0 nin0) (fp2.keep K0 nin0) (fp3.keep K0 nin0)) 0 0 0 (by show _ ≤ 0; omega) (by show _ ≤ 0; omega) e2 (fp0.keep K0) (g := (mkF m 7 #[rv a1] [(.ref wsp), (.ref a1)])) rfl (by rw [hml]; rfl) [(.ref wsp)] [] (lenOf own_pd_4 rfl) rfl rfl (hb hby d4_7)
  obtain ⟨rfl, Nc5, Kc4⟩ := hQ3
  refine own_go st3 ?_
  clear st3 X2 e2
  replace N0 := Fr.app N0 Nc5
  clear Nc5
  refine own_go (fun _ k => XS.ifYes X3.here hx rfl (pc0 := 10) (pc' := 19) rfl (hb hby d4_10) rfl ((if0 _ _).trans (teq (by decide : (0 : Int32) = (0 : Int32))).1) (by decide) (by decide) k) ?_
  obtain ⟨T6, X6, e6, st6⟩ := getS2 X3 hx hZ hown (host := "") (Or.inl (ow52 hw)) Via.refl Kc4 (oEx.ext O0) (g := (mkF m 19 #[rv a1] [])) rfl (hb hby d4_19)
  refine own_go st6 ?_
  clear st6 X3 Kc4
  show own_Go p e below s _ _ _ (T6.setTop (mkF m 22 #[rv a1] [(.ref wx)]))
  refine own_retA X6 hx hlk e6 hret rfl rfl (hb hby d4_22) (by show _ ≤ 0; omega) (by show _ ≤ 0; omega) ?_
  exact ⟨rfl, N0, rfl⟩
def Q_swi4 (Z : State) (zc : Int32) (wx : Addr) (wy : Addr) (wsp : Addr) (wspv : Addr) (wspk : ClassId) (a1 : Addr) (t : Addr) (kt : ClassId) (x0 : Int32) (x1 : Int32) (x2 : Int32) (x3 : Int32) (h0 : Heap) (v : Option Value) (h : Heap) (L : List Loc) : Prop := (v = some (.int (0 : Int32)) ∧ Fr Z.heap.size L ∧ h = h0)
theorem ef_swi4 (m : MethodId) (x0 : Addr) (x1 : Addr) : entryFrame m #[(.ref x0), (.ref x1), (.int (0 : Int32))] 8 = mkF m 0 #[rv x0, rv x1, iv (0 : Int32), .unset, .unset, .unset, .unset, .unset] [] := by first | (simp [entryFrame, mkF, argsToLocals, Value.category]; done) | rfl
set_option maxRecDepth 65536 in
set_option maxHeartbeats 40000000 in
theorem rm_swi4 (l : Launch) (Z : State) (a0 : Array Value) (hw : own_W Z a0) {zc : Int32} {wx : Addr} {wy : Addr} {wsp : Addr} {wspv : Addr} {wspk : ClassId} (hO : own_Olds Z zc wx wy wsp wspv wspk) (ws : List Jvm.Cond) (a1 : Addr) (t : Addr) (kt : ClassId) (x0 : Int32) (x1 : Int32) (x2 : Int32) (x3 : Int32) (h0 : Heap) (O0 : Ext Z.heap h0) (fp0 : Exa Z h0 a1 "java/lang/String") (fp1 : Fld Z h0 a1 "java/lang/String" "value" "[B" (.ref t)) (fp2 : Fld Z h0 a1 "java/lang/String" "coder" "B" (.int (0 : Int32))) (fp3 : Arv Z h0 t kt .byte (4 : Int32) [(.int x0), (.int x1), (.int x2), (.int x3)] (.int (0 : Int32))) :
    own_MF l Z h0 own_y5 jdk_42_method_75_code 8 (some .boolean) ({ frames := 2, cells := 0, slots := 0, locals := 27 } : Room) #[(.ref a1), (.ref wsp), (.int (0 : Int32))] (Q_swi4 Z zc wx wy wsp wspv wspk a1 t kt x0 x1 x2 x3 h0) ws := by
  refine own_met (Q := (Q_swi4 Z zc wx wy wsp wspv wspk a1 t kt x0 x1 x2 x3 h0)) _ _ (plainFor_of_name own_pn_0) ?_
  intro p e s m below meth c T X0 hx hby hml hret hlk hZ hown hnm e0
  replace hown : s.vm.findClass "java/lang/String" = some m.cls := hown
  replace hnm : meth.name = "startsWith" := hnm
  have hml : c.maxLocals = 8 := hml
  obtain ⟨oCS, oCz, oEx, oSh, oPF, oSPE, oSPC, oSPF, oSPV⟩ := id hO
  have N0 := Fr.nil Z.heap.size
  have K0 := Keep.refl h0 []
  refine own_go (fun _ k => castTop (ef_swi4 m a1 wsp) k) ?_
  show own_Go p e below s _ _ _ (T.setTop (mkF m 0 #[rv a1, rv wsp, iv (0 : Int32), .unset, .unset, .unset, .unset, .unset] []))
  refine own_go (fun _ k => XS.iloadN X0.here hx rfl (hb hby d6_0) rfl (XS.ifNo X0.here hx rfl (hb hby d6_1) rfl ((if0 _ _).trans (flt (by decide : ¬ ((0 : Int32) < (0 : Int32)))).1) (XS.iloadN X0.here hx rfl (hb hby d6_4) rfl (XS.aloadN X0.here hx rfl (hb hby d6_5) rfl rfl k)))) ?_
  obtain ⟨v1, T1, L1, X1, hQ1, st1⟩ := own_callV (y := own_y3) (z := own_y3) X0 hx hZ hown (ow41 hw) (ow42 hw) (notFace_of_selects (args := #[]) (mvT hZ (ow44 hw))) (ow44 hw) (ow43 hw) (ow4 hw) (ow45 hw) (rm_slen4 l Z a0 hw hO [] a1 t kt x0 x1 x2 x3 h0 O0 (fp0.keep K0) (fp1.keep K0 nin0) (fp2.keep K0 nin0) (fp3.keep K0 nin0)) 1 0 0 (by show _ ≤ 0; omega) (by show _ ≤ 0; omega) e0 (fp0.keep K0) (g := (mkF m 6 #[rv a1, rv wsp, iv (0 : Int32), .unset, .unset, .unset, .unset, .unset] [(.ref a1), (.int (0 : Int32))])) rfl (by rw [hml]; rfl) [] [(.int (0 : Int32))] (lenOf own_pd_2 rfl) rfl rfl (hb hby d6_6)
  obtain ⟨rfl, Nc3, Kc2⟩ := hQ1
  refine own_go st1 ?_
  clear st1 X0 e0
  replace N0 := Fr.app N0 Nc3
  clear Nc3
  refine own_go (fun _ k => XS.aloadN X1.here hx rfl (hb hby d6_9) rfl rfl k) ?_
  show own_Go p e below s _ _ _ (T1.setTop (mkF m 10 #[rv a1, rv wsp, iv (0 : Int32), .unset, .unset, .unset, .unset, .unset] [(.ref wsp), (.int (4 : Int32)), (.int (0 : Int32))]))
  obtain ⟨v4, T4, L4, X4, hQ4, st4⟩ := own_callV (y := own_y3) (z := own_y3) X1 hx hZ hown (ow41 hw) (ow42 hw) (notFace_of_selects (args := #[]) (mvT hZ (ow44 hw))) (ow44 hw) (ow43 hw) (ow4 hw) (ow45 hw) (rm_slen7 l Z a0 hw hO [] wsp wspv wspk (115 : Int32) (104 : Int32) (97 : Int32) (114 : Int32) (101 : Int32) (100 : Int32) (45 : Int32) h0 O0 (oSPE.ext O0) (oSPF.ext O0) (oSPC.ext O0) (oSPV.ext O0)) 2 0 0 (by show _ ≤ 0; omega) (by show _ ≤ 0; omega) Kc2 (oSPE.ext O0) (g := (mkF m 10 #[rv a1, rv wsp, iv (0 : Int32), .unset, .unset, .unset, .unset, .unset] [(.ref wsp), (.int (4 : Int32)), (.int (0 : Int32))])) rfl (by rw [hml]; rfl) [] [(.int (4 : Int32)), (.int (0 : Int32))] (lenOf own_pd_2 rfl) rfl rfl (hb hby d6_10)
  obtain ⟨rfl, Nc6, Kc5⟩ := hQ4
  refine own_go st4 ?_
  clear st4 X1 Kc2
  replace N0 := Fr.app N0 Nc6
  clear Nc6
  refine own_go (fun _ k => XS.isub X4.here hx rfl (hb hby d6_13) rfl (XS.icmpNo X4.here hx rfl (hb hby d6_14) rfl (tlt (by decide : (-3 : Int32) < (0 : Int32))).2.2.2 (XS.iconst X4.here hx rfl (hb hby d6_17) k))) ?_
  show own_Go p e below s _ _ _ (T4.setTop (mkF m 18 #[rv a1, rv wsp, iv (0 : Int32), .unset, .unset, .unset, .unset, .unset] [(.int (0 : Int32))]))
  refine own_retN X4 hx hlk Kc5 (t := .boolean) hret (by simp) (hb hby d6_18) (by show _ ≤ 0; omega) (by show _ ≤ 0; omega) ?_
  exact ⟨rfl, N0, rfl⟩
def Q_sw4 (Z : State) (zc : Int32) (wx : Addr) (wy : Addr) (wsp : Addr) (wspv : Addr) (wspk : ClassId) (a1 : Addr) (t : Addr) (kt : ClassId) (x0 : Int32) (x1 : Int32) (x2 : Int32) (x3 : Int32) (h0 : Heap) (v : Option Value) (h : Heap) (L : List Loc) : Prop := (v = some (.int (0 : Int32)) ∧ Fr Z.heap.size L ∧ h = h0)
theorem ef_sw4 (m : MethodId) (x0 : Addr) (x1 : Addr) : entryFrame m #[(.ref x0), (.ref x1)] 2 = mkF m 0 #[rv x0, rv x1] [] := by first | (simp [entryFrame, mkF, argsToLocals, Value.category]; done) | rfl
set_option maxRecDepth 65536 in
set_option maxHeartbeats 40000000 in
theorem rm_sw4 (l : Launch) (Z : State) (a0 : Array Value) (hw : own_W Z a0) {zc : Int32} {wx : Addr} {wy : Addr} {wsp : Addr} {wspv : Addr} {wspk : ClassId} (hO : own_Olds Z zc wx wy wsp wspv wspk) (ws : List Jvm.Cond) (a1 : Addr) (t : Addr) (kt : ClassId) (x0 : Int32) (x1 : Int32) (x2 : Int32) (x3 : Int32) (h0 : Heap) (O0 : Ext Z.heap h0) (fp0 : Exa Z h0 a1 "java/lang/String") (fp1 : Fld Z h0 a1 "java/lang/String" "value" "[B" (.ref t)) (fp2 : Fld Z h0 a1 "java/lang/String" "coder" "B" (.int (0 : Int32))) (fp3 : Arv Z h0 t kt .byte (4 : Int32) [(.int x0), (.int x1), (.int x2), (.int x3)] (.int (0 : Int32))) :
    own_MF l Z h0 own_y6 jdk_42_method_76_code 2 (some .boolean) ({ frames := 3, cells := 0, slots := 0, locals := 46 } : Room) #[(.ref a1), (.ref wsp)] (Q_sw4 Z zc wx wy wsp wspv wspk a1 t kt x0 x1 x2 x3 h0) ws := by
  refine own_met (Q := (Q_sw4 Z zc wx wy wsp wspv wspk a1 t kt x0 x1 x2 x3 h0)) _ _ (plainFor_of_name own_pn_0) ?_
  intro p e s m below meth c T X0 hx hby hml hret hlk hZ hown hnm e0
  replace hown : s.vm.findClass "java/lang/String" = some m.cls := hown
  replace hnm : meth.name = "startsWith" := hnm
  have hml : c.maxLocals = 2 := hml
  obtain ⟨oCS, oCz, oEx, oSh, oPF, oSPE, oSPC, oSPF, oSPV⟩ := id hO
  have N0 := Fr.nil Z.heap.size
  have K0 := Keep.refl h0 []
  refine own_go (fun _ k => castTop (ef_sw4 m a1 wsp) k) ?_
  show own_Go p e below s _ _ _ (T.setTop (mkF m 0 #[rv a1, rv wsp] []))
  refine own_go (fun _ k => XS.aloadN X0.here hx rfl (hb hby d5_0) rfl rfl (XS.aloadN X0.here hx rfl (hb hby d5_1) rfl rfl (XS.iconst X0.here hx rfl (hb hby d5_2) k))) ?_
  obtain ⟨v1, T1, L1, X1, hQ1, st1⟩ := own_callV (y := own_y5) (z := own_y5) X0 hx hZ hown (ow36 hw) (ow37 hw) (notFace_of_selects (args := #[]) (mvT hZ (ow39 hw))) (ow39 hw) (ow38 hw) (ow4 hw) (ow40 hw) (rm_swi4 l Z a0 hw hO [] a1 t kt x0 x1 x2 x3 h0 O0 (fp0.keep K0) (fp1.keep K0 nin0) (fp2.keep K0 nin0) (fp3.keep K0 nin0)) 0 0 0 (by show _ ≤ 0; omega) (by show _ ≤ 0; omega) e0 (fp0.keep K0) (g := (mkF m 3 #[rv a1, rv wsp] [(.int (0 : Int32)), (.ref wsp), (.ref a1)])) rfl (by rw [hml]; rfl) [(.ref wsp), (.int (0 : Int32))] [] (lenOf own_pd_3 rfl) rfl rfl (hb hby d5_3)
  obtain ⟨rfl, Nc3, Kc2⟩ := hQ1
  refine own_go st1 ?_
  clear st1 X0 e0
  replace N0 := Fr.app N0 Nc3
  clear Nc3
  show own_Go p e below s _ _ _ (T1.setTop (mkF m 6 #[rv a1, rv wsp] [(.int (0 : Int32))]))
  refine own_retN X1 hx hlk Kc2 (t := .boolean) hret (by simp) (hb hby d5_6) (by show _ ≤ 0; omega) (by show _ ≤ 0; omega) ?_
  exact ⟨rfl, N0, rfl⟩
def Q_ofn4 (Z : State) (zc : Int32) (wx : Addr) (wy : Addr) (wsp : Addr) (wspv : Addr) (wspk : ClassId) (a1 : Addr) (t : Addr) (kt : ClassId) (x0 : Int32) (x1 : Int32) (x2 : Int32) (x3 : Int32) (h0 : Heap) (v : Option Value) (h : Heap) (L : List Loc) : Prop := (v = some (.ref wx) ∧ Fr Z.heap.size L ∧ h = h0)
theorem ef_ofn4 (m : MethodId) (x0 : Addr) : entryFrame m #[(.ref x0)] 1 = mkF m 0 #[rv x0] [] := by first | (simp [entryFrame, mkF, argsToLocals, Value.category]; done) | rfl
set_option maxRecDepth 65536 in
set_option maxHeartbeats 40000000 in
theorem rm_ofn4 (l : Launch) (Z : State) (a0 : Array Value) (hw : own_W Z a0) {zc : Int32} {wx : Addr} {wy : Addr} {wsp : Addr} {wspv : Addr} {wspk : ClassId} (hO : own_Olds Z zc wx wy wsp wspv wspk) (ws : List Jvm.Cond) (a1 : Addr) (t : Addr) (kt : ClassId) (x0 : Int32) (x1 : Int32) (x2 : Int32) (x3 : Int32) (h0 : Heap) (O0 : Ext Z.heap h0) (fp0 : Exa Z h0 a1 "java/lang/String") (fp1 : Fld Z h0 a1 "java/lang/String" "value" "[B" (.ref t)) (fp2 : Fld Z h0 a1 "java/lang/String" "coder" "B" (.int (0 : Int32))) (fp3 : Arv Z h0 t kt .byte (4 : Int32) [(.int x0), (.int x1), (.int x2), (.int x3)] (.int (0 : Int32))) :
    own_MF l Z h0 own_y7 prog_5_method_4_code 1 (some (.object "com/example/padlock/padlock/lock/Access")) ({ frames := 4, cells := 0, slots := 0, locals := 59 } : Room) #[(.ref a1)] (Q_ofn4 Z zc wx wy wsp wspv wspk a1 t kt x0 x1 x2 x3 h0) ws := by
  refine own_met (Q := (Q_ofn4 Z zc wx wy wsp wspv wspk a1 t kt x0 x1 x2 x3 h0)) _ _ (plainFor_of_name own_pn_2) ?_
  intro p e s m below meth c T X0 hx hby hml hret hlk hZ hown hnm e0
  replace hown : s.vm.findClass "com/example/padlock/padlock/lock/Access" = some m.cls := hown
  replace hnm : meth.name = "ofNode" := hnm
  have hml : c.maxLocals = 1 := hml
  obtain ⟨oCS, oCz, oEx, oSh, oPF, oSPE, oSPC, oSPF, oSPV⟩ := id hO
  have N0 := Fr.nil Z.heap.size
  have K0 := Keep.refl h0 []
  refine own_go (fun _ k => castTop (ef_ofn4 m a1) k) ?_
  show own_Go p e below s _ _ _ (T.setTop (mkF m 0 #[rv a1] []))
  refine own_go (fun _ k => XS.aloadN X0.here hx rfl (hb hby d4_0) rfl rfl k) ?_
  obtain ⟨T1, X1, e1, st1⟩ := getS2 X0 hx hZ hown (host := "") (Or.inl (ow27 hw)) Via.refl e0 (oSh.ext O0) (g := (mkF m 1 #[rv a1] [(.ref a1)])) rfl (hb hby d4_1)
  refine own_go st1 ?_
  clear st1 X0 e0
  obtain ⟨T2, X2, e2, st2⟩ := getF X1 hx hZ hown (host := "") (Or.inl (ow29 hw)) Via.refl e1 (oPF.ext O0) (g := (mkF m 4 #[rv a1] [(.ref wy), (.ref a1)])) rfl rfl (hb hby d4_4)
  refine own_go st2 ?_
  clear st2 X1 e1
  obtain ⟨v3, T3, L3, X3, hQ3, st3⟩ := own_callV (y := own_y6) (z := own_y6) X2 hx hZ hown (ow31 hw) (ow32 hw) (notFace_of_selects (args := #[]) (mvT hZ (ow34 hw))) (ow34 hw) (ow33 hw) (ow4 hw) (ow35 hw) (rm_sw4 l Z a0 hw hO [] a1 t kt x0 x1 x2 x3 h0 O0 (fp0.keep K0) (fp1.keep K0 nin0) (fp2.keep K0 nin0) (fp3.keep K0 nin0)) 0 0 0 (by show _ ≤ 0; omega) (by show _ ≤ 0; omega) e2 (fp0.keep K0) (g := (mkF m 7 #[rv a1] [(.ref wsp), (.ref a1)])) rfl (by rw [hml]; rfl) [(.ref wsp)] [] (lenOf own_pd_4 rfl) rfl rfl (hb hby d4_7)
  obtain ⟨rfl, Nc5, Kc4⟩ := hQ3
  refine own_go st3 ?_
  clear st3 X2 e2
  replace N0 := Fr.app N0 Nc5
  clear Nc5
  refine own_go (fun _ k => XS.ifYes X3.here hx rfl (pc0 := 10) (pc' := 19) rfl (hb hby d4_10) rfl ((if0 _ _).trans (teq (by decide : (0 : Int32) = (0 : Int32))).1) (by decide) (by decide) k) ?_
  obtain ⟨T6, X6, e6, st6⟩ := getS2 X3 hx hZ hown (host := "") (Or.inl (ow52 hw)) Via.refl Kc4 (oEx.ext O0) (g := (mkF m 19 #[rv a1] [])) rfl (hb hby d4_19)
  refine own_go st6 ?_
  clear st6 X3 Kc4
  show own_Go p e below s _ _ _ (T6.setTop (mkF m 22 #[rv a1] [(.ref wx)]))
  refine own_retA X6 hx hlk e6 hret rfl rfl (hb hby d4_22) (by show _ ≤ 0; omega) (by show _ ≤ 0; omega) ?_
  exact ⟨rfl, N0, rfl⟩
def Q_swi5 (Z : State) (zc : Int32) (wx : Addr) (wy : Addr) (wsp : Addr) (wspv : Addr) (wspk : ClassId) (a1 : Addr) (t : Addr) (kt : ClassId) (x0 : Int32) (x1 : Int32) (x2 : Int32) (x3 : Int32) (x4 : Int32) (h0 : Heap) (v : Option Value) (h : Heap) (L : List Loc) : Prop := (v = some (.int (0 : Int32)) ∧ Fr Z.heap.size L ∧ h = h0)
theorem ef_swi5 (m : MethodId) (x0 : Addr) (x1 : Addr) : entryFrame m #[(.ref x0), (.ref x1), (.int (0 : Int32))] 8 = mkF m 0 #[rv x0, rv x1, iv (0 : Int32), .unset, .unset, .unset, .unset, .unset] [] := by first | (simp [entryFrame, mkF, argsToLocals, Value.category]; done) | rfl
set_option maxRecDepth 65536 in
set_option maxHeartbeats 40000000 in
theorem rm_swi5 (l : Launch) (Z : State) (a0 : Array Value) (hw : own_W Z a0) {zc : Int32} {wx : Addr} {wy : Addr} {wsp : Addr} {wspv : Addr} {wspk : ClassId} (hO : own_Olds Z zc wx wy wsp wspv wspk) (ws : List Jvm.Cond) (a1 : Addr) (t : Addr) (kt : ClassId) (x0 : Int32) (x1 : Int32) (x2 : Int32) (x3 : Int32) (x4 : Int32) (h0 : Heap) (O0 : Ext Z.heap h0) (fp0 : Exa Z h0 a1 "java/lang/String") (fp1 : Fld Z h0 a1 "java/lang/String" "value" "[B" (.ref t)) (fp2 : Fld Z h0 a1 "java/lang/String" "coder" "B" (.int (0 : Int32))) (fp3 : Arv Z h0 t kt .byte (5 : Int32) [(.int x0), (.int x1), (.int x2), (.int x3), (.int x4)] (.int (0 : Int32))) :
    own_MF l Z h0 own_y5 jdk_42_method_75_code 8 (some .boolean) ({ frames := 2, cells := 0, slots := 0, locals := 27 } : Room) #[(.ref a1), (.ref wsp), (.int (0 : Int32))] (Q_swi5 Z zc wx wy wsp wspv wspk a1 t kt x0 x1 x2 x3 x4 h0) ws := by
  refine own_met (Q := (Q_swi5 Z zc wx wy wsp wspv wspk a1 t kt x0 x1 x2 x3 x4 h0)) _ _ (plainFor_of_name own_pn_0) ?_
  intro p e s m below meth c T X0 hx hby hml hret hlk hZ hown hnm e0
  replace hown : s.vm.findClass "java/lang/String" = some m.cls := hown
  replace hnm : meth.name = "startsWith" := hnm
  have hml : c.maxLocals = 8 := hml
  obtain ⟨oCS, oCz, oEx, oSh, oPF, oSPE, oSPC, oSPF, oSPV⟩ := id hO
  have N0 := Fr.nil Z.heap.size
  have K0 := Keep.refl h0 []
  refine own_go (fun _ k => castTop (ef_swi5 m a1 wsp) k) ?_
  show own_Go p e below s _ _ _ (T.setTop (mkF m 0 #[rv a1, rv wsp, iv (0 : Int32), .unset, .unset, .unset, .unset, .unset] []))
  refine own_go (fun _ k => XS.iloadN X0.here hx rfl (hb hby d6_0) rfl (XS.ifNo X0.here hx rfl (hb hby d6_1) rfl ((if0 _ _).trans (flt (by decide : ¬ ((0 : Int32) < (0 : Int32)))).1) (XS.iloadN X0.here hx rfl (hb hby d6_4) rfl (XS.aloadN X0.here hx rfl (hb hby d6_5) rfl rfl k)))) ?_
  obtain ⟨v1, T1, L1, X1, hQ1, st1⟩ := own_callV (y := own_y3) (z := own_y3) X0 hx hZ hown (ow41 hw) (ow42 hw) (notFace_of_selects (args := #[]) (mvT hZ (ow44 hw))) (ow44 hw) (ow43 hw) (ow4 hw) (ow45 hw) (rm_slen5 l Z a0 hw hO [] a1 t kt x0 x1 x2 x3 x4 h0 O0 (fp0.keep K0) (fp1.keep K0 nin0) (fp2.keep K0 nin0) (fp3.keep K0 nin0)) 1 0 0 (by show _ ≤ 0; omega) (by show _ ≤ 0; omega) e0 (fp0.keep K0) (g := (mkF m 6 #[rv a1, rv wsp, iv (0 : Int32), .unset, .unset, .unset, .unset, .unset] [(.ref a1), (.int (0 : Int32))])) rfl (by rw [hml]; rfl) [] [(.int (0 : Int32))] (lenOf own_pd_2 rfl) rfl rfl (hb hby d6_6)
  obtain ⟨rfl, Nc3, Kc2⟩ := hQ1
  refine own_go st1 ?_
  clear st1 X0 e0
  replace N0 := Fr.app N0 Nc3
  clear Nc3
  refine own_go (fun _ k => XS.aloadN X1.here hx rfl (hb hby d6_9) rfl rfl k) ?_
  show own_Go p e below s _ _ _ (T1.setTop (mkF m 10 #[rv a1, rv wsp, iv (0 : Int32), .unset, .unset, .unset, .unset, .unset] [(.ref wsp), (.int (5 : Int32)), (.int (0 : Int32))]))
  obtain ⟨v4, T4, L4, X4, hQ4, st4⟩ := own_callV (y := own_y3) (z := own_y3) X1 hx hZ hown (ow41 hw) (ow42 hw) (notFace_of_selects (args := #[]) (mvT hZ (ow44 hw))) (ow44 hw) (ow43 hw) (ow4 hw) (ow45 hw) (rm_slen7 l Z a0 hw hO [] wsp wspv wspk (115 : Int32) (104 : Int32) (97 : Int32) (114 : Int32) (101 : Int32) (100 : Int32) (45 : Int32) h0 O0 (oSPE.ext O0) (oSPF.ext O0) (oSPC.ext O0) (oSPV.ext O0)) 2 0 0 (by show _ ≤ 0; omega) (by show _ ≤ 0; omega) Kc2 (oSPE.ext O0) (g := (mkF m 10 #[rv a1, rv wsp, iv (0 : Int32), .unset, .unset, .unset, .unset, .unset] [(.ref wsp), (.int (5 : Int32)), (.int (0 : Int32))])) rfl (by rw [hml]; rfl) [] [(.int (5 : Int32)), (.int (0 : Int32))] (lenOf own_pd_2 rfl) rfl rfl (hb hby d6_10)
  obtain ⟨rfl, Nc6, Kc5⟩ := hQ4
  refine own_go st4 ?_
  clear st4 X1 Kc2
  replace N0 := Fr.app N0 Nc6
  clear Nc6
  refine own_go (fun _ k => XS.isub X4.here hx rfl (hb hby d6_13) rfl (XS.icmpNo X4.here hx rfl (hb hby d6_14) rfl (tlt (by decide : (-2 : Int32) < (0 : Int32))).2.2.2 (XS.iconst X4.here hx rfl (hb hby d6_17) k))) ?_
  show own_Go p e below s _ _ _ (T4.setTop (mkF m 18 #[rv a1, rv wsp, iv (0 : Int32), .unset, .unset, .unset, .unset, .unset] [(.int (0 : Int32))]))
  refine own_retN X4 hx hlk Kc5 (t := .boolean) hret (by simp) (hb hby d6_18) (by show _ ≤ 0; omega) (by show _ ≤ 0; omega) ?_
  exact ⟨rfl, N0, rfl⟩
def Q_sw5 (Z : State) (zc : Int32) (wx : Addr) (wy : Addr) (wsp : Addr) (wspv : Addr) (wspk : ClassId) (a1 : Addr) (t : Addr) (kt : ClassId) (x0 : Int32) (x1 : Int32) (x2 : Int32) (x3 : Int32) (x4 : Int32) (h0 : Heap) (v : Option Value) (h : Heap) (L : List Loc) : Prop := (v = some (.int (0 : Int32)) ∧ Fr Z.heap.size L ∧ h = h0)
theorem ef_sw5 (m : MethodId) (x0 : Addr) (x1 : Addr) : entryFrame m #[(.ref x0), (.ref x1)] 2 = mkF m 0 #[rv x0, rv x1] [] := by first | (simp [entryFrame, mkF, argsToLocals, Value.category]; done) | rfl
set_option maxRecDepth 65536 in
set_option maxHeartbeats 40000000 in
theorem rm_sw5 (l : Launch) (Z : State) (a0 : Array Value) (hw : own_W Z a0) {zc : Int32} {wx : Addr} {wy : Addr} {wsp : Addr} {wspv : Addr} {wspk : ClassId} (hO : own_Olds Z zc wx wy wsp wspv wspk) (ws : List Jvm.Cond) (a1 : Addr) (t : Addr) (kt : ClassId) (x0 : Int32) (x1 : Int32) (x2 : Int32) (x3 : Int32) (x4 : Int32) (h0 : Heap) (O0 : Ext Z.heap h0) (fp0 : Exa Z h0 a1 "java/lang/String") (fp1 : Fld Z h0 a1 "java/lang/String" "value" "[B" (.ref t)) (fp2 : Fld Z h0 a1 "java/lang/String" "coder" "B" (.int (0 : Int32))) (fp3 : Arv Z h0 t kt .byte (5 : Int32) [(.int x0), (.int x1), (.int x2), (.int x3), (.int x4)] (.int (0 : Int32))) :
    own_MF l Z h0 own_y6 jdk_42_method_76_code 2 (some .boolean) ({ frames := 3, cells := 0, slots := 0, locals := 46 } : Room) #[(.ref a1), (.ref wsp)] (Q_sw5 Z zc wx wy wsp wspv wspk a1 t kt x0 x1 x2 x3 x4 h0) ws := by
  refine own_met (Q := (Q_sw5 Z zc wx wy wsp wspv wspk a1 t kt x0 x1 x2 x3 x4 h0)) _ _ (plainFor_of_name own_pn_0) ?_
  intro p e s m below meth c T X0 hx hby hml hret hlk hZ hown hnm e0
  replace hown : s.vm.findClass "java/lang/String" = some m.cls := hown
  replace hnm : meth.name = "startsWith" := hnm
  have hml : c.maxLocals = 2 := hml
  obtain ⟨oCS, oCz, oEx, oSh, oPF, oSPE, oSPC, oSPF, oSPV⟩ := id hO
  have N0 := Fr.nil Z.heap.size
  have K0 := Keep.refl h0 []
  refine own_go (fun _ k => castTop (ef_sw5 m a1 wsp) k) ?_
  show own_Go p e below s _ _ _ (T.setTop (mkF m 0 #[rv a1, rv wsp] []))
  refine own_go (fun _ k => XS.aloadN X0.here hx rfl (hb hby d5_0) rfl rfl (XS.aloadN X0.here hx rfl (hb hby d5_1) rfl rfl (XS.iconst X0.here hx rfl (hb hby d5_2) k))) ?_
  obtain ⟨v1, T1, L1, X1, hQ1, st1⟩ := own_callV (y := own_y5) (z := own_y5) X0 hx hZ hown (ow36 hw) (ow37 hw) (notFace_of_selects (args := #[]) (mvT hZ (ow39 hw))) (ow39 hw) (ow38 hw) (ow4 hw) (ow40 hw) (rm_swi5 l Z a0 hw hO [] a1 t kt x0 x1 x2 x3 x4 h0 O0 (fp0.keep K0) (fp1.keep K0 nin0) (fp2.keep K0 nin0) (fp3.keep K0 nin0)) 0 0 0 (by show _ ≤ 0; omega) (by show _ ≤ 0; omega) e0 (fp0.keep K0) (g := (mkF m 3 #[rv a1, rv wsp] [(.int (0 : Int32)), (.ref wsp), (.ref a1)])) rfl (by rw [hml]; rfl) [(.ref wsp), (.int (0 : Int32))] [] (lenOf own_pd_3 rfl) rfl rfl (hb hby d5_3)
  obtain ⟨rfl, Nc3, Kc2⟩ := hQ1
  refine own_go st1 ?_
  clear st1 X0 e0
  replace N0 := Fr.app N0 Nc3
  clear Nc3
  show own_Go p e below s _ _ _ (T1.setTop (mkF m 6 #[rv a1, rv wsp] [(.int (0 : Int32))]))
  refine own_retN X1 hx hlk Kc2 (t := .boolean) hret (by simp) (hb hby d5_6) (by show _ ≤ 0; omega) (by show _ ≤ 0; omega) ?_
  exact ⟨rfl, N0, rfl⟩
def Q_ofn5 (Z : State) (zc : Int32) (wx : Addr) (wy : Addr) (wsp : Addr) (wspv : Addr) (wspk : ClassId) (a1 : Addr) (t : Addr) (kt : ClassId) (x0 : Int32) (x1 : Int32) (x2 : Int32) (x3 : Int32) (x4 : Int32) (h0 : Heap) (v : Option Value) (h : Heap) (L : List Loc) : Prop := (v = some (.ref wx) ∧ Fr Z.heap.size L ∧ h = h0)
theorem ef_ofn5 (m : MethodId) (x0 : Addr) : entryFrame m #[(.ref x0)] 1 = mkF m 0 #[rv x0] [] := by first | (simp [entryFrame, mkF, argsToLocals, Value.category]; done) | rfl
set_option maxRecDepth 65536 in
set_option maxHeartbeats 40000000 in
theorem rm_ofn5 (l : Launch) (Z : State) (a0 : Array Value) (hw : own_W Z a0) {zc : Int32} {wx : Addr} {wy : Addr} {wsp : Addr} {wspv : Addr} {wspk : ClassId} (hO : own_Olds Z zc wx wy wsp wspv wspk) (ws : List Jvm.Cond) (a1 : Addr) (t : Addr) (kt : ClassId) (x0 : Int32) (x1 : Int32) (x2 : Int32) (x3 : Int32) (x4 : Int32) (h0 : Heap) (O0 : Ext Z.heap h0) (fp0 : Exa Z h0 a1 "java/lang/String") (fp1 : Fld Z h0 a1 "java/lang/String" "value" "[B" (.ref t)) (fp2 : Fld Z h0 a1 "java/lang/String" "coder" "B" (.int (0 : Int32))) (fp3 : Arv Z h0 t kt .byte (5 : Int32) [(.int x0), (.int x1), (.int x2), (.int x3), (.int x4)] (.int (0 : Int32))) :
    own_MF l Z h0 own_y7 prog_5_method_4_code 1 (some (.object "com/example/padlock/padlock/lock/Access")) ({ frames := 4, cells := 0, slots := 0, locals := 59 } : Room) #[(.ref a1)] (Q_ofn5 Z zc wx wy wsp wspv wspk a1 t kt x0 x1 x2 x3 x4 h0) ws := by
  refine own_met (Q := (Q_ofn5 Z zc wx wy wsp wspv wspk a1 t kt x0 x1 x2 x3 x4 h0)) _ _ (plainFor_of_name own_pn_2) ?_
  intro p e s m below meth c T X0 hx hby hml hret hlk hZ hown hnm e0
  replace hown : s.vm.findClass "com/example/padlock/padlock/lock/Access" = some m.cls := hown
  replace hnm : meth.name = "ofNode" := hnm
  have hml : c.maxLocals = 1 := hml
  obtain ⟨oCS, oCz, oEx, oSh, oPF, oSPE, oSPC, oSPF, oSPV⟩ := id hO
  have N0 := Fr.nil Z.heap.size
  have K0 := Keep.refl h0 []
  refine own_go (fun _ k => castTop (ef_ofn5 m a1) k) ?_
  show own_Go p e below s _ _ _ (T.setTop (mkF m 0 #[rv a1] []))
  refine own_go (fun _ k => XS.aloadN X0.here hx rfl (hb hby d4_0) rfl rfl k) ?_
  obtain ⟨T1, X1, e1, st1⟩ := getS2 X0 hx hZ hown (host := "") (Or.inl (ow27 hw)) Via.refl e0 (oSh.ext O0) (g := (mkF m 1 #[rv a1] [(.ref a1)])) rfl (hb hby d4_1)
  refine own_go st1 ?_
  clear st1 X0 e0
  obtain ⟨T2, X2, e2, st2⟩ := getF X1 hx hZ hown (host := "") (Or.inl (ow29 hw)) Via.refl e1 (oPF.ext O0) (g := (mkF m 4 #[rv a1] [(.ref wy), (.ref a1)])) rfl rfl (hb hby d4_4)
  refine own_go st2 ?_
  clear st2 X1 e1
  obtain ⟨v3, T3, L3, X3, hQ3, st3⟩ := own_callV (y := own_y6) (z := own_y6) X2 hx hZ hown (ow31 hw) (ow32 hw) (notFace_of_selects (args := #[]) (mvT hZ (ow34 hw))) (ow34 hw) (ow33 hw) (ow4 hw) (ow35 hw) (rm_sw5 l Z a0 hw hO [] a1 t kt x0 x1 x2 x3 x4 h0 O0 (fp0.keep K0) (fp1.keep K0 nin0) (fp2.keep K0 nin0) (fp3.keep K0 nin0)) 0 0 0 (by show _ ≤ 0; omega) (by show _ ≤ 0; omega) e2 (fp0.keep K0) (g := (mkF m 7 #[rv a1] [(.ref wsp), (.ref a1)])) rfl (by rw [hml]; rfl) [(.ref wsp)] [] (lenOf own_pd_4 rfl) rfl rfl (hb hby d4_7)
  obtain ⟨rfl, Nc5, Kc4⟩ := hQ3
  refine own_go st3 ?_
  clear st3 X2 e2
  replace N0 := Fr.app N0 Nc5
  clear Nc5
  refine own_go (fun _ k => XS.ifYes X3.here hx rfl (pc0 := 10) (pc' := 19) rfl (hb hby d4_10) rfl ((if0 _ _).trans (teq (by decide : (0 : Int32) = (0 : Int32))).1) (by decide) (by decide) k) ?_
  obtain ⟨T6, X6, e6, st6⟩ := getS2 X3 hx hZ hown (host := "") (Or.inl (ow52 hw)) Via.refl Kc4 (oEx.ext O0) (g := (mkF m 19 #[rv a1] [])) rfl (hb hby d4_19)
  refine own_go st6 ?_
  clear st6 X3 Kc4
  show own_Go p e below s _ _ _ (T6.setTop (mkF m 22 #[rv a1] [(.ref wx)]))
  refine own_retA X6 hx hlk e6 hret rfl rfl (hb hby d4_22) (by show _ ≤ 0; omega) (by show _ ≤ 0; omega) ?_
  exact ⟨rfl, N0, rfl⟩
def Q_swi6 (Z : State) (zc : Int32) (wx : Addr) (wy : Addr) (wsp : Addr) (wspv : Addr) (wspk : ClassId) (a1 : Addr) (t : Addr) (kt : ClassId) (x0 : Int32) (x1 : Int32) (x2 : Int32) (x3 : Int32) (x4 : Int32) (x5 : Int32) (h0 : Heap) (v : Option Value) (h : Heap) (L : List Loc) : Prop := (v = some (.int (0 : Int32)) ∧ Fr Z.heap.size L ∧ h = h0)
theorem ef_swi6 (m : MethodId) (x0 : Addr) (x1 : Addr) : entryFrame m #[(.ref x0), (.ref x1), (.int (0 : Int32))] 8 = mkF m 0 #[rv x0, rv x1, iv (0 : Int32), .unset, .unset, .unset, .unset, .unset] [] := by first | (simp [entryFrame, mkF, argsToLocals, Value.category]; done) | rfl
set_option maxRecDepth 65536 in
set_option maxHeartbeats 40000000 in
theorem rm_swi6 (l : Launch) (Z : State) (a0 : Array Value) (hw : own_W Z a0) {zc : Int32} {wx : Addr} {wy : Addr} {wsp : Addr} {wspv : Addr} {wspk : ClassId} (hO : own_Olds Z zc wx wy wsp wspv wspk) (ws : List Jvm.Cond) (a1 : Addr) (t : Addr) (kt : ClassId) (x0 : Int32) (x1 : Int32) (x2 : Int32) (x3 : Int32) (x4 : Int32) (x5 : Int32) (h0 : Heap) (O0 : Ext Z.heap h0) (fp0 : Exa Z h0 a1 "java/lang/String") (fp1 : Fld Z h0 a1 "java/lang/String" "value" "[B" (.ref t)) (fp2 : Fld Z h0 a1 "java/lang/String" "coder" "B" (.int (0 : Int32))) (fp3 : Arv Z h0 t kt .byte (6 : Int32) [(.int x0), (.int x1), (.int x2), (.int x3), (.int x4), (.int x5)] (.int (0 : Int32))) :
    own_MF l Z h0 own_y5 jdk_42_method_75_code 8 (some .boolean) ({ frames := 2, cells := 0, slots := 0, locals := 27 } : Room) #[(.ref a1), (.ref wsp), (.int (0 : Int32))] (Q_swi6 Z zc wx wy wsp wspv wspk a1 t kt x0 x1 x2 x3 x4 x5 h0) ws := by
  refine own_met (Q := (Q_swi6 Z zc wx wy wsp wspv wspk a1 t kt x0 x1 x2 x3 x4 x5 h0)) _ _ (plainFor_of_name own_pn_0) ?_
  intro p e s m below meth c T X0 hx hby hml hret hlk hZ hown hnm e0
  replace hown : s.vm.findClass "java/lang/String" = some m.cls := hown
  replace hnm : meth.name = "startsWith" := hnm
  have hml : c.maxLocals = 8 := hml
  obtain ⟨oCS, oCz, oEx, oSh, oPF, oSPE, oSPC, oSPF, oSPV⟩ := id hO
  have N0 := Fr.nil Z.heap.size
  have K0 := Keep.refl h0 []
  refine own_go (fun _ k => castTop (ef_swi6 m a1 wsp) k) ?_
  show own_Go p e below s _ _ _ (T.setTop (mkF m 0 #[rv a1, rv wsp, iv (0 : Int32), .unset, .unset, .unset, .unset, .unset] []))
  refine own_go (fun _ k => XS.iloadN X0.here hx rfl (hb hby d6_0) rfl (XS.ifNo X0.here hx rfl (hb hby d6_1) rfl ((if0 _ _).trans (flt (by decide : ¬ ((0 : Int32) < (0 : Int32)))).1) (XS.iloadN X0.here hx rfl (hb hby d6_4) rfl (XS.aloadN X0.here hx rfl (hb hby d6_5) rfl rfl k)))) ?_
  obtain ⟨v1, T1, L1, X1, hQ1, st1⟩ := own_callV (y := own_y3) (z := own_y3) X0 hx hZ hown (ow41 hw) (ow42 hw) (notFace_of_selects (args := #[]) (mvT hZ (ow44 hw))) (ow44 hw) (ow43 hw) (ow4 hw) (ow45 hw) (rm_slen6 l Z a0 hw hO [] a1 t kt x0 x1 x2 x3 x4 x5 h0 O0 (fp0.keep K0) (fp1.keep K0 nin0) (fp2.keep K0 nin0) (fp3.keep K0 nin0)) 1 0 0 (by show _ ≤ 0; omega) (by show _ ≤ 0; omega) e0 (fp0.keep K0) (g := (mkF m 6 #[rv a1, rv wsp, iv (0 : Int32), .unset, .unset, .unset, .unset, .unset] [(.ref a1), (.int (0 : Int32))])) rfl (by rw [hml]; rfl) [] [(.int (0 : Int32))] (lenOf own_pd_2 rfl) rfl rfl (hb hby d6_6)
  obtain ⟨rfl, Nc3, Kc2⟩ := hQ1
  refine own_go st1 ?_
  clear st1 X0 e0
  replace N0 := Fr.app N0 Nc3
  clear Nc3
  refine own_go (fun _ k => XS.aloadN X1.here hx rfl (hb hby d6_9) rfl rfl k) ?_
  show own_Go p e below s _ _ _ (T1.setTop (mkF m 10 #[rv a1, rv wsp, iv (0 : Int32), .unset, .unset, .unset, .unset, .unset] [(.ref wsp), (.int (6 : Int32)), (.int (0 : Int32))]))
  obtain ⟨v4, T4, L4, X4, hQ4, st4⟩ := own_callV (y := own_y3) (z := own_y3) X1 hx hZ hown (ow41 hw) (ow42 hw) (notFace_of_selects (args := #[]) (mvT hZ (ow44 hw))) (ow44 hw) (ow43 hw) (ow4 hw) (ow45 hw) (rm_slen7 l Z a0 hw hO [] wsp wspv wspk (115 : Int32) (104 : Int32) (97 : Int32) (114 : Int32) (101 : Int32) (100 : Int32) (45 : Int32) h0 O0 (oSPE.ext O0) (oSPF.ext O0) (oSPC.ext O0) (oSPV.ext O0)) 2 0 0 (by show _ ≤ 0; omega) (by show _ ≤ 0; omega) Kc2 (oSPE.ext O0) (g := (mkF m 10 #[rv a1, rv wsp, iv (0 : Int32), .unset, .unset, .unset, .unset, .unset] [(.ref wsp), (.int (6 : Int32)), (.int (0 : Int32))])) rfl (by rw [hml]; rfl) [] [(.int (6 : Int32)), (.int (0 : Int32))] (lenOf own_pd_2 rfl) rfl rfl (hb hby d6_10)
  obtain ⟨rfl, Nc6, Kc5⟩ := hQ4
  refine own_go st4 ?_
  clear st4 X1 Kc2
  replace N0 := Fr.app N0 Nc6
  clear Nc6
  refine own_go (fun _ k => XS.isub X4.here hx rfl (hb hby d6_13) rfl (XS.icmpNo X4.here hx rfl (hb hby d6_14) rfl (tlt (by decide : (-1 : Int32) < (0 : Int32))).2.2.2 (XS.iconst X4.here hx rfl (hb hby d6_17) k))) ?_
  show own_Go p e below s _ _ _ (T4.setTop (mkF m 18 #[rv a1, rv wsp, iv (0 : Int32), .unset, .unset, .unset, .unset, .unset] [(.int (0 : Int32))]))
  refine own_retN X4 hx hlk Kc5 (t := .boolean) hret (by simp) (hb hby d6_18) (by show _ ≤ 0; omega) (by show _ ≤ 0; omega) ?_
  exact ⟨rfl, N0, rfl⟩
def Q_sw6 (Z : State) (zc : Int32) (wx : Addr) (wy : Addr) (wsp : Addr) (wspv : Addr) (wspk : ClassId) (a1 : Addr) (t : Addr) (kt : ClassId) (x0 : Int32) (x1 : Int32) (x2 : Int32) (x3 : Int32) (x4 : Int32) (x5 : Int32) (h0 : Heap) (v : Option Value) (h : Heap) (L : List Loc) : Prop := (v = some (.int (0 : Int32)) ∧ Fr Z.heap.size L ∧ h = h0)
theorem ef_sw6 (m : MethodId) (x0 : Addr) (x1 : Addr) : entryFrame m #[(.ref x0), (.ref x1)] 2 = mkF m 0 #[rv x0, rv x1] [] := by first | (simp [entryFrame, mkF, argsToLocals, Value.category]; done) | rfl
set_option maxRecDepth 65536 in
set_option maxHeartbeats 40000000 in
theorem rm_sw6 (l : Launch) (Z : State) (a0 : Array Value) (hw : own_W Z a0) {zc : Int32} {wx : Addr} {wy : Addr} {wsp : Addr} {wspv : Addr} {wspk : ClassId} (hO : own_Olds Z zc wx wy wsp wspv wspk) (ws : List Jvm.Cond) (a1 : Addr) (t : Addr) (kt : ClassId) (x0 : Int32) (x1 : Int32) (x2 : Int32) (x3 : Int32) (x4 : Int32) (x5 : Int32) (h0 : Heap) (O0 : Ext Z.heap h0) (fp0 : Exa Z h0 a1 "java/lang/String") (fp1 : Fld Z h0 a1 "java/lang/String" "value" "[B" (.ref t)) (fp2 : Fld Z h0 a1 "java/lang/String" "coder" "B" (.int (0 : Int32))) (fp3 : Arv Z h0 t kt .byte (6 : Int32) [(.int x0), (.int x1), (.int x2), (.int x3), (.int x4), (.int x5)] (.int (0 : Int32))) :
    own_MF l Z h0 own_y6 jdk_42_method_76_code 2 (some .boolean) ({ frames := 3, cells := 0, slots := 0, locals := 46 } : Room) #[(.ref a1), (.ref wsp)] (Q_sw6 Z zc wx wy wsp wspv wspk a1 t kt x0 x1 x2 x3 x4 x5 h0) ws := by
  refine own_met (Q := (Q_sw6 Z zc wx wy wsp wspv wspk a1 t kt x0 x1 x2 x3 x4 x5 h0)) _ _ (plainFor_of_name own_pn_0) ?_
  intro p e s m below meth c T X0 hx hby hml hret hlk hZ hown hnm e0
  replace hown : s.vm.findClass "java/lang/String" = some m.cls := hown
  replace hnm : meth.name = "startsWith" := hnm
  have hml : c.maxLocals = 2 := hml
  obtain ⟨oCS, oCz, oEx, oSh, oPF, oSPE, oSPC, oSPF, oSPV⟩ := id hO
  have N0 := Fr.nil Z.heap.size
  have K0 := Keep.refl h0 []
  refine own_go (fun _ k => castTop (ef_sw6 m a1 wsp) k) ?_
  show own_Go p e below s _ _ _ (T.setTop (mkF m 0 #[rv a1, rv wsp] []))
  refine own_go (fun _ k => XS.aloadN X0.here hx rfl (hb hby d5_0) rfl rfl (XS.aloadN X0.here hx rfl (hb hby d5_1) rfl rfl (XS.iconst X0.here hx rfl (hb hby d5_2) k))) ?_
  obtain ⟨v1, T1, L1, X1, hQ1, st1⟩ := own_callV (y := own_y5) (z := own_y5) X0 hx hZ hown (ow36 hw) (ow37 hw) (notFace_of_selects (args := #[]) (mvT hZ (ow39 hw))) (ow39 hw) (ow38 hw) (ow4 hw) (ow40 hw) (rm_swi6 l Z a0 hw hO [] a1 t kt x0 x1 x2 x3 x4 x5 h0 O0 (fp0.keep K0) (fp1.keep K0 nin0) (fp2.keep K0 nin0) (fp3.keep K0 nin0)) 0 0 0 (by show _ ≤ 0; omega) (by show _ ≤ 0; omega) e0 (fp0.keep K0) (g := (mkF m 3 #[rv a1, rv wsp] [(.int (0 : Int32)), (.ref wsp), (.ref a1)])) rfl (by rw [hml]; rfl) [(.ref wsp), (.int (0 : Int32))] [] (lenOf own_pd_3 rfl) rfl rfl (hb hby d5_3)
  obtain ⟨rfl, Nc3, Kc2⟩ := hQ1
  refine own_go st1 ?_
  clear st1 X0 e0
  replace N0 := Fr.app N0 Nc3
  clear Nc3
  show own_Go p e below s _ _ _ (T1.setTop (mkF m 6 #[rv a1, rv wsp] [(.int (0 : Int32))]))
  refine own_retN X1 hx hlk Kc2 (t := .boolean) hret (by simp) (hb hby d5_6) (by show _ ≤ 0; omega) (by show _ ≤ 0; omega) ?_
  exact ⟨rfl, N0, rfl⟩
def Q_ofn6 (Z : State) (zc : Int32) (wx : Addr) (wy : Addr) (wsp : Addr) (wspv : Addr) (wspk : ClassId) (a1 : Addr) (t : Addr) (kt : ClassId) (x0 : Int32) (x1 : Int32) (x2 : Int32) (x3 : Int32) (x4 : Int32) (x5 : Int32) (h0 : Heap) (v : Option Value) (h : Heap) (L : List Loc) : Prop := (v = some (.ref wx) ∧ Fr Z.heap.size L ∧ h = h0)
theorem ef_ofn6 (m : MethodId) (x0 : Addr) : entryFrame m #[(.ref x0)] 1 = mkF m 0 #[rv x0] [] := by first | (simp [entryFrame, mkF, argsToLocals, Value.category]; done) | rfl
set_option maxRecDepth 65536 in
set_option maxHeartbeats 40000000 in
theorem rm_ofn6 (l : Launch) (Z : State) (a0 : Array Value) (hw : own_W Z a0) {zc : Int32} {wx : Addr} {wy : Addr} {wsp : Addr} {wspv : Addr} {wspk : ClassId} (hO : own_Olds Z zc wx wy wsp wspv wspk) (ws : List Jvm.Cond) (a1 : Addr) (t : Addr) (kt : ClassId) (x0 : Int32) (x1 : Int32) (x2 : Int32) (x3 : Int32) (x4 : Int32) (x5 : Int32) (h0 : Heap) (O0 : Ext Z.heap h0) (fp0 : Exa Z h0 a1 "java/lang/String") (fp1 : Fld Z h0 a1 "java/lang/String" "value" "[B" (.ref t)) (fp2 : Fld Z h0 a1 "java/lang/String" "coder" "B" (.int (0 : Int32))) (fp3 : Arv Z h0 t kt .byte (6 : Int32) [(.int x0), (.int x1), (.int x2), (.int x3), (.int x4), (.int x5)] (.int (0 : Int32))) :
    own_MF l Z h0 own_y7 prog_5_method_4_code 1 (some (.object "com/example/padlock/padlock/lock/Access")) ({ frames := 4, cells := 0, slots := 0, locals := 59 } : Room) #[(.ref a1)] (Q_ofn6 Z zc wx wy wsp wspv wspk a1 t kt x0 x1 x2 x3 x4 x5 h0) ws := by
  refine own_met (Q := (Q_ofn6 Z zc wx wy wsp wspv wspk a1 t kt x0 x1 x2 x3 x4 x5 h0)) _ _ (plainFor_of_name own_pn_2) ?_
  intro p e s m below meth c T X0 hx hby hml hret hlk hZ hown hnm e0
  replace hown : s.vm.findClass "com/example/padlock/padlock/lock/Access" = some m.cls := hown
  replace hnm : meth.name = "ofNode" := hnm
  have hml : c.maxLocals = 1 := hml
  obtain ⟨oCS, oCz, oEx, oSh, oPF, oSPE, oSPC, oSPF, oSPV⟩ := id hO
  have N0 := Fr.nil Z.heap.size
  have K0 := Keep.refl h0 []
  refine own_go (fun _ k => castTop (ef_ofn6 m a1) k) ?_
  show own_Go p e below s _ _ _ (T.setTop (mkF m 0 #[rv a1] []))
  refine own_go (fun _ k => XS.aloadN X0.here hx rfl (hb hby d4_0) rfl rfl k) ?_
  obtain ⟨T1, X1, e1, st1⟩ := getS2 X0 hx hZ hown (host := "") (Or.inl (ow27 hw)) Via.refl e0 (oSh.ext O0) (g := (mkF m 1 #[rv a1] [(.ref a1)])) rfl (hb hby d4_1)
  refine own_go st1 ?_
  clear st1 X0 e0
  obtain ⟨T2, X2, e2, st2⟩ := getF X1 hx hZ hown (host := "") (Or.inl (ow29 hw)) Via.refl e1 (oPF.ext O0) (g := (mkF m 4 #[rv a1] [(.ref wy), (.ref a1)])) rfl rfl (hb hby d4_4)
  refine own_go st2 ?_
  clear st2 X1 e1
  obtain ⟨v3, T3, L3, X3, hQ3, st3⟩ := own_callV (y := own_y6) (z := own_y6) X2 hx hZ hown (ow31 hw) (ow32 hw) (notFace_of_selects (args := #[]) (mvT hZ (ow34 hw))) (ow34 hw) (ow33 hw) (ow4 hw) (ow35 hw) (rm_sw6 l Z a0 hw hO [] a1 t kt x0 x1 x2 x3 x4 x5 h0 O0 (fp0.keep K0) (fp1.keep K0 nin0) (fp2.keep K0 nin0) (fp3.keep K0 nin0)) 0 0 0 (by show _ ≤ 0; omega) (by show _ ≤ 0; omega) e2 (fp0.keep K0) (g := (mkF m 7 #[rv a1] [(.ref wsp), (.ref a1)])) rfl (by rw [hml]; rfl) [(.ref wsp)] [] (lenOf own_pd_4 rfl) rfl rfl (hb hby d4_7)
  obtain ⟨rfl, Nc5, Kc4⟩ := hQ3
  refine own_go st3 ?_
  clear st3 X2 e2
  replace N0 := Fr.app N0 Nc5
  clear Nc5
  refine own_go (fun _ k => XS.ifYes X3.here hx rfl (pc0 := 10) (pc' := 19) rfl (hb hby d4_10) rfl ((if0 _ _).trans (teq (by decide : (0 : Int32) = (0 : Int32))).1) (by decide) (by decide) k) ?_
  obtain ⟨T6, X6, e6, st6⟩ := getS2 X3 hx hZ hown (host := "") (Or.inl (ow52 hw)) Via.refl Kc4 (oEx.ext O0) (g := (mkF m 19 #[rv a1] [])) rfl (hb hby d4_19)
  refine own_go st6 ?_
  clear st6 X3 Kc4
  show own_Go p e below s _ _ _ (T6.setTop (mkF m 22 #[rv a1] [(.ref wx)]))
  refine own_retA X6 hx hlk e6 hret rfl rfl (hb hby d4_22) (by show _ ≤ 0; omega) (by show _ ≤ 0; omega) ?_
  exact ⟨rfl, N0, rfl⟩
theorem d13_0 : decode jdk_48_method_14_code 0 = .ok (.iconst 0, 1) := by decide +kernel
theorem d13_1 : decode jdk_48_method_14_code 1 = .ok (.istore 5, 2) := by decide +kernel
theorem d13_3 : decode jdk_48_method_14_code 3 = .ok (.iload 4, 2) := by decide +kernel
theorem d13_5 : decode jdk_48_method_14_code 5 = .ok (.bipush 7, 2) := by decide +kernel
theorem d13_7 : decode jdk_48_method_14_code 7 = .ok (.if_icmp .le 63, 3) := by decide +kernel
theorem d13_70 : decode jdk_48_method_14_code 70 = .ok (.iload 5, 2) := by decide +kernel
theorem d13_72 : decode jdk_48_method_14_code 72 = .ok (.iload 4, 2) := by decide +kernel
theorem d13_74 : decode jdk_48_method_14_code 74 = .ok (.if_icmp .ge 27, 3) := by decide +kernel
theorem d13_77 : decode jdk_48_method_14_code 77 = .ok (.aload_n 0, 1) := by decide +kernel
theorem d13_78 : decode jdk_48_method_14_code 78 = .ok (.iload_n 1, 1) := by decide +kernel
theorem d13_79 : decode jdk_48_method_14_code 79 = .ok (.iload 5, 2) := by decide +kernel
theorem d13_81 : decode jdk_48_method_14_code 81 = .ok (.iadd, 1) := by decide +kernel
theorem d13_82 : decode jdk_48_method_14_code 82 = .ok (.baload, 1) := by decide +kernel
theorem d13_83 : decode jdk_48_method_14_code 83 = .ok (.aload_n 2, 1) := by decide +kernel
theorem d13_84 : decode jdk_48_method_14_code 84 = .ok (.iload_n 3, 1) := by decide +kernel
theorem d13_85 : decode jdk_48_method_14_code 85 = .ok (.iload 5, 2) := by decide +kernel
theorem d13_87 : decode jdk_48_method_14_code 87 = .ok (.iadd, 1) := by decide +kernel
theorem d13_88 : decode jdk_48_method_14_code 88 = .ok (.baload, 1) := by decide +kernel
theorem d13_89 : decode jdk_48_method_14_code 89 = .ok (.if_icmp .eq 6, 3) := by decide +kernel
theorem d13_92 : decode jdk_48_method_14_code 92 = .ok (.iload 5, 2) := by decide +kernel
theorem d13_94 : decode jdk_48_method_14_code 94 = .ok (.ireturn, 1) := by decide +kernel
theorem d13_95 : decode jdk_48_method_14_code 95 = .ok (.iinc 5 1, 3) := by decide +kernel
theorem d13_98 : decode jdk_48_method_14_code 98 = .ok (.goto (-28), 3) := by decide +kernel
theorem d13_101 : decode jdk_48_method_14_code 101 = .ok (.iconst (-1), 1) := by decide +kernel
theorem d13_102 : decode jdk_48_method_14_code 102 = .ok (.ireturn, 1) := by decide +kernel
def Q_mm7 (Z : State) (zc : Int32) (wx : Addr) (wy : Addr) (wsp : Addr) (wspv : Addr) (wspk : ClassId) (t : Addr) (kt : ClassId) (x0 : Int32) (x1 : Int32) (x2 : Int32) (x3 : Int32) (x4 : Int32) (x5 : Int32) (x6 : Int32) (h0 : Heap) (v : Option Value) (h : Heap) (L : List Loc) : Prop := (v = some (.int (-1 : Int32)) ∧ Fr Z.heap.size L ∧ own_P7 x0 x1 x2 x3 x4 x5 x6 ∧ h = h0) ∨ (∃ r : Int32, v = some (.int r) ∧ Fr Z.heap.size L ∧ ¬ (own_P7 x0 x1 x2 x3 x4 x5 x6) ∧ ¬ (r < (0 : Int32)) ∧ h = h0)
theorem ef_mm7 (m : MethodId) (x0 : Addr) (x2 : Addr) : entryFrame m #[(.ref x0), (.int (0 : Int32)), (.ref x2), (.int (0 : Int32)), (.int (7 : Int32))] 8 = mkF m 0 #[rv x0, iv (0 : Int32), rv x2, iv (0 : Int32), iv (7 : Int32), .unset, .unset, .unset] [] := by first | (simp [entryFrame, mkF, argsToLocals, Value.category]; done) | rfl
set_option maxRecDepth 65536 in
set_option maxHeartbeats 40000000 in
theorem rm_mm7 (l : Launch) (Z : State) (a0 : Array Value) (hw : own_W Z a0) {zc : Int32} {wx : Addr} {wy : Addr} {wsp : Addr} {wspv : Addr} {wspk : ClassId} (hO : own_Olds Z zc wx wy wsp wspv wspk) (ws : List Jvm.Cond) (t : Addr) (kt : ClassId) (x0 : Int32) (x1 : Int32) (x2 : Int32) (x3 : Int32) (x4 : Int32) (x5 : Int32) (x6 : Int32) (h0 : Heap) (O0 : Ext Z.heap h0) (fp0 : Arv Z h0 t kt .byte (7 : Int32) [(.int x0), (.int x1), (.int x2), (.int x3), (.int x4), (.int x5), (.int x6)] (.int (0 : Int32))) :
    own_MF l Z h0 own_y8 jdk_48_method_14_code 8 (some .int) ({ frames := 0, cells := 0, slots := 0, locals := 0 } : Room) #[(.ref t), (.int (0 : Int32)), (.ref wspv), (.int (0 : Int32)), (.int (7 : Int32))] (Q_mm7 Z zc wx wy wsp wspv wspk t kt x0 x1 x2 x3 x4 x5 x6 h0) ws := by
  refine own_met (Q := (Q_mm7 Z zc wx wy wsp wspv wspk t kt x0 x1 x2 x3 x4 x5 x6 h0)) _ _ (plainFor_of_name own_pn_3) ?_
  intro p e s m below meth c T X0 hx hby hml hret hlk hZ hown hnm e0
  replace hown : s.vm.findClass "jdk/internal/util/ArraysSupport" = some m.cls := hown
  replace hnm : meth.name = "mismatch" := hnm
  have hml : c.maxLocals = 8 := hml
  obtain ⟨oCS, oCz, oEx, oSh, oPF, oSPE, oSPC, oSPF, oSPV⟩ := id hO
  have N0 := Fr.nil Z.heap.size
  have K0 := Keep.refl h0 []
  refine own_go (fun _ k => castTop (ef_mm7 m t wspv) k) ?_
  show own_Go p e below s _ _ _ (T.setTop (mkF m 0 #[rv t, iv (0 : Int32), rv wspv, iv (0 : Int32), iv (7 : Int32), .unset, .unset, .unset] []))
  refine own_go (fun _ k => XS.iconst X0.here hx rfl (hb hby d13_0) (XS.istore X0.here hx rfl (hb hby d13_1) rfl (l' := #[rv t, iv (0 : Int32), rv wspv, iv (0 : Int32), iv (7 : Int32), iv (0 : Int32), .unset, .unset]) rfl (XS.iload X0.here hx rfl (hb hby d13_3) rfl (XS.bipush X0.here hx rfl (hb hby d13_5) (XS.icmpYes X0.here hx rfl (pc0 := 7) (pc' := 70) rfl (hb hby d13_7) rfl (flt (by decide : ¬ ((7 : Int32) < (7 : Int32)))).2.2.2 (by decide) (by decide) (XS.iload X0.here hx rfl (hb hby d13_70) rfl k)))))) ?_
  show own_Go p e below s _ _ _ (T.setTop (mkF m 72 #[rv t, iv (0 : Int32), rv wspv, iv (0 : Int32), iv (7 : Int32), iv (0 : Int32), .unset, .unset] [(.int (0 : Int32))]))
  refine own_go (fun _ k => XS.iload X0.here hx rfl (hb hby d13_72) rfl (XS.icmpNo X0.here hx rfl (hb hby d13_74) rfl (tlt (by decide : (0 : Int32) < (7 : Int32))).2.1 (XS.aloadN X0.here hx rfl (hb hby d13_77) rfl rfl (XS.iloadN X0.here hx rfl (hb hby d13_78) rfl (XS.iload X0.here hx rfl (hb hby d13_79) rfl (XS.iadd X0.here hx rfl (hb hby d13_81) rfl k)))))) ?_
  show own_Go p e below s _ _ _ (T.setTop (mkF m 82 #[rv t, iv (0 : Int32), rv wspv, iv (0 : Int32), iv (7 : Int32), iv (0 : Int32), .unset, .unset] [(.int (0 : Int32)), (.ref t)]))
  obtain ⟨cl1, Ar1, -, S1, -, P1, -⟩ := id (fp0.keep K0 nin0)
  have hin1 : ¬ ((0 : Int32) < 0 ∨ cl1.slots.size ≤ ((0 : Int32)).toNatClampNeg) := inb_of S1 ⟨by decide, by decide⟩
  refine own_go (X0.baloadBytes hx (j := (0 : Int32)) (v := (.int x0)) (by rw [e0]; exact Ar1.1) (State.isArrayOf_alike hZ.alike Ar1.2.1) Ar1.2.2 hin1 (P1.at hin1 rfl) (g := (mkF m 82 #[rv t, iv (0 : Int32), rv wspv, iv (0 : Int32), iv (7 : Int32), iv (0 : Int32), .unset, .unset] [(.int (0 : Int32)), (.ref t)])) rfl rfl (hb hby d13_82)) ?_
  refine own_go (fun _ k => XS.aloadN X0.here hx rfl (hb hby d13_83) rfl rfl (XS.iloadN X0.here hx rfl (hb hby d13_84) rfl (XS.iload X0.here hx rfl (hb hby d13_85) rfl (XS.iadd X0.here hx rfl (hb hby d13_87) rfl k)))) ?_
  obtain ⟨cl2, Ar2, -, S2, -, P2, -⟩ := id (oSPV.ext O0)
  have hin2 : ¬ ((0 : Int32) < 0 ∨ cl2.slots.size ≤ ((0 : Int32)).toNatClampNeg) := inb_of S2 ⟨by decide, by decide⟩
  refine own_go (X0.baloadBytes hx (j := (0 : Int32)) (v := (.int (115 : Int32))) (by rw [e0]; exact Ar2.1) (State.isArrayOf_alike hZ.alike Ar2.2.1) Ar2.2.2 hin2 (P2.at hin2 rfl) (g := (mkF m 88 #[rv t, iv (0 : Int32), rv wspv, iv (0 : Int32), iv (7 : Int32), iv (0 : Int32), .unset, .unset] [(.int (0 : Int32)), (.ref wspv), (.int x0)])) rfl rfl (hb hby d13_88)) ?_
  show own_Go p e below s _ _ _ (T.setTop (mkF m 89 #[rv t, iv (0 : Int32), rv wspv, iv (0 : Int32), iv (7 : Int32), iv (0 : Int32), .unset, .unset] [(.int (115 : Int32)), (.int x0)]))
  by_cases hc3 : x0 = (115 : Int32)
  · refine own_go (fun _ k => XS.icmpYes X0.here hx rfl (pc0 := 89) (pc' := 95) rfl (hb hby d13_89) rfl (teq hc3).1 (by decide) (by decide) k) ?_
    show own_Go p e below s _ _ _ (T.setTop (mkF m 95 #[rv t, iv (0 : Int32), rv wspv, iv (0 : Int32), iv (7 : Int32), iv (0 : Int32), .unset, .unset] []))
    refine own_go (fun _ k => XS.iinc X0.here hx rfl (hb hby d13_95) rfl (l' := #[rv t, iv (0 : Int32), rv wspv, iv (0 : Int32), iv (7 : Int32), iv (1 : Int32), .unset, .unset]) rfl (XS.goto X0.here hx rfl (pc0 := 98) (pc' := 70) rfl (hb hby d13_98) (by decide) (by decide) (XS.iload X0.here hx rfl (hb hby d13_70) rfl (XS.iload X0.here hx rfl (hb hby d13_72) rfl (XS.icmpNo X0.here hx rfl (hb hby d13_74) rfl (tlt (by decide : (1 : Int32) < (7 : Int32))).2.1 (XS.aloadN X0.here hx rfl (hb hby d13_77) rfl rfl k)))))) ?_
    show own_Go p e below s _ _ _ (T.setTop (mkF m 78 #[rv t, iv (0 : Int32), rv wspv, iv (0 : Int32), iv (7 : Int32), iv (1 : Int32), .unset, .unset] [(.ref t)]))
    refine own_go (fun _ k => XS.iloadN X0.here hx rfl (hb hby d13_78) rfl (XS.iload X0.here hx rfl (hb hby d13_79) rfl (XS.iadd X0.here hx rfl (hb hby d13_81) rfl k))) ?_
    obtain ⟨cl4, Ar4, -, S4, -, P4, -⟩ := id (fp0.keep K0 nin0)
    have hin4 : ¬ ((1 : Int32) < 0 ∨ cl4.slots.size ≤ ((1 : Int32)).toNatClampNeg) := inb_of S4 ⟨by decide, by decide⟩
    refine own_go (X0.baloadBytes hx (j := (1 : Int32)) (v := (.int x1)) (by rw [e0]; exact Ar4.1) (State.isArrayOf_alike hZ.alike Ar4.2.1) Ar4.2.2 hin4 (P4.at hin4 rfl) (g := (mkF m 82 #[rv t, iv (0 : Int32), rv wspv, iv (0 : Int32), iv (7 : Int32), iv (1 : Int32), .unset, .unset] [(.int (1 : Int32)), (.ref t)])) rfl rfl (hb hby d13_82)) ?_
    refine own_go (fun _ k => XS.aloadN X0.here hx rfl (hb hby d13_83) rfl rfl (XS.iloadN X0.here hx rfl (hb hby d13_84) rfl k)) ?_
    show own_Go p e below s _ _ _ (T.setTop (mkF m 85 #[rv t, iv (0 : Int32), rv wspv, iv (0 : Int32), iv (7 : Int32), iv (1 : Int32), .unset, .unset] [(.int (0 : Int32)), (.ref wspv), (.int x1)]))
    refine own_go (fun _ k => XS.iload X0.here hx rfl (hb hby d13_85) rfl (XS.iadd X0.here hx rfl (hb hby d13_87) rfl k)) ?_
    obtain ⟨cl5, Ar5, -, S5, -, P5, -⟩ := id (oSPV.ext O0)
    have hin5 : ¬ ((1 : Int32) < 0 ∨ cl5.slots.size ≤ ((1 : Int32)).toNatClampNeg) := inb_of S5 ⟨by decide, by decide⟩
    refine own_go (X0.baloadBytes hx (j := (1 : Int32)) (v := (.int (104 : Int32))) (by rw [e0]; exact Ar5.1) (State.isArrayOf_alike hZ.alike Ar5.2.1) Ar5.2.2 hin5 (P5.at hin5 rfl) (g := (mkF m 88 #[rv t, iv (0 : Int32), rv wspv, iv (0 : Int32), iv (7 : Int32), iv (1 : Int32), .unset, .unset] [(.int (1 : Int32)), (.ref wspv), (.int x1)])) rfl rfl (hb hby d13_88)) ?_
    by_cases hc6 : x1 = (104 : Int32)
    · refine own_go (fun _ k => XS.icmpYes X0.here hx rfl (pc0 := 89) (pc' := 95) rfl (hb hby d13_89) rfl (teq hc6).1 (by decide) (by decide) k) ?_
      show own_Go p e below s _ _ _ (T.setTop (mkF m 95 #[rv t, iv (0 : Int32), rv wspv, iv (0 : Int32), iv (7 : Int32), iv (1 : Int32), .unset, .unset] []))
      refine own_go (fun _ k => XS.iinc X0.here hx rfl (hb hby d13_95) rfl (l' := #[rv t, iv (0 : Int32), rv wspv, iv (0 : Int32), iv (7 : Int32), iv (2 : Int32), .unset, .unset]) rfl (XS.goto X0.here hx rfl (pc0 := 98) (pc' := 70) rfl (hb hby d13_98) (by decide) (by decide) (XS.iload X0.here hx rfl (hb hby d13_70) rfl (XS.iload X0.here hx rfl (hb hby d13_72) rfl (XS.icmpNo X0.here hx rfl (hb hby d13_74) rfl (tlt (by decide : (2 : Int32) < (7 : Int32))).2.1 (XS.aloadN X0.here hx rfl (hb hby d13_77) rfl rfl k)))))) ?_
      show own_Go p e below s _ _ _ (T.setTop (mkF m 78 #[rv t, iv (0 : Int32), rv wspv, iv (0 : Int32), iv (7 : Int32), iv (2 : Int32), .unset, .unset] [(.ref t)]))
      refine own_go (fun _ k => XS.iloadN X0.here hx rfl (hb hby d13_78) rfl (XS.iload X0.here hx rfl (hb hby d13_79) rfl (XS.iadd X0.here hx rfl (hb hby d13_81) rfl k))) ?_
      obtain ⟨cl7, Ar7, -, S7, -, P7, -⟩ := id (fp0.keep K0 nin0)
      have hin7 : ¬ ((2 : Int32) < 0 ∨ cl7.slots.size ≤ ((2 : Int32)).toNatClampNeg) := inb_of S7 ⟨by decide, by decide⟩
      refine own_go (X0.baloadBytes hx (j := (2 : Int32)) (v := (.int x2)) (by rw [e0]; exact Ar7.1) (State.isArrayOf_alike hZ.alike Ar7.2.1) Ar7.2.2 hin7 (P7.at hin7 rfl) (g := (mkF m 82 #[rv t, iv (0 : Int32), rv wspv, iv (0 : Int32), iv (7 : Int32), iv (2 : Int32), .unset, .unset] [(.int (2 : Int32)), (.ref t)])) rfl rfl (hb hby d13_82)) ?_
      refine own_go (fun _ k => XS.aloadN X0.here hx rfl (hb hby d13_83) rfl rfl (XS.iloadN X0.here hx rfl (hb hby d13_84) rfl k)) ?_
      show own_Go p e below s _ _ _ (T.setTop (mkF m 85 #[rv t, iv (0 : Int32), rv wspv, iv (0 : Int32), iv (7 : Int32), iv (2 : Int32), .unset, .unset] [(.int (0 : Int32)), (.ref wspv), (.int x2)]))
      refine own_go (fun _ k => XS.iload X0.here hx rfl (hb hby d13_85) rfl (XS.iadd X0.here hx rfl (hb hby d13_87) rfl k)) ?_
      obtain ⟨cl8, Ar8, -, S8, -, P8, -⟩ := id (oSPV.ext O0)
      have hin8 : ¬ ((2 : Int32) < 0 ∨ cl8.slots.size ≤ ((2 : Int32)).toNatClampNeg) := inb_of S8 ⟨by decide, by decide⟩
      refine own_go (X0.baloadBytes hx (j := (2 : Int32)) (v := (.int (97 : Int32))) (by rw [e0]; exact Ar8.1) (State.isArrayOf_alike hZ.alike Ar8.2.1) Ar8.2.2 hin8 (P8.at hin8 rfl) (g := (mkF m 88 #[rv t, iv (0 : Int32), rv wspv, iv (0 : Int32), iv (7 : Int32), iv (2 : Int32), .unset, .unset] [(.int (2 : Int32)), (.ref wspv), (.int x2)])) rfl rfl (hb hby d13_88)) ?_
      by_cases hc9 : x2 = (97 : Int32)
      · refine own_go (fun _ k => XS.icmpYes X0.here hx rfl (pc0 := 89) (pc' := 95) rfl (hb hby d13_89) rfl (teq hc9).1 (by decide) (by decide) k) ?_
        show own_Go p e below s _ _ _ (T.setTop (mkF m 95 #[rv t, iv (0 : Int32), rv wspv, iv (0 : Int32), iv (7 : Int32), iv (2 : Int32), .unset, .unset] []))
        refine own_go (fun _ k => XS.iinc X0.here hx rfl (hb hby d13_95) rfl (l' := #[rv t, iv (0 : Int32), rv wspv, iv (0 : Int32), iv (7 : Int32), iv (3 : Int32), .unset, .unset]) rfl (XS.goto X0.here hx rfl (pc0 := 98) (pc' := 70) rfl (hb hby d13_98) (by decide) (by decide) (XS.iload X0.here hx rfl (hb hby d13_70) rfl (XS.iload X0.here hx rfl (hb hby d13_72) rfl (XS.icmpNo X0.here hx rfl (hb hby d13_74) rfl (tlt (by decide : (3 : Int32) < (7 : Int32))).2.1 (XS.aloadN X0.here hx rfl (hb hby d13_77) rfl rfl k)))))) ?_
        show own_Go p e below s _ _ _ (T.setTop (mkF m 78 #[rv t, iv (0 : Int32), rv wspv, iv (0 : Int32), iv (7 : Int32), iv (3 : Int32), .unset, .unset] [(.ref t)]))
        refine own_go (fun _ k => XS.iloadN X0.here hx rfl (hb hby d13_78) rfl (XS.iload X0.here hx rfl (hb hby d13_79) rfl (XS.iadd X0.here hx rfl (hb hby d13_81) rfl k))) ?_
        obtain ⟨cl10, Ar10, -, S10, -, P10, -⟩ := id (fp0.keep K0 nin0)
        have hin10 : ¬ ((3 : Int32) < 0 ∨ cl10.slots.size ≤ ((3 : Int32)).toNatClampNeg) := inb_of S10 ⟨by decide, by decide⟩
        refine own_go (X0.baloadBytes hx (j := (3 : Int32)) (v := (.int x3)) (by rw [e0]; exact Ar10.1) (State.isArrayOf_alike hZ.alike Ar10.2.1) Ar10.2.2 hin10 (P10.at hin10 rfl) (g := (mkF m 82 #[rv t, iv (0 : Int32), rv wspv, iv (0 : Int32), iv (7 : Int32), iv (3 : Int32), .unset, .unset] [(.int (3 : Int32)), (.ref t)])) rfl rfl (hb hby d13_82)) ?_
        refine own_go (fun _ k => XS.aloadN X0.here hx rfl (hb hby d13_83) rfl rfl (XS.iloadN X0.here hx rfl (hb hby d13_84) rfl k)) ?_
        show own_Go p e below s _ _ _ (T.setTop (mkF m 85 #[rv t, iv (0 : Int32), rv wspv, iv (0 : Int32), iv (7 : Int32), iv (3 : Int32), .unset, .unset] [(.int (0 : Int32)), (.ref wspv), (.int x3)]))
        refine own_go (fun _ k => XS.iload X0.here hx rfl (hb hby d13_85) rfl (XS.iadd X0.here hx rfl (hb hby d13_87) rfl k)) ?_
        obtain ⟨cl11, Ar11, -, S11, -, P11, -⟩ := id (oSPV.ext O0)
        have hin11 : ¬ ((3 : Int32) < 0 ∨ cl11.slots.size ≤ ((3 : Int32)).toNatClampNeg) := inb_of S11 ⟨by decide, by decide⟩
        refine own_go (X0.baloadBytes hx (j := (3 : Int32)) (v := (.int (114 : Int32))) (by rw [e0]; exact Ar11.1) (State.isArrayOf_alike hZ.alike Ar11.2.1) Ar11.2.2 hin11 (P11.at hin11 rfl) (g := (mkF m 88 #[rv t, iv (0 : Int32), rv wspv, iv (0 : Int32), iv (7 : Int32), iv (3 : Int32), .unset, .unset] [(.int (3 : Int32)), (.ref wspv), (.int x3)])) rfl rfl (hb hby d13_88)) ?_
        by_cases hc12 : x3 = (114 : Int32)
        · refine own_go (fun _ k => XS.icmpYes X0.here hx rfl (pc0 := 89) (pc' := 95) rfl (hb hby d13_89) rfl (teq hc12).1 (by decide) (by decide) k) ?_
          show own_Go p e below s _ _ _ (T.setTop (mkF m 95 #[rv t, iv (0 : Int32), rv wspv, iv (0 : Int32), iv (7 : Int32), iv (3 : Int32), .unset, .unset] []))
          refine own_go (fun _ k => XS.iinc X0.here hx rfl (hb hby d13_95) rfl (l' := #[rv t, iv (0 : Int32), rv wspv, iv (0 : Int32), iv (7 : Int32), iv (4 : Int32), .unset, .unset]) rfl (XS.goto X0.here hx rfl (pc0 := 98) (pc' := 70) rfl (hb hby d13_98) (by decide) (by decide) (XS.iload X0.here hx rfl (hb hby d13_70) rfl (XS.iload X0.here hx rfl (hb hby d13_72) rfl (XS.icmpNo X0.here hx rfl (hb hby d13_74) rfl (tlt (by decide : (4 : Int32) < (7 : Int32))).2.1 (XS.aloadN X0.here hx rfl (hb hby d13_77) rfl rfl k)))))) ?_
          show own_Go p e below s _ _ _ (T.setTop (mkF m 78 #[rv t, iv (0 : Int32), rv wspv, iv (0 : Int32), iv (7 : Int32), iv (4 : Int32), .unset, .unset] [(.ref t)]))
          refine own_go (fun _ k => XS.iloadN X0.here hx rfl (hb hby d13_78) rfl (XS.iload X0.here hx rfl (hb hby d13_79) rfl (XS.iadd X0.here hx rfl (hb hby d13_81) rfl k))) ?_
          obtain ⟨cl13, Ar13, -, S13, -, P13, -⟩ := id (fp0.keep K0 nin0)
          have hin13 : ¬ ((4 : Int32) < 0 ∨ cl13.slots.size ≤ ((4 : Int32)).toNatClampNeg) := inb_of S13 ⟨by decide, by decide⟩
          refine own_go (X0.baloadBytes hx (j := (4 : Int32)) (v := (.int x4)) (by rw [e0]; exact Ar13.1) (State.isArrayOf_alike hZ.alike Ar13.2.1) Ar13.2.2 hin13 (P13.at hin13 rfl) (g := (mkF m 82 #[rv t, iv (0 : Int32), rv wspv, iv (0 : Int32), iv (7 : Int32), iv (4 : Int32), .unset, .unset] [(.int (4 : Int32)), (.ref t)])) rfl rfl (hb hby d13_82)) ?_
          refine own_go (fun _ k => XS.aloadN X0.here hx rfl (hb hby d13_83) rfl rfl (XS.iloadN X0.here hx rfl (hb hby d13_84) rfl k)) ?_
          show own_Go p e below s _ _ _ (T.setTop (mkF m 85 #[rv t, iv (0 : Int32), rv wspv, iv (0 : Int32), iv (7 : Int32), iv (4 : Int32), .unset, .unset] [(.int (0 : Int32)), (.ref wspv), (.int x4)]))
          refine own_go (fun _ k => XS.iload X0.here hx rfl (hb hby d13_85) rfl (XS.iadd X0.here hx rfl (hb hby d13_87) rfl k)) ?_
          obtain ⟨cl14, Ar14, -, S14, -, P14, -⟩ := id (oSPV.ext O0)
          have hin14 : ¬ ((4 : Int32) < 0 ∨ cl14.slots.size ≤ ((4 : Int32)).toNatClampNeg) := inb_of S14 ⟨by decide, by decide⟩
          refine own_go (X0.baloadBytes hx (j := (4 : Int32)) (v := (.int (101 : Int32))) (by rw [e0]; exact Ar14.1) (State.isArrayOf_alike hZ.alike Ar14.2.1) Ar14.2.2 hin14 (P14.at hin14 rfl) (g := (mkF m 88 #[rv t, iv (0 : Int32), rv wspv, iv (0 : Int32), iv (7 : Int32), iv (4 : Int32), .unset, .unset] [(.int (4 : Int32)), (.ref wspv), (.int x4)])) rfl rfl (hb hby d13_88)) ?_
          by_cases hc15 : x4 = (101 : Int32)
          · refine own_go (fun _ k => XS.icmpYes X0.here hx rfl (pc0 := 89) (pc' := 95) rfl (hb hby d13_89) rfl (teq hc15).1 (by decide) (by decide) k) ?_
            show own_Go p e below s _ _ _ (T.setTop (mkF m 95 #[rv t, iv (0 : Int32), rv wspv, iv (0 : Int32), iv (7 : Int32), iv (4 : Int32), .unset, .unset] []))
            refine own_go (fun _ k => XS.iinc X0.here hx rfl (hb hby d13_95) rfl (l' := #[rv t, iv (0 : Int32), rv wspv, iv (0 : Int32), iv (7 : Int32), iv (5 : Int32), .unset, .unset]) rfl (XS.goto X0.here hx rfl (pc0 := 98) (pc' := 70) rfl (hb hby d13_98) (by decide) (by decide) (XS.iload X0.here hx rfl (hb hby d13_70) rfl (XS.iload X0.here hx rfl (hb hby d13_72) rfl (XS.icmpNo X0.here hx rfl (hb hby d13_74) rfl (tlt (by decide : (5 : Int32) < (7 : Int32))).2.1 (XS.aloadN X0.here hx rfl (hb hby d13_77) rfl rfl k)))))) ?_
            show own_Go p e below s _ _ _ (T.setTop (mkF m 78 #[rv t, iv (0 : Int32), rv wspv, iv (0 : Int32), iv (7 : Int32), iv (5 : Int32), .unset, .unset] [(.ref t)]))
            refine own_go (fun _ k => XS.iloadN X0.here hx rfl (hb hby d13_78) rfl (XS.iload X0.here hx rfl (hb hby d13_79) rfl (XS.iadd X0.here hx rfl (hb hby d13_81) rfl k))) ?_
            obtain ⟨cl16, Ar16, -, S16, -, P16, -⟩ := id (fp0.keep K0 nin0)
            have hin16 : ¬ ((5 : Int32) < 0 ∨ cl16.slots.size ≤ ((5 : Int32)).toNatClampNeg) := inb_of S16 ⟨by decide, by decide⟩
            refine own_go (X0.baloadBytes hx (j := (5 : Int32)) (v := (.int x5)) (by rw [e0]; exact Ar16.1) (State.isArrayOf_alike hZ.alike Ar16.2.1) Ar16.2.2 hin16 (P16.at hin16 rfl) (g := (mkF m 82 #[rv t, iv (0 : Int32), rv wspv, iv (0 : Int32), iv (7 : Int32), iv (5 : Int32), .unset, .unset] [(.int (5 : Int32)), (.ref t)])) rfl rfl (hb hby d13_82)) ?_
            refine own_go (fun _ k => XS.aloadN X0.here hx rfl (hb hby d13_83) rfl rfl (XS.iloadN X0.here hx rfl (hb hby d13_84) rfl k)) ?_
            show own_Go p e below s _ _ _ (T.setTop (mkF m 85 #[rv t, iv (0 : Int32), rv wspv, iv (0 : Int32), iv (7 : Int32), iv (5 : Int32), .unset, .unset] [(.int (0 : Int32)), (.ref wspv), (.int x5)]))
            refine own_go (fun _ k => XS.iload X0.here hx rfl (hb hby d13_85) rfl (XS.iadd X0.here hx rfl (hb hby d13_87) rfl k)) ?_
            obtain ⟨cl17, Ar17, -, S17, -, P17, -⟩ := id (oSPV.ext O0)
            have hin17 : ¬ ((5 : Int32) < 0 ∨ cl17.slots.size ≤ ((5 : Int32)).toNatClampNeg) := inb_of S17 ⟨by decide, by decide⟩
            refine own_go (X0.baloadBytes hx (j := (5 : Int32)) (v := (.int (100 : Int32))) (by rw [e0]; exact Ar17.1) (State.isArrayOf_alike hZ.alike Ar17.2.1) Ar17.2.2 hin17 (P17.at hin17 rfl) (g := (mkF m 88 #[rv t, iv (0 : Int32), rv wspv, iv (0 : Int32), iv (7 : Int32), iv (5 : Int32), .unset, .unset] [(.int (5 : Int32)), (.ref wspv), (.int x5)])) rfl rfl (hb hby d13_88)) ?_
            by_cases hc18 : x5 = (100 : Int32)
            · refine own_go (fun _ k => XS.icmpYes X0.here hx rfl (pc0 := 89) (pc' := 95) rfl (hb hby d13_89) rfl (teq hc18).1 (by decide) (by decide) k) ?_
              show own_Go p e below s _ _ _ (T.setTop (mkF m 95 #[rv t, iv (0 : Int32), rv wspv, iv (0 : Int32), iv (7 : Int32), iv (5 : Int32), .unset, .unset] []))
              refine own_go (fun _ k => XS.iinc X0.here hx rfl (hb hby d13_95) rfl (l' := #[rv t, iv (0 : Int32), rv wspv, iv (0 : Int32), iv (7 : Int32), iv (6 : Int32), .unset, .unset]) rfl (XS.goto X0.here hx rfl (pc0 := 98) (pc' := 70) rfl (hb hby d13_98) (by decide) (by decide) (XS.iload X0.here hx rfl (hb hby d13_70) rfl (XS.iload X0.here hx rfl (hb hby d13_72) rfl (XS.icmpNo X0.here hx rfl (hb hby d13_74) rfl (tlt (by decide : (6 : Int32) < (7 : Int32))).2.1 (XS.aloadN X0.here hx rfl (hb hby d13_77) rfl rfl k)))))) ?_
              show own_Go p e below s _ _ _ (T.setTop (mkF m 78 #[rv t, iv (0 : Int32), rv wspv, iv (0 : Int32), iv (7 : Int32), iv (6 : Int32), .unset, .unset] [(.ref t)]))
              refine own_go (fun _ k => XS.iloadN X0.here hx rfl (hb hby d13_78) rfl (XS.iload X0.here hx rfl (hb hby d13_79) rfl (XS.iadd X0.here hx rfl (hb hby d13_81) rfl k))) ?_
              obtain ⟨cl19, Ar19, -, S19, -, P19, -⟩ := id (fp0.keep K0 nin0)
              have hin19 : ¬ ((6 : Int32) < 0 ∨ cl19.slots.size ≤ ((6 : Int32)).toNatClampNeg) := inb_of S19 ⟨by decide, by decide⟩
              refine own_go (X0.baloadBytes hx (j := (6 : Int32)) (v := (.int x6)) (by rw [e0]; exact Ar19.1) (State.isArrayOf_alike hZ.alike Ar19.2.1) Ar19.2.2 hin19 (P19.at hin19 rfl) (g := (mkF m 82 #[rv t, iv (0 : Int32), rv wspv, iv (0 : Int32), iv (7 : Int32), iv (6 : Int32), .unset, .unset] [(.int (6 : Int32)), (.ref t)])) rfl rfl (hb hby d13_82)) ?_
              refine own_go (fun _ k => XS.aloadN X0.here hx rfl (hb hby d13_83) rfl rfl (XS.iloadN X0.here hx rfl (hb hby d13_84) rfl k)) ?_
              show own_Go p e below s _ _ _ (T.setTop (mkF m 85 #[rv t, iv (0 : Int32), rv wspv, iv (0 : Int32), iv (7 : Int32), iv (6 : Int32), .unset, .unset] [(.int (0 : Int32)), (.ref wspv), (.int x6)]))
              refine own_go (fun _ k => XS.iload X0.here hx rfl (hb hby d13_85) rfl (XS.iadd X0.here hx rfl (hb hby d13_87) rfl k)) ?_
              obtain ⟨cl20, Ar20, -, S20, -, P20, -⟩ := id (oSPV.ext O0)
              have hin20 : ¬ ((6 : Int32) < 0 ∨ cl20.slots.size ≤ ((6 : Int32)).toNatClampNeg) := inb_of S20 ⟨by decide, by decide⟩
              refine own_go (X0.baloadBytes hx (j := (6 : Int32)) (v := (.int (45 : Int32))) (by rw [e0]; exact Ar20.1) (State.isArrayOf_alike hZ.alike Ar20.2.1) Ar20.2.2 hin20 (P20.at hin20 rfl) (g := (mkF m 88 #[rv t, iv (0 : Int32), rv wspv, iv (0 : Int32), iv (7 : Int32), iv (6 : Int32), .unset, .unset] [(.int (6 : Int32)), (.ref wspv), (.int x6)])) rfl rfl (hb hby d13_88)) ?_
              by_cases hc21 : x6 = (45 : Int32)
              · refine own_go (fun _ k => XS.icmpYes X0.here hx rfl (pc0 := 89) (pc' := 95) rfl (hb hby d13_89) rfl (teq hc21).1 (by decide) (by decide) k) ?_
                show own_Go p e below s _ _ _ (T.setTop (mkF m 95 #[rv t, iv (0 : Int32), rv wspv, iv (0 : Int32), iv (7 : Int32), iv (6 : Int32), .unset, .unset] []))
                refine own_go (fun _ k => XS.iinc X0.here hx rfl (hb hby d13_95) rfl (l' := #[rv t, iv (0 : Int32), rv wspv, iv (0 : Int32), iv (7 : Int32), iv (7 : Int32), .unset, .unset]) rfl (XS.goto X0.here hx rfl (pc0 := 98) (pc' := 70) rfl (hb hby d13_98) (by decide) (by decide) (XS.iload X0.here hx rfl (hb hby d13_70) rfl (XS.iload X0.here hx rfl (hb hby d13_72) rfl (XS.icmpYes X0.here hx rfl (pc0 := 74) (pc' := 101) rfl (hb hby d13_74) rfl (flt (by decide : ¬ ((7 : Int32) < (7 : Int32)))).2.1 (by decide) (by decide) (XS.iconst X0.here hx rfl (hb hby d13_101) k)))))) ?_
                show own_Go p e below s _ _ _ (T.setTop (mkF m 102 #[rv t, iv (0 : Int32), rv wspv, iv (0 : Int32), iv (7 : Int32), iv (7 : Int32), .unset, .unset] [(.int (-1 : Int32))]))
                refine own_retI X0 hx hlk e0 hret (hb hby d13_102) (by show _ ≤ 0; omega) (by show _ ≤ 0; omega) ?_
                exact Or.inl ⟨rfl, N0, ⟨hc3, hc6, hc9, hc12, hc15, hc18, hc21⟩, rfl⟩
              · refine own_go (fun _ k => XS.icmpNo X0.here hx rfl (hb hby d13_89) rfl (feq hc21).1 k) ?_
                show own_Go p e below s _ _ _ (T.setTop (mkF m 92 #[rv t, iv (0 : Int32), rv wspv, iv (0 : Int32), iv (7 : Int32), iv (6 : Int32), .unset, .unset] []))
                refine own_go (fun _ k => XS.iload X0.here hx rfl (hb hby d13_92) rfl k) ?_
                show own_Go p e below s _ _ _ (T.setTop (mkF m 94 #[rv t, iv (0 : Int32), rv wspv, iv (0 : Int32), iv (7 : Int32), iv (6 : Int32), .unset, .unset] [(.int (6 : Int32))]))
                refine own_retI X0 hx hlk e0 hret (hb hby d13_94) (by show _ ≤ 0; omega) (by show _ ≤ 0; omega) ?_
                exact Or.inr (⟨(6 : Int32), rfl, N0, (fun h7 => hc21 h7.2.2.2.2.2.2), (by decide : ¬ (6 : Int32) < (0 : Int32)), rfl⟩)
            · refine own_go (fun _ k => XS.icmpNo X0.here hx rfl (hb hby d13_89) rfl (feq hc18).1 k) ?_
              show own_Go p e below s _ _ _ (T.setTop (mkF m 92 #[rv t, iv (0 : Int32), rv wspv, iv (0 : Int32), iv (7 : Int32), iv (5 : Int32), .unset, .unset] []))
              refine own_go (fun _ k => XS.iload X0.here hx rfl (hb hby d13_92) rfl k) ?_
              show own_Go p e below s _ _ _ (T.setTop (mkF m 94 #[rv t, iv (0 : Int32), rv wspv, iv (0 : Int32), iv (7 : Int32), iv (5 : Int32), .unset, .unset] [(.int (5 : Int32))]))
              refine own_retI X0 hx hlk e0 hret (hb hby d13_94) (by show _ ≤ 0; omega) (by show _ ≤ 0; omega) ?_
              exact Or.inr (⟨(5 : Int32), rfl, N0, (fun h7 => hc18 h7.2.2.2.2.2.1), (by decide : ¬ (5 : Int32) < (0 : Int32)), rfl⟩)
          · refine own_go (fun _ k => XS.icmpNo X0.here hx rfl (hb hby d13_89) rfl (feq hc15).1 k) ?_
            show own_Go p e below s _ _ _ (T.setTop (mkF m 92 #[rv t, iv (0 : Int32), rv wspv, iv (0 : Int32), iv (7 : Int32), iv (4 : Int32), .unset, .unset] []))
            refine own_go (fun _ k => XS.iload X0.here hx rfl (hb hby d13_92) rfl k) ?_
            show own_Go p e below s _ _ _ (T.setTop (mkF m 94 #[rv t, iv (0 : Int32), rv wspv, iv (0 : Int32), iv (7 : Int32), iv (4 : Int32), .unset, .unset] [(.int (4 : Int32))]))
            refine own_retI X0 hx hlk e0 hret (hb hby d13_94) (by show _ ≤ 0; omega) (by show _ ≤ 0; omega) ?_
            exact Or.inr (⟨(4 : Int32), rfl, N0, (fun h7 => hc15 h7.2.2.2.2.1), (by decide : ¬ (4 : Int32) < (0 : Int32)), rfl⟩)
        · refine own_go (fun _ k => XS.icmpNo X0.here hx rfl (hb hby d13_89) rfl (feq hc12).1 k) ?_
          show own_Go p e below s _ _ _ (T.setTop (mkF m 92 #[rv t, iv (0 : Int32), rv wspv, iv (0 : Int32), iv (7 : Int32), iv (3 : Int32), .unset, .unset] []))
          refine own_go (fun _ k => XS.iload X0.here hx rfl (hb hby d13_92) rfl k) ?_
          show own_Go p e below s _ _ _ (T.setTop (mkF m 94 #[rv t, iv (0 : Int32), rv wspv, iv (0 : Int32), iv (7 : Int32), iv (3 : Int32), .unset, .unset] [(.int (3 : Int32))]))
          refine own_retI X0 hx hlk e0 hret (hb hby d13_94) (by show _ ≤ 0; omega) (by show _ ≤ 0; omega) ?_
          exact Or.inr (⟨(3 : Int32), rfl, N0, (fun h7 => hc12 h7.2.2.2.1), (by decide : ¬ (3 : Int32) < (0 : Int32)), rfl⟩)
      · refine own_go (fun _ k => XS.icmpNo X0.here hx rfl (hb hby d13_89) rfl (feq hc9).1 k) ?_
        show own_Go p e below s _ _ _ (T.setTop (mkF m 92 #[rv t, iv (0 : Int32), rv wspv, iv (0 : Int32), iv (7 : Int32), iv (2 : Int32), .unset, .unset] []))
        refine own_go (fun _ k => XS.iload X0.here hx rfl (hb hby d13_92) rfl k) ?_
        show own_Go p e below s _ _ _ (T.setTop (mkF m 94 #[rv t, iv (0 : Int32), rv wspv, iv (0 : Int32), iv (7 : Int32), iv (2 : Int32), .unset, .unset] [(.int (2 : Int32))]))
        refine own_retI X0 hx hlk e0 hret (hb hby d13_94) (by show _ ≤ 0; omega) (by show _ ≤ 0; omega) ?_
        exact Or.inr (⟨(2 : Int32), rfl, N0, (fun h7 => hc9 h7.2.2.1), (by decide : ¬ (2 : Int32) < (0 : Int32)), rfl⟩)
    · refine own_go (fun _ k => XS.icmpNo X0.here hx rfl (hb hby d13_89) rfl (feq hc6).1 k) ?_
      show own_Go p e below s _ _ _ (T.setTop (mkF m 92 #[rv t, iv (0 : Int32), rv wspv, iv (0 : Int32), iv (7 : Int32), iv (1 : Int32), .unset, .unset] []))
      refine own_go (fun _ k => XS.iload X0.here hx rfl (hb hby d13_92) rfl k) ?_
      show own_Go p e below s _ _ _ (T.setTop (mkF m 94 #[rv t, iv (0 : Int32), rv wspv, iv (0 : Int32), iv (7 : Int32), iv (1 : Int32), .unset, .unset] [(.int (1 : Int32))]))
      refine own_retI X0 hx hlk e0 hret (hb hby d13_94) (by show _ ≤ 0; omega) (by show _ ≤ 0; omega) ?_
      exact Or.inr (⟨(1 : Int32), rfl, N0, (fun h7 => hc6 h7.2.1), (by decide : ¬ (1 : Int32) < (0 : Int32)), rfl⟩)
  · refine own_go (fun _ k => XS.icmpNo X0.here hx rfl (hb hby d13_89) rfl (feq hc3).1 k) ?_
    show own_Go p e below s _ _ _ (T.setTop (mkF m 92 #[rv t, iv (0 : Int32), rv wspv, iv (0 : Int32), iv (7 : Int32), iv (0 : Int32), .unset, .unset] []))
    refine own_go (fun _ k => XS.iload X0.here hx rfl (hb hby d13_92) rfl k) ?_
    show own_Go p e below s _ _ _ (T.setTop (mkF m 94 #[rv t, iv (0 : Int32), rv wspv, iv (0 : Int32), iv (7 : Int32), iv (0 : Int32), .unset, .unset] [(.int (0 : Int32))]))
    refine own_retI X0 hx hlk e0 hret (hb hby d13_94) (by show _ ≤ 0; omega) (by show _ ≤ 0; omega) ?_
    exact Or.inr (⟨(0 : Int32), rfl, N0, (fun h7 => hc3 h7.1), (by decide : ¬ (0 : Int32) < (0 : Int32)), rfl⟩)
theorem d6_19 : decode jdk_42_method_75_code 19 = .ok (.aload_n 0, 1) := by decide +kernel
theorem d6_20 : decode jdk_42_method_75_code 20 = .ok (.getfield 9, 3) := by decide +kernel
theorem d6_23 : decode jdk_42_method_75_code 23 = .ok (.astore_n 3, 1) := by decide +kernel
theorem d6_24 : decode jdk_42_method_75_code 24 = .ok (.aload_n 1, 1) := by decide +kernel
theorem d6_25 : decode jdk_42_method_75_code 25 = .ok (.getfield 9, 3) := by decide +kernel
theorem d6_28 : decode jdk_42_method_75_code 28 = .ok (.astore 4, 2) := by decide +kernel
theorem d6_30 : decode jdk_42_method_75_code 30 = .ok (.iconst 0, 1) := by decide +kernel
theorem d6_31 : decode jdk_42_method_75_code 31 = .ok (.istore 5, 2) := by decide +kernel
theorem d6_33 : decode jdk_42_method_75_code 33 = .ok (.aload 4, 2) := by decide +kernel
theorem d6_35 : decode jdk_42_method_75_code 35 = .ok (.arraylength, 1) := by decide +kernel
theorem d6_36 : decode jdk_42_method_75_code 36 = .ok (.istore 6, 2) := by decide +kernel
theorem d6_38 : decode jdk_42_method_75_code 38 = .ok (.aload_n 0, 1) := by decide +kernel
theorem d6_39 : decode jdk_42_method_75_code 39 = .ok (.invokevirtual 335, 3) := by decide +kernel
theorem d6_42 : decode jdk_42_method_75_code 42 = .ok (.istore 7, 2) := by decide +kernel
theorem d6_44 : decode jdk_42_method_75_code 44 = .ok (.iload 7, 2) := by decide +kernel
theorem d6_46 : decode jdk_42_method_75_code 46 = .ok (.aload_n 1, 1) := by decide +kernel
theorem d6_47 : decode jdk_42_method_75_code 47 = .ok (.invokevirtual 335, 3) := by decide +kernel
theorem d6_50 : decode jdk_42_method_75_code 50 = .ok (.if_icmp .ne 32, 3) := by decide +kernel
theorem d6_53 : decode jdk_42_method_75_code 53 = .ok (.iload 7, 2) := by decide +kernel
theorem d6_55 : decode jdk_42_method_75_code 55 = .ok (.iconst 1, 1) := by decide +kernel
theorem d6_56 : decode jdk_42_method_75_code 56 = .ok (.if_icmp .ne 7, 3) := by decide +kernel
theorem d6_63 : decode jdk_42_method_75_code 63 = .ok (.aload_n 3, 1) := by decide +kernel
theorem d6_64 : decode jdk_42_method_75_code 64 = .ok (.iload_n 2, 1) := by decide +kernel
theorem d6_65 : decode jdk_42_method_75_code 65 = .ok (.aload 4, 2) := by decide +kernel
theorem d6_67 : decode jdk_42_method_75_code 67 = .ok (.iconst 0, 1) := by decide +kernel
theorem d6_68 : decode jdk_42_method_75_code 68 = .ok (.iload 6, 2) := by decide +kernel
theorem d6_70 : decode jdk_42_method_75_code 70 = .ok (.invokestatic 607, 3) := by decide +kernel
theorem d6_73 : decode jdk_42_method_75_code 73 = .ok (.ifCond .ge 7, 3) := by decide +kernel
theorem d6_76 : decode jdk_42_method_75_code 76 = .ok (.iconst 1, 1) := by decide +kernel
theorem d6_77 : decode jdk_42_method_75_code 77 = .ok (.goto 4, 3) := by decide +kernel
theorem d6_80 : decode jdk_42_method_75_code 80 = .ok (.iconst 0, 1) := by decide +kernel
theorem d6_81 : decode jdk_42_method_75_code 81 = .ok (.ireturn, 1) := by decide +kernel
def Q_swi7 (Z : State) (zc : Int32) (wx : Addr) (wy : Addr) (wsp : Addr) (wspv : Addr) (wspk : ClassId) (a1 : Addr) (t : Addr) (kt : ClassId) (x0 : Int32) (x1 : Int32) (x2 : Int32) (x3 : Int32) (x4 : Int32) (x5 : Int32) (x6 : Int32) (h0 : Heap) (v : Option Value) (h : Heap) (L : List Loc) : Prop := (v = some (.int (1 : Int32)) ∧ Fr Z.heap.size L ∧ own_P7 x0 x1 x2 x3 x4 x5 x6 ∧ h = h0) ∨ (v = some (.int (0 : Int32)) ∧ Fr Z.heap.size L ∧ ¬ (own_P7 x0 x1 x2 x3 x4 x5 x6) ∧ h = h0)
theorem ef_swi7 (m : MethodId) (x0 : Addr) (x1 : Addr) : entryFrame m #[(.ref x0), (.ref x1), (.int (0 : Int32))] 8 = mkF m 0 #[rv x0, rv x1, iv (0 : Int32), .unset, .unset, .unset, .unset, .unset] [] := by first | (simp [entryFrame, mkF, argsToLocals, Value.category]; done) | rfl
set_option maxRecDepth 65536 in
set_option maxHeartbeats 40000000 in
theorem rm_swi7 (l : Launch) (Z : State) (a0 : Array Value) (hw : own_W Z a0) {zc : Int32} {wx : Addr} {wy : Addr} {wsp : Addr} {wspv : Addr} {wspk : ClassId} (hO : own_Olds Z zc wx wy wsp wspv wspk) (ws : List Jvm.Cond) (a1 : Addr) (t : Addr) (kt : ClassId) (x0 : Int32) (x1 : Int32) (x2 : Int32) (x3 : Int32) (x4 : Int32) (x5 : Int32) (x6 : Int32) (h0 : Heap) (O0 : Ext Z.heap h0) (fp0 : Exa Z h0 a1 "java/lang/String") (fp1 : Fld Z h0 a1 "java/lang/String" "value" "[B" (.ref t)) (fp2 : Fld Z h0 a1 "java/lang/String" "coder" "B" (.int (0 : Int32))) (fp3 : Arv Z h0 t kt .byte (7 : Int32) [(.int x0), (.int x1), (.int x2), (.int x3), (.int x4), (.int x5), (.int x6)] (.int (0 : Int32))) :
    own_MF l Z h0 own_y5 jdk_42_method_75_code 8 (some .boolean) ({ frames := 2, cells := 0, slots := 0, locals := 27 } : Room) #[(.ref a1), (.ref wsp), (.int (0 : Int32))] (Q_swi7 Z zc wx wy wsp wspv wspk a1 t kt x0 x1 x2 x3 x4 x5 x6 h0) ws := by
  refine own_met (Q := (Q_swi7 Z zc wx wy wsp wspv wspk a1 t kt x0 x1 x2 x3 x4 x5 x6 h0)) _ _ (plainFor_of_name own_pn_0) ?_
  intro p e s m below meth c T X0 hx hby hml hret hlk hZ hown hnm e0
  replace hown : s.vm.findClass "java/lang/String" = some m.cls := hown
  replace hnm : meth.name = "startsWith" := hnm
  have hml : c.maxLocals = 8 := hml
  obtain ⟨oCS, oCz, oEx, oSh, oPF, oSPE, oSPC, oSPF, oSPV⟩ := id hO
  have N0 := Fr.nil Z.heap.size
  have K0 := Keep.refl h0 []
  refine own_go (fun _ k => castTop (ef_swi7 m a1 wsp) k) ?_
  show own_Go p e below s _ _ _ (T.setTop (mkF m 0 #[rv a1, rv wsp, iv (0 : Int32), .unset, .unset, .unset, .unset, .unset] []))
  refine own_go (fun _ k => XS.iloadN X0.here hx rfl (hb hby d6_0) rfl (XS.ifNo X0.here hx rfl (hb hby d6_1) rfl ((if0 _ _).trans (flt (by decide : ¬ ((0 : Int32) < (0 : Int32)))).1) (XS.iloadN X0.here hx rfl (hb hby d6_4) rfl (XS.aloadN X0.here hx rfl (hb hby d6_5) rfl rfl k)))) ?_
  obtain ⟨v1, T1, L1, X1, hQ1, st1⟩ := own_callV (y := own_y3) (z := own_y3) X0 hx hZ hown (ow41 hw) (ow42 hw) (notFace_of_selects (args := #[]) (mvT hZ (ow44 hw))) (ow44 hw) (ow43 hw) (ow4 hw) (ow45 hw) (rm_slen7 l Z a0 hw hO [] a1 t kt x0 x1 x2 x3 x4 x5 x6 h0 O0 (fp0.keep K0) (fp1.keep K0 nin0) (fp2.keep K0 nin0) (fp3.keep K0 nin0)) 1 0 0 (by show _ ≤ 0; omega) (by show _ ≤ 0; omega) e0 (fp0.keep K0) (g := (mkF m 6 #[rv a1, rv wsp, iv (0 : Int32), .unset, .unset, .unset, .unset, .unset] [(.ref a1), (.int (0 : Int32))])) rfl (by rw [hml]; rfl) [] [(.int (0 : Int32))] (lenOf own_pd_2 rfl) rfl rfl (hb hby d6_6)
  obtain ⟨rfl, Nc3, Kc2⟩ := hQ1
  refine own_go st1 ?_
  clear st1 X0 e0
  replace N0 := Fr.app N0 Nc3
  clear Nc3
  refine own_go (fun _ k => XS.aloadN X1.here hx rfl (hb hby d6_9) rfl rfl k) ?_
  show own_Go p e below s _ _ _ (T1.setTop (mkF m 10 #[rv a1, rv wsp, iv (0 : Int32), .unset, .unset, .unset, .unset, .unset] [(.ref wsp), (.int (7 : Int32)), (.int (0 : Int32))]))
  obtain ⟨v4, T4, L4, X4, hQ4, st4⟩ := own_callV (y := own_y3) (z := own_y3) X1 hx hZ hown (ow41 hw) (ow42 hw) (notFace_of_selects (args := #[]) (mvT hZ (ow44 hw))) (ow44 hw) (ow43 hw) (ow4 hw) (ow45 hw) (rm_slen7 l Z a0 hw hO [] wsp wspv wspk (115 : Int32) (104 : Int32) (97 : Int32) (114 : Int32) (101 : Int32) (100 : Int32) (45 : Int32) h0 O0 (oSPE.ext O0) (oSPF.ext O0) (oSPC.ext O0) (oSPV.ext O0)) 2 0 0 (by show _ ≤ 0; omega) (by show _ ≤ 0; omega) Kc2 (oSPE.ext O0) (g := (mkF m 10 #[rv a1, rv wsp, iv (0 : Int32), .unset, .unset, .unset, .unset, .unset] [(.ref wsp), (.int (7 : Int32)), (.int (0 : Int32))])) rfl (by rw [hml]; rfl) [] [(.int (7 : Int32)), (.int (0 : Int32))] (lenOf own_pd_2 rfl) rfl rfl (hb hby d6_10)
  obtain ⟨rfl, Nc6, Kc5⟩ := hQ4
  refine own_go st4 ?_
  clear st4 X1 Kc2
  replace N0 := Fr.app N0 Nc6
  clear Nc6
  refine own_go (fun _ k => XS.isub X4.here hx rfl (hb hby d6_13) rfl (XS.icmpYes X4.here hx rfl (pc0 := 14) (pc' := 19) rfl (hb hby d6_14) rfl (flt (by decide : ¬ ((0 : Int32) < (0 : Int32)))).2.2.2 (by decide) (by decide) (XS.aloadN X4.here hx rfl (hb hby d6_19) rfl rfl k))) ?_
  obtain ⟨T7, X7, e7, st7⟩ := getF X4 hx hZ hown (host := "") (Or.inl (ow21 hw)) Via.refl Kc5 (fp1.keep K0 nin0) (g := (mkF m 20 #[rv a1, rv wsp, iv (0 : Int32), .unset, .unset, .unset, .unset, .unset] [(.ref a1)])) rfl rfl (hb hby d6_20)
  refine own_go st7 ?_
  clear st7 X4 Kc5
  refine own_go (fun _ k => XS.astoreN X7.here hx rfl (hb hby d6_23) rfl rfl (l' := #[rv a1, rv wsp, iv (0 : Int32), rv t, .unset, .unset, .unset, .unset]) rfl k) ?_
  show own_Go p e below s _ _ _ (T7.setTop (mkF m 24 #[rv a1, rv wsp, iv (0 : Int32), rv t, .unset, .unset, .unset, .unset] []))
  refine own_go (fun _ k => XS.aloadN X7.here hx rfl (hb hby d6_24) rfl rfl k) ?_
  obtain ⟨T8, X8, e8, st8⟩ := getF X7 hx hZ hown (host := "") (Or.inl (ow21 hw)) Via.refl e7 (oSPF.ext O0) (g := (mkF m 25 #[rv a1, rv wsp, iv (0 : Int32), rv t, .unset, .unset, .unset, .unset] [(.ref wsp)])) rfl rfl (hb hby d6_25)
  refine own_go st8 ?_
  clear st8 X7 e7
  refine own_go (fun _ k => XS.astore X8.here hx rfl (hb hby d6_28) rfl rfl (l' := #[rv a1, rv wsp, iv (0 : Int32), rv t, rv wspv, .unset, .unset, .unset]) rfl (XS.iconst X8.here hx rfl (hb hby d6_30) (XS.istore X8.here hx rfl (hb hby d6_31) rfl (l' := #[rv a1, rv wsp, iv (0 : Int32), rv t, rv wspv, iv (0 : Int32), .unset, .unset]) rfl (XS.aload X8.here hx rfl (hb hby d6_33) rfl rfl k)))) ?_
  show own_Go p e below s _ _ _ (T8.setTop (mkF m 35 #[rv a1, rv wsp, iv (0 : Int32), rv t, rv wspv, iv (0 : Int32), .unset, .unset] [(.ref wspv)]))
  obtain ⟨cl9, Ar9, -, S9, M9, -, -⟩ := id (oSPV.ext O0)
  refine own_go (X8.arraylength hx (by rw [e8]; exact Ar9.1) (State.isArrayOf_alike hZ.alike Ar9.2.1) (g := (mkF m 35 #[rv a1, rv wsp, iv (0 : Int32), rv t, rv wspv, iv (0 : Int32), .unset, .unset] [(.ref wspv)])) rfl rfl (hb hby d6_35)) ?_
  rw [len_of S9 M9]
  refine own_go (fun _ k => XS.istore X8.here hx rfl (hb hby d6_36) rfl (l' := #[rv a1, rv wsp, iv (0 : Int32), rv t, rv wspv, iv (0 : Int32), iv (7 : Int32), .unset]) rfl (XS.aloadN X8.here hx rfl (hb hby d6_38) rfl rfl k)) ?_
  obtain ⟨v10, T10, L10, X10, hQ10, st10⟩ := own_callV (y := own_y2) (z := own_y2) X8 hx hZ hown (ow46 hw) (ow47 hw) (notFace_of_selects (args := #[]) (mvT hZ (ow49 hw))) (ow49 hw) (ow48 hw) (ow4 hw) (ow50 hw) (rm_scoder l Z a0 hw hO [] a1 h0 O0 (fp2.keep K0 nin0)) 0 0 0 (by show _ ≤ 0; omega) (by show _ ≤ 0; omega) e8 (fp0.keep K0) (g := (mkF m 39 #[rv a1, rv wsp, iv (0 : Int32), rv t, rv wspv, iv (0 : Int32), iv (7 : Int32), .unset] [(.ref a1)])) rfl (by rw [hml]; rfl) [] [] (lenOf own_pd_1 rfl) rfl rfl (hb hby d6_39)
  obtain ⟨rfl, Nc12, Kc11⟩ := hQ10
  refine own_go st10 ?_
  clear st10 X8 e8
  replace N0 := Fr.app N0 Nc12
  clear Nc12
  refine own_go (fun _ k => XS.istore X10.here hx rfl (hb hby d6_42) rfl (l' := #[rv a1, rv wsp, iv (0 : Int32), rv t, rv wspv, iv (0 : Int32), iv (7 : Int32), iv (0 : Int32)]) rfl (XS.iload X10.here hx rfl (hb hby d6_44) rfl k)) ?_
  show own_Go p e below s _ _ _ (T10.setTop (mkF m 46 #[rv a1, rv wsp, iv (0 : Int32), rv t, rv wspv, iv (0 : Int32), iv (7 : Int32), iv (0 : Int32)] [(.int (0 : Int32))]))
  refine own_go (fun _ k => XS.aloadN X10.here hx rfl (hb hby d6_46) rfl rfl k) ?_
  obtain ⟨v13, T13, L13, X13, hQ13, st13⟩ := own_callV (y := own_y2) (z := own_y2) X10 hx hZ hown (ow46 hw) (ow47 hw) (notFace_of_selects (args := #[]) (mvT hZ (ow49 hw))) (ow49 hw) (ow48 hw) (ow4 hw) (ow50 hw) (rm_scoder l Z a0 hw hO [] wsp h0 O0 (oSPC.ext O0)) 1 0 0 (by show _ ≤ 0; omega) (by show _ ≤ 0; omega) Kc11 (oSPE.ext O0) (g := (mkF m 47 #[rv a1, rv wsp, iv (0 : Int32), rv t, rv wspv, iv (0 : Int32), iv (7 : Int32), iv (0 : Int32)] [(.ref wsp), (.int (0 : Int32))])) rfl (by rw [hml]; rfl) [] [(.int (0 : Int32))] (lenOf own_pd_1 rfl) rfl rfl (hb hby d6_47)
  obtain ⟨rfl, Nc15, Kc14⟩ := hQ13
  refine own_go st13 ?_
  clear st13 X10 Kc11
  replace N0 := Fr.app N0 Nc15
  clear Nc15
  refine own_go (fun _ k => XS.icmpNo X13.here hx rfl (hb hby d6_50) rfl (teq (by decide : (0 : Int32) = (0 : Int32))).2 (XS.iload X13.here hx rfl (hb hby d6_53) rfl (XS.iconst X13.here hx rfl (hb hby d6_55) (XS.icmpYes X13.here hx rfl (pc0 := 56) (pc' := 63) rfl (hb hby d6_56) rfl (feq (by decide : ¬ ((0 : Int32) = (1 : Int32)))).2 (by decide) (by decide) k)))) ?_
  show own_Go p e below s _ _ _ (T13.setTop (mkF m 63 #[rv a1, rv wsp, iv (0 : Int32), rv t, rv wspv, iv (0 : Int32), iv (7 : Int32), iv (0 : Int32)] []))
  refine own_go (fun _ k => XS.aloadN X13.here hx rfl (hb hby d6_63) rfl rfl (XS.iloadN X13.here hx rfl (hb hby d6_64) rfl (XS.aload X13.here hx rfl (hb hby d6_65) rfl rfl (XS.iconst X13.here hx rfl (hb hby d6_67) (XS.iload X13.here hx rfl (hb hby d6_68) rfl k))))) ?_
  obtain ⟨v16, T16, L16, X16, hQ16, st16⟩ := own_callS (y := own_y8) X13 hx hZ hown (ow70 hw) (ow71 hw) (ow72 hw) (ow73 hw) (rm_mm7 l Z a0 hw hO [] t kt x0 x1 x2 x3 x4 x5 x6 h0 O0 (fp3.keep K0 nin0)) 0 0 0 (by show _ ≤ 0; omega) (by show _ ≤ 0; omega) Kc14 (g := (mkF m 70 #[rv a1, rv wsp, iv (0 : Int32), rv t, rv wspv, iv (0 : Int32), iv (7 : Int32), iv (0 : Int32)] [(.int (7 : Int32)), (.int (0 : Int32)), (.ref wspv), (.int (0 : Int32)), (.ref t)])) rfl (by rw [hml]; rfl) [(.ref t), (.int (0 : Int32)), (.ref wspv), (.int (0 : Int32)), (.int (7 : Int32))] [] (lenOf own_pd_5 rfl) rfl rfl (hb hby d6_70)
  rcases hQ16 with hQ16 | hQ16
  · obtain ⟨rfl, Nc19, hp17, Kc18⟩ := hQ16
    refine own_go st16 ?_
    clear st16 X13 Kc14
    replace N0 := Fr.app N0 Nc19
    clear Nc19
    show own_Go p e below s _ _ _ (T16.setTop (mkF m 73 #[rv a1, rv wsp, iv (0 : Int32), rv t, rv wspv, iv (0 : Int32), iv (7 : Int32), iv (0 : Int32)] [(.int (-1 : Int32))]))
    refine own_go (fun _ k => XS.ifNo X16.here hx rfl (hb hby d6_73) rfl ((if0 _ _).trans (tlt (by decide : (-1 : Int32) < (0 : Int32))).2.1) (XS.iconst X16.here hx rfl (hb hby d6_76) (XS.goto X16.here hx rfl (pc0 := 77) (pc' := 81) rfl (hb hby d6_77) (by decide) (by decide) k))) ?_
    show own_Go p e below s _ _ _ (T16.setTop (mkF m 81 #[rv a1, rv wsp, iv (0 : Int32), rv t, rv wspv, iv (0 : Int32), iv (7 : Int32), iv (0 : Int32)] [(.int (1 : Int32))]))
    refine own_retN X16 hx hlk Kc18 (t := .boolean) hret (by simp) (hb hby d6_81) (by show _ ≤ 0; omega) (by show _ ≤ 0; omega) ?_
    exact Or.inl ⟨rfl, N0, hp17, rfl⟩
  · obtain ⟨w20, rfl, Nc24, hp21, hp22, Kc23⟩ := hQ16
    refine own_go st16 ?_
    clear st16 X13 Kc14
    replace N0 := Fr.app N0 Nc24
    clear Nc24
    show own_Go p e below s _ _ _ (T16.setTop (mkF m 73 #[rv a1, rv wsp, iv (0 : Int32), rv t, rv wspv, iv (0 : Int32), iv (7 : Int32), iv (0 : Int32)] [(.int w20)]))
    refine own_go (fun _ k => XS.ifYes X16.here hx rfl (pc0 := 73) (pc' := 80) rfl (hb hby d6_73) rfl ((if0 _ _).trans (flt hp22).2.1) (by decide) (by decide) (XS.iconst X16.here hx rfl (hb hby d6_80) k)) ?_
    show own_Go p e below s _ _ _ (T16.setTop (mkF m 81 #[rv a1, rv wsp, iv (0 : Int32), rv t, rv wspv, iv (0 : Int32), iv (7 : Int32), iv (0 : Int32)] [(.int (0 : Int32))]))
    refine own_retN X16 hx hlk Kc23 (t := .boolean) hret (by simp) (hb hby d6_81) (by show _ ≤ 0; omega) (by show _ ≤ 0; omega) ?_
    exact Or.inr (⟨rfl, N0, hp21, rfl⟩)
def Q_sw7 (Z : State) (zc : Int32) (wx : Addr) (wy : Addr) (wsp : Addr) (wspv : Addr) (wspk : ClassId) (a1 : Addr) (t : Addr) (kt : ClassId) (x0 : Int32) (x1 : Int32) (x2 : Int32) (x3 : Int32) (x4 : Int32) (x5 : Int32) (x6 : Int32) (h0 : Heap) (v : Option Value) (h : Heap) (L : List Loc) : Prop := (v = some (.int (1 : Int32)) ∧ Fr Z.heap.size L ∧ own_P7 x0 x1 x2 x3 x4 x5 x6 ∧ h = h0) ∨ (v = some (.int (0 : Int32)) ∧ Fr Z.heap.size L ∧ ¬ (own_P7 x0 x1 x2 x3 x4 x5 x6) ∧ h = h0)
theorem ef_sw7 (m : MethodId) (x0 : Addr) (x1 : Addr) : entryFrame m #[(.ref x0), (.ref x1)] 2 = mkF m 0 #[rv x0, rv x1] [] := by first | (simp [entryFrame, mkF, argsToLocals, Value.category]; done) | rfl
set_option maxRecDepth 65536 in
set_option maxHeartbeats 40000000 in
theorem rm_sw7 (l : Launch) (Z : State) (a0 : Array Value) (hw : own_W Z a0) {zc : Int32} {wx : Addr} {wy : Addr} {wsp : Addr} {wspv : Addr} {wspk : ClassId} (hO : own_Olds Z zc wx wy wsp wspv wspk) (ws : List Jvm.Cond) (a1 : Addr) (t : Addr) (kt : ClassId) (x0 : Int32) (x1 : Int32) (x2 : Int32) (x3 : Int32) (x4 : Int32) (x5 : Int32) (x6 : Int32) (h0 : Heap) (O0 : Ext Z.heap h0) (fp0 : Exa Z h0 a1 "java/lang/String") (fp1 : Fld Z h0 a1 "java/lang/String" "value" "[B" (.ref t)) (fp2 : Fld Z h0 a1 "java/lang/String" "coder" "B" (.int (0 : Int32))) (fp3 : Arv Z h0 t kt .byte (7 : Int32) [(.int x0), (.int x1), (.int x2), (.int x3), (.int x4), (.int x5), (.int x6)] (.int (0 : Int32))) :
    own_MF l Z h0 own_y6 jdk_42_method_76_code 2 (some .boolean) ({ frames := 3, cells := 0, slots := 0, locals := 46 } : Room) #[(.ref a1), (.ref wsp)] (Q_sw7 Z zc wx wy wsp wspv wspk a1 t kt x0 x1 x2 x3 x4 x5 x6 h0) ws := by
  refine own_met (Q := (Q_sw7 Z zc wx wy wsp wspv wspk a1 t kt x0 x1 x2 x3 x4 x5 x6 h0)) _ _ (plainFor_of_name own_pn_0) ?_
  intro p e s m below meth c T X0 hx hby hml hret hlk hZ hown hnm e0
  replace hown : s.vm.findClass "java/lang/String" = some m.cls := hown
  replace hnm : meth.name = "startsWith" := hnm
  have hml : c.maxLocals = 2 := hml
  obtain ⟨oCS, oCz, oEx, oSh, oPF, oSPE, oSPC, oSPF, oSPV⟩ := id hO
  have N0 := Fr.nil Z.heap.size
  have K0 := Keep.refl h0 []
  refine own_go (fun _ k => castTop (ef_sw7 m a1 wsp) k) ?_
  show own_Go p e below s _ _ _ (T.setTop (mkF m 0 #[rv a1, rv wsp] []))
  refine own_go (fun _ k => XS.aloadN X0.here hx rfl (hb hby d5_0) rfl rfl (XS.aloadN X0.here hx rfl (hb hby d5_1) rfl rfl (XS.iconst X0.here hx rfl (hb hby d5_2) k))) ?_
  obtain ⟨v1, T1, L1, X1, hQ1, st1⟩ := own_callV (y := own_y5) (z := own_y5) X0 hx hZ hown (ow36 hw) (ow37 hw) (notFace_of_selects (args := #[]) (mvT hZ (ow39 hw))) (ow39 hw) (ow38 hw) (ow4 hw) (ow40 hw) (rm_swi7 l Z a0 hw hO [] a1 t kt x0 x1 x2 x3 x4 x5 x6 h0 O0 (fp0.keep K0) (fp1.keep K0 nin0) (fp2.keep K0 nin0) (fp3.keep K0 nin0)) 0 0 0 (by show _ ≤ 0; omega) (by show _ ≤ 0; omega) e0 (fp0.keep K0) (g := (mkF m 3 #[rv a1, rv wsp] [(.int (0 : Int32)), (.ref wsp), (.ref a1)])) rfl (by rw [hml]; rfl) [(.ref wsp), (.int (0 : Int32))] [] (lenOf own_pd_3 rfl) rfl rfl (hb hby d5_3)
  rcases hQ1 with hQ1 | hQ1
  · obtain ⟨rfl, Nc4, hp2, Kc3⟩ := hQ1
    refine own_go st1 ?_
    clear st1 X0 e0
    replace N0 := Fr.app N0 Nc4
    clear Nc4
    show own_Go p e below s _ _ _ (T1.setTop (mkF m 6 #[rv a1, rv wsp] [(.int (1 : Int32))]))
    refine own_retN X1 hx hlk Kc3 (t := .boolean) hret (by simp) (hb hby d5_6) (by show _ ≤ 0; omega) (by show _ ≤ 0; omega) ?_
    exact Or.inl ⟨rfl, N0, hp2, rfl⟩
  · obtain ⟨rfl, Nc7, hp5, Kc6⟩ := hQ1
    refine own_go st1 ?_
    clear st1 X0 e0
    replace N0 := Fr.app N0 Nc7
    clear Nc7
    show own_Go p e below s _ _ _ (T1.setTop (mkF m 6 #[rv a1, rv wsp] [(.int (0 : Int32))]))
    refine own_retN X1 hx hlk Kc6 (t := .boolean) hret (by simp) (hb hby d5_6) (by show _ ≤ 0; omega) (by show _ ≤ 0; omega) ?_
    exact Or.inr (⟨rfl, N0, hp5, rfl⟩)
theorem d4_13 : decode prog_5_method_4_code 13 = .ok (.getstatic 7, 3) := by decide +kernel
theorem d4_16 : decode prog_5_method_4_code 16 = .ok (.goto 6, 3) := by decide +kernel
def Q_ofn7 (Z : State) (zc : Int32) (wx : Addr) (wy : Addr) (wsp : Addr) (wspv : Addr) (wspk : ClassId) (a1 : Addr) (t : Addr) (kt : ClassId) (x0 : Int32) (x1 : Int32) (x2 : Int32) (x3 : Int32) (x4 : Int32) (x5 : Int32) (x6 : Int32) (h0 : Heap) (v : Option Value) (h : Heap) (L : List Loc) : Prop := (v = some (.ref wy) ∧ Fr Z.heap.size L ∧ own_P7 x0 x1 x2 x3 x4 x5 x6 ∧ h = h0) ∨ (v = some (.ref wx) ∧ Fr Z.heap.size L ∧ ¬ (own_P7 x0 x1 x2 x3 x4 x5 x6) ∧ h = h0)
theorem ef_ofn7 (m : MethodId) (x0 : Addr) : entryFrame m #[(.ref x0)] 1 = mkF m 0 #[rv x0] [] := by first | (simp [entryFrame, mkF, argsToLocals, Value.category]; done) | rfl
set_option maxRecDepth 65536 in
set_option maxHeartbeats 40000000 in
theorem rm_ofn7 (l : Launch) (Z : State) (a0 : Array Value) (hw : own_W Z a0) {zc : Int32} {wx : Addr} {wy : Addr} {wsp : Addr} {wspv : Addr} {wspk : ClassId} (hO : own_Olds Z zc wx wy wsp wspv wspk) (ws : List Jvm.Cond) (a1 : Addr) (t : Addr) (kt : ClassId) (x0 : Int32) (x1 : Int32) (x2 : Int32) (x3 : Int32) (x4 : Int32) (x5 : Int32) (x6 : Int32) (h0 : Heap) (O0 : Ext Z.heap h0) (fp0 : Exa Z h0 a1 "java/lang/String") (fp1 : Fld Z h0 a1 "java/lang/String" "value" "[B" (.ref t)) (fp2 : Fld Z h0 a1 "java/lang/String" "coder" "B" (.int (0 : Int32))) (fp3 : Arv Z h0 t kt .byte (7 : Int32) [(.int x0), (.int x1), (.int x2), (.int x3), (.int x4), (.int x5), (.int x6)] (.int (0 : Int32))) :
    own_MF l Z h0 own_y7 prog_5_method_4_code 1 (some (.object "com/example/padlock/padlock/lock/Access")) ({ frames := 4, cells := 0, slots := 0, locals := 59 } : Room) #[(.ref a1)] (Q_ofn7 Z zc wx wy wsp wspv wspk a1 t kt x0 x1 x2 x3 x4 x5 x6 h0) ws := by
  refine own_met (Q := (Q_ofn7 Z zc wx wy wsp wspv wspk a1 t kt x0 x1 x2 x3 x4 x5 x6 h0)) _ _ (plainFor_of_name own_pn_2) ?_
  intro p e s m below meth c T X0 hx hby hml hret hlk hZ hown hnm e0
  replace hown : s.vm.findClass "com/example/padlock/padlock/lock/Access" = some m.cls := hown
  replace hnm : meth.name = "ofNode" := hnm
  have hml : c.maxLocals = 1 := hml
  obtain ⟨oCS, oCz, oEx, oSh, oPF, oSPE, oSPC, oSPF, oSPV⟩ := id hO
  have N0 := Fr.nil Z.heap.size
  have K0 := Keep.refl h0 []
  refine own_go (fun _ k => castTop (ef_ofn7 m a1) k) ?_
  show own_Go p e below s _ _ _ (T.setTop (mkF m 0 #[rv a1] []))
  refine own_go (fun _ k => XS.aloadN X0.here hx rfl (hb hby d4_0) rfl rfl k) ?_
  obtain ⟨T1, X1, e1, st1⟩ := getS2 X0 hx hZ hown (host := "") (Or.inl (ow27 hw)) Via.refl e0 (oSh.ext O0) (g := (mkF m 1 #[rv a1] [(.ref a1)])) rfl (hb hby d4_1)
  refine own_go st1 ?_
  clear st1 X0 e0
  obtain ⟨T2, X2, e2, st2⟩ := getF X1 hx hZ hown (host := "") (Or.inl (ow29 hw)) Via.refl e1 (oPF.ext O0) (g := (mkF m 4 #[rv a1] [(.ref wy), (.ref a1)])) rfl rfl (hb hby d4_4)
  refine own_go st2 ?_
  clear st2 X1 e1
  obtain ⟨v3, T3, L3, X3, hQ3, st3⟩ := own_callV (y := own_y6) (z := own_y6) X2 hx hZ hown (ow31 hw) (ow32 hw) (notFace_of_selects (args := #[]) (mvT hZ (ow34 hw))) (ow34 hw) (ow33 hw) (ow4 hw) (ow35 hw) (rm_sw7 l Z a0 hw hO [] a1 t kt x0 x1 x2 x3 x4 x5 x6 h0 O0 (fp0.keep K0) (fp1.keep K0 nin0) (fp2.keep K0 nin0) (fp3.keep K0 nin0)) 0 0 0 (by show _ ≤ 0; omega) (by show _ ≤ 0; omega) e2 (fp0.keep K0) (g := (mkF m 7 #[rv a1] [(.ref wsp), (.ref a1)])) rfl (by rw [hml]; rfl) [(.ref wsp)] [] (lenOf own_pd_4 rfl) rfl rfl (hb hby d4_7)
  rcases hQ3 with hQ3 | hQ3
  · obtain ⟨rfl, Nc6, hp4, Kc5⟩ := hQ3
    refine own_go st3 ?_
    clear st3 X2 e2
    replace N0 := Fr.app N0 Nc6
    clear Nc6
    show own_Go p e below s _ _ _ (T3.setTop (mkF m 10 #[rv a1] [(.int (1 : Int32))]))
    refine own_go (fun _ k => XS.ifNo X3.here hx rfl (hb hby d4_10) rfl ((if0 _ _).trans (feq (by decide : ¬ ((1 : Int32) = (0 : Int32)))).1) k) ?_
    obtain ⟨T7, X7, e7, st7⟩ := getS2 X3 hx hZ hown (host := "") (Or.inl (ow27 hw)) Via.refl Kc5 (oSh.ext O0) (g := (mkF m 13 #[rv a1] [])) rfl (hb hby d4_13)
    refine own_go st7 ?_
    clear st7 X3 Kc5
    refine own_go (fun _ k => XS.goto X7.here hx rfl (pc0 := 16) (pc' := 22) rfl (hb hby d4_16) (by decide) (by decide) k) ?_
    show own_Go p e below s _ _ _ (T7.setTop (mkF m 22 #[rv a1] [(.ref wy)]))
    refine own_retA X7 hx hlk e7 hret rfl rfl (hb hby d4_22) (by show _ ≤ 0; omega) (by show _ ≤ 0; omega) ?_
    exact Or.inl ⟨rfl, N0, hp4, rfl⟩
  · obtain ⟨rfl, Nc10, hp8, Kc9⟩ := hQ3
    refine own_go st3 ?_
    clear st3 X2 e2
    replace N0 := Fr.app N0 Nc10
    clear Nc10
    show own_Go p e below s _ _ _ (T3.setTop (mkF m 10 #[rv a1] [(.int (0 : Int32))]))
    refine own_go (fun _ k => XS.ifYes X3.here hx rfl (pc0 := 10) (pc' := 19) rfl (hb hby d4_10) rfl ((if0 _ _).trans (teq (by decide : (0 : Int32) = (0 : Int32))).1) (by decide) (by decide) k) ?_
    obtain ⟨T11, X11, e11, st11⟩ := getS2 X3 hx hZ hown (host := "") (Or.inl (ow52 hw)) Via.refl Kc9 (oEx.ext O0) (g := (mkF m 19 #[rv a1] [])) rfl (hb hby d4_19)
    refine own_go st11 ?_
    clear st11 X3 Kc9
    show own_Go p e below s _ _ _ (T11.setTop (mkF m 22 #[rv a1] [(.ref wx)]))
    refine own_retA X11 hx hlk e11 hret rfl rfl (hb hby d4_22) (by show _ ≤ 0; omega) (by show _ ≤ 0; omega) ?_
    exact Or.inr (⟨rfl, N0, hp8, rfl⟩)
def Q_mm8 (Z : State) (zc : Int32) (wx : Addr) (wy : Addr) (wsp : Addr) (wspv : Addr) (wspk : ClassId) (t : Addr) (kt : ClassId) (x0 : Int32) (x1 : Int32) (x2 : Int32) (x3 : Int32) (x4 : Int32) (x5 : Int32) (x6 : Int32) (x7 : Int32) (h0 : Heap) (v : Option Value) (h : Heap) (L : List Loc) : Prop := (v = some (.int (-1 : Int32)) ∧ Fr Z.heap.size L ∧ own_P7 x0 x1 x2 x3 x4 x5 x6 ∧ h = h0) ∨ (∃ r : Int32, v = some (.int r) ∧ Fr Z.heap.size L ∧ ¬ (own_P7 x0 x1 x2 x3 x4 x5 x6) ∧ ¬ (r < (0 : Int32)) ∧ h = h0)
theorem ef_mm8 (m : MethodId) (x0 : Addr) (x2 : Addr) : entryFrame m #[(.ref x0), (.int (0 : Int32)), (.ref x2), (.int (0 : Int32)), (.int (7 : Int32))] 8 = mkF m 0 #[rv x0, iv (0 : Int32), rv x2, iv (0 : Int32), iv (7 : Int32), .unset, .unset, .unset] [] := by first | (simp [entryFrame, mkF, argsToLocals, Value.category]; done) | rfl
set_option maxRecDepth 65536 in
set_option maxHeartbeats 40000000 in
theorem rm_mm8 (l : Launch) (Z : State) (a0 : Array Value) (hw : own_W Z a0) {zc : Int32} {wx : Addr} {wy : Addr} {wsp : Addr} {wspv : Addr} {wspk : ClassId} (hO : own_Olds Z zc wx wy wsp wspv wspk) (ws : List Jvm.Cond) (t : Addr) (kt : ClassId) (x0 : Int32) (x1 : Int32) (x2 : Int32) (x3 : Int32) (x4 : Int32) (x5 : Int32) (x6 : Int32) (x7 : Int32) (h0 : Heap) (O0 : Ext Z.heap h0) (fp0 : Arv Z h0 t kt .byte (8 : Int32) [(.int x0), (.int x1), (.int x2), (.int x3), (.int x4), (.int x5), (.int x6), (.int x7)] (.int (0 : Int32))) :
    own_MF l Z h0 own_y8 jdk_48_method_14_code 8 (some .int) ({ frames := 0, cells := 0, slots := 0, locals := 0 } : Room) #[(.ref t), (.int (0 : Int32)), (.ref wspv), (.int (0 : Int32)), (.int (7 : Int32))] (Q_mm8 Z zc wx wy wsp wspv wspk t kt x0 x1 x2 x3 x4 x5 x6 x7 h0) ws := by
  refine own_met (Q := (Q_mm8 Z zc wx wy wsp wspv wspk t kt x0 x1 x2 x3 x4 x5 x6 x7 h0)) _ _ (plainFor_of_name own_pn_3) ?_
  intro p e s m below meth c T X0 hx hby hml hret hlk hZ hown hnm e0
  replace hown : s.vm.findClass "jdk/internal/util/ArraysSupport" = some m.cls := hown
  replace hnm : meth.name = "mismatch" := hnm
  have hml : c.maxLocals = 8 := hml
  obtain ⟨oCS, oCz, oEx, oSh, oPF, oSPE, oSPC, oSPF, oSPV⟩ := id hO
  have N0 := Fr.nil Z.heap.size
  have K0 := Keep.refl h0 []
  refine own_go (fun _ k => castTop (ef_mm8 m t wspv) k) ?_
  show own_Go p e below s _ _ _ (T.setTop (mkF m 0 #[rv t, iv (0 : Int32), rv wspv, iv (0 : Int32), iv (7 : Int32), .unset, .unset, .unset] []))
  refine own_go (fun _ k => XS.iconst X0.here hx rfl (hb hby d13_0) (XS.istore X0.here hx rfl (hb hby d13_1) rfl (l' := #[rv t, iv (0 : Int32), rv wspv, iv (0 : Int32), iv (7 : Int32), iv (0 : Int32), .unset, .unset]) rfl (XS.iload X0.here hx rfl (hb hby d13_3) rfl (XS.bipush X0.here hx rfl (hb hby d13_5) (XS.icmpYes X0.here hx rfl (pc0 := 7) (pc' := 70) rfl (hb hby d13_7) rfl (flt (by decide : ¬ ((7 : Int32) < (7 : Int32)))).2.2.2 (by decide) (by decide) (XS.iload X0.here hx rfl (hb hby d13_70) rfl k)))))) ?_
  show own_Go p e below s _ _ _ (T.setTop (mkF m 72 #[rv t, iv (0 : Int32), rv wspv, iv (0 : Int32), iv (7 : Int32), iv (0 : Int32), .unset, .unset] [(.int (0 : Int32))]))
  refine own_go (fun _ k => XS.iload X0.here hx rfl (hb hby d13_72) rfl (XS.icmpNo X0.here hx rfl (hb hby d13_74) rfl (tlt (by decide : (0 : Int32) < (7 : Int32))).2.1 (XS.aloadN X0.here hx rfl (hb hby d13_77) rfl rfl (XS.iloadN X0.here hx rfl (hb hby d13_78) rfl (XS.iload X0.here hx rfl (hb hby d13_79) rfl (XS.iadd X0.here hx rfl (hb hby d13_81) rfl k)))))) ?_
  show own_Go p e below s _ _ _ (T.setTop (mkF m 82 #[rv t, iv (0 : Int32), rv wspv, iv (0 : Int32), iv (7 : Int32), iv (0 : Int32), .unset, .unset] [(.int (0 : Int32)), (.ref t)]))
  obtain ⟨cl1, Ar1, -, S1, -, P1, -⟩ := id (fp0.keep K0 nin0)
  have hin1 : ¬ ((0 : Int32) < 0 ∨ cl1.slots.size ≤ ((0 : Int32)).toNatClampNeg) := inb_of S1 ⟨by decide, by decide⟩
  refine own_go (X0.baloadBytes hx (j := (0 : Int32)) (v := (.int x0)) (by rw [e0]; exact Ar1.1) (State.isArrayOf_alike hZ.alike Ar1.2.1) Ar1.2.2 hin1 (P1.at hin1 rfl) (g := (mkF m 82 #[rv t, iv (0 : Int32), rv wspv, iv (0 : Int32), iv (7 : Int32), iv (0 : Int32), .unset, .unset] [(.int (0 : Int32)), (.ref t)])) rfl rfl (hb hby d13_82)) ?_
  refine own_go (fun _ k => XS.aloadN X0.here hx rfl (hb hby d13_83) rfl rfl (XS.iloadN X0.here hx rfl (hb hby d13_84) rfl (XS.iload X0.here hx rfl (hb hby d13_85) rfl (XS.iadd X0.here hx rfl (hb hby d13_87) rfl k)))) ?_
  obtain ⟨cl2, Ar2, -, S2, -, P2, -⟩ := id (oSPV.ext O0)
  have hin2 : ¬ ((0 : Int32) < 0 ∨ cl2.slots.size ≤ ((0 : Int32)).toNatClampNeg) := inb_of S2 ⟨by decide, by decide⟩
  refine own_go (X0.baloadBytes hx (j := (0 : Int32)) (v := (.int (115 : Int32))) (by rw [e0]; exact Ar2.1) (State.isArrayOf_alike hZ.alike Ar2.2.1) Ar2.2.2 hin2 (P2.at hin2 rfl) (g := (mkF m 88 #[rv t, iv (0 : Int32), rv wspv, iv (0 : Int32), iv (7 : Int32), iv (0 : Int32), .unset, .unset] [(.int (0 : Int32)), (.ref wspv), (.int x0)])) rfl rfl (hb hby d13_88)) ?_
  show own_Go p e below s _ _ _ (T.setTop (mkF m 89 #[rv t, iv (0 : Int32), rv wspv, iv (0 : Int32), iv (7 : Int32), iv (0 : Int32), .unset, .unset] [(.int (115 : Int32)), (.int x0)]))
  by_cases hc3 : x0 = (115 : Int32)
  · refine own_go (fun _ k => XS.icmpYes X0.here hx rfl (pc0 := 89) (pc' := 95) rfl (hb hby d13_89) rfl (teq hc3).1 (by decide) (by decide) k) ?_
    show own_Go p e below s _ _ _ (T.setTop (mkF m 95 #[rv t, iv (0 : Int32), rv wspv, iv (0 : Int32), iv (7 : Int32), iv (0 : Int32), .unset, .unset] []))
    refine own_go (fun _ k => XS.iinc X0.here hx rfl (hb hby d13_95) rfl (l' := #[rv t, iv (0 : Int32), rv wspv, iv (0 : Int32), iv (7 : Int32), iv (1 : Int32), .unset, .unset]) rfl (XS.goto X0.here hx rfl (pc0 := 98) (pc' := 70) rfl (hb hby d13_98) (by decide) (by decide) (XS.iload X0.here hx rfl (hb hby d13_70) rfl (XS.iload X0.here hx rfl (hb hby d13_72) rfl (XS.icmpNo X0.here hx rfl (hb hby d13_74) rfl (tlt (by decide : (1 : Int32) < (7 : Int32))).2.1 (XS.aloadN X0.here hx rfl (hb hby d13_77) rfl rfl k)))))) ?_
    show own_Go p e below s _ _ _ (T.setTop (mkF m 78 #[rv t, iv (0 : Int32), rv wspv, iv (0 : Int32), iv (7 : Int32), iv (1 : Int32), .unset, .unset] [(.ref t)]))
    refine own_go (fun _ k => XS.iloadN X0.here hx rfl (hb hby d13_78) rfl (XS.iload X0.here hx rfl (hb hby d13_79) rfl (XS.iadd X0.here hx rfl (hb hby d13_81) rfl k))) ?_
    obtain ⟨cl4, Ar4, -, S4, -, P4, -⟩ := id (fp0.keep K0 nin0)
    have hin4 : ¬ ((1 : Int32) < 0 ∨ cl4.slots.size ≤ ((1 : Int32)).toNatClampNeg) := inb_of S4 ⟨by decide, by decide⟩
    refine own_go (X0.baloadBytes hx (j := (1 : Int32)) (v := (.int x1)) (by rw [e0]; exact Ar4.1) (State.isArrayOf_alike hZ.alike Ar4.2.1) Ar4.2.2 hin4 (P4.at hin4 rfl) (g := (mkF m 82 #[rv t, iv (0 : Int32), rv wspv, iv (0 : Int32), iv (7 : Int32), iv (1 : Int32), .unset, .unset] [(.int (1 : Int32)), (.ref t)])) rfl rfl (hb hby d13_82)) ?_
    refine own_go (fun _ k => XS.aloadN X0.here hx rfl (hb hby d13_83) rfl rfl (XS.iloadN X0.here hx rfl (hb hby d13_84) rfl k)) ?_
    show own_Go p e below s _ _ _ (T.setTop (mkF m 85 #[rv t, iv (0 : Int32), rv wspv, iv (0 : Int32), iv (7 : Int32), iv (1 : Int32), .unset, .unset] [(.int (0 : Int32)), (.ref wspv), (.int x1)]))
    refine own_go (fun _ k => XS.iload X0.here hx rfl (hb hby d13_85) rfl (XS.iadd X0.here hx rfl (hb hby d13_87) rfl k)) ?_
    obtain ⟨cl5, Ar5, -, S5, -, P5, -⟩ := id (oSPV.ext O0)
    have hin5 : ¬ ((1 : Int32) < 0 ∨ cl5.slots.size ≤ ((1 : Int32)).toNatClampNeg) := inb_of S5 ⟨by decide, by decide⟩
    refine own_go (X0.baloadBytes hx (j := (1 : Int32)) (v := (.int (104 : Int32))) (by rw [e0]; exact Ar5.1) (State.isArrayOf_alike hZ.alike Ar5.2.1) Ar5.2.2 hin5 (P5.at hin5 rfl) (g := (mkF m 88 #[rv t, iv (0 : Int32), rv wspv, iv (0 : Int32), iv (7 : Int32), iv (1 : Int32), .unset, .unset] [(.int (1 : Int32)), (.ref wspv), (.int x1)])) rfl rfl (hb hby d13_88)) ?_
    by_cases hc6 : x1 = (104 : Int32)
    · refine own_go (fun _ k => XS.icmpYes X0.here hx rfl (pc0 := 89) (pc' := 95) rfl (hb hby d13_89) rfl (teq hc6).1 (by decide) (by decide) k) ?_
      show own_Go p e below s _ _ _ (T.setTop (mkF m 95 #[rv t, iv (0 : Int32), rv wspv, iv (0 : Int32), iv (7 : Int32), iv (1 : Int32), .unset, .unset] []))
      refine own_go (fun _ k => XS.iinc X0.here hx rfl (hb hby d13_95) rfl (l' := #[rv t, iv (0 : Int32), rv wspv, iv (0 : Int32), iv (7 : Int32), iv (2 : Int32), .unset, .unset]) rfl (XS.goto X0.here hx rfl (pc0 := 98) (pc' := 70) rfl (hb hby d13_98) (by decide) (by decide) (XS.iload X0.here hx rfl (hb hby d13_70) rfl (XS.iload X0.here hx rfl (hb hby d13_72) rfl (XS.icmpNo X0.here hx rfl (hb hby d13_74) rfl (tlt (by decide : (2 : Int32) < (7 : Int32))).2.1 (XS.aloadN X0.here hx rfl (hb hby d13_77) rfl rfl k)))))) ?_
      show own_Go p e below s _ _ _ (T.setTop (mkF m 78 #[rv t, iv (0 : Int32), rv wspv, iv (0 : Int32), iv (7 : Int32), iv (2 : Int32), .unset, .unset] [(.ref t)]))
      refine own_go (fun _ k => XS.iloadN X0.here hx rfl (hb hby d13_78) rfl (XS.iload X0.here hx rfl (hb hby d13_79) rfl (XS.iadd X0.here hx rfl (hb hby d13_81) rfl k))) ?_
      obtain ⟨cl7, Ar7, -, S7, -, P7, -⟩ := id (fp0.keep K0 nin0)
      have hin7 : ¬ ((2 : Int32) < 0 ∨ cl7.slots.size ≤ ((2 : Int32)).toNatClampNeg) := inb_of S7 ⟨by decide, by decide⟩
      refine own_go (X0.baloadBytes hx (j := (2 : Int32)) (v := (.int x2)) (by rw [e0]; exact Ar7.1) (State.isArrayOf_alike hZ.alike Ar7.2.1) Ar7.2.2 hin7 (P7.at hin7 rfl) (g := (mkF m 82 #[rv t, iv (0 : Int32), rv wspv, iv (0 : Int32), iv (7 : Int32), iv (2 : Int32), .unset, .unset] [(.int (2 : Int32)), (.ref t)])) rfl rfl (hb hby d13_82)) ?_
      refine own_go (fun _ k => XS.aloadN X0.here hx rfl (hb hby d13_83) rfl rfl (XS.iloadN X0.here hx rfl (hb hby d13_84) rfl k)) ?_
      show own_Go p e below s _ _ _ (T.setTop (mkF m 85 #[rv t, iv (0 : Int32), rv wspv, iv (0 : Int32), iv (7 : Int32), iv (2 : Int32), .unset, .unset] [(.int (0 : Int32)), (.ref wspv), (.int x2)]))
      refine own_go (fun _ k => XS.iload X0.here hx rfl (hb hby d13_85) rfl (XS.iadd X0.here hx rfl (hb hby d13_87) rfl k)) ?_
      obtain ⟨cl8, Ar8, -, S8, -, P8, -⟩ := id (oSPV.ext O0)
      have hin8 : ¬ ((2 : Int32) < 0 ∨ cl8.slots.size ≤ ((2 : Int32)).toNatClampNeg) := inb_of S8 ⟨by decide, by decide⟩
      refine own_go (X0.baloadBytes hx (j := (2 : Int32)) (v := (.int (97 : Int32))) (by rw [e0]; exact Ar8.1) (State.isArrayOf_alike hZ.alike Ar8.2.1) Ar8.2.2 hin8 (P8.at hin8 rfl) (g := (mkF m 88 #[rv t, iv (0 : Int32), rv wspv, iv (0 : Int32), iv (7 : Int32), iv (2 : Int32), .unset, .unset] [(.int (2 : Int32)), (.ref wspv), (.int x2)])) rfl rfl (hb hby d13_88)) ?_
      by_cases hc9 : x2 = (97 : Int32)
      · refine own_go (fun _ k => XS.icmpYes X0.here hx rfl (pc0 := 89) (pc' := 95) rfl (hb hby d13_89) rfl (teq hc9).1 (by decide) (by decide) k) ?_
        show own_Go p e below s _ _ _ (T.setTop (mkF m 95 #[rv t, iv (0 : Int32), rv wspv, iv (0 : Int32), iv (7 : Int32), iv (2 : Int32), .unset, .unset] []))
        refine own_go (fun _ k => XS.iinc X0.here hx rfl (hb hby d13_95) rfl (l' := #[rv t, iv (0 : Int32), rv wspv, iv (0 : Int32), iv (7 : Int32), iv (3 : Int32), .unset, .unset]) rfl (XS.goto X0.here hx rfl (pc0 := 98) (pc' := 70) rfl (hb hby d13_98) (by decide) (by decide) (XS.iload X0.here hx rfl (hb hby d13_70) rfl (XS.iload X0.here hx rfl (hb hby d13_72) rfl (XS.icmpNo X0.here hx rfl (hb hby d13_74) rfl (tlt (by decide : (3 : Int32) < (7 : Int32))).2.1 (XS.aloadN X0.here hx rfl (hb hby d13_77) rfl rfl k)))))) ?_
        show own_Go p e below s _ _ _ (T.setTop (mkF m 78 #[rv t, iv (0 : Int32), rv wspv, iv (0 : Int32), iv (7 : Int32), iv (3 : Int32), .unset, .unset] [(.ref t)]))
        refine own_go (fun _ k => XS.iloadN X0.here hx rfl (hb hby d13_78) rfl (XS.iload X0.here hx rfl (hb hby d13_79) rfl (XS.iadd X0.here hx rfl (hb hby d13_81) rfl k))) ?_
        obtain ⟨cl10, Ar10, -, S10, -, P10, -⟩ := id (fp0.keep K0 nin0)
        have hin10 : ¬ ((3 : Int32) < 0 ∨ cl10.slots.size ≤ ((3 : Int32)).toNatClampNeg) := inb_of S10 ⟨by decide, by decide⟩
        refine own_go (X0.baloadBytes hx (j := (3 : Int32)) (v := (.int x3)) (by rw [e0]; exact Ar10.1) (State.isArrayOf_alike hZ.alike Ar10.2.1) Ar10.2.2 hin10 (P10.at hin10 rfl) (g := (mkF m 82 #[rv t, iv (0 : Int32), rv wspv, iv (0 : Int32), iv (7 : Int32), iv (3 : Int32), .unset, .unset] [(.int (3 : Int32)), (.ref t)])) rfl rfl (hb hby d13_82)) ?_
        refine own_go (fun _ k => XS.aloadN X0.here hx rfl (hb hby d13_83) rfl rfl (XS.iloadN X0.here hx rfl (hb hby d13_84) rfl k)) ?_
        show own_Go p e below s _ _ _ (T.setTop (mkF m 85 #[rv t, iv (0 : Int32), rv wspv, iv (0 : Int32), iv (7 : Int32), iv (3 : Int32), .unset, .unset] [(.int (0 : Int32)), (.ref wspv), (.int x3)]))
        refine own_go (fun _ k => XS.iload X0.here hx rfl (hb hby d13_85) rfl (XS.iadd X0.here hx rfl (hb hby d13_87) rfl k)) ?_
        obtain ⟨cl11, Ar11, -, S11, -, P11, -⟩ := id (oSPV.ext O0)
        have hin11 : ¬ ((3 : Int32) < 0 ∨ cl11.slots.size ≤ ((3 : Int32)).toNatClampNeg) := inb_of S11 ⟨by decide, by decide⟩
        refine own_go (X0.baloadBytes hx (j := (3 : Int32)) (v := (.int (114 : Int32))) (by rw [e0]; exact Ar11.1) (State.isArrayOf_alike hZ.alike Ar11.2.1) Ar11.2.2 hin11 (P11.at hin11 rfl) (g := (mkF m 88 #[rv t, iv (0 : Int32), rv wspv, iv (0 : Int32), iv (7 : Int32), iv (3 : Int32), .unset, .unset] [(.int (3 : Int32)), (.ref wspv), (.int x3)])) rfl rfl (hb hby d13_88)) ?_
        by_cases hc12 : x3 = (114 : Int32)
        · refine own_go (fun _ k => XS.icmpYes X0.here hx rfl (pc0 := 89) (pc' := 95) rfl (hb hby d13_89) rfl (teq hc12).1 (by decide) (by decide) k) ?_
          show own_Go p e below s _ _ _ (T.setTop (mkF m 95 #[rv t, iv (0 : Int32), rv wspv, iv (0 : Int32), iv (7 : Int32), iv (3 : Int32), .unset, .unset] []))
          refine own_go (fun _ k => XS.iinc X0.here hx rfl (hb hby d13_95) rfl (l' := #[rv t, iv (0 : Int32), rv wspv, iv (0 : Int32), iv (7 : Int32), iv (4 : Int32), .unset, .unset]) rfl (XS.goto X0.here hx rfl (pc0 := 98) (pc' := 70) rfl (hb hby d13_98) (by decide) (by decide) (XS.iload X0.here hx rfl (hb hby d13_70) rfl (XS.iload X0.here hx rfl (hb hby d13_72) rfl (XS.icmpNo X0.here hx rfl (hb hby d13_74) rfl (tlt (by decide : (4 : Int32) < (7 : Int32))).2.1 (XS.aloadN X0.here hx rfl (hb hby d13_77) rfl rfl k)))))) ?_
          show own_Go p e below s _ _ _ (T.setTop (mkF m 78 #[rv t, iv (0 : Int32), rv wspv, iv (0 : Int32), iv (7 : Int32), iv (4 : Int32), .unset, .unset] [(.ref t)]))
          refine own_go (fun _ k => XS.iloadN X0.here hx rfl (hb hby d13_78) rfl (XS.iload X0.here hx rfl (hb hby d13_79) rfl (XS.iadd X0.here hx rfl (hb hby d13_81) rfl k))) ?_
          obtain ⟨cl13, Ar13, -, S13, -, P13, -⟩ := id (fp0.keep K0 nin0)
          have hin13 : ¬ ((4 : Int32) < 0 ∨ cl13.slots.size ≤ ((4 : Int32)).toNatClampNeg) := inb_of S13 ⟨by decide, by decide⟩
          refine own_go (X0.baloadBytes hx (j := (4 : Int32)) (v := (.int x4)) (by rw [e0]; exact Ar13.1) (State.isArrayOf_alike hZ.alike Ar13.2.1) Ar13.2.2 hin13 (P13.at hin13 rfl) (g := (mkF m 82 #[rv t, iv (0 : Int32), rv wspv, iv (0 : Int32), iv (7 : Int32), iv (4 : Int32), .unset, .unset] [(.int (4 : Int32)), (.ref t)])) rfl rfl (hb hby d13_82)) ?_
          refine own_go (fun _ k => XS.aloadN X0.here hx rfl (hb hby d13_83) rfl rfl (XS.iloadN X0.here hx rfl (hb hby d13_84) rfl k)) ?_
          show own_Go p e below s _ _ _ (T.setTop (mkF m 85 #[rv t, iv (0 : Int32), rv wspv, iv (0 : Int32), iv (7 : Int32), iv (4 : Int32), .unset, .unset] [(.int (0 : Int32)), (.ref wspv), (.int x4)]))
          refine own_go (fun _ k => XS.iload X0.here hx rfl (hb hby d13_85) rfl (XS.iadd X0.here hx rfl (hb hby d13_87) rfl k)) ?_
          obtain ⟨cl14, Ar14, -, S14, -, P14, -⟩ := id (oSPV.ext O0)
          have hin14 : ¬ ((4 : Int32) < 0 ∨ cl14.slots.size ≤ ((4 : Int32)).toNatClampNeg) := inb_of S14 ⟨by decide, by decide⟩
          refine own_go (X0.baloadBytes hx (j := (4 : Int32)) (v := (.int (101 : Int32))) (by rw [e0]; exact Ar14.1) (State.isArrayOf_alike hZ.alike Ar14.2.1) Ar14.2.2 hin14 (P14.at hin14 rfl) (g := (mkF m 88 #[rv t, iv (0 : Int32), rv wspv, iv (0 : Int32), iv (7 : Int32), iv (4 : Int32), .unset, .unset] [(.int (4 : Int32)), (.ref wspv), (.int x4)])) rfl rfl (hb hby d13_88)) ?_
          by_cases hc15 : x4 = (101 : Int32)
          · refine own_go (fun _ k => XS.icmpYes X0.here hx rfl (pc0 := 89) (pc' := 95) rfl (hb hby d13_89) rfl (teq hc15).1 (by decide) (by decide) k) ?_
            show own_Go p e below s _ _ _ (T.setTop (mkF m 95 #[rv t, iv (0 : Int32), rv wspv, iv (0 : Int32), iv (7 : Int32), iv (4 : Int32), .unset, .unset] []))
            refine own_go (fun _ k => XS.iinc X0.here hx rfl (hb hby d13_95) rfl (l' := #[rv t, iv (0 : Int32), rv wspv, iv (0 : Int32), iv (7 : Int32), iv (5 : Int32), .unset, .unset]) rfl (XS.goto X0.here hx rfl (pc0 := 98) (pc' := 70) rfl (hb hby d13_98) (by decide) (by decide) (XS.iload X0.here hx rfl (hb hby d13_70) rfl (XS.iload X0.here hx rfl (hb hby d13_72) rfl (XS.icmpNo X0.here hx rfl (hb hby d13_74) rfl (tlt (by decide : (5 : Int32) < (7 : Int32))).2.1 (XS.aloadN X0.here hx rfl (hb hby d13_77) rfl rfl k)))))) ?_
            show own_Go p e below s _ _ _ (T.setTop (mkF m 78 #[rv t, iv (0 : Int32), rv wspv, iv (0 : Int32), iv (7 : Int32), iv (5 : Int32), .unset, .unset] [(.ref t)]))
            refine own_go (fun _ k => XS.iloadN X0.here hx rfl (hb hby d13_78) rfl (XS.iload X0.here hx rfl (hb hby d13_79) rfl (XS.iadd X0.here hx rfl (hb hby d13_81) rfl k))) ?_
            obtain ⟨cl16, Ar16, -, S16, -, P16, -⟩ := id (fp0.keep K0 nin0)
            have hin16 : ¬ ((5 : Int32) < 0 ∨ cl16.slots.size ≤ ((5 : Int32)).toNatClampNeg) := inb_of S16 ⟨by decide, by decide⟩
            refine own_go (X0.baloadBytes hx (j := (5 : Int32)) (v := (.int x5)) (by rw [e0]; exact Ar16.1) (State.isArrayOf_alike hZ.alike Ar16.2.1) Ar16.2.2 hin16 (P16.at hin16 rfl) (g := (mkF m 82 #[rv t, iv (0 : Int32), rv wspv, iv (0 : Int32), iv (7 : Int32), iv (5 : Int32), .unset, .unset] [(.int (5 : Int32)), (.ref t)])) rfl rfl (hb hby d13_82)) ?_
            refine own_go (fun _ k => XS.aloadN X0.here hx rfl (hb hby d13_83) rfl rfl (XS.iloadN X0.here hx rfl (hb hby d13_84) rfl k)) ?_
            show own_Go p e below s _ _ _ (T.setTop (mkF m 85 #[rv t, iv (0 : Int32), rv wspv, iv (0 : Int32), iv (7 : Int32), iv (5 : Int32), .unset, .unset] [(.int (0 : Int32)), (.ref wspv), (.int x5)]))
            refine own_go (fun _ k => XS.iload X0.here hx rfl (hb hby d13_85) rfl (XS.iadd X0.here hx rfl (hb hby d13_87) rfl k)) ?_
            obtain ⟨cl17, Ar17, -, S17, -, P17, -⟩ := id (oSPV.ext O0)
            have hin17 : ¬ ((5 : Int32) < 0 ∨ cl17.slots.size ≤ ((5 : Int32)).toNatClampNeg) := inb_of S17 ⟨by decide, by decide⟩
            refine own_go (X0.baloadBytes hx (j := (5 : Int32)) (v := (.int (100 : Int32))) (by rw [e0]; exact Ar17.1) (State.isArrayOf_alike hZ.alike Ar17.2.1) Ar17.2.2 hin17 (P17.at hin17 rfl) (g := (mkF m 88 #[rv t, iv (0 : Int32), rv wspv, iv (0 : Int32), iv (7 : Int32), iv (5 : Int32), .unset, .unset] [(.int (5 : Int32)), (.ref wspv), (.int x5)])) rfl rfl (hb hby d13_88)) ?_
            by_cases hc18 : x5 = (100 : Int32)
            · refine own_go (fun _ k => XS.icmpYes X0.here hx rfl (pc0 := 89) (pc' := 95) rfl (hb hby d13_89) rfl (teq hc18).1 (by decide) (by decide) k) ?_
              show own_Go p e below s _ _ _ (T.setTop (mkF m 95 #[rv t, iv (0 : Int32), rv wspv, iv (0 : Int32), iv (7 : Int32), iv (5 : Int32), .unset, .unset] []))
              refine own_go (fun _ k => XS.iinc X0.here hx rfl (hb hby d13_95) rfl (l' := #[rv t, iv (0 : Int32), rv wspv, iv (0 : Int32), iv (7 : Int32), iv (6 : Int32), .unset, .unset]) rfl (XS.goto X0.here hx rfl (pc0 := 98) (pc' := 70) rfl (hb hby d13_98) (by decide) (by decide) (XS.iload X0.here hx rfl (hb hby d13_70) rfl (XS.iload X0.here hx rfl (hb hby d13_72) rfl (XS.icmpNo X0.here hx rfl (hb hby d13_74) rfl (tlt (by decide : (6 : Int32) < (7 : Int32))).2.1 (XS.aloadN X0.here hx rfl (hb hby d13_77) rfl rfl k)))))) ?_
              show own_Go p e below s _ _ _ (T.setTop (mkF m 78 #[rv t, iv (0 : Int32), rv wspv, iv (0 : Int32), iv (7 : Int32), iv (6 : Int32), .unset, .unset] [(.ref t)]))
              refine own_go (fun _ k => XS.iloadN X0.here hx rfl (hb hby d13_78) rfl (XS.iload X0.here hx rfl (hb hby d13_79) rfl (XS.iadd X0.here hx rfl (hb hby d13_81) rfl k))) ?_
              obtain ⟨cl19, Ar19, -, S19, -, P19, -⟩ := id (fp0.keep K0 nin0)
              have hin19 : ¬ ((6 : Int32) < 0 ∨ cl19.slots.size ≤ ((6 : Int32)).toNatClampNeg) := inb_of S19 ⟨by decide, by decide⟩
              refine own_go (X0.baloadBytes hx (j := (6 : Int32)) (v := (.int x6)) (by rw [e0]; exact Ar19.1) (State.isArrayOf_alike hZ.alike Ar19.2.1) Ar19.2.2 hin19 (P19.at hin19 rfl) (g := (mkF m 82 #[rv t, iv (0 : Int32), rv wspv, iv (0 : Int32), iv (7 : Int32), iv (6 : Int32), .unset, .unset] [(.int (6 : Int32)), (.ref t)])) rfl rfl (hb hby d13_82)) ?_
              refine own_go (fun _ k => XS.aloadN X0.here hx rfl (hb hby d13_83) rfl rfl (XS.iloadN X0.here hx rfl (hb hby d13_84) rfl k)) ?_
              show own_Go p e below s _ _ _ (T.setTop (mkF m 85 #[rv t, iv (0 : Int32), rv wspv, iv (0 : Int32), iv (7 : Int32), iv (6 : Int32), .unset, .unset] [(.int (0 : Int32)), (.ref wspv), (.int x6)]))
              refine own_go (fun _ k => XS.iload X0.here hx rfl (hb hby d13_85) rfl (XS.iadd X0.here hx rfl (hb hby d13_87) rfl k)) ?_
              obtain ⟨cl20, Ar20, -, S20, -, P20, -⟩ := id (oSPV.ext O0)
              have hin20 : ¬ ((6 : Int32) < 0 ∨ cl20.slots.size ≤ ((6 : Int32)).toNatClampNeg) := inb_of S20 ⟨by decide, by decide⟩
              refine own_go (X0.baloadBytes hx (j := (6 : Int32)) (v := (.int (45 : Int32))) (by rw [e0]; exact Ar20.1) (State.isArrayOf_alike hZ.alike Ar20.2.1) Ar20.2.2 hin20 (P20.at hin20 rfl) (g := (mkF m 88 #[rv t, iv (0 : Int32), rv wspv, iv (0 : Int32), iv (7 : Int32), iv (6 : Int32), .unset, .unset] [(.int (6 : Int32)), (.ref wspv), (.int x6)])) rfl rfl (hb hby d13_88)) ?_
              by_cases hc21 : x6 = (45 : Int32)
              · refine own_go (fun _ k => XS.icmpYes X0.here hx rfl (pc0 := 89) (pc' := 95) rfl (hb hby d13_89) rfl (teq hc21).1 (by decide) (by decide) k) ?_
                show own_Go p e below s _ _ _ (T.setTop (mkF m 95 #[rv t, iv (0 : Int32), rv wspv, iv (0 : Int32), iv (7 : Int32), iv (6 : Int32), .unset, .unset] []))
                refine own_go (fun _ k => XS.iinc X0.here hx rfl (hb hby d13_95) rfl (l' := #[rv t, iv (0 : Int32), rv wspv, iv (0 : Int32), iv (7 : Int32), iv (7 : Int32), .unset, .unset]) rfl (XS.goto X0.here hx rfl (pc0 := 98) (pc' := 70) rfl (hb hby d13_98) (by decide) (by decide) (XS.iload X0.here hx rfl (hb hby d13_70) rfl (XS.iload X0.here hx rfl (hb hby d13_72) rfl (XS.icmpYes X0.here hx rfl (pc0 := 74) (pc' := 101) rfl (hb hby d13_74) rfl (flt (by decide : ¬ ((7 : Int32) < (7 : Int32)))).2.1 (by decide) (by decide) (XS.iconst X0.here hx rfl (hb hby d13_101) k)))))) ?_
                show own_Go p e below s _ _ _ (T.setTop (mkF m 102 #[rv t, iv (0 : Int32), rv wspv, iv (0 : Int32), iv (7 : Int32), iv (7 : Int32), .unset, .unset] [(.int (-1 : Int32))]))
                refine own_retI X0 hx hlk e0 hret (hb hby d13_102) (by show _ ≤ 0; omega) (by show _ ≤ 0; omega) ?_
                exact Or.inl ⟨rfl, N0, ⟨hc3, hc6, hc9, hc12, hc15, hc18, hc21⟩, rfl⟩
              · refine own_go (fun _ k => XS.icmpNo X0.here hx rfl (hb hby d13_89) rfl (feq hc21).1 k) ?_
                show own_Go p e below s _ _ _ (T.setTop (mkF m 92 #[rv t, iv (0 : Int32), rv wspv, iv (0 : Int32), iv (7 : Int32), iv (6 : Int32), .unset, .unset] []))
                refine own_go (fun _ k => XS.iload X0.here hx rfl (hb hby d13_92) rfl k) ?_
                show own_Go p e below s _ _ _ (T.setTop (mkF m 94 #[rv t, iv (0 : Int32), rv wspv, iv (0 : Int32), iv (7 : Int32), iv (6 : Int32), .unset, .unset] [(.int (6 : Int32))]))
                refine own_retI X0 hx hlk e0 hret (hb hby d13_94) (by show _ ≤ 0; omega) (by show _ ≤ 0; omega) ?_
                exact Or.inr (⟨(6 : Int32), rfl, N0, (fun h7 => hc21 h7.2.2.2.2.2.2), (by decide : ¬ (6 : Int32) < (0 : Int32)), rfl⟩)
            · refine own_go (fun _ k => XS.icmpNo X0.here hx rfl (hb hby d13_89) rfl (feq hc18).1 k) ?_
              show own_Go p e below s _ _ _ (T.setTop (mkF m 92 #[rv t, iv (0 : Int32), rv wspv, iv (0 : Int32), iv (7 : Int32), iv (5 : Int32), .unset, .unset] []))
              refine own_go (fun _ k => XS.iload X0.here hx rfl (hb hby d13_92) rfl k) ?_
              show own_Go p e below s _ _ _ (T.setTop (mkF m 94 #[rv t, iv (0 : Int32), rv wspv, iv (0 : Int32), iv (7 : Int32), iv (5 : Int32), .unset, .unset] [(.int (5 : Int32))]))
              refine own_retI X0 hx hlk e0 hret (hb hby d13_94) (by show _ ≤ 0; omega) (by show _ ≤ 0; omega) ?_
              exact Or.inr (⟨(5 : Int32), rfl, N0, (fun h7 => hc18 h7.2.2.2.2.2.1), (by decide : ¬ (5 : Int32) < (0 : Int32)), rfl⟩)
          · refine own_go (fun _ k => XS.icmpNo X0.here hx rfl (hb hby d13_89) rfl (feq hc15).1 k) ?_
            show own_Go p e below s _ _ _ (T.setTop (mkF m 92 #[rv t, iv (0 : Int32), rv wspv, iv (0 : Int32), iv (7 : Int32), iv (4 : Int32), .unset, .unset] []))
            refine own_go (fun _ k => XS.iload X0.here hx rfl (hb hby d13_92) rfl k) ?_
            show own_Go p e below s _ _ _ (T.setTop (mkF m 94 #[rv t, iv (0 : Int32), rv wspv, iv (0 : Int32), iv (7 : Int32), iv (4 : Int32), .unset, .unset] [(.int (4 : Int32))]))
            refine own_retI X0 hx hlk e0 hret (hb hby d13_94) (by show _ ≤ 0; omega) (by show _ ≤ 0; omega) ?_
            exact Or.inr (⟨(4 : Int32), rfl, N0, (fun h7 => hc15 h7.2.2.2.2.1), (by decide : ¬ (4 : Int32) < (0 : Int32)), rfl⟩)
        · refine own_go (fun _ k => XS.icmpNo X0.here hx rfl (hb hby d13_89) rfl (feq hc12).1 k) ?_
          show own_Go p e below s _ _ _ (T.setTop (mkF m 92 #[rv t, iv (0 : Int32), rv wspv, iv (0 : Int32), iv (7 : Int32), iv (3 : Int32), .unset, .unset] []))
          refine own_go (fun _ k => XS.iload X0.here hx rfl (hb hby d13_92) rfl k) ?_
          show own_Go p e below s _ _ _ (T.setTop (mkF m 94 #[rv t, iv (0 : Int32), rv wspv, iv (0 : Int32), iv (7 : Int32), iv (3 : Int32), .unset, .unset] [(.int (3 : Int32))]))
          refine own_retI X0 hx hlk e0 hret (hb hby d13_94) (by show _ ≤ 0; omega) (by show _ ≤ 0; omega) ?_
          exact Or.inr (⟨(3 : Int32), rfl, N0, (fun h7 => hc12 h7.2.2.2.1), (by decide : ¬ (3 : Int32) < (0 : Int32)), rfl⟩)
      · refine own_go (fun _ k => XS.icmpNo X0.here hx rfl (hb hby d13_89) rfl (feq hc9).1 k) ?_
        show own_Go p e below s _ _ _ (T.setTop (mkF m 92 #[rv t, iv (0 : Int32), rv wspv, iv (0 : Int32), iv (7 : Int32), iv (2 : Int32), .unset, .unset] []))
        refine own_go (fun _ k => XS.iload X0.here hx rfl (hb hby d13_92) rfl k) ?_
        show own_Go p e below s _ _ _ (T.setTop (mkF m 94 #[rv t, iv (0 : Int32), rv wspv, iv (0 : Int32), iv (7 : Int32), iv (2 : Int32), .unset, .unset] [(.int (2 : Int32))]))
        refine own_retI X0 hx hlk e0 hret (hb hby d13_94) (by show _ ≤ 0; omega) (by show _ ≤ 0; omega) ?_
        exact Or.inr (⟨(2 : Int32), rfl, N0, (fun h7 => hc9 h7.2.2.1), (by decide : ¬ (2 : Int32) < (0 : Int32)), rfl⟩)
    · refine own_go (fun _ k => XS.icmpNo X0.here hx rfl (hb hby d13_89) rfl (feq hc6).1 k) ?_
      show own_Go p e below s _ _ _ (T.setTop (mkF m 92 #[rv t, iv (0 : Int32), rv wspv, iv (0 : Int32), iv (7 : Int32), iv (1 : Int32), .unset, .unset] []))
      refine own_go (fun _ k => XS.iload X0.here hx rfl (hb hby d13_92) rfl k) ?_
      show own_Go p e below s _ _ _ (T.setTop (mkF m 94 #[rv t, iv (0 : Int32), rv wspv, iv (0 : Int32), iv (7 : Int32), iv (1 : Int32), .unset, .unset] [(.int (1 : Int32))]))
      refine own_retI X0 hx hlk e0 hret (hb hby d13_94) (by show _ ≤ 0; omega) (by show _ ≤ 0; omega) ?_
      exact Or.inr (⟨(1 : Int32), rfl, N0, (fun h7 => hc6 h7.2.1), (by decide : ¬ (1 : Int32) < (0 : Int32)), rfl⟩)
  · refine own_go (fun _ k => XS.icmpNo X0.here hx rfl (hb hby d13_89) rfl (feq hc3).1 k) ?_
    show own_Go p e below s _ _ _ (T.setTop (mkF m 92 #[rv t, iv (0 : Int32), rv wspv, iv (0 : Int32), iv (7 : Int32), iv (0 : Int32), .unset, .unset] []))
    refine own_go (fun _ k => XS.iload X0.here hx rfl (hb hby d13_92) rfl k) ?_
    show own_Go p e below s _ _ _ (T.setTop (mkF m 94 #[rv t, iv (0 : Int32), rv wspv, iv (0 : Int32), iv (7 : Int32), iv (0 : Int32), .unset, .unset] [(.int (0 : Int32))]))
    refine own_retI X0 hx hlk e0 hret (hb hby d13_94) (by show _ ≤ 0; omega) (by show _ ≤ 0; omega) ?_
    exact Or.inr (⟨(0 : Int32), rfl, N0, (fun h7 => hc3 h7.1), (by decide : ¬ (0 : Int32) < (0 : Int32)), rfl⟩)
def Q_swi8 (Z : State) (zc : Int32) (wx : Addr) (wy : Addr) (wsp : Addr) (wspv : Addr) (wspk : ClassId) (a1 : Addr) (t : Addr) (kt : ClassId) (x0 : Int32) (x1 : Int32) (x2 : Int32) (x3 : Int32) (x4 : Int32) (x5 : Int32) (x6 : Int32) (x7 : Int32) (h0 : Heap) (v : Option Value) (h : Heap) (L : List Loc) : Prop := (v = some (.int (1 : Int32)) ∧ Fr Z.heap.size L ∧ own_P7 x0 x1 x2 x3 x4 x5 x6 ∧ h = h0) ∨ (v = some (.int (0 : Int32)) ∧ Fr Z.heap.size L ∧ ¬ (own_P7 x0 x1 x2 x3 x4 x5 x6) ∧ h = h0)
theorem ef_swi8 (m : MethodId) (x0 : Addr) (x1 : Addr) : entryFrame m #[(.ref x0), (.ref x1), (.int (0 : Int32))] 8 = mkF m 0 #[rv x0, rv x1, iv (0 : Int32), .unset, .unset, .unset, .unset, .unset] [] := by first | (simp [entryFrame, mkF, argsToLocals, Value.category]; done) | rfl
set_option maxRecDepth 65536 in
set_option maxHeartbeats 40000000 in
theorem rm_swi8 (l : Launch) (Z : State) (a0 : Array Value) (hw : own_W Z a0) {zc : Int32} {wx : Addr} {wy : Addr} {wsp : Addr} {wspv : Addr} {wspk : ClassId} (hO : own_Olds Z zc wx wy wsp wspv wspk) (ws : List Jvm.Cond) (a1 : Addr) (t : Addr) (kt : ClassId) (x0 : Int32) (x1 : Int32) (x2 : Int32) (x3 : Int32) (x4 : Int32) (x5 : Int32) (x6 : Int32) (x7 : Int32) (h0 : Heap) (O0 : Ext Z.heap h0) (fp0 : Exa Z h0 a1 "java/lang/String") (fp1 : Fld Z h0 a1 "java/lang/String" "value" "[B" (.ref t)) (fp2 : Fld Z h0 a1 "java/lang/String" "coder" "B" (.int (0 : Int32))) (fp3 : Arv Z h0 t kt .byte (8 : Int32) [(.int x0), (.int x1), (.int x2), (.int x3), (.int x4), (.int x5), (.int x6), (.int x7)] (.int (0 : Int32))) :
    own_MF l Z h0 own_y5 jdk_42_method_75_code 8 (some .boolean) ({ frames := 2, cells := 0, slots := 0, locals := 27 } : Room) #[(.ref a1), (.ref wsp), (.int (0 : Int32))] (Q_swi8 Z zc wx wy wsp wspv wspk a1 t kt x0 x1 x2 x3 x4 x5 x6 x7 h0) ws := by
  refine own_met (Q := (Q_swi8 Z zc wx wy wsp wspv wspk a1 t kt x0 x1 x2 x3 x4 x5 x6 x7 h0)) _ _ (plainFor_of_name own_pn_0) ?_
  intro p e s m below meth c T X0 hx hby hml hret hlk hZ hown hnm e0
  replace hown : s.vm.findClass "java/lang/String" = some m.cls := hown
  replace hnm : meth.name = "startsWith" := hnm
  have hml : c.maxLocals = 8 := hml
  obtain ⟨oCS, oCz, oEx, oSh, oPF, oSPE, oSPC, oSPF, oSPV⟩ := id hO
  have N0 := Fr.nil Z.heap.size
  have K0 := Keep.refl h0 []
  refine own_go (fun _ k => castTop (ef_swi8 m a1 wsp) k) ?_
  show own_Go p e below s _ _ _ (T.setTop (mkF m 0 #[rv a1, rv wsp, iv (0 : Int32), .unset, .unset, .unset, .unset, .unset] []))
  refine own_go (fun _ k => XS.iloadN X0.here hx rfl (hb hby d6_0) rfl (XS.ifNo X0.here hx rfl (hb hby d6_1) rfl ((if0 _ _).trans (flt (by decide : ¬ ((0 : Int32) < (0 : Int32)))).1) (XS.iloadN X0.here hx rfl (hb hby d6_4) rfl (XS.aloadN X0.here hx rfl (hb hby d6_5) rfl rfl k)))) ?_
  obtain ⟨v1, T1, L1, X1, hQ1, st1⟩ := own_callV (y := own_y3) (z := own_y3) X0 hx hZ hown (ow41 hw) (ow42 hw) (notFace_of_selects (args := #[]) (mvT hZ (ow44 hw))) (ow44 hw) (ow43 hw) (ow4 hw) (ow45 hw) (rm_slen8 l Z a0 hw hO [] a1 t kt x0 x1 x2 x3 x4 x5 x6 x7 h0 O0 (fp0.keep K0) (fp1.keep K0 nin0) (fp2.keep K0 nin0) (fp3.keep K0 nin0)) 1 0 0 (by show _ ≤ 0; omega) (by show _ ≤ 0; omega) e0 (fp0.keep K0) (g := (mkF m 6 #[rv a1, rv wsp, iv (0 : Int32), .unset, .unset, .unset, .unset, .unset] [(.ref a1), (.int (0 : Int32))])) rfl (by rw [hml]; rfl) [] [(.int (0 : Int32))] (lenOf own_pd_2 rfl) rfl rfl (hb hby d6_6)
  obtain ⟨rfl, Nc3, Kc2⟩ := hQ1
  refine own_go st1 ?_
  clear st1 X0 e0
  replace N0 := Fr.app N0 Nc3
  clear Nc3
  refine own_go (fun _ k => XS.aloadN X1.here hx rfl (hb hby d6_9) rfl rfl k) ?_
  show own_Go p e below s _ _ _ (T1.setTop (mkF m 10 #[rv a1, rv wsp, iv (0 : Int32), .unset, .unset, .unset, .unset, .unset] [(.ref wsp), (.int (8 : Int32)), (.int (0 : Int32))]))
  obtain ⟨v4, T4, L4, X4, hQ4, st4⟩ := own_callV (y := own_y3) (z := own_y3) X1 hx hZ hown (ow41 hw) (ow42 hw) (notFace_of_selects (args := #[]) (mvT hZ (ow44 hw))) (ow44 hw) (ow43 hw) (ow4 hw) (ow45 hw) (rm_slen7 l Z a0 hw hO [] wsp wspv wspk (115 : Int32) (104 : Int32) (97 : Int32) (114 : Int32) (101 : Int32) (100 : Int32) (45 : Int32) h0 O0 (oSPE.ext O0) (oSPF.ext O0) (oSPC.ext O0) (oSPV.ext O0)) 2 0 0 (by show _ ≤ 0; omega) (by show _ ≤ 0; omega) Kc2 (oSPE.ext O0) (g := (mkF m 10 #[rv a1, rv wsp, iv (0 : Int32), .unset, .unset, .unset, .unset, .unset] [(.ref wsp), (.int (8 : Int32)), (.int (0 : Int32))])) rfl (by rw [hml]; rfl) [] [(.int (8 : Int32)), (.int (0 : Int32))] (lenOf own_pd_2 rfl) rfl rfl (hb hby d6_10)
  obtain ⟨rfl, Nc6, Kc5⟩ := hQ4
  refine own_go st4 ?_
  clear st4 X1 Kc2
  replace N0 := Fr.app N0 Nc6
  clear Nc6
  refine own_go (fun _ k => XS.isub X4.here hx rfl (hb hby d6_13) rfl (XS.icmpYes X4.here hx rfl (pc0 := 14) (pc' := 19) rfl (hb hby d6_14) rfl (flt (by decide : ¬ ((1 : Int32) < (0 : Int32)))).2.2.2 (by decide) (by decide) (XS.aloadN X4.here hx rfl (hb hby d6_19) rfl rfl k))) ?_
  obtain ⟨T7, X7, e7, st7⟩ := getF X4 hx hZ hown (host := "") (Or.inl (ow21 hw)) Via.refl Kc5 (fp1.keep K0 nin0) (g := (mkF m 20 #[rv a1, rv wsp, iv (0 : Int32), .unset, .unset, .unset, .unset, .unset] [(.ref a1)])) rfl rfl (hb hby d6_20)
  refine own_go st7 ?_
  clear st7 X4 Kc5
  refine own_go (fun _ k => XS.astoreN X7.here hx rfl (hb hby d6_23) rfl rfl (l' := #[rv a1, rv wsp, iv (0 : Int32), rv t, .unset, .unset, .unset, .unset]) rfl k) ?_
  show own_Go p e below s _ _ _ (T7.setTop (mkF m 24 #[rv a1, rv wsp, iv (0 : Int32), rv t, .unset, .unset, .unset, .unset] []))
  refine own_go (fun _ k => XS.aloadN X7.here hx rfl (hb hby d6_24) rfl rfl k) ?_
  obtain ⟨T8, X8, e8, st8⟩ := getF X7 hx hZ hown (host := "") (Or.inl (ow21 hw)) Via.refl e7 (oSPF.ext O0) (g := (mkF m 25 #[rv a1, rv wsp, iv (0 : Int32), rv t, .unset, .unset, .unset, .unset] [(.ref wsp)])) rfl rfl (hb hby d6_25)
  refine own_go st8 ?_
  clear st8 X7 e7
  refine own_go (fun _ k => XS.astore X8.here hx rfl (hb hby d6_28) rfl rfl (l' := #[rv a1, rv wsp, iv (0 : Int32), rv t, rv wspv, .unset, .unset, .unset]) rfl (XS.iconst X8.here hx rfl (hb hby d6_30) (XS.istore X8.here hx rfl (hb hby d6_31) rfl (l' := #[rv a1, rv wsp, iv (0 : Int32), rv t, rv wspv, iv (0 : Int32), .unset, .unset]) rfl (XS.aload X8.here hx rfl (hb hby d6_33) rfl rfl k)))) ?_
  show own_Go p e below s _ _ _ (T8.setTop (mkF m 35 #[rv a1, rv wsp, iv (0 : Int32), rv t, rv wspv, iv (0 : Int32), .unset, .unset] [(.ref wspv)]))
  obtain ⟨cl9, Ar9, -, S9, M9, -, -⟩ := id (oSPV.ext O0)
  refine own_go (X8.arraylength hx (by rw [e8]; exact Ar9.1) (State.isArrayOf_alike hZ.alike Ar9.2.1) (g := (mkF m 35 #[rv a1, rv wsp, iv (0 : Int32), rv t, rv wspv, iv (0 : Int32), .unset, .unset] [(.ref wspv)])) rfl rfl (hb hby d6_35)) ?_
  rw [len_of S9 M9]
  refine own_go (fun _ k => XS.istore X8.here hx rfl (hb hby d6_36) rfl (l' := #[rv a1, rv wsp, iv (0 : Int32), rv t, rv wspv, iv (0 : Int32), iv (7 : Int32), .unset]) rfl (XS.aloadN X8.here hx rfl (hb hby d6_38) rfl rfl k)) ?_
  obtain ⟨v10, T10, L10, X10, hQ10, st10⟩ := own_callV (y := own_y2) (z := own_y2) X8 hx hZ hown (ow46 hw) (ow47 hw) (notFace_of_selects (args := #[]) (mvT hZ (ow49 hw))) (ow49 hw) (ow48 hw) (ow4 hw) (ow50 hw) (rm_scoder l Z a0 hw hO [] a1 h0 O0 (fp2.keep K0 nin0)) 0 0 0 (by show _ ≤ 0; omega) (by show _ ≤ 0; omega) e8 (fp0.keep K0) (g := (mkF m 39 #[rv a1, rv wsp, iv (0 : Int32), rv t, rv wspv, iv (0 : Int32), iv (7 : Int32), .unset] [(.ref a1)])) rfl (by rw [hml]; rfl) [] [] (lenOf own_pd_1 rfl) rfl rfl (hb hby d6_39)
  obtain ⟨rfl, Nc12, Kc11⟩ := hQ10
  refine own_go st10 ?_
  clear st10 X8 e8
  replace N0 := Fr.app N0 Nc12
  clear Nc12
  refine own_go (fun _ k => XS.istore X10.here hx rfl (hb hby d6_42) rfl (l' := #[rv a1, rv wsp, iv (0 : Int32), rv t, rv wspv, iv (0 : Int32), iv (7 : Int32), iv (0 : Int32)]) rfl (XS.iload X10.here hx rfl (hb hby d6_44) rfl k)) ?_
  show own_Go p e below s _ _ _ (T10.setTop (mkF m 46 #[rv a1, rv wsp, iv (0 : Int32), rv t, rv wspv, iv (0 : Int32), iv (7 : Int32), iv (0 : Int32)] [(.int (0 : Int32))]))
  refine own_go (fun _ k => XS.aloadN X10.here hx rfl (hb hby d6_46) rfl rfl k) ?_
  obtain ⟨v13, T13, L13, X13, hQ13, st13⟩ := own_callV (y := own_y2) (z := own_y2) X10 hx hZ hown (ow46 hw) (ow47 hw) (notFace_of_selects (args := #[]) (mvT hZ (ow49 hw))) (ow49 hw) (ow48 hw) (ow4 hw) (ow50 hw) (rm_scoder l Z a0 hw hO [] wsp h0 O0 (oSPC.ext O0)) 1 0 0 (by show _ ≤ 0; omega) (by show _ ≤ 0; omega) Kc11 (oSPE.ext O0) (g := (mkF m 47 #[rv a1, rv wsp, iv (0 : Int32), rv t, rv wspv, iv (0 : Int32), iv (7 : Int32), iv (0 : Int32)] [(.ref wsp), (.int (0 : Int32))])) rfl (by rw [hml]; rfl) [] [(.int (0 : Int32))] (lenOf own_pd_1 rfl) rfl rfl (hb hby d6_47)
  obtain ⟨rfl, Nc15, Kc14⟩ := hQ13
  refine own_go st13 ?_
  clear st13 X10 Kc11
  replace N0 := Fr.app N0 Nc15
  clear Nc15
  refine own_go (fun _ k => XS.icmpNo X13.here hx rfl (hb hby d6_50) rfl (teq (by decide : (0 : Int32) = (0 : Int32))).2 (XS.iload X13.here hx rfl (hb hby d6_53) rfl (XS.iconst X13.here hx rfl (hb hby d6_55) (XS.icmpYes X13.here hx rfl (pc0 := 56) (pc' := 63) rfl (hb hby d6_56) rfl (feq (by decide : ¬ ((0 : Int32) = (1 : Int32)))).2 (by decide) (by decide) k)))) ?_
  show own_Go p e below s _ _ _ (T13.setTop (mkF m 63 #[rv a1, rv wsp, iv (0 : Int32), rv t, rv wspv, iv (0 : Int32), iv (7 : Int32), iv (0 : Int32)] []))
  refine own_go (fun _ k => XS.aloadN X13.here hx rfl (hb hby d6_63) rfl rfl (XS.iloadN X13.here hx rfl (hb hby d6_64) rfl (XS.aload X13.here hx rfl (hb hby d6_65) rfl rfl (XS.iconst X13.here hx rfl (hb hby d6_67) (XS.iload X13.here hx rfl (hb hby d6_68) rfl k))))) ?_
  obtain ⟨v16, T16, L16, X16, hQ16, st16⟩ := own_callS (y := own_y8) X13 hx hZ hown (ow70 hw) (ow71 hw) (ow72 hw) (ow73 hw) (rm_mm8 l Z a0 hw hO [] t kt x0 x1 x2 x3 x4 x5 x6 x7 h0 O0 (fp3.keep K0 nin0)) 0 0 0 (by show _ ≤ 0; omega) (by show _ ≤ 0; omega) Kc14 (g := (mkF m 70 #[rv a1, rv wsp, iv (0 : Int32), rv t, rv wspv, iv (0 : Int32), iv (7 : Int32), iv (0 : Int32)] [(.int (7 : Int32)), (.int (0 : Int32)), (.ref wspv), (.int (0 : Int32)), (.ref t)])) rfl (by rw [hml]; rfl) [(.ref t), (.int (0 : Int32)), (.ref wspv), (.int (0 : Int32)), (.int (7 : Int32))] [] (lenOf own_pd_5 rfl) rfl rfl (hb hby d6_70)
  rcases hQ16 with hQ16 | hQ16
  · obtain ⟨rfl, Nc19, hp17, Kc18⟩ := hQ16
    refine own_go st16 ?_
    clear st16 X13 Kc14
    replace N0 := Fr.app N0 Nc19
    clear Nc19
    show own_Go p e below s _ _ _ (T16.setTop (mkF m 73 #[rv a1, rv wsp, iv (0 : Int32), rv t, rv wspv, iv (0 : Int32), iv (7 : Int32), iv (0 : Int32)] [(.int (-1 : Int32))]))
    refine own_go (fun _ k => XS.ifNo X16.here hx rfl (hb hby d6_73) rfl ((if0 _ _).trans (tlt (by decide : (-1 : Int32) < (0 : Int32))).2.1) (XS.iconst X16.here hx rfl (hb hby d6_76) (XS.goto X16.here hx rfl (pc0 := 77) (pc' := 81) rfl (hb hby d6_77) (by decide) (by decide) k))) ?_
    show own_Go p e below s _ _ _ (T16.setTop (mkF m 81 #[rv a1, rv wsp, iv (0 : Int32), rv t, rv wspv, iv (0 : Int32), iv (7 : Int32), iv (0 : Int32)] [(.int (1 : Int32))]))
    refine own_retN X16 hx hlk Kc18 (t := .boolean) hret (by simp) (hb hby d6_81) (by show _ ≤ 0; omega) (by show _ ≤ 0; omega) ?_
    exact Or.inl ⟨rfl, N0, hp17, rfl⟩
  · obtain ⟨w20, rfl, Nc24, hp21, hp22, Kc23⟩ := hQ16
    refine own_go st16 ?_
    clear st16 X13 Kc14
    replace N0 := Fr.app N0 Nc24
    clear Nc24
    show own_Go p e below s _ _ _ (T16.setTop (mkF m 73 #[rv a1, rv wsp, iv (0 : Int32), rv t, rv wspv, iv (0 : Int32), iv (7 : Int32), iv (0 : Int32)] [(.int w20)]))
    refine own_go (fun _ k => XS.ifYes X16.here hx rfl (pc0 := 73) (pc' := 80) rfl (hb hby d6_73) rfl ((if0 _ _).trans (flt hp22).2.1) (by decide) (by decide) (XS.iconst X16.here hx rfl (hb hby d6_80) k)) ?_
    show own_Go p e below s _ _ _ (T16.setTop (mkF m 81 #[rv a1, rv wsp, iv (0 : Int32), rv t, rv wspv, iv (0 : Int32), iv (7 : Int32), iv (0 : Int32)] [(.int (0 : Int32))]))
    refine own_retN X16 hx hlk Kc23 (t := .boolean) hret (by simp) (hb hby d6_81) (by show _ ≤ 0; omega) (by show _ ≤ 0; omega) ?_
    exact Or.inr (⟨rfl, N0, hp21, rfl⟩)
def Q_sw8 (Z : State) (zc : Int32) (wx : Addr) (wy : Addr) (wsp : Addr) (wspv : Addr) (wspk : ClassId) (a1 : Addr) (t : Addr) (kt : ClassId) (x0 : Int32) (x1 : Int32) (x2 : Int32) (x3 : Int32) (x4 : Int32) (x5 : Int32) (x6 : Int32) (x7 : Int32) (h0 : Heap) (v : Option Value) (h : Heap) (L : List Loc) : Prop := (v = some (.int (1 : Int32)) ∧ Fr Z.heap.size L ∧ own_P7 x0 x1 x2 x3 x4 x5 x6 ∧ h = h0) ∨ (v = some (.int (0 : Int32)) ∧ Fr Z.heap.size L ∧ ¬ (own_P7 x0 x1 x2 x3 x4 x5 x6) ∧ h = h0)
theorem ef_sw8 (m : MethodId) (x0 : Addr) (x1 : Addr) : entryFrame m #[(.ref x0), (.ref x1)] 2 = mkF m 0 #[rv x0, rv x1] [] := by first | (simp [entryFrame, mkF, argsToLocals, Value.category]; done) | rfl
set_option maxRecDepth 65536 in
set_option maxHeartbeats 40000000 in
theorem rm_sw8 (l : Launch) (Z : State) (a0 : Array Value) (hw : own_W Z a0) {zc : Int32} {wx : Addr} {wy : Addr} {wsp : Addr} {wspv : Addr} {wspk : ClassId} (hO : own_Olds Z zc wx wy wsp wspv wspk) (ws : List Jvm.Cond) (a1 : Addr) (t : Addr) (kt : ClassId) (x0 : Int32) (x1 : Int32) (x2 : Int32) (x3 : Int32) (x4 : Int32) (x5 : Int32) (x6 : Int32) (x7 : Int32) (h0 : Heap) (O0 : Ext Z.heap h0) (fp0 : Exa Z h0 a1 "java/lang/String") (fp1 : Fld Z h0 a1 "java/lang/String" "value" "[B" (.ref t)) (fp2 : Fld Z h0 a1 "java/lang/String" "coder" "B" (.int (0 : Int32))) (fp3 : Arv Z h0 t kt .byte (8 : Int32) [(.int x0), (.int x1), (.int x2), (.int x3), (.int x4), (.int x5), (.int x6), (.int x7)] (.int (0 : Int32))) :
    own_MF l Z h0 own_y6 jdk_42_method_76_code 2 (some .boolean) ({ frames := 3, cells := 0, slots := 0, locals := 46 } : Room) #[(.ref a1), (.ref wsp)] (Q_sw8 Z zc wx wy wsp wspv wspk a1 t kt x0 x1 x2 x3 x4 x5 x6 x7 h0) ws := by
  refine own_met (Q := (Q_sw8 Z zc wx wy wsp wspv wspk a1 t kt x0 x1 x2 x3 x4 x5 x6 x7 h0)) _ _ (plainFor_of_name own_pn_0) ?_
  intro p e s m below meth c T X0 hx hby hml hret hlk hZ hown hnm e0
  replace hown : s.vm.findClass "java/lang/String" = some m.cls := hown
  replace hnm : meth.name = "startsWith" := hnm
  have hml : c.maxLocals = 2 := hml
  obtain ⟨oCS, oCz, oEx, oSh, oPF, oSPE, oSPC, oSPF, oSPV⟩ := id hO
  have N0 := Fr.nil Z.heap.size
  have K0 := Keep.refl h0 []
  refine own_go (fun _ k => castTop (ef_sw8 m a1 wsp) k) ?_
  show own_Go p e below s _ _ _ (T.setTop (mkF m 0 #[rv a1, rv wsp] []))
  refine own_go (fun _ k => XS.aloadN X0.here hx rfl (hb hby d5_0) rfl rfl (XS.aloadN X0.here hx rfl (hb hby d5_1) rfl rfl (XS.iconst X0.here hx rfl (hb hby d5_2) k))) ?_
  obtain ⟨v1, T1, L1, X1, hQ1, st1⟩ := own_callV (y := own_y5) (z := own_y5) X0 hx hZ hown (ow36 hw) (ow37 hw) (notFace_of_selects (args := #[]) (mvT hZ (ow39 hw))) (ow39 hw) (ow38 hw) (ow4 hw) (ow40 hw) (rm_swi8 l Z a0 hw hO [] a1 t kt x0 x1 x2 x3 x4 x5 x6 x7 h0 O0 (fp0.keep K0) (fp1.keep K0 nin0) (fp2.keep K0 nin0) (fp3.keep K0 nin0)) 0 0 0 (by show _ ≤ 0; omega) (by show _ ≤ 0; omega) e0 (fp0.keep K0) (g := (mkF m 3 #[rv a1, rv wsp] [(.int (0 : Int32)), (.ref wsp), (.ref a1)])) rfl (by rw [hml]; rfl) [(.ref wsp), (.int (0 : Int32))] [] (lenOf own_pd_3 rfl) rfl rfl (hb hby d5_3)
  rcases hQ1 with hQ1 | hQ1
  · obtain ⟨rfl, Nc4, hp2, Kc3⟩ := hQ1
    refine own_go st1 ?_
    clear st1 X0 e0
    replace N0 := Fr.app N0 Nc4
    clear Nc4
    show own_Go p e below s _ _ _ (T1.setTop (mkF m 6 #[rv a1, rv wsp] [(.int (1 : Int32))]))
    refine own_retN X1 hx hlk Kc3 (t := .boolean) hret (by simp) (hb hby d5_6) (by show _ ≤ 0; omega) (by show _ ≤ 0; omega) ?_
    exact Or.inl ⟨rfl, N0, hp2, rfl⟩
  · obtain ⟨rfl, Nc7, hp5, Kc6⟩ := hQ1
    refine own_go st1 ?_
    clear st1 X0 e0
    replace N0 := Fr.app N0 Nc7
    clear Nc7
    show own_Go p e below s _ _ _ (T1.setTop (mkF m 6 #[rv a1, rv wsp] [(.int (0 : Int32))]))
    refine own_retN X1 hx hlk Kc6 (t := .boolean) hret (by simp) (hb hby d5_6) (by show _ ≤ 0; omega) (by show _ ≤ 0; omega) ?_
    exact Or.inr (⟨rfl, N0, hp5, rfl⟩)
def Q_ofn8 (Z : State) (zc : Int32) (wx : Addr) (wy : Addr) (wsp : Addr) (wspv : Addr) (wspk : ClassId) (a1 : Addr) (t : Addr) (kt : ClassId) (x0 : Int32) (x1 : Int32) (x2 : Int32) (x3 : Int32) (x4 : Int32) (x5 : Int32) (x6 : Int32) (x7 : Int32) (h0 : Heap) (v : Option Value) (h : Heap) (L : List Loc) : Prop := (v = some (.ref wy) ∧ Fr Z.heap.size L ∧ own_P7 x0 x1 x2 x3 x4 x5 x6 ∧ h = h0) ∨ (v = some (.ref wx) ∧ Fr Z.heap.size L ∧ ¬ (own_P7 x0 x1 x2 x3 x4 x5 x6) ∧ h = h0)
theorem ef_ofn8 (m : MethodId) (x0 : Addr) : entryFrame m #[(.ref x0)] 1 = mkF m 0 #[rv x0] [] := by first | (simp [entryFrame, mkF, argsToLocals, Value.category]; done) | rfl
set_option maxRecDepth 65536 in
set_option maxHeartbeats 40000000 in
theorem rm_ofn8 (l : Launch) (Z : State) (a0 : Array Value) (hw : own_W Z a0) {zc : Int32} {wx : Addr} {wy : Addr} {wsp : Addr} {wspv : Addr} {wspk : ClassId} (hO : own_Olds Z zc wx wy wsp wspv wspk) (ws : List Jvm.Cond) (a1 : Addr) (t : Addr) (kt : ClassId) (x0 : Int32) (x1 : Int32) (x2 : Int32) (x3 : Int32) (x4 : Int32) (x5 : Int32) (x6 : Int32) (x7 : Int32) (h0 : Heap) (O0 : Ext Z.heap h0) (fp0 : Exa Z h0 a1 "java/lang/String") (fp1 : Fld Z h0 a1 "java/lang/String" "value" "[B" (.ref t)) (fp2 : Fld Z h0 a1 "java/lang/String" "coder" "B" (.int (0 : Int32))) (fp3 : Arv Z h0 t kt .byte (8 : Int32) [(.int x0), (.int x1), (.int x2), (.int x3), (.int x4), (.int x5), (.int x6), (.int x7)] (.int (0 : Int32))) :
    own_MF l Z h0 own_y7 prog_5_method_4_code 1 (some (.object "com/example/padlock/padlock/lock/Access")) ({ frames := 4, cells := 0, slots := 0, locals := 59 } : Room) #[(.ref a1)] (Q_ofn8 Z zc wx wy wsp wspv wspk a1 t kt x0 x1 x2 x3 x4 x5 x6 x7 h0) ws := by
  refine own_met (Q := (Q_ofn8 Z zc wx wy wsp wspv wspk a1 t kt x0 x1 x2 x3 x4 x5 x6 x7 h0)) _ _ (plainFor_of_name own_pn_2) ?_
  intro p e s m below meth c T X0 hx hby hml hret hlk hZ hown hnm e0
  replace hown : s.vm.findClass "com/example/padlock/padlock/lock/Access" = some m.cls := hown
  replace hnm : meth.name = "ofNode" := hnm
  have hml : c.maxLocals = 1 := hml
  obtain ⟨oCS, oCz, oEx, oSh, oPF, oSPE, oSPC, oSPF, oSPV⟩ := id hO
  have N0 := Fr.nil Z.heap.size
  have K0 := Keep.refl h0 []
  refine own_go (fun _ k => castTop (ef_ofn8 m a1) k) ?_
  show own_Go p e below s _ _ _ (T.setTop (mkF m 0 #[rv a1] []))
  refine own_go (fun _ k => XS.aloadN X0.here hx rfl (hb hby d4_0) rfl rfl k) ?_
  obtain ⟨T1, X1, e1, st1⟩ := getS2 X0 hx hZ hown (host := "") (Or.inl (ow27 hw)) Via.refl e0 (oSh.ext O0) (g := (mkF m 1 #[rv a1] [(.ref a1)])) rfl (hb hby d4_1)
  refine own_go st1 ?_
  clear st1 X0 e0
  obtain ⟨T2, X2, e2, st2⟩ := getF X1 hx hZ hown (host := "") (Or.inl (ow29 hw)) Via.refl e1 (oPF.ext O0) (g := (mkF m 4 #[rv a1] [(.ref wy), (.ref a1)])) rfl rfl (hb hby d4_4)
  refine own_go st2 ?_
  clear st2 X1 e1
  obtain ⟨v3, T3, L3, X3, hQ3, st3⟩ := own_callV (y := own_y6) (z := own_y6) X2 hx hZ hown (ow31 hw) (ow32 hw) (notFace_of_selects (args := #[]) (mvT hZ (ow34 hw))) (ow34 hw) (ow33 hw) (ow4 hw) (ow35 hw) (rm_sw8 l Z a0 hw hO [] a1 t kt x0 x1 x2 x3 x4 x5 x6 x7 h0 O0 (fp0.keep K0) (fp1.keep K0 nin0) (fp2.keep K0 nin0) (fp3.keep K0 nin0)) 0 0 0 (by show _ ≤ 0; omega) (by show _ ≤ 0; omega) e2 (fp0.keep K0) (g := (mkF m 7 #[rv a1] [(.ref wsp), (.ref a1)])) rfl (by rw [hml]; rfl) [(.ref wsp)] [] (lenOf own_pd_4 rfl) rfl rfl (hb hby d4_7)
  rcases hQ3 with hQ3 | hQ3
  · obtain ⟨rfl, Nc6, hp4, Kc5⟩ := hQ3
    refine own_go st3 ?_
    clear st3 X2 e2
    replace N0 := Fr.app N0 Nc6
    clear Nc6
    show own_Go p e below s _ _ _ (T3.setTop (mkF m 10 #[rv a1] [(.int (1 : Int32))]))
    refine own_go (fun _ k => XS.ifNo X3.here hx rfl (hb hby d4_10) rfl ((if0 _ _).trans (feq (by decide : ¬ ((1 : Int32) = (0 : Int32)))).1) k) ?_
    obtain ⟨T7, X7, e7, st7⟩ := getS2 X3 hx hZ hown (host := "") (Or.inl (ow27 hw)) Via.refl Kc5 (oSh.ext O0) (g := (mkF m 13 #[rv a1] [])) rfl (hb hby d4_13)
    refine own_go st7 ?_
    clear st7 X3 Kc5
    refine own_go (fun _ k => XS.goto X7.here hx rfl (pc0 := 16) (pc' := 22) rfl (hb hby d4_16) (by decide) (by decide) k) ?_
    show own_Go p e below s _ _ _ (T7.setTop (mkF m 22 #[rv a1] [(.ref wy)]))
    refine own_retA X7 hx hlk e7 hret rfl rfl (hb hby d4_22) (by show _ ≤ 0; omega) (by show _ ≤ 0; omega) ?_
    exact Or.inl ⟨rfl, N0, hp4, rfl⟩
  · obtain ⟨rfl, Nc10, hp8, Kc9⟩ := hQ3
    refine own_go st3 ?_
    clear st3 X2 e2
    replace N0 := Fr.app N0 Nc10
    clear Nc10
    show own_Go p e below s _ _ _ (T3.setTop (mkF m 10 #[rv a1] [(.int (0 : Int32))]))
    refine own_go (fun _ k => XS.ifYes X3.here hx rfl (pc0 := 10) (pc' := 19) rfl (hb hby d4_10) rfl ((if0 _ _).trans (teq (by decide : (0 : Int32) = (0 : Int32))).1) (by decide) (by decide) k) ?_
    obtain ⟨T11, X11, e11, st11⟩ := getS2 X3 hx hZ hown (host := "") (Or.inl (ow52 hw)) Via.refl Kc9 (oEx.ext O0) (g := (mkF m 19 #[rv a1] [])) rfl (hb hby d4_19)
    refine own_go st11 ?_
    clear st11 X3 Kc9
    show own_Go p e below s _ _ _ (T11.setTop (mkF m 22 #[rv a1] [(.ref wx)]))
    refine own_retA X11 hx hlk e11 hret rfl rfl (hb hby d4_22) (by show _ ≤ 0; omega) (by show _ ≤ 0; omega) ?_
    exact Or.inr (⟨rfl, N0, hp8, rfl⟩)
def Q_mm9 (Z : State) (zc : Int32) (wx : Addr) (wy : Addr) (wsp : Addr) (wspv : Addr) (wspk : ClassId) (t : Addr) (kt : ClassId) (x0 : Int32) (x1 : Int32) (x2 : Int32) (x3 : Int32) (x4 : Int32) (x5 : Int32) (x6 : Int32) (x7 : Int32) (x8 : Int32) (h0 : Heap) (v : Option Value) (h : Heap) (L : List Loc) : Prop := (v = some (.int (-1 : Int32)) ∧ Fr Z.heap.size L ∧ own_P7 x0 x1 x2 x3 x4 x5 x6 ∧ h = h0) ∨ (∃ r : Int32, v = some (.int r) ∧ Fr Z.heap.size L ∧ ¬ (own_P7 x0 x1 x2 x3 x4 x5 x6) ∧ ¬ (r < (0 : Int32)) ∧ h = h0)
theorem ef_mm9 (m : MethodId) (x0 : Addr) (x2 : Addr) : entryFrame m #[(.ref x0), (.int (0 : Int32)), (.ref x2), (.int (0 : Int32)), (.int (7 : Int32))] 8 = mkF m 0 #[rv x0, iv (0 : Int32), rv x2, iv (0 : Int32), iv (7 : Int32), .unset, .unset, .unset] [] := by first | (simp [entryFrame, mkF, argsToLocals, Value.category]; done) | rfl
set_option maxRecDepth 65536 in
set_option maxHeartbeats 40000000 in
theorem rm_mm9 (l : Launch) (Z : State) (a0 : Array Value) (hw : own_W Z a0) {zc : Int32} {wx : Addr} {wy : Addr} {wsp : Addr} {wspv : Addr} {wspk : ClassId} (hO : own_Olds Z zc wx wy wsp wspv wspk) (ws : List Jvm.Cond) (t : Addr) (kt : ClassId) (x0 : Int32) (x1 : Int32) (x2 : Int32) (x3 : Int32) (x4 : Int32) (x5 : Int32) (x6 : Int32) (x7 : Int32) (x8 : Int32) (h0 : Heap) (O0 : Ext Z.heap h0) (fp0 : Arv Z h0 t kt .byte (9 : Int32) [(.int x0), (.int x1), (.int x2), (.int x3), (.int x4), (.int x5), (.int x6), (.int x7), (.int x8)] (.int (0 : Int32))) :
    own_MF l Z h0 own_y8 jdk_48_method_14_code 8 (some .int) ({ frames := 0, cells := 0, slots := 0, locals := 0 } : Room) #[(.ref t), (.int (0 : Int32)), (.ref wspv), (.int (0 : Int32)), (.int (7 : Int32))] (Q_mm9 Z zc wx wy wsp wspv wspk t kt x0 x1 x2 x3 x4 x5 x6 x7 x8 h0) ws := by
  refine own_met (Q := (Q_mm9 Z zc wx wy wsp wspv wspk t kt x0 x1 x2 x3 x4 x5 x6 x7 x8 h0)) _ _ (plainFor_of_name own_pn_3) ?_
  intro p e s m below meth c T X0 hx hby hml hret hlk hZ hown hnm e0
  replace hown : s.vm.findClass "jdk/internal/util/ArraysSupport" = some m.cls := hown
  replace hnm : meth.name = "mismatch" := hnm
  have hml : c.maxLocals = 8 := hml
  obtain ⟨oCS, oCz, oEx, oSh, oPF, oSPE, oSPC, oSPF, oSPV⟩ := id hO
  have N0 := Fr.nil Z.heap.size
  have K0 := Keep.refl h0 []
  refine own_go (fun _ k => castTop (ef_mm9 m t wspv) k) ?_
  show own_Go p e below s _ _ _ (T.setTop (mkF m 0 #[rv t, iv (0 : Int32), rv wspv, iv (0 : Int32), iv (7 : Int32), .unset, .unset, .unset] []))
  refine own_go (fun _ k => XS.iconst X0.here hx rfl (hb hby d13_0) (XS.istore X0.here hx rfl (hb hby d13_1) rfl (l' := #[rv t, iv (0 : Int32), rv wspv, iv (0 : Int32), iv (7 : Int32), iv (0 : Int32), .unset, .unset]) rfl (XS.iload X0.here hx rfl (hb hby d13_3) rfl (XS.bipush X0.here hx rfl (hb hby d13_5) (XS.icmpYes X0.here hx rfl (pc0 := 7) (pc' := 70) rfl (hb hby d13_7) rfl (flt (by decide : ¬ ((7 : Int32) < (7 : Int32)))).2.2.2 (by decide) (by decide) (XS.iload X0.here hx rfl (hb hby d13_70) rfl k)))))) ?_
  show own_Go p e below s _ _ _ (T.setTop (mkF m 72 #[rv t, iv (0 : Int32), rv wspv, iv (0 : Int32), iv (7 : Int32), iv (0 : Int32), .unset, .unset] [(.int (0 : Int32))]))
  refine own_go (fun _ k => XS.iload X0.here hx rfl (hb hby d13_72) rfl (XS.icmpNo X0.here hx rfl (hb hby d13_74) rfl (tlt (by decide : (0 : Int32) < (7 : Int32))).2.1 (XS.aloadN X0.here hx rfl (hb hby d13_77) rfl rfl (XS.iloadN X0.here hx rfl (hb hby d13_78) rfl (XS.iload X0.here hx rfl (hb hby d13_79) rfl (XS.iadd X0.here hx rfl (hb hby d13_81) rfl k)))))) ?_
  show own_Go p e below s _ _ _ (T.setTop (mkF m 82 #[rv t, iv (0 : Int32), rv wspv, iv (0 : Int32), iv (7 : Int32), iv (0 : Int32), .unset, .unset] [(.int (0 : Int32)), (.ref t)]))
  obtain ⟨cl1, Ar1, -, S1, -, P1, -⟩ := id (fp0.keep K0 nin0)
  have hin1 : ¬ ((0 : Int32) < 0 ∨ cl1.slots.size ≤ ((0 : Int32)).toNatClampNeg) := inb_of S1 ⟨by decide, by decide⟩
  refine own_go (X0.baloadBytes hx (j := (0 : Int32)) (v := (.int x0)) (by rw [e0]; exact Ar1.1) (State.isArrayOf_alike hZ.alike Ar1.2.1) Ar1.2.2 hin1 (P1.at hin1 rfl) (g := (mkF m 82 #[rv t, iv (0 : Int32), rv wspv, iv (0 : Int32), iv (7 : Int32), iv (0 : Int32), .unset, .unset] [(.int (0 : Int32)), (.ref t)])) rfl rfl (hb hby d13_82)) ?_
  refine own_go (fun _ k => XS.aloadN X0.here hx rfl (hb hby d13_83) rfl rfl (XS.iloadN X0.here hx rfl (hb hby d13_84) rfl (XS.iload X0.here hx rfl (hb hby d13_85) rfl (XS.iadd X0.here hx rfl (hb hby d13_87) rfl k)))) ?_
  obtain ⟨cl2, Ar2, -, S2, -, P2, -⟩ := id (oSPV.ext O0)
  have hin2 : ¬ ((0 : Int32) < 0 ∨ cl2.slots.size ≤ ((0 : Int32)).toNatClampNeg) := inb_of S2 ⟨by decide, by decide⟩
  refine own_go (X0.baloadBytes hx (j := (0 : Int32)) (v := (.int (115 : Int32))) (by rw [e0]; exact Ar2.1) (State.isArrayOf_alike hZ.alike Ar2.2.1) Ar2.2.2 hin2 (P2.at hin2 rfl) (g := (mkF m 88 #[rv t, iv (0 : Int32), rv wspv, iv (0 : Int32), iv (7 : Int32), iv (0 : Int32), .unset, .unset] [(.int (0 : Int32)), (.ref wspv), (.int x0)])) rfl rfl (hb hby d13_88)) ?_
  show own_Go p e below s _ _ _ (T.setTop (mkF m 89 #[rv t, iv (0 : Int32), rv wspv, iv (0 : Int32), iv (7 : Int32), iv (0 : Int32), .unset, .unset] [(.int (115 : Int32)), (.int x0)]))
  by_cases hc3 : x0 = (115 : Int32)
  · refine own_go (fun _ k => XS.icmpYes X0.here hx rfl (pc0 := 89) (pc' := 95) rfl (hb hby d13_89) rfl (teq hc3).1 (by decide) (by decide) k) ?_
    show own_Go p e below s _ _ _ (T.setTop (mkF m 95 #[rv t, iv (0 : Int32), rv wspv, iv (0 : Int32), iv (7 : Int32), iv (0 : Int32), .unset, .unset] []))
    refine own_go (fun _ k => XS.iinc X0.here hx rfl (hb hby d13_95) rfl (l' := #[rv t, iv (0 : Int32), rv wspv, iv (0 : Int32), iv (7 : Int32), iv (1 : Int32), .unset, .unset]) rfl (XS.goto X0.here hx rfl (pc0 := 98) (pc' := 70) rfl (hb hby d13_98) (by decide) (by decide) (XS.iload X0.here hx rfl (hb hby d13_70) rfl (XS.iload X0.here hx rfl (hb hby d13_72) rfl (XS.icmpNo X0.here hx rfl (hb hby d13_74) rfl (tlt (by decide : (1 : Int32) < (7 : Int32))).2.1 (XS.aloadN X0.here hx rfl (hb hby d13_77) rfl rfl k)))))) ?_
    show own_Go p e below s _ _ _ (T.setTop (mkF m 78 #[rv t, iv (0 : Int32), rv wspv, iv (0 : Int32), iv (7 : Int32), iv (1 : Int32), .unset, .unset] [(.ref t)]))
    refine own_go (fun _ k => XS.iloadN X0.here hx rfl (hb hby d13_78) rfl (XS.iload X0.here hx rfl (hb hby d13_79) rfl (XS.iadd X0.here hx rfl (hb hby d13_81) rfl k))) ?_
    obtain ⟨cl4, Ar4, -, S4, -, P4, -⟩ := id (fp0.keep K0 nin0)
    have hin4 : ¬ ((1 : Int32) < 0 ∨ cl4.slots.size ≤ ((1 : Int32)).toNatClampNeg) := inb_of S4 ⟨by decide, by decide⟩
    refine own_go (X0.baloadBytes hx (j := (1 : Int32)) (v := (.int x1)) (by rw [e0]; exact Ar4.1) (State.isArrayOf_alike hZ.alike Ar4.2.1) Ar4.2.2 hin4 (P4.at hin4 rfl) (g := (mkF m 82 #[rv t, iv (0 : Int32), rv wspv, iv (0 : Int32), iv (7 : Int32), iv (1 : Int32), .unset, .unset] [(.int (1 : Int32)), (.ref t)])) rfl rfl (hb hby d13_82)) ?_
    refine own_go (fun _ k => XS.aloadN X0.here hx rfl (hb hby d13_83) rfl rfl (XS.iloadN X0.here hx rfl (hb hby d13_84) rfl k)) ?_
    show own_Go p e below s _ _ _ (T.setTop (mkF m 85 #[rv t, iv (0 : Int32), rv wspv, iv (0 : Int32), iv (7 : Int32), iv (1 : Int32), .unset, .unset] [(.int (0 : Int32)), (.ref wspv), (.int x1)]))
    refine own_go (fun _ k => XS.iload X0.here hx rfl (hb hby d13_85) rfl (XS.iadd X0.here hx rfl (hb hby d13_87) rfl k)) ?_
    obtain ⟨cl5, Ar5, -, S5, -, P5, -⟩ := id (oSPV.ext O0)
    have hin5 : ¬ ((1 : Int32) < 0 ∨ cl5.slots.size ≤ ((1 : Int32)).toNatClampNeg) := inb_of S5 ⟨by decide, by decide⟩
    refine own_go (X0.baloadBytes hx (j := (1 : Int32)) (v := (.int (104 : Int32))) (by rw [e0]; exact Ar5.1) (State.isArrayOf_alike hZ.alike Ar5.2.1) Ar5.2.2 hin5 (P5.at hin5 rfl) (g := (mkF m 88 #[rv t, iv (0 : Int32), rv wspv, iv (0 : Int32), iv (7 : Int32), iv (1 : Int32), .unset, .unset] [(.int (1 : Int32)), (.ref wspv), (.int x1)])) rfl rfl (hb hby d13_88)) ?_
    by_cases hc6 : x1 = (104 : Int32)
    · refine own_go (fun _ k => XS.icmpYes X0.here hx rfl (pc0 := 89) (pc' := 95) rfl (hb hby d13_89) rfl (teq hc6).1 (by decide) (by decide) k) ?_
      show own_Go p e below s _ _ _ (T.setTop (mkF m 95 #[rv t, iv (0 : Int32), rv wspv, iv (0 : Int32), iv (7 : Int32), iv (1 : Int32), .unset, .unset] []))
      refine own_go (fun _ k => XS.iinc X0.here hx rfl (hb hby d13_95) rfl (l' := #[rv t, iv (0 : Int32), rv wspv, iv (0 : Int32), iv (7 : Int32), iv (2 : Int32), .unset, .unset]) rfl (XS.goto X0.here hx rfl (pc0 := 98) (pc' := 70) rfl (hb hby d13_98) (by decide) (by decide) (XS.iload X0.here hx rfl (hb hby d13_70) rfl (XS.iload X0.here hx rfl (hb hby d13_72) rfl (XS.icmpNo X0.here hx rfl (hb hby d13_74) rfl (tlt (by decide : (2 : Int32) < (7 : Int32))).2.1 (XS.aloadN X0.here hx rfl (hb hby d13_77) rfl rfl k)))))) ?_
      show own_Go p e below s _ _ _ (T.setTop (mkF m 78 #[rv t, iv (0 : Int32), rv wspv, iv (0 : Int32), iv (7 : Int32), iv (2 : Int32), .unset, .unset] [(.ref t)]))
      refine own_go (fun _ k => XS.iloadN X0.here hx rfl (hb hby d13_78) rfl (XS.iload X0.here hx rfl (hb hby d13_79) rfl (XS.iadd X0.here hx rfl (hb hby d13_81) rfl k))) ?_
      obtain ⟨cl7, Ar7, -, S7, -, P7, -⟩ := id (fp0.keep K0 nin0)
      have hin7 : ¬ ((2 : Int32) < 0 ∨ cl7.slots.size ≤ ((2 : Int32)).toNatClampNeg) := inb_of S7 ⟨by decide, by decide⟩
      refine own_go (X0.baloadBytes hx (j := (2 : Int32)) (v := (.int x2)) (by rw [e0]; exact Ar7.1) (State.isArrayOf_alike hZ.alike Ar7.2.1) Ar7.2.2 hin7 (P7.at hin7 rfl) (g := (mkF m 82 #[rv t, iv (0 : Int32), rv wspv, iv (0 : Int32), iv (7 : Int32), iv (2 : Int32), .unset, .unset] [(.int (2 : Int32)), (.ref t)])) rfl rfl (hb hby d13_82)) ?_
      refine own_go (fun _ k => XS.aloadN X0.here hx rfl (hb hby d13_83) rfl rfl (XS.iloadN X0.here hx rfl (hb hby d13_84) rfl k)) ?_
      show own_Go p e below s _ _ _ (T.setTop (mkF m 85 #[rv t, iv (0 : Int32), rv wspv, iv (0 : Int32), iv (7 : Int32), iv (2 : Int32), .unset, .unset] [(.int (0 : Int32)), (.ref wspv), (.int x2)]))
      refine own_go (fun _ k => XS.iload X0.here hx rfl (hb hby d13_85) rfl (XS.iadd X0.here hx rfl (hb hby d13_87) rfl k)) ?_
      obtain ⟨cl8, Ar8, -, S8, -, P8, -⟩ := id (oSPV.ext O0)
      have hin8 : ¬ ((2 : Int32) < 0 ∨ cl8.slots.size ≤ ((2 : Int32)).toNatClampNeg) := inb_of S8 ⟨by decide, by decide⟩
      refine own_go (X0.baloadBytes hx (j := (2 : Int32)) (v := (.int (97 : Int32))) (by rw [e0]; exact Ar8.1) (State.isArrayOf_alike hZ.alike Ar8.2.1) Ar8.2.2 hin8 (P8.at hin8 rfl) (g := (mkF m 88 #[rv t, iv (0 : Int32), rv wspv, iv (0 : Int32), iv (7 : Int32), iv (2 : Int32), .unset, .unset] [(.int (2 : Int32)), (.ref wspv), (.int x2)])) rfl rfl (hb hby d13_88)) ?_
      by_cases hc9 : x2 = (97 : Int32)
      · refine own_go (fun _ k => XS.icmpYes X0.here hx rfl (pc0 := 89) (pc' := 95) rfl (hb hby d13_89) rfl (teq hc9).1 (by decide) (by decide) k) ?_
        show own_Go p e below s _ _ _ (T.setTop (mkF m 95 #[rv t, iv (0 : Int32), rv wspv, iv (0 : Int32), iv (7 : Int32), iv (2 : Int32), .unset, .unset] []))
        refine own_go (fun _ k => XS.iinc X0.here hx rfl (hb hby d13_95) rfl (l' := #[rv t, iv (0 : Int32), rv wspv, iv (0 : Int32), iv (7 : Int32), iv (3 : Int32), .unset, .unset]) rfl (XS.goto X0.here hx rfl (pc0 := 98) (pc' := 70) rfl (hb hby d13_98) (by decide) (by decide) (XS.iload X0.here hx rfl (hb hby d13_70) rfl (XS.iload X0.here hx rfl (hb hby d13_72) rfl (XS.icmpNo X0.here hx rfl (hb hby d13_74) rfl (tlt (by decide : (3 : Int32) < (7 : Int32))).2.1 (XS.aloadN X0.here hx rfl (hb hby d13_77) rfl rfl k)))))) ?_
        show own_Go p e below s _ _ _ (T.setTop (mkF m 78 #[rv t, iv (0 : Int32), rv wspv, iv (0 : Int32), iv (7 : Int32), iv (3 : Int32), .unset, .unset] [(.ref t)]))
        refine own_go (fun _ k => XS.iloadN X0.here hx rfl (hb hby d13_78) rfl (XS.iload X0.here hx rfl (hb hby d13_79) rfl (XS.iadd X0.here hx rfl (hb hby d13_81) rfl k))) ?_
        obtain ⟨cl10, Ar10, -, S10, -, P10, -⟩ := id (fp0.keep K0 nin0)
        have hin10 : ¬ ((3 : Int32) < 0 ∨ cl10.slots.size ≤ ((3 : Int32)).toNatClampNeg) := inb_of S10 ⟨by decide, by decide⟩
        refine own_go (X0.baloadBytes hx (j := (3 : Int32)) (v := (.int x3)) (by rw [e0]; exact Ar10.1) (State.isArrayOf_alike hZ.alike Ar10.2.1) Ar10.2.2 hin10 (P10.at hin10 rfl) (g := (mkF m 82 #[rv t, iv (0 : Int32), rv wspv, iv (0 : Int32), iv (7 : Int32), iv (3 : Int32), .unset, .unset] [(.int (3 : Int32)), (.ref t)])) rfl rfl (hb hby d13_82)) ?_
        refine own_go (fun _ k => XS.aloadN X0.here hx rfl (hb hby d13_83) rfl rfl (XS.iloadN X0.here hx rfl (hb hby d13_84) rfl k)) ?_
        show own_Go p e below s _ _ _ (T.setTop (mkF m 85 #[rv t, iv (0 : Int32), rv wspv, iv (0 : Int32), iv (7 : Int32), iv (3 : Int32), .unset, .unset] [(.int (0 : Int32)), (.ref wspv), (.int x3)]))
        refine own_go (fun _ k => XS.iload X0.here hx rfl (hb hby d13_85) rfl (XS.iadd X0.here hx rfl (hb hby d13_87) rfl k)) ?_
        obtain ⟨cl11, Ar11, -, S11, -, P11, -⟩ := id (oSPV.ext O0)
        have hin11 : ¬ ((3 : Int32) < 0 ∨ cl11.slots.size ≤ ((3 : Int32)).toNatClampNeg) := inb_of S11 ⟨by decide, by decide⟩
        refine own_go (X0.baloadBytes hx (j := (3 : Int32)) (v := (.int (114 : Int32))) (by rw [e0]; exact Ar11.1) (State.isArrayOf_alike hZ.alike Ar11.2.1) Ar11.2.2 hin11 (P11.at hin11 rfl) (g := (mkF m 88 #[rv t, iv (0 : Int32), rv wspv, iv (0 : Int32), iv (7 : Int32), iv (3 : Int32), .unset, .unset] [(.int (3 : Int32)), (.ref wspv), (.int x3)])) rfl rfl (hb hby d13_88)) ?_
        by_cases hc12 : x3 = (114 : Int32)
        · refine own_go (fun _ k => XS.icmpYes X0.here hx rfl (pc0 := 89) (pc' := 95) rfl (hb hby d13_89) rfl (teq hc12).1 (by decide) (by decide) k) ?_
          show own_Go p e below s _ _ _ (T.setTop (mkF m 95 #[rv t, iv (0 : Int32), rv wspv, iv (0 : Int32), iv (7 : Int32), iv (3 : Int32), .unset, .unset] []))
          refine own_go (fun _ k => XS.iinc X0.here hx rfl (hb hby d13_95) rfl (l' := #[rv t, iv (0 : Int32), rv wspv, iv (0 : Int32), iv (7 : Int32), iv (4 : Int32), .unset, .unset]) rfl (XS.goto X0.here hx rfl (pc0 := 98) (pc' := 70) rfl (hb hby d13_98) (by decide) (by decide) (XS.iload X0.here hx rfl (hb hby d13_70) rfl (XS.iload X0.here hx rfl (hb hby d13_72) rfl (XS.icmpNo X0.here hx rfl (hb hby d13_74) rfl (tlt (by decide : (4 : Int32) < (7 : Int32))).2.1 (XS.aloadN X0.here hx rfl (hb hby d13_77) rfl rfl k)))))) ?_
          show own_Go p e below s _ _ _ (T.setTop (mkF m 78 #[rv t, iv (0 : Int32), rv wspv, iv (0 : Int32), iv (7 : Int32), iv (4 : Int32), .unset, .unset] [(.ref t)]))
          refine own_go (fun _ k => XS.iloadN X0.here hx rfl (hb hby d13_78) rfl (XS.iload X0.here hx rfl (hb hby d13_79) rfl (XS.iadd X0.here hx rfl (hb hby d13_81) rfl k))) ?_
          obtain ⟨cl13, Ar13, -, S13, -, P13, -⟩ := id (fp0.keep K0 nin0)
          have hin13 : ¬ ((4 : Int32) < 0 ∨ cl13.slots.size ≤ ((4 : Int32)).toNatClampNeg) := inb_of S13 ⟨by decide, by decide⟩
          refine own_go (X0.baloadBytes hx (j := (4 : Int32)) (v := (.int x4)) (by rw [e0]; exact Ar13.1) (State.isArrayOf_alike hZ.alike Ar13.2.1) Ar13.2.2 hin13 (P13.at hin13 rfl) (g := (mkF m 82 #[rv t, iv (0 : Int32), rv wspv, iv (0 : Int32), iv (7 : Int32), iv (4 : Int32), .unset, .unset] [(.int (4 : Int32)), (.ref t)])) rfl rfl (hb hby d13_82)) ?_
          refine own_go (fun _ k => XS.aloadN X0.here hx rfl (hb hby d13_83) rfl rfl (XS.iloadN X0.here hx rfl (hb hby d13_84) rfl k)) ?_
          show own_Go p e below s _ _ _ (T.setTop (mkF m 85 #[rv t, iv (0 : Int32), rv wspv, iv (0 : Int32), iv (7 : Int32), iv (4 : Int32), .unset, .unset] [(.int (0 : Int32)), (.ref wspv), (.int x4)]))
          refine own_go (fun _ k => XS.iload X0.here hx rfl (hb hby d13_85) rfl (XS.iadd X0.here hx rfl (hb hby d13_87) rfl k)) ?_
          obtain ⟨cl14, Ar14, -, S14, -, P14, -⟩ := id (oSPV.ext O0)
          have hin14 : ¬ ((4 : Int32) < 0 ∨ cl14.slots.size ≤ ((4 : Int32)).toNatClampNeg) := inb_of S14 ⟨by decide, by decide⟩
          refine own_go (X0.baloadBytes hx (j := (4 : Int32)) (v := (.int (101 : Int32))) (by rw [e0]; exact Ar14.1) (State.isArrayOf_alike hZ.alike Ar14.2.1) Ar14.2.2 hin14 (P14.at hin14 rfl) (g := (mkF m 88 #[rv t, iv (0 : Int32), rv wspv, iv (0 : Int32), iv (7 : Int32), iv (4 : Int32), .unset, .unset] [(.int (4 : Int32)), (.ref wspv), (.int x4)])) rfl rfl (hb hby d13_88)) ?_
          by_cases hc15 : x4 = (101 : Int32)
          · refine own_go (fun _ k => XS.icmpYes X0.here hx rfl (pc0 := 89) (pc' := 95) rfl (hb hby d13_89) rfl (teq hc15).1 (by decide) (by decide) k) ?_
            show own_Go p e below s _ _ _ (T.setTop (mkF m 95 #[rv t, iv (0 : Int32), rv wspv, iv (0 : Int32), iv (7 : Int32), iv (4 : Int32), .unset, .unset] []))
            refine own_go (fun _ k => XS.iinc X0.here hx rfl (hb hby d13_95) rfl (l' := #[rv t, iv (0 : Int32), rv wspv, iv (0 : Int32), iv (7 : Int32), iv (5 : Int32), .unset, .unset]) rfl (XS.goto X0.here hx rfl (pc0 := 98) (pc' := 70) rfl (hb hby d13_98) (by decide) (by decide) (XS.iload X0.here hx rfl (hb hby d13_70) rfl (XS.iload X0.here hx rfl (hb hby d13_72) rfl (XS.icmpNo X0.here hx rfl (hb hby d13_74) rfl (tlt (by decide : (5 : Int32) < (7 : Int32))).2.1 (XS.aloadN X0.here hx rfl (hb hby d13_77) rfl rfl k)))))) ?_
            show own_Go p e below s _ _ _ (T.setTop (mkF m 78 #[rv t, iv (0 : Int32), rv wspv, iv (0 : Int32), iv (7 : Int32), iv (5 : Int32), .unset, .unset] [(.ref t)]))
            refine own_go (fun _ k => XS.iloadN X0.here hx rfl (hb hby d13_78) rfl (XS.iload X0.here hx rfl (hb hby d13_79) rfl (XS.iadd X0.here hx rfl (hb hby d13_81) rfl k))) ?_
            obtain ⟨cl16, Ar16, -, S16, -, P16, -⟩ := id (fp0.keep K0 nin0)
            have hin16 : ¬ ((5 : Int32) < 0 ∨ cl16.slots.size ≤ ((5 : Int32)).toNatClampNeg) := inb_of S16 ⟨by decide, by decide⟩
            refine own_go (X0.baloadBytes hx (j := (5 : Int32)) (v := (.int x5)) (by rw [e0]; exact Ar16.1) (State.isArrayOf_alike hZ.alike Ar16.2.1) Ar16.2.2 hin16 (P16.at hin16 rfl) (g := (mkF m 82 #[rv t, iv (0 : Int32), rv wspv, iv (0 : Int32), iv (7 : Int32), iv (5 : Int32), .unset, .unset] [(.int (5 : Int32)), (.ref t)])) rfl rfl (hb hby d13_82)) ?_
            refine own_go (fun _ k => XS.aloadN X0.here hx rfl (hb hby d13_83) rfl rfl (XS.iloadN X0.here hx rfl (hb hby d13_84) rfl k)) ?_
            show own_Go p e below s _ _ _ (T.setTop (mkF m 85 #[rv t, iv (0 : Int32), rv wspv, iv (0 : Int32), iv (7 : Int32), iv (5 : Int32), .unset, .unset] [(.int (0 : Int32)), (.ref wspv), (.int x5)]))
            refine own_go (fun _ k => XS.iload X0.here hx rfl (hb hby d13_85) rfl (XS.iadd X0.here hx rfl (hb hby d13_87) rfl k)) ?_
            obtain ⟨cl17, Ar17, -, S17, -, P17, -⟩ := id (oSPV.ext O0)
            have hin17 : ¬ ((5 : Int32) < 0 ∨ cl17.slots.size ≤ ((5 : Int32)).toNatClampNeg) := inb_of S17 ⟨by decide, by decide⟩
            refine own_go (X0.baloadBytes hx (j := (5 : Int32)) (v := (.int (100 : Int32))) (by rw [e0]; exact Ar17.1) (State.isArrayOf_alike hZ.alike Ar17.2.1) Ar17.2.2 hin17 (P17.at hin17 rfl) (g := (mkF m 88 #[rv t, iv (0 : Int32), rv wspv, iv (0 : Int32), iv (7 : Int32), iv (5 : Int32), .unset, .unset] [(.int (5 : Int32)), (.ref wspv), (.int x5)])) rfl rfl (hb hby d13_88)) ?_
            by_cases hc18 : x5 = (100 : Int32)
            · refine own_go (fun _ k => XS.icmpYes X0.here hx rfl (pc0 := 89) (pc' := 95) rfl (hb hby d13_89) rfl (teq hc18).1 (by decide) (by decide) k) ?_
              show own_Go p e below s _ _ _ (T.setTop (mkF m 95 #[rv t, iv (0 : Int32), rv wspv, iv (0 : Int32), iv (7 : Int32), iv (5 : Int32), .unset, .unset] []))
              refine own_go (fun _ k => XS.iinc X0.here hx rfl (hb hby d13_95) rfl (l' := #[rv t, iv (0 : Int32), rv wspv, iv (0 : Int32), iv (7 : Int32), iv (6 : Int32), .unset, .unset]) rfl (XS.goto X0.here hx rfl (pc0 := 98) (pc' := 70) rfl (hb hby d13_98) (by decide) (by decide) (XS.iload X0.here hx rfl (hb hby d13_70) rfl (XS.iload X0.here hx rfl (hb hby d13_72) rfl (XS.icmpNo X0.here hx rfl (hb hby d13_74) rfl (tlt (by decide : (6 : Int32) < (7 : Int32))).2.1 (XS.aloadN X0.here hx rfl (hb hby d13_77) rfl rfl k)))))) ?_
              show own_Go p e below s _ _ _ (T.setTop (mkF m 78 #[rv t, iv (0 : Int32), rv wspv, iv (0 : Int32), iv (7 : Int32), iv (6 : Int32), .unset, .unset] [(.ref t)]))
              refine own_go (fun _ k => XS.iloadN X0.here hx rfl (hb hby d13_78) rfl (XS.iload X0.here hx rfl (hb hby d13_79) rfl (XS.iadd X0.here hx rfl (hb hby d13_81) rfl k))) ?_
              obtain ⟨cl19, Ar19, -, S19, -, P19, -⟩ := id (fp0.keep K0 nin0)
              have hin19 : ¬ ((6 : Int32) < 0 ∨ cl19.slots.size ≤ ((6 : Int32)).toNatClampNeg) := inb_of S19 ⟨by decide, by decide⟩
              refine own_go (X0.baloadBytes hx (j := (6 : Int32)) (v := (.int x6)) (by rw [e0]; exact Ar19.1) (State.isArrayOf_alike hZ.alike Ar19.2.1) Ar19.2.2 hin19 (P19.at hin19 rfl) (g := (mkF m 82 #[rv t, iv (0 : Int32), rv wspv, iv (0 : Int32), iv (7 : Int32), iv (6 : Int32), .unset, .unset] [(.int (6 : Int32)), (.ref t)])) rfl rfl (hb hby d13_82)) ?_
              refine own_go (fun _ k => XS.aloadN X0.here hx rfl (hb hby d13_83) rfl rfl (XS.iloadN X0.here hx rfl (hb hby d13_84) rfl k)) ?_
              show own_Go p e below s _ _ _ (T.setTop (mkF m 85 #[rv t, iv (0 : Int32), rv wspv, iv (0 : Int32), iv (7 : Int32), iv (6 : Int32), .unset, .unset] [(.int (0 : Int32)), (.ref wspv), (.int x6)]))
              refine own_go (fun _ k => XS.iload X0.here hx rfl (hb hby d13_85) rfl (XS.iadd X0.here hx rfl (hb hby d13_87) rfl k)) ?_
              obtain ⟨cl20, Ar20, -, S20, -, P20, -⟩ := id (oSPV.ext O0)
              have hin20 : ¬ ((6 : Int32) < 0 ∨ cl20.slots.size ≤ ((6 : Int32)).toNatClampNeg) := inb_of S20 ⟨by decide, by decide⟩
              refine own_go (X0.baloadBytes hx (j := (6 : Int32)) (v := (.int (45 : Int32))) (by rw [e0]; exact Ar20.1) (State.isArrayOf_alike hZ.alike Ar20.2.1) Ar20.2.2 hin20 (P20.at hin20 rfl) (g := (mkF m 88 #[rv t, iv (0 : Int32), rv wspv, iv (0 : Int32), iv (7 : Int32), iv (6 : Int32), .unset, .unset] [(.int (6 : Int32)), (.ref wspv), (.int x6)])) rfl rfl (hb hby d13_88)) ?_
              by_cases hc21 : x6 = (45 : Int32)
              · refine own_go (fun _ k => XS.icmpYes X0.here hx rfl (pc0 := 89) (pc' := 95) rfl (hb hby d13_89) rfl (teq hc21).1 (by decide) (by decide) k) ?_
                show own_Go p e below s _ _ _ (T.setTop (mkF m 95 #[rv t, iv (0 : Int32), rv wspv, iv (0 : Int32), iv (7 : Int32), iv (6 : Int32), .unset, .unset] []))
                refine own_go (fun _ k => XS.iinc X0.here hx rfl (hb hby d13_95) rfl (l' := #[rv t, iv (0 : Int32), rv wspv, iv (0 : Int32), iv (7 : Int32), iv (7 : Int32), .unset, .unset]) rfl (XS.goto X0.here hx rfl (pc0 := 98) (pc' := 70) rfl (hb hby d13_98) (by decide) (by decide) (XS.iload X0.here hx rfl (hb hby d13_70) rfl (XS.iload X0.here hx rfl (hb hby d13_72) rfl (XS.icmpYes X0.here hx rfl (pc0 := 74) (pc' := 101) rfl (hb hby d13_74) rfl (flt (by decide : ¬ ((7 : Int32) < (7 : Int32)))).2.1 (by decide) (by decide) (XS.iconst X0.here hx rfl (hb hby d13_101) k)))))) ?_
                show own_Go p e below s _ _ _ (T.setTop (mkF m 102 #[rv t, iv (0 : Int32), rv wspv, iv (0 : Int32), iv (7 : Int32), iv (7 : Int32), .unset, .unset] [(.int (-1 : Int32))]))
                refine own_retI X0 hx hlk e0 hret (hb hby d13_102) (by show _ ≤ 0; omega) (by show _ ≤ 0; omega) ?_
                exact Or.inl ⟨rfl, N0, ⟨hc3, hc6, hc9, hc12, hc15, hc18, hc21⟩, rfl⟩
              · refine own_go (fun _ k => XS.icmpNo X0.here hx rfl (hb hby d13_89) rfl (feq hc21).1 k) ?_
                show own_Go p e below s _ _ _ (T.setTop (mkF m 92 #[rv t, iv (0 : Int32), rv wspv, iv (0 : Int32), iv (7 : Int32), iv (6 : Int32), .unset, .unset] []))
                refine own_go (fun _ k => XS.iload X0.here hx rfl (hb hby d13_92) rfl k) ?_
                show own_Go p e below s _ _ _ (T.setTop (mkF m 94 #[rv t, iv (0 : Int32), rv wspv, iv (0 : Int32), iv (7 : Int32), iv (6 : Int32), .unset, .unset] [(.int (6 : Int32))]))
                refine own_retI X0 hx hlk e0 hret (hb hby d13_94) (by show _ ≤ 0; omega) (by show _ ≤ 0; omega) ?_
                exact Or.inr (⟨(6 : Int32), rfl, N0, (fun h7 => hc21 h7.2.2.2.2.2.2), (by decide : ¬ (6 : Int32) < (0 : Int32)), rfl⟩)
            · refine own_go (fun _ k => XS.icmpNo X0.here hx rfl (hb hby d13_89) rfl (feq hc18).1 k) ?_
              show own_Go p e below s _ _ _ (T.setTop (mkF m 92 #[rv t, iv (0 : Int32), rv wspv, iv (0 : Int32), iv (7 : Int32), iv (5 : Int32), .unset, .unset] []))
              refine own_go (fun _ k => XS.iload X0.here hx rfl (hb hby d13_92) rfl k) ?_
              show own_Go p e below s _ _ _ (T.setTop (mkF m 94 #[rv t, iv (0 : Int32), rv wspv, iv (0 : Int32), iv (7 : Int32), iv (5 : Int32), .unset, .unset] [(.int (5 : Int32))]))
              refine own_retI X0 hx hlk e0 hret (hb hby d13_94) (by show _ ≤ 0; omega) (by show _ ≤ 0; omega) ?_
              exact Or.inr (⟨(5 : Int32), rfl, N0, (fun h7 => hc18 h7.2.2.2.2.2.1), (by decide : ¬ (5 : Int32) < (0 : Int32)), rfl⟩)
          · refine own_go (fun _ k => XS.icmpNo X0.here hx rfl (hb hby d13_89) rfl (feq hc15).1 k) ?_
            show own_Go p e below s _ _ _ (T.setTop (mkF m 92 #[rv t, iv (0 : Int32), rv wspv, iv (0 : Int32), iv (7 : Int32), iv (4 : Int32), .unset, .unset] []))
            refine own_go (fun _ k => XS.iload X0.here hx rfl (hb hby d13_92) rfl k) ?_
            show own_Go p e below s _ _ _ (T.setTop (mkF m 94 #[rv t, iv (0 : Int32), rv wspv, iv (0 : Int32), iv (7 : Int32), iv (4 : Int32), .unset, .unset] [(.int (4 : Int32))]))
            refine own_retI X0 hx hlk e0 hret (hb hby d13_94) (by show _ ≤ 0; omega) (by show _ ≤ 0; omega) ?_
            exact Or.inr (⟨(4 : Int32), rfl, N0, (fun h7 => hc15 h7.2.2.2.2.1), (by decide : ¬ (4 : Int32) < (0 : Int32)), rfl⟩)
        · refine own_go (fun _ k => XS.icmpNo X0.here hx rfl (hb hby d13_89) rfl (feq hc12).1 k) ?_
          show own_Go p e below s _ _ _ (T.setTop (mkF m 92 #[rv t, iv (0 : Int32), rv wspv, iv (0 : Int32), iv (7 : Int32), iv (3 : Int32), .unset, .unset] []))
          refine own_go (fun _ k => XS.iload X0.here hx rfl (hb hby d13_92) rfl k) ?_
          show own_Go p e below s _ _ _ (T.setTop (mkF m 94 #[rv t, iv (0 : Int32), rv wspv, iv (0 : Int32), iv (7 : Int32), iv (3 : Int32), .unset, .unset] [(.int (3 : Int32))]))
          refine own_retI X0 hx hlk e0 hret (hb hby d13_94) (by show _ ≤ 0; omega) (by show _ ≤ 0; omega) ?_
          exact Or.inr (⟨(3 : Int32), rfl, N0, (fun h7 => hc12 h7.2.2.2.1), (by decide : ¬ (3 : Int32) < (0 : Int32)), rfl⟩)
      · refine own_go (fun _ k => XS.icmpNo X0.here hx rfl (hb hby d13_89) rfl (feq hc9).1 k) ?_
        show own_Go p e below s _ _ _ (T.setTop (mkF m 92 #[rv t, iv (0 : Int32), rv wspv, iv (0 : Int32), iv (7 : Int32), iv (2 : Int32), .unset, .unset] []))
        refine own_go (fun _ k => XS.iload X0.here hx rfl (hb hby d13_92) rfl k) ?_
        show own_Go p e below s _ _ _ (T.setTop (mkF m 94 #[rv t, iv (0 : Int32), rv wspv, iv (0 : Int32), iv (7 : Int32), iv (2 : Int32), .unset, .unset] [(.int (2 : Int32))]))
        refine own_retI X0 hx hlk e0 hret (hb hby d13_94) (by show _ ≤ 0; omega) (by show _ ≤ 0; omega) ?_
        exact Or.inr (⟨(2 : Int32), rfl, N0, (fun h7 => hc9 h7.2.2.1), (by decide : ¬ (2 : Int32) < (0 : Int32)), rfl⟩)
    · refine own_go (fun _ k => XS.icmpNo X0.here hx rfl (hb hby d13_89) rfl (feq hc6).1 k) ?_
      show own_Go p e below s _ _ _ (T.setTop (mkF m 92 #[rv t, iv (0 : Int32), rv wspv, iv (0 : Int32), iv (7 : Int32), iv (1 : Int32), .unset, .unset] []))
      refine own_go (fun _ k => XS.iload X0.here hx rfl (hb hby d13_92) rfl k) ?_
      show own_Go p e below s _ _ _ (T.setTop (mkF m 94 #[rv t, iv (0 : Int32), rv wspv, iv (0 : Int32), iv (7 : Int32), iv (1 : Int32), .unset, .unset] [(.int (1 : Int32))]))
      refine own_retI X0 hx hlk e0 hret (hb hby d13_94) (by show _ ≤ 0; omega) (by show _ ≤ 0; omega) ?_
      exact Or.inr (⟨(1 : Int32), rfl, N0, (fun h7 => hc6 h7.2.1), (by decide : ¬ (1 : Int32) < (0 : Int32)), rfl⟩)
  · refine own_go (fun _ k => XS.icmpNo X0.here hx rfl (hb hby d13_89) rfl (feq hc3).1 k) ?_
    show own_Go p e below s _ _ _ (T.setTop (mkF m 92 #[rv t, iv (0 : Int32), rv wspv, iv (0 : Int32), iv (7 : Int32), iv (0 : Int32), .unset, .unset] []))
    refine own_go (fun _ k => XS.iload X0.here hx rfl (hb hby d13_92) rfl k) ?_
    show own_Go p e below s _ _ _ (T.setTop (mkF m 94 #[rv t, iv (0 : Int32), rv wspv, iv (0 : Int32), iv (7 : Int32), iv (0 : Int32), .unset, .unset] [(.int (0 : Int32))]))
    refine own_retI X0 hx hlk e0 hret (hb hby d13_94) (by show _ ≤ 0; omega) (by show _ ≤ 0; omega) ?_
    exact Or.inr (⟨(0 : Int32), rfl, N0, (fun h7 => hc3 h7.1), (by decide : ¬ (0 : Int32) < (0 : Int32)), rfl⟩)
def Q_swi9 (Z : State) (zc : Int32) (wx : Addr) (wy : Addr) (wsp : Addr) (wspv : Addr) (wspk : ClassId) (a1 : Addr) (t : Addr) (kt : ClassId) (x0 : Int32) (x1 : Int32) (x2 : Int32) (x3 : Int32) (x4 : Int32) (x5 : Int32) (x6 : Int32) (x7 : Int32) (x8 : Int32) (h0 : Heap) (v : Option Value) (h : Heap) (L : List Loc) : Prop := (v = some (.int (1 : Int32)) ∧ Fr Z.heap.size L ∧ own_P7 x0 x1 x2 x3 x4 x5 x6 ∧ h = h0) ∨ (v = some (.int (0 : Int32)) ∧ Fr Z.heap.size L ∧ ¬ (own_P7 x0 x1 x2 x3 x4 x5 x6) ∧ h = h0)
theorem ef_swi9 (m : MethodId) (x0 : Addr) (x1 : Addr) : entryFrame m #[(.ref x0), (.ref x1), (.int (0 : Int32))] 8 = mkF m 0 #[rv x0, rv x1, iv (0 : Int32), .unset, .unset, .unset, .unset, .unset] [] := by first | (simp [entryFrame, mkF, argsToLocals, Value.category]; done) | rfl
set_option maxRecDepth 65536 in
set_option maxHeartbeats 40000000 in
theorem rm_swi9 (l : Launch) (Z : State) (a0 : Array Value) (hw : own_W Z a0) {zc : Int32} {wx : Addr} {wy : Addr} {wsp : Addr} {wspv : Addr} {wspk : ClassId} (hO : own_Olds Z zc wx wy wsp wspv wspk) (ws : List Jvm.Cond) (a1 : Addr) (t : Addr) (kt : ClassId) (x0 : Int32) (x1 : Int32) (x2 : Int32) (x3 : Int32) (x4 : Int32) (x5 : Int32) (x6 : Int32) (x7 : Int32) (x8 : Int32) (h0 : Heap) (O0 : Ext Z.heap h0) (fp0 : Exa Z h0 a1 "java/lang/String") (fp1 : Fld Z h0 a1 "java/lang/String" "value" "[B" (.ref t)) (fp2 : Fld Z h0 a1 "java/lang/String" "coder" "B" (.int (0 : Int32))) (fp3 : Arv Z h0 t kt .byte (9 : Int32) [(.int x0), (.int x1), (.int x2), (.int x3), (.int x4), (.int x5), (.int x6), (.int x7), (.int x8)] (.int (0 : Int32))) :
    own_MF l Z h0 own_y5 jdk_42_method_75_code 8 (some .boolean) ({ frames := 2, cells := 0, slots := 0, locals := 27 } : Room) #[(.ref a1), (.ref wsp), (.int (0 : Int32))] (Q_swi9 Z zc wx wy wsp wspv wspk a1 t kt x0 x1 x2 x3 x4 x5 x6 x7 x8 h0) ws := by
  refine own_met (Q := (Q_swi9 Z zc wx wy wsp wspv wspk a1 t kt x0 x1 x2 x3 x4 x5 x6 x7 x8 h0)) _ _ (plainFor_of_name own_pn_0) ?_
  intro p e s m below meth c T X0 hx hby hml hret hlk hZ hown hnm e0
  replace hown : s.vm.findClass "java/lang/String" = some m.cls := hown
  replace hnm : meth.name = "startsWith" := hnm
  have hml : c.maxLocals = 8 := hml
  obtain ⟨oCS, oCz, oEx, oSh, oPF, oSPE, oSPC, oSPF, oSPV⟩ := id hO
  have N0 := Fr.nil Z.heap.size
  have K0 := Keep.refl h0 []
  refine own_go (fun _ k => castTop (ef_swi9 m a1 wsp) k) ?_
  show own_Go p e below s _ _ _ (T.setTop (mkF m 0 #[rv a1, rv wsp, iv (0 : Int32), .unset, .unset, .unset, .unset, .unset] []))
  refine own_go (fun _ k => XS.iloadN X0.here hx rfl (hb hby d6_0) rfl (XS.ifNo X0.here hx rfl (hb hby d6_1) rfl ((if0 _ _).trans (flt (by decide : ¬ ((0 : Int32) < (0 : Int32)))).1) (XS.iloadN X0.here hx rfl (hb hby d6_4) rfl (XS.aloadN X0.here hx rfl (hb hby d6_5) rfl rfl k)))) ?_
  obtain ⟨v1, T1, L1, X1, hQ1, st1⟩ := own_callV (y := own_y3) (z := own_y3) X0 hx hZ hown (ow41 hw) (ow42 hw) (notFace_of_selects (args := #[]) (mvT hZ (ow44 hw))) (ow44 hw) (ow43 hw) (ow4 hw) (ow45 hw) (rm_slen9 l Z a0 hw hO [] a1 t kt x0 x1 x2 x3 x4 x5 x6 x7 x8 h0 O0 (fp0.keep K0) (fp1.keep K0 nin0) (fp2.keep K0 nin0) (fp3.keep K0 nin0)) 1 0 0 (by show _ ≤ 0; omega) (by show _ ≤ 0; omega) e0 (fp0.keep K0) (g := (mkF m 6 #[rv a1, rv wsp, iv (0 : Int32), .unset, .unset, .unset, .unset, .unset] [(.ref a1), (.int (0 : Int32))])) rfl (by rw [hml]; rfl) [] [(.int (0 : Int32))] (lenOf own_pd_2 rfl) rfl rfl (hb hby d6_6)
  obtain ⟨rfl, Nc3, Kc2⟩ := hQ1
  refine own_go st1 ?_
  clear st1 X0 e0
  replace N0 := Fr.app N0 Nc3
  clear Nc3
  refine own_go (fun _ k => XS.aloadN X1.here hx rfl (hb hby d6_9) rfl rfl k) ?_
  show own_Go p e below s _ _ _ (T1.setTop (mkF m 10 #[rv a1, rv wsp, iv (0 : Int32), .unset, .unset, .unset, .unset, .unset] [(.ref wsp), (.int (9 : Int32)), (.int (0 : Int32))]))
  obtain ⟨v4, T4, L4, X4, hQ4, st4⟩ := own_callV (y := own_y3) (z := own_y3) X1 hx hZ hown (ow41 hw) (ow42 hw) (notFace_of_selects (args := #[]) (mvT hZ (ow44 hw))) (ow44 hw) (ow43 hw) (ow4 hw) (ow45 hw) (rm_slen7 l Z a0 hw hO [] wsp wspv wspk (115 : Int32) (104 : Int32) (97 : Int32) (114 : Int32) (101 : Int32) (100 : Int32) (45 : Int32) h0 O0 (oSPE.ext O0) (oSPF.ext O0) (oSPC.ext O0) (oSPV.ext O0)) 2 0 0 (by show _ ≤ 0; omega) (by show _ ≤ 0; omega) Kc2 (oSPE.ext O0) (g := (mkF m 10 #[rv a1, rv wsp, iv (0 : Int32), .unset, .unset, .unset, .unset, .unset] [(.ref wsp), (.int (9 : Int32)), (.int (0 : Int32))])) rfl (by rw [hml]; rfl) [] [(.int (9 : Int32)), (.int (0 : Int32))] (lenOf own_pd_2 rfl) rfl rfl (hb hby d6_10)
  obtain ⟨rfl, Nc6, Kc5⟩ := hQ4
  refine own_go st4 ?_
  clear st4 X1 Kc2
  replace N0 := Fr.app N0 Nc6
  clear Nc6
  refine own_go (fun _ k => XS.isub X4.here hx rfl (hb hby d6_13) rfl (XS.icmpYes X4.here hx rfl (pc0 := 14) (pc' := 19) rfl (hb hby d6_14) rfl (flt (by decide : ¬ ((2 : Int32) < (0 : Int32)))).2.2.2 (by decide) (by decide) (XS.aloadN X4.here hx rfl (hb hby d6_19) rfl rfl k))) ?_
  obtain ⟨T7, X7, e7, st7⟩ := getF X4 hx hZ hown (host := "") (Or.inl (ow21 hw)) Via.refl Kc5 (fp1.keep K0 nin0) (g := (mkF m 20 #[rv a1, rv wsp, iv (0 : Int32), .unset, .unset, .unset, .unset, .unset] [(.ref a1)])) rfl rfl (hb hby d6_20)
  refine own_go st7 ?_
  clear st7 X4 Kc5
  refine own_go (fun _ k => XS.astoreN X7.here hx rfl (hb hby d6_23) rfl rfl (l' := #[rv a1, rv wsp, iv (0 : Int32), rv t, .unset, .unset, .unset, .unset]) rfl k) ?_
  show own_Go p e below s _ _ _ (T7.setTop (mkF m 24 #[rv a1, rv wsp, iv (0 : Int32), rv t, .unset, .unset, .unset, .unset] []))
  refine own_go (fun _ k => XS.aloadN X7.here hx rfl (hb hby d6_24) rfl rfl k) ?_
  obtain ⟨T8, X8, e8, st8⟩ := getF X7 hx hZ hown (host := "") (Or.inl (ow21 hw)) Via.refl e7 (oSPF.ext O0) (g := (mkF m 25 #[rv a1, rv wsp, iv (0 : Int32), rv t, .unset, .unset, .unset, .unset] [(.ref wsp)])) rfl rfl (hb hby d6_25)
  refine own_go st8 ?_
  clear st8 X7 e7
  refine own_go (fun _ k => XS.astore X8.here hx rfl (hb hby d6_28) rfl rfl (l' := #[rv a1, rv wsp, iv (0 : Int32), rv t, rv wspv, .unset, .unset, .unset]) rfl (XS.iconst X8.here hx rfl (hb hby d6_30) (XS.istore X8.here hx rfl (hb hby d6_31) rfl (l' := #[rv a1, rv wsp, iv (0 : Int32), rv t, rv wspv, iv (0 : Int32), .unset, .unset]) rfl (XS.aload X8.here hx rfl (hb hby d6_33) rfl rfl k)))) ?_
  show own_Go p e below s _ _ _ (T8.setTop (mkF m 35 #[rv a1, rv wsp, iv (0 : Int32), rv t, rv wspv, iv (0 : Int32), .unset, .unset] [(.ref wspv)]))
  obtain ⟨cl9, Ar9, -, S9, M9, -, -⟩ := id (oSPV.ext O0)
  refine own_go (X8.arraylength hx (by rw [e8]; exact Ar9.1) (State.isArrayOf_alike hZ.alike Ar9.2.1) (g := (mkF m 35 #[rv a1, rv wsp, iv (0 : Int32), rv t, rv wspv, iv (0 : Int32), .unset, .unset] [(.ref wspv)])) rfl rfl (hb hby d6_35)) ?_
  rw [len_of S9 M9]
  refine own_go (fun _ k => XS.istore X8.here hx rfl (hb hby d6_36) rfl (l' := #[rv a1, rv wsp, iv (0 : Int32), rv t, rv wspv, iv (0 : Int32), iv (7 : Int32), .unset]) rfl (XS.aloadN X8.here hx rfl (hb hby d6_38) rfl rfl k)) ?_
  obtain ⟨v10, T10, L10, X10, hQ10, st10⟩ := own_callV (y := own_y2) (z := own_y2) X8 hx hZ hown (ow46 hw) (ow47 hw) (notFace_of_selects (args := #[]) (mvT hZ (ow49 hw))) (ow49 hw) (ow48 hw) (ow4 hw) (ow50 hw) (rm_scoder l Z a0 hw hO [] a1 h0 O0 (fp2.keep K0 nin0)) 0 0 0 (by show _ ≤ 0; omega) (by show _ ≤ 0; omega) e8 (fp0.keep K0) (g := (mkF m 39 #[rv a1, rv wsp, iv (0 : Int32), rv t, rv wspv, iv (0 : Int32), iv (7 : Int32), .unset] [(.ref a1)])) rfl (by rw [hml]; rfl) [] [] (lenOf own_pd_1 rfl) rfl rfl (hb hby d6_39)
  obtain ⟨rfl, Nc12, Kc11⟩ := hQ10
  refine own_go st10 ?_
  clear st10 X8 e8
  replace N0 := Fr.app N0 Nc12
  clear Nc12
  refine own_go (fun _ k => XS.istore X10.here hx rfl (hb hby d6_42) rfl (l' := #[rv a1, rv wsp, iv (0 : Int32), rv t, rv wspv, iv (0 : Int32), iv (7 : Int32), iv (0 : Int32)]) rfl (XS.iload X10.here hx rfl (hb hby d6_44) rfl k)) ?_
  show own_Go p e below s _ _ _ (T10.setTop (mkF m 46 #[rv a1, rv wsp, iv (0 : Int32), rv t, rv wspv, iv (0 : Int32), iv (7 : Int32), iv (0 : Int32)] [(.int (0 : Int32))]))
  refine own_go (fun _ k => XS.aloadN X10.here hx rfl (hb hby d6_46) rfl rfl k) ?_
  obtain ⟨v13, T13, L13, X13, hQ13, st13⟩ := own_callV (y := own_y2) (z := own_y2) X10 hx hZ hown (ow46 hw) (ow47 hw) (notFace_of_selects (args := #[]) (mvT hZ (ow49 hw))) (ow49 hw) (ow48 hw) (ow4 hw) (ow50 hw) (rm_scoder l Z a0 hw hO [] wsp h0 O0 (oSPC.ext O0)) 1 0 0 (by show _ ≤ 0; omega) (by show _ ≤ 0; omega) Kc11 (oSPE.ext O0) (g := (mkF m 47 #[rv a1, rv wsp, iv (0 : Int32), rv t, rv wspv, iv (0 : Int32), iv (7 : Int32), iv (0 : Int32)] [(.ref wsp), (.int (0 : Int32))])) rfl (by rw [hml]; rfl) [] [(.int (0 : Int32))] (lenOf own_pd_1 rfl) rfl rfl (hb hby d6_47)
  obtain ⟨rfl, Nc15, Kc14⟩ := hQ13
  refine own_go st13 ?_
  clear st13 X10 Kc11
  replace N0 := Fr.app N0 Nc15
  clear Nc15
  refine own_go (fun _ k => XS.icmpNo X13.here hx rfl (hb hby d6_50) rfl (teq (by decide : (0 : Int32) = (0 : Int32))).2 (XS.iload X13.here hx rfl (hb hby d6_53) rfl (XS.iconst X13.here hx rfl (hb hby d6_55) (XS.icmpYes X13.here hx rfl (pc0 := 56) (pc' := 63) rfl (hb hby d6_56) rfl (feq (by decide : ¬ ((0 : Int32) = (1 : Int32)))).2 (by decide) (by decide) k)))) ?_
  show own_Go p e below s _ _ _ (T13.setTop (mkF m 63 #[rv a1, rv wsp, iv (0 : Int32), rv t, rv wspv, iv (0 : Int32), iv (7 : Int32), iv (0 : Int32)] []))
  refine own_go (fun _ k => XS.aloadN X13.here hx rfl (hb hby d6_63) rfl rfl (XS.iloadN X13.here hx rfl (hb hby d6_64) rfl (XS.aload X13.here hx rfl (hb hby d6_65) rfl rfl (XS.iconst X13.here hx rfl (hb hby d6_67) (XS.iload X13.here hx rfl (hb hby d6_68) rfl k))))) ?_
  obtain ⟨v16, T16, L16, X16, hQ16, st16⟩ := own_callS (y := own_y8) X13 hx hZ hown (ow70 hw) (ow71 hw) (ow72 hw) (ow73 hw) (rm_mm9 l Z a0 hw hO [] t kt x0 x1 x2 x3 x4 x5 x6 x7 x8 h0 O0 (fp3.keep K0 nin0)) 0 0 0 (by show _ ≤ 0; omega) (by show _ ≤ 0; omega) Kc14 (g := (mkF m 70 #[rv a1, rv wsp, iv (0 : Int32), rv t, rv wspv, iv (0 : Int32), iv (7 : Int32), iv (0 : Int32)] [(.int (7 : Int32)), (.int (0 : Int32)), (.ref wspv), (.int (0 : Int32)), (.ref t)])) rfl (by rw [hml]; rfl) [(.ref t), (.int (0 : Int32)), (.ref wspv), (.int (0 : Int32)), (.int (7 : Int32))] [] (lenOf own_pd_5 rfl) rfl rfl (hb hby d6_70)
  rcases hQ16 with hQ16 | hQ16
  · obtain ⟨rfl, Nc19, hp17, Kc18⟩ := hQ16
    refine own_go st16 ?_
    clear st16 X13 Kc14
    replace N0 := Fr.app N0 Nc19
    clear Nc19
    show own_Go p e below s _ _ _ (T16.setTop (mkF m 73 #[rv a1, rv wsp, iv (0 : Int32), rv t, rv wspv, iv (0 : Int32), iv (7 : Int32), iv (0 : Int32)] [(.int (-1 : Int32))]))
    refine own_go (fun _ k => XS.ifNo X16.here hx rfl (hb hby d6_73) rfl ((if0 _ _).trans (tlt (by decide : (-1 : Int32) < (0 : Int32))).2.1) (XS.iconst X16.here hx rfl (hb hby d6_76) (XS.goto X16.here hx rfl (pc0 := 77) (pc' := 81) rfl (hb hby d6_77) (by decide) (by decide) k))) ?_
    show own_Go p e below s _ _ _ (T16.setTop (mkF m 81 #[rv a1, rv wsp, iv (0 : Int32), rv t, rv wspv, iv (0 : Int32), iv (7 : Int32), iv (0 : Int32)] [(.int (1 : Int32))]))
    refine own_retN X16 hx hlk Kc18 (t := .boolean) hret (by simp) (hb hby d6_81) (by show _ ≤ 0; omega) (by show _ ≤ 0; omega) ?_
    exact Or.inl ⟨rfl, N0, hp17, rfl⟩
  · obtain ⟨w20, rfl, Nc24, hp21, hp22, Kc23⟩ := hQ16
    refine own_go st16 ?_
    clear st16 X13 Kc14
    replace N0 := Fr.app N0 Nc24
    clear Nc24
    show own_Go p e below s _ _ _ (T16.setTop (mkF m 73 #[rv a1, rv wsp, iv (0 : Int32), rv t, rv wspv, iv (0 : Int32), iv (7 : Int32), iv (0 : Int32)] [(.int w20)]))
    refine own_go (fun _ k => XS.ifYes X16.here hx rfl (pc0 := 73) (pc' := 80) rfl (hb hby d6_73) rfl ((if0 _ _).trans (flt hp22).2.1) (by decide) (by decide) (XS.iconst X16.here hx rfl (hb hby d6_80) k)) ?_
    show own_Go p e below s _ _ _ (T16.setTop (mkF m 81 #[rv a1, rv wsp, iv (0 : Int32), rv t, rv wspv, iv (0 : Int32), iv (7 : Int32), iv (0 : Int32)] [(.int (0 : Int32))]))
    refine own_retN X16 hx hlk Kc23 (t := .boolean) hret (by simp) (hb hby d6_81) (by show _ ≤ 0; omega) (by show _ ≤ 0; omega) ?_
    exact Or.inr (⟨rfl, N0, hp21, rfl⟩)
def Q_sw9 (Z : State) (zc : Int32) (wx : Addr) (wy : Addr) (wsp : Addr) (wspv : Addr) (wspk : ClassId) (a1 : Addr) (t : Addr) (kt : ClassId) (x0 : Int32) (x1 : Int32) (x2 : Int32) (x3 : Int32) (x4 : Int32) (x5 : Int32) (x6 : Int32) (x7 : Int32) (x8 : Int32) (h0 : Heap) (v : Option Value) (h : Heap) (L : List Loc) : Prop := (v = some (.int (1 : Int32)) ∧ Fr Z.heap.size L ∧ own_P7 x0 x1 x2 x3 x4 x5 x6 ∧ h = h0) ∨ (v = some (.int (0 : Int32)) ∧ Fr Z.heap.size L ∧ ¬ (own_P7 x0 x1 x2 x3 x4 x5 x6) ∧ h = h0)
theorem ef_sw9 (m : MethodId) (x0 : Addr) (x1 : Addr) : entryFrame m #[(.ref x0), (.ref x1)] 2 = mkF m 0 #[rv x0, rv x1] [] := by first | (simp [entryFrame, mkF, argsToLocals, Value.category]; done) | rfl
set_option maxRecDepth 65536 in
set_option maxHeartbeats 40000000 in
theorem rm_sw9 (l : Launch) (Z : State) (a0 : Array Value) (hw : own_W Z a0) {zc : Int32} {wx : Addr} {wy : Addr} {wsp : Addr} {wspv : Addr} {wspk : ClassId} (hO : own_Olds Z zc wx wy wsp wspv wspk) (ws : List Jvm.Cond) (a1 : Addr) (t : Addr) (kt : ClassId) (x0 : Int32) (x1 : Int32) (x2 : Int32) (x3 : Int32) (x4 : Int32) (x5 : Int32) (x6 : Int32) (x7 : Int32) (x8 : Int32) (h0 : Heap) (O0 : Ext Z.heap h0) (fp0 : Exa Z h0 a1 "java/lang/String") (fp1 : Fld Z h0 a1 "java/lang/String" "value" "[B" (.ref t)) (fp2 : Fld Z h0 a1 "java/lang/String" "coder" "B" (.int (0 : Int32))) (fp3 : Arv Z h0 t kt .byte (9 : Int32) [(.int x0), (.int x1), (.int x2), (.int x3), (.int x4), (.int x5), (.int x6), (.int x7), (.int x8)] (.int (0 : Int32))) :
    own_MF l Z h0 own_y6 jdk_42_method_76_code 2 (some .boolean) ({ frames := 3, cells := 0, slots := 0, locals := 46 } : Room) #[(.ref a1), (.ref wsp)] (Q_sw9 Z zc wx wy wsp wspv wspk a1 t kt x0 x1 x2 x3 x4 x5 x6 x7 x8 h0) ws := by
  refine own_met (Q := (Q_sw9 Z zc wx wy wsp wspv wspk a1 t kt x0 x1 x2 x3 x4 x5 x6 x7 x8 h0)) _ _ (plainFor_of_name own_pn_0) ?_
  intro p e s m below meth c T X0 hx hby hml hret hlk hZ hown hnm e0
  replace hown : s.vm.findClass "java/lang/String" = some m.cls := hown
  replace hnm : meth.name = "startsWith" := hnm
  have hml : c.maxLocals = 2 := hml
  obtain ⟨oCS, oCz, oEx, oSh, oPF, oSPE, oSPC, oSPF, oSPV⟩ := id hO
  have N0 := Fr.nil Z.heap.size
  have K0 := Keep.refl h0 []
  refine own_go (fun _ k => castTop (ef_sw9 m a1 wsp) k) ?_
  show own_Go p e below s _ _ _ (T.setTop (mkF m 0 #[rv a1, rv wsp] []))
  refine own_go (fun _ k => XS.aloadN X0.here hx rfl (hb hby d5_0) rfl rfl (XS.aloadN X0.here hx rfl (hb hby d5_1) rfl rfl (XS.iconst X0.here hx rfl (hb hby d5_2) k))) ?_
  obtain ⟨v1, T1, L1, X1, hQ1, st1⟩ := own_callV (y := own_y5) (z := own_y5) X0 hx hZ hown (ow36 hw) (ow37 hw) (notFace_of_selects (args := #[]) (mvT hZ (ow39 hw))) (ow39 hw) (ow38 hw) (ow4 hw) (ow40 hw) (rm_swi9 l Z a0 hw hO [] a1 t kt x0 x1 x2 x3 x4 x5 x6 x7 x8 h0 O0 (fp0.keep K0) (fp1.keep K0 nin0) (fp2.keep K0 nin0) (fp3.keep K0 nin0)) 0 0 0 (by show _ ≤ 0; omega) (by show _ ≤ 0; omega) e0 (fp0.keep K0) (g := (mkF m 3 #[rv a1, rv wsp] [(.int (0 : Int32)), (.ref wsp), (.ref a1)])) rfl (by rw [hml]; rfl) [(.ref wsp), (.int (0 : Int32))] [] (lenOf own_pd_3 rfl) rfl rfl (hb hby d5_3)
  rcases hQ1 with hQ1 | hQ1
  · obtain ⟨rfl, Nc4, hp2, Kc3⟩ := hQ1
    refine own_go st1 ?_
    clear st1 X0 e0
    replace N0 := Fr.app N0 Nc4
    clear Nc4
    show own_Go p e below s _ _ _ (T1.setTop (mkF m 6 #[rv a1, rv wsp] [(.int (1 : Int32))]))
    refine own_retN X1 hx hlk Kc3 (t := .boolean) hret (by simp) (hb hby d5_6) (by show _ ≤ 0; omega) (by show _ ≤ 0; omega) ?_
    exact Or.inl ⟨rfl, N0, hp2, rfl⟩
  · obtain ⟨rfl, Nc7, hp5, Kc6⟩ := hQ1
    refine own_go st1 ?_
    clear st1 X0 e0
    replace N0 := Fr.app N0 Nc7
    clear Nc7
    show own_Go p e below s _ _ _ (T1.setTop (mkF m 6 #[rv a1, rv wsp] [(.int (0 : Int32))]))
    refine own_retN X1 hx hlk Kc6 (t := .boolean) hret (by simp) (hb hby d5_6) (by show _ ≤ 0; omega) (by show _ ≤ 0; omega) ?_
    exact Or.inr (⟨rfl, N0, hp5, rfl⟩)
def Q_ofn9 (Z : State) (zc : Int32) (wx : Addr) (wy : Addr) (wsp : Addr) (wspv : Addr) (wspk : ClassId) (a1 : Addr) (t : Addr) (kt : ClassId) (x0 : Int32) (x1 : Int32) (x2 : Int32) (x3 : Int32) (x4 : Int32) (x5 : Int32) (x6 : Int32) (x7 : Int32) (x8 : Int32) (h0 : Heap) (v : Option Value) (h : Heap) (L : List Loc) : Prop := (v = some (.ref wy) ∧ Fr Z.heap.size L ∧ own_P7 x0 x1 x2 x3 x4 x5 x6 ∧ h = h0) ∨ (v = some (.ref wx) ∧ Fr Z.heap.size L ∧ ¬ (own_P7 x0 x1 x2 x3 x4 x5 x6) ∧ h = h0)
theorem ef_ofn9 (m : MethodId) (x0 : Addr) : entryFrame m #[(.ref x0)] 1 = mkF m 0 #[rv x0] [] := by first | (simp [entryFrame, mkF, argsToLocals, Value.category]; done) | rfl
set_option maxRecDepth 65536 in
set_option maxHeartbeats 40000000 in
theorem rm_ofn9 (l : Launch) (Z : State) (a0 : Array Value) (hw : own_W Z a0) {zc : Int32} {wx : Addr} {wy : Addr} {wsp : Addr} {wspv : Addr} {wspk : ClassId} (hO : own_Olds Z zc wx wy wsp wspv wspk) (ws : List Jvm.Cond) (a1 : Addr) (t : Addr) (kt : ClassId) (x0 : Int32) (x1 : Int32) (x2 : Int32) (x3 : Int32) (x4 : Int32) (x5 : Int32) (x6 : Int32) (x7 : Int32) (x8 : Int32) (h0 : Heap) (O0 : Ext Z.heap h0) (fp0 : Exa Z h0 a1 "java/lang/String") (fp1 : Fld Z h0 a1 "java/lang/String" "value" "[B" (.ref t)) (fp2 : Fld Z h0 a1 "java/lang/String" "coder" "B" (.int (0 : Int32))) (fp3 : Arv Z h0 t kt .byte (9 : Int32) [(.int x0), (.int x1), (.int x2), (.int x3), (.int x4), (.int x5), (.int x6), (.int x7), (.int x8)] (.int (0 : Int32))) :
    own_MF l Z h0 own_y7 prog_5_method_4_code 1 (some (.object "com/example/padlock/padlock/lock/Access")) ({ frames := 4, cells := 0, slots := 0, locals := 59 } : Room) #[(.ref a1)] (Q_ofn9 Z zc wx wy wsp wspv wspk a1 t kt x0 x1 x2 x3 x4 x5 x6 x7 x8 h0) ws := by
  refine own_met (Q := (Q_ofn9 Z zc wx wy wsp wspv wspk a1 t kt x0 x1 x2 x3 x4 x5 x6 x7 x8 h0)) _ _ (plainFor_of_name own_pn_2) ?_
  intro p e s m below meth c T X0 hx hby hml hret hlk hZ hown hnm e0
  replace hown : s.vm.findClass "com/example/padlock/padlock/lock/Access" = some m.cls := hown
  replace hnm : meth.name = "ofNode" := hnm
  have hml : c.maxLocals = 1 := hml
  obtain ⟨oCS, oCz, oEx, oSh, oPF, oSPE, oSPC, oSPF, oSPV⟩ := id hO
  have N0 := Fr.nil Z.heap.size
  have K0 := Keep.refl h0 []
  refine own_go (fun _ k => castTop (ef_ofn9 m a1) k) ?_
  show own_Go p e below s _ _ _ (T.setTop (mkF m 0 #[rv a1] []))
  refine own_go (fun _ k => XS.aloadN X0.here hx rfl (hb hby d4_0) rfl rfl k) ?_
  obtain ⟨T1, X1, e1, st1⟩ := getS2 X0 hx hZ hown (host := "") (Or.inl (ow27 hw)) Via.refl e0 (oSh.ext O0) (g := (mkF m 1 #[rv a1] [(.ref a1)])) rfl (hb hby d4_1)
  refine own_go st1 ?_
  clear st1 X0 e0
  obtain ⟨T2, X2, e2, st2⟩ := getF X1 hx hZ hown (host := "") (Or.inl (ow29 hw)) Via.refl e1 (oPF.ext O0) (g := (mkF m 4 #[rv a1] [(.ref wy), (.ref a1)])) rfl rfl (hb hby d4_4)
  refine own_go st2 ?_
  clear st2 X1 e1
  obtain ⟨v3, T3, L3, X3, hQ3, st3⟩ := own_callV (y := own_y6) (z := own_y6) X2 hx hZ hown (ow31 hw) (ow32 hw) (notFace_of_selects (args := #[]) (mvT hZ (ow34 hw))) (ow34 hw) (ow33 hw) (ow4 hw) (ow35 hw) (rm_sw9 l Z a0 hw hO [] a1 t kt x0 x1 x2 x3 x4 x5 x6 x7 x8 h0 O0 (fp0.keep K0) (fp1.keep K0 nin0) (fp2.keep K0 nin0) (fp3.keep K0 nin0)) 0 0 0 (by show _ ≤ 0; omega) (by show _ ≤ 0; omega) e2 (fp0.keep K0) (g := (mkF m 7 #[rv a1] [(.ref wsp), (.ref a1)])) rfl (by rw [hml]; rfl) [(.ref wsp)] [] (lenOf own_pd_4 rfl) rfl rfl (hb hby d4_7)
  rcases hQ3 with hQ3 | hQ3
  · obtain ⟨rfl, Nc6, hp4, Kc5⟩ := hQ3
    refine own_go st3 ?_
    clear st3 X2 e2
    replace N0 := Fr.app N0 Nc6
    clear Nc6
    show own_Go p e below s _ _ _ (T3.setTop (mkF m 10 #[rv a1] [(.int (1 : Int32))]))
    refine own_go (fun _ k => XS.ifNo X3.here hx rfl (hb hby d4_10) rfl ((if0 _ _).trans (feq (by decide : ¬ ((1 : Int32) = (0 : Int32)))).1) k) ?_
    obtain ⟨T7, X7, e7, st7⟩ := getS2 X3 hx hZ hown (host := "") (Or.inl (ow27 hw)) Via.refl Kc5 (oSh.ext O0) (g := (mkF m 13 #[rv a1] [])) rfl (hb hby d4_13)
    refine own_go st7 ?_
    clear st7 X3 Kc5
    refine own_go (fun _ k => XS.goto X7.here hx rfl (pc0 := 16) (pc' := 22) rfl (hb hby d4_16) (by decide) (by decide) k) ?_
    show own_Go p e below s _ _ _ (T7.setTop (mkF m 22 #[rv a1] [(.ref wy)]))
    refine own_retA X7 hx hlk e7 hret rfl rfl (hb hby d4_22) (by show _ ≤ 0; omega) (by show _ ≤ 0; omega) ?_
    exact Or.inl ⟨rfl, N0, hp4, rfl⟩
  · obtain ⟨rfl, Nc10, hp8, Kc9⟩ := hQ3
    refine own_go st3 ?_
    clear st3 X2 e2
    replace N0 := Fr.app N0 Nc10
    clear Nc10
    show own_Go p e below s _ _ _ (T3.setTop (mkF m 10 #[rv a1] [(.int (0 : Int32))]))
    refine own_go (fun _ k => XS.ifYes X3.here hx rfl (pc0 := 10) (pc' := 19) rfl (hb hby d4_10) rfl ((if0 _ _).trans (teq (by decide : (0 : Int32) = (0 : Int32))).1) (by decide) (by decide) k) ?_
    obtain ⟨T11, X11, e11, st11⟩ := getS2 X3 hx hZ hown (host := "") (Or.inl (ow52 hw)) Via.refl Kc9 (oEx.ext O0) (g := (mkF m 19 #[rv a1] [])) rfl (hb hby d4_19)
    refine own_go st11 ?_
    clear st11 X3 Kc9
    show own_Go p e below s _ _ _ (T11.setTop (mkF m 22 #[rv a1] [(.ref wx)]))
    refine own_retA X11 hx hlk e11 hret rfl rfl (hb hby d4_22) (by show _ ≤ 0; omega) (by show _ ≤ 0; omega) ?_
    exact Or.inr (⟨rfl, N0, hp8, rfl⟩)
def Q_law (Z : State) (zc : Int32) (wx : Addr) (wy : Addr) (wsp : Addr) (wspv : Addr) (wspk : ClassId) (p1 : Int32) (p2 : Int32) (q3 : Int64) (p4 : Int32) (h0 : Heap) (v : Option Value) (h : Heap) (L : List Loc) : Prop := (v = some (.int (1 : Int32)) ∧ Fr Z.heap.size L ∧ Keep h0 h [])
set_option maxRecDepth 65536 in
set_option maxHeartbeats 40000000 in
theorem sg_s40 {l : Launch} {Z : State} {a0 : Array Value} (hw : own_W Z a0) {zc : Int32} {wx : Addr} {wy : Addr} {wsp : Addr} {wspv : Addr} {wspk : ClassId} (hO : own_Olds Z zc wx wy wsp wspv wspk) {p : Program} {e : Env} {s : State} {vm0 : Vm} {m : MethodId} {args : Array Value} {below : List Frame} {meth : Method} {c : Code} {T : State} {locs : List Loc} {cells slots : Nat} (p1 : Int32) (p2 : Int32) (q3 : Int64) (p4 : Int32) (um : Int32) (h0 hs1 : Heap)
    (X0 : Stand p l e room_1 (s.setVm vm0) m args below meth c T locs cells slots) (hS : s.Since vm0 hs1.size) (hL : own_L Z a0) (hJ : own_J Z vm0 hs1) (hx : p.tables.exec = Jvm.exec) (hby : c.code = code) (hml : c.maxLocals = 11) (hret : meth.sig.returnType = some .boolean) (hlk : meth.locks = false) (hZ : Z.Warmed39 (s.setVm vm0).vm) (hown : (s.setVm vm0).vm.findClass "com/example/padlock/padlock/lock/AccessOfNodePinLaw" = some m.cls) (hnm : meth.name = "law") (e0 : T.heap = hs1) (N0 : Fr Z.heap.size locs) (O0 : Ext Z.heap hs1) (K0 : Keep h0 hs1 []) (hcells : cells ≤ 0) (hslots : slots ≤ 0) :
    own_GoW p e below s Z (Q_law Z zc wx wy wsp wspv wspk p1 p2 q3 p4 h0) room_1.cells room_1.slots (T.setTop (mkF m 40 #[iv p1, iv p2, .val (.long q3), .second, iv p4, iv ((p1 &&& (2147483647 : Int32)) % (10 : Int32)), iv um, .unset, .unset, .unset, .unset] [])) := by
  obtain ⟨oCS, oCz, oEx, oSh, oPF, oSPE, oSPC, oSPF, oSPV⟩ := id hO
  have K1 := Keep.refl hs1 []
  show own_GoW p e below s _ _ _ _ (T.setTop (mkF m 40 #[iv p1, iv p2, .val (.long q3), .second, iv p4, iv ((p1 &&& (2147483647 : Int32)) % (10 : Int32)), iv um, .unset, .unset, .unset, .unset] []))
  refine own_goW (fun _ k => XS.iload X0.here hx rfl (hb hby at_40) rfl k) ?_
  show own_GoW p e below s _ _ _ _ (T.setTop (mkF m 42 #[iv p1, iv p2, .val (.long q3), .second, iv p4, iv ((p1 &&& (2147483647 : Int32)) % (10 : Int32)), iv um, .unset, .unset, .unset, .unset] [(.int ((p1 &&& (2147483647 : Int32)) % (10 : Int32)))]))
  rcases own_m10 p1 with hn | hn | hn | hn | hn | hn | hn | hn | hn | hn
  · rw [hn]
    clear hn
    show own_GoW p e below s _ _ _ _ (T.setTop (mkF m 42 #[iv p1, iv p2, .val (.long q3), .second, iv p4, iv (0 : Int32), iv um, .unset, .unset, .unset, .unset] [(.int (0 : Int32))]))
    obtain ⟨T1, h1, k1, X1, e1, E1, A1, st1⟩ := newP (aty := .char) X0 hx hZ (ow1 hw) e0 (g := (mkF m 42 #[iv p1, iv p2, .val (.long q3), .second, iv p4, iv (0 : Int32), iv um, .unset, .unset, .unset, .unset] [(.int (0 : Int32))])) rfl (hb hby at_42) rfl (by decide) (cap := 0) (by decide) (by decide) (by show _ ≤ 16; omega) (by show _ ≤ 1152; omega)
    obtain ⟨b1, g1⟩ : ∃ z, z = hs1.size := ⟨_, rfl⟩
    rw [← g1] at A1 st1
    refine own_goW st1 ?_
    clear st1 X0 e0
    have ge1 := Nat.le_of_eq g1.symm
    have big2 : Z.heap.size ≤ b1 := Nat.le_trans O0.1 ge1
    have sz3 : h0.size ≤ b1 := Nat.le_trans K0.1 ge1
    have sz4 : hs1.size ≤ b1 := Nat.le_trans K1.1 ge1
    replace O0 := own_oldExt O0 E1
    replace K0 := K0.ext E1
    replace K1 := K1.ext E1
    replace hS := own_since hS E1.1
    replace hJ := own_Jext hJ E1
    clear E1
    have f5 : Arv Z h1 b1 k1 .char (0 : Int32) [] (.int (0 : Int32)) := (Arv.new A1 (by decide)).pad (pad_rep [] (.int (0 : Int32)) 0)
    refine own_goW (fun _ k => XS.astore X1.here hx rfl (hb hby at_44) rfl rfl (l' := #[iv p1, iv p2, .val (.long q3), .second, iv p4, iv (0 : Int32), iv um, rv b1, .unset, .unset, .unset]) rfl (XS.iload X1.here hx rfl (hb hby at_46) rfl (XS.ifYes X1.here hx rfl (pc0 := 48) (pc' := 64) rfl (hb hby at_48) rfl ((if0 _ _).trans (flt (by decide : ¬ ((0 : Int32) < (0 : Int32)))).2.2.2) (by decide) (by decide) (XS.iload X1.here hx rfl (hb hby at_64) rfl (XS.iconst X1.here hx rfl (hb hby at_66) k))))) ?_
    show own_GoW p e below s _ _ _ _ (T1.setTop (mkF m 67 #[iv p1, iv p2, .val (.long q3), .second, iv p4, iv (0 : Int32), iv um, rv b1, .unset, .unset, .unset] [(.int (1 : Int32)), (.int (0 : Int32))]))
    refine own_goW (fun _ k => XS.icmpYes X1.here hx rfl (pc0 := 67) (pc' := 83) rfl (hb hby at_67) rfl (flt (by decide : ¬ ((1 : Int32) < (0 : Int32)))).2.2.2 (by decide) (by decide) (XS.iload X1.here hx rfl (hb hby at_83) rfl (XS.iconst X1.here hx rfl (hb hby at_85) (XS.icmpYes X1.here hx rfl (pc0 := 86) (pc' := 102) rfl (hb hby at_86) rfl (flt (by decide : ¬ ((2 : Int32) < (0 : Int32)))).2.2.2 (by decide) (by decide) (XS.iload X1.here hx rfl (hb hby at_102) rfl (XS.iconst X1.here hx rfl (hb hby at_104) k)))))) ?_
    show own_GoW p e below s _ _ _ _ (T1.setTop (mkF m 105 #[iv p1, iv p2, .val (.long q3), .second, iv p4, iv (0 : Int32), iv um, rv b1, .unset, .unset, .unset] [(.int (3 : Int32)), (.int (0 : Int32))]))
    refine own_goW (fun _ k => XS.icmpYes X1.here hx rfl (pc0 := 105) (pc' := 121) rfl (hb hby at_105) rfl (flt (by decide : ¬ ((3 : Int32) < (0 : Int32)))).2.2.2 (by decide) (by decide) (XS.iload X1.here hx rfl (hb hby at_121) rfl (XS.iconst X1.here hx rfl (hb hby at_123) (XS.icmpYes X1.here hx rfl (pc0 := 124) (pc' := 140) rfl (hb hby at_124) rfl (flt (by decide : ¬ ((4 : Int32) < (0 : Int32)))).2.2.2 (by decide) (by decide) (XS.iload X1.here hx rfl (hb hby at_140) rfl (XS.iconst X1.here hx rfl (hb hby at_142) k)))))) ?_
    show own_GoW p e below s _ _ _ _ (T1.setTop (mkF m 143 #[iv p1, iv p2, .val (.long q3), .second, iv p4, iv (0 : Int32), iv um, rv b1, .unset, .unset, .unset] [(.int (5 : Int32)), (.int (0 : Int32))]))
    refine own_goW (fun _ k => XS.icmpYes X1.here hx rfl (pc0 := 143) (pc' := 159) rfl (hb hby at_143) rfl (flt (by decide : ¬ ((5 : Int32) < (0 : Int32)))).2.2.2 (by decide) (by decide) (XS.iload X1.here hx rfl (hb hby at_159) rfl (XS.bipush X1.here hx rfl (hb hby at_161) (XS.icmpYes X1.here hx rfl (pc0 := 163) (pc' := 181) rfl (hb hby at_163) rfl (flt (by decide : ¬ ((6 : Int32) < (0 : Int32)))).2.2.2 (by decide) (by decide) (XS.iload X1.here hx rfl (hb hby at_181) rfl (XS.bipush X1.here hx rfl (hb hby at_183) k)))))) ?_
    show own_GoW p e below s _ _ _ _ (T1.setTop (mkF m 185 #[iv p1, iv p2, .val (.long q3), .second, iv p4, iv (0 : Int32), iv um, rv b1, .unset, .unset, .unset] [(.int (7 : Int32)), (.int (0 : Int32))]))
    refine own_goW (fun _ k => XS.icmpYes X1.here hx rfl (pc0 := 185) (pc' := 203) rfl (hb hby at_185) rfl (flt (by decide : ¬ ((7 : Int32) < (0 : Int32)))).2.2.2 (by decide) (by decide) (XS.iload X1.here hx rfl (hb hby at_203) rfl (XS.bipush X1.here hx rfl (hb hby at_205) (XS.icmpYes X1.here hx rfl (pc0 := 207) (pc' := 222) rfl (hb hby at_207) rfl (flt (by decide : ¬ ((8 : Int32) < (0 : Int32)))).2.2.2 (by decide) (by decide) k)))) ?_
    obtain ⟨T6, h6, X6, e6, E6, A6, D6, -, st6⟩ := newO X1 hx hZ hown (ow2 hw) (ow3 hw) (ow4 hw) e1 (g := (mkF m 222 #[iv p1, iv p2, .val (.long q3), .second, iv p4, iv (0 : Int32), iv um, rv b1, .unset, .unset, .unset] [])) rfl (hb hby at_222) (by show _ ≤ 16; omega) (by show _ ≤ 1152; omega)
    obtain ⟨b6, g6⟩ : ∃ z, z = h1.size := ⟨_, rfl⟩
    rw [← g6] at A6 D6 st6
    refine own_goW st6 ?_
    clear st6 X1 e1
    have ge6 := Nat.le_of_eq g6.symm
    have ne7 : b1 ≠ b6 := Nat.ne_of_lt (Nat.lt_of_lt_of_le f5.lt ge6)
    have big8 : Z.heap.size ≤ b6 := Nat.le_trans O0.1 ge6
    have sz9 : h0.size ≤ b6 := Nat.le_trans K0.1 ge6
    have sz10 : hs1.size ≤ b6 := Nat.le_trans K1.1 ge6
    replace f5 := f5.ext E6
    replace O0 := own_oldExt O0 E6
    replace K0 := K0.ext E6
    replace K1 := K1.ext E6
    replace hS := own_since hS E6.1
    replace hJ := own_Jext hJ E6
    clear E6
    have f11 : Fld Z h6 b6 "java/lang/String" "value" "[B" .null := D6 (Or.inr (ow17 hw)) (ty := (.array .byte)) own_fd0
    have f12 : Fld Z h6 b6 "java/lang/String" "coder" "B" (.int (0 : Int32)) := D6 (Or.inr (ow18 hw)) (ty := .byte) own_fd1
    refine own_goW (fun _ k => XS.dup X6.here hx rfl (hb hby at_225) rfl rfl k) ?_
    show own_GoW p e below s _ _ _ _ (T6.setTop (mkF m 226 #[iv p1, iv p2, .val (.long q3), .second, iv p4, iv (0 : Int32), iv um, rv b1, .unset, .unset, .unset] [(.ref b6), (.ref b6)]))
    refine own_goW (fun _ k => XS.aload X6.here hx rfl (hb hby at_226) rfl rfl k) ?_
    obtain ⟨v13, T13, L13, X13, hSn, hZn, hownn, hQ13, hJn, st13⟩ := own_callIW (y := own_y1) X6 hS hL hJ hx hZ hown (ow5 hw) (ow6 hw) (ow4 hw) (ow7 hw) (rm_st1E l Z a0 hw hO [] b6 b1 k1 h6 O0 A6 f11 f12 f5 big8) 1 2 4 rfl (by show _ ≤ 16; omega) (by show _ ≤ 1152; omega) e6 (g := (mkF m 228 #[iv p1, iv p2, .val (.long q3), .second, iv p4, iv (0 : Int32), iv um, rv b1, .unset, .unset, .unset] [(.ref b1), (.ref b6), (.ref b6)])) rfl (by rw [hml]; rfl) b6 [(.ref b1)] [(.ref b6)] (lenOf own_pd_6 rfl) rfl rfl (hb hby at_228)
    replace hS := hSn
    replace hZ := hZn
    replace hown := hownn
    replace hJ := hJn
    clear hSn hZn hownn hJn
    obtain ⟨w14, w15, rfl, Nc21, Kc20, f16, f17, f18, f19⟩ := hQ13
    refine own_goW st13 ?_
    clear st13 X6 e6
    replace N0 := Fr.app N0 Nc21
    clear Nc21
    replace f5 := f5.keep Kc20 (ninS ne7 nin0)
    replace A6 := A6.keep Kc20
    clear f11
    clear f12
    replace O0 := own_oldKeep O0 Kc20 (allS big8 all0)
    replace K0 := K0.trans Kc20 (allS (Or.inr sz9) all0)
    replace K1 := K1.trans Kc20 (allS (Or.inr sz10) all0)
    clear Kc20
    refine own_goW (fun _ k => XS.astore X13.here hx rfl (hb hby at_231) rfl rfl (l' := #[iv p1, iv p2, .val (.long q3), .second, iv p4, iv (0 : Int32), iv um, rv b1, rv b6, .unset, .unset]) rfl (XS.iload X13.here hx rfl (hb hby at_233) rfl (XS.bipush X13.here hx rfl (hb hby at_235) (XS.icmpYes X13.here hx rfl (pc0 := 237) (pc' := 308) rfl (hb hby at_237) rfl (tlt (by decide : (0 : Int32) < (7 : Int32))).1 (by decide) (by decide) k)))) ?_
    show own_GoW p e below s _ _ _ _ (T13.setTop (mkF m 308 #[iv p1, iv p2, .val (.long q3), .second, iv p4, iv (0 : Int32), iv um, rv b1, rv b6, .unset, .unset] []))
    refine own_goW (fun _ k => XS.iconst X13.here hx rfl (hb hby at_308) (XS.istore X13.here hx rfl (hb hby at_309) rfl (l' := #[iv p1, iv p2, .val (.long q3), .second, iv p4, iv (0 : Int32), iv um, rv b1, rv b6, iv (0 : Int32), .unset]) rfl (XS.aload X13.here hx rfl (hb hby at_311) rfl rfl k))) ?_
    obtain ⟨v22, T22, L22, X22, hQ22, st22⟩ := own_callS (y := own_y7) X13 hx hZ hown (ow23 hw) (ow24 hw) (ow25 hw) (ow26 hw) (rm_ofn0 l Z a0 hw hO [] b6 w14 w15 T13.heap O0 f16 f18 f17 f19) 0 0 0 (by show _ ≤ 16; omega) (by show _ ≤ 1152; omega) (rfl : T13.heap = T13.heap) (g := (mkF m 313 #[iv p1, iv p2, .val (.long q3), .second, iv p4, iv (0 : Int32), iv um, rv b1, rv b6, iv (0 : Int32), .unset] [(.ref b6)])) rfl (by rw [hml]; rfl) [(.ref b6)] [] (lenOf own_pd_7 rfl) rfl rfl (hb hby at_313)
    obtain ⟨rfl, Nc24, Kc23⟩ := hQ22
    refine own_goW st22 ?_
    clear st22 X13
    replace N0 := Fr.app N0 Nc24
    clear Nc24
    refine own_goW (fun _ k => XS.astore X22.here hx rfl (hb hby at_316) rfl rfl (l' := #[iv p1, iv p2, .val (.long q3), .second, iv p4, iv (0 : Int32), iv um, rv b1, rv b6, iv (0 : Int32), rv wx]) rfl (XS.iload X22.here hx rfl (hb hby at_318) rfl k)) ?_
    show own_GoW p e below s _ _ _ _ (T22.setTop (mkF m 320 #[iv p1, iv p2, .val (.long q3), .second, iv p4, iv (0 : Int32), iv um, rv b1, rv b6, iv (0 : Int32), rv wx] [(.int (0 : Int32))]))
    refine own_goW (fun _ k => XS.ifYes X22.here hx rfl (pc0 := 320) (pc' := 337) rfl (hb hby at_320) rfl ((if0 _ _).trans (teq (by decide : (0 : Int32) = (0 : Int32))).1) (by decide) (by decide) (XS.aload X22.here hx rfl (hb hby at_337) rfl rfl k)) ?_
    obtain ⟨T25, X25, e25, st25⟩ := getS2 X22 hx hZ hown (host := "") (Or.inl (ow54 hw)) Via.refl Kc23 (oEx.ext O0) (g := (mkF m 339 #[iv p1, iv p2, .val (.long q3), .second, iv p4, iv (0 : Int32), iv um, rv b1, rv b6, iv (0 : Int32), rv wx] [(.ref wx)])) rfl (hb hby at_339)
    refine own_goW st25 ?_
    clear st25 X22 Kc23
    refine own_goW (fun _ k => Jvm.RoadKit.acmp (g := (mkF m 342 #[iv p1, iv p2, .val (.long q3), .second, iv p4, iv (0 : Int32), iv um, rv b1, rv b6, iv (0 : Int32), rv wx] [(.ref wx), (.ref wx)])) X25 hx rfl rfl rfl (pc0 := 342) (pc' := 345) (same := true) rfl (hb hby at_342) rfl (decide_eq_true rfl) (by decide) (by decide) (XS.iconst X25.here hx rfl (hb hby at_345) (XS.goto X25.here hx rfl (pc0 := 346) (pc' := 350) rfl (hb hby at_346) (by decide) (by decide) k))) ?_
    show own_GoW p e below s _ _ _ _ (T25.setTop (mkF m 350 #[iv p1, iv p2, .val (.long q3), .second, iv p4, iv (0 : Int32), iv um, rv b1, rv b6, iv (0 : Int32), rv wx] [(.int (1 : Int32))]))
    refine own_retNW X25 hS hL hZ hJ hx hlk e25 (t := .boolean) hret (by simp) (hb hby at_350) (by show _ ≤ 16; omega) (by show _ ≤ 1152; omega) ?_
    exact ⟨rfl, N0, K0⟩
  · rw [hn]
    clear hn
    show own_GoW p e below s _ _ _ _ (T.setTop (mkF m 42 #[iv p1, iv p2, .val (.long q3), .second, iv p4, iv (1 : Int32), iv um, .unset, .unset, .unset, .unset] [(.int (1 : Int32))]))
    obtain ⟨T26, h26, k26, X26, e26, E26, A26, st26⟩ := newP (aty := .char) X0 hx hZ (ow1 hw) e0 (g := (mkF m 42 #[iv p1, iv p2, .val (.long q3), .second, iv p4, iv (1 : Int32), iv um, .unset, .unset, .unset, .unset] [(.int (1 : Int32))])) rfl (hb hby at_42) rfl (by decide) (cap := 1) (by decide) (by decide) (by show _ ≤ 16; omega) (by show _ ≤ 1152; omega)
    obtain ⟨b26, g26⟩ : ∃ z, z = hs1.size := ⟨_, rfl⟩
    rw [← g26] at A26 st26
    refine own_goW st26 ?_
    clear st26 X0 e0
    have ge26 := Nat.le_of_eq g26.symm
    have big27 : Z.heap.size ≤ b26 := Nat.le_trans O0.1 ge26
    have sz28 : h0.size ≤ b26 := Nat.le_trans K0.1 ge26
    have sz29 : hs1.size ≤ b26 := Nat.le_trans K1.1 ge26
    replace O0 := own_oldExt O0 E26
    replace K0 := K0.ext E26
    replace K1 := K1.ext E26
    replace hS := own_since hS E26.1
    replace hJ := own_Jext hJ E26
    clear E26
    have f30 : Arv Z h26 b26 k26 .char (1 : Int32) [(.int (0 : Int32))] (.int (0 : Int32)) := (Arv.new A26 (by decide)).pad (pad_rep [] (.int (0 : Int32)) 1)
    refine own_goW (fun _ k => XS.astore X26.here hx rfl (hb hby at_44) rfl rfl (l' := #[iv p1, iv p2, .val (.long q3), .second, iv p4, iv (1 : Int32), iv um, rv b26, .unset, .unset, .unset]) rfl (XS.iload X26.here hx rfl (hb hby at_46) rfl (XS.ifNo X26.here hx rfl (hb hby at_48) rfl ((if0 _ _).trans (tlt (by decide : (0 : Int32) < (1 : Int32))).2.2.2) (XS.aload X26.here hx rfl (hb hby at_51) rfl rfl (XS.iconst X26.here hx rfl (hb hby at_53) k))))) ?_
    show own_GoW p e below s _ _ _ _ (T26.setTop (mkF m 54 #[iv p1, iv p2, .val (.long q3), .second, iv p4, iv (1 : Int32), iv um, rv b26, .unset, .unset, .unset] [(.int (0 : Int32)), (.ref b26)]))
    refine own_goW (fun _ k => XS.iconst X26.here hx rfl (hb hby at_54) (XS.bipush X26.here hx rfl (hb hby at_55) (XS.iload X26.here hx rfl (hb hby at_57) rfl (XS.lloadN X26.here hx rfl (hb hby at_59) rfl k)))) ?_
    obtain ⟨v31, T31, L31, X31, hQ31, st31⟩ := own_callS (y := own_y4) X26 hx hZ hown (ow55 hw) (ow56 hw) (ow57 hw) (ow58 hw) (rm_pick l Z a0 hw hO [] (0 : Int32) (115 : Int32) um q3 h26 O0 (⟨by decide, by decide⟩ : own_C8 (115 : Int32))) 2 0 0 (by show _ ≤ 16; omega) (by show _ ≤ 1152; omega) e26 (g := (mkF m 60 #[iv p1, iv p2, .val (.long q3), .second, iv p4, iv (1 : Int32), iv um, rv b26, .unset, .unset, .unset] [(.long q3), (.int um), (.int (115 : Int32)), (.int (0 : Int32)), (.int (0 : Int32)), (.ref b26)])) rfl (by rw [hml]; rfl) [(.int (0 : Int32)), (.int (115 : Int32)), (.int um), (.long q3)] [(.int (0 : Int32)), (.ref b26)] (lenOf own_pd_8 rfl) rfl rfl (hb hby at_60)
    obtain ⟨w32, rfl, Nc35, hp33, Kc34⟩ := hQ31
    refine own_goW st31 ?_
    clear st31 X26 e26
    replace N0 := Fr.app N0 Nc35
    clear Nc35
    obtain ⟨cl36, Ar36, q36, S36, M36, P36, G36⟩ := id f30
    have hin36 : ¬ ((0 : Int32) < 0 ∨ cl36.slots.size ≤ ((0 : Int32)).toNatClampNeg) := inb_of S36 ⟨by decide, by decide⟩
    obtain ⟨T37, h37, X37, e37, W37, st37⟩ := stC X31 hx hZ Kc34 Ar36 (j := (0 : Int32)) hin36 (g := (mkF m 63 #[iv p1, iv p2, .val (.long q3), .second, iv p4, iv (1 : Int32), iv um, rv b26, .unset, .unset, .unset] [(.int w32), (.int (0 : Int32)), (.ref b26)])) rfl rfl (hb hby at_63)
    refine own_goW st37 ?_
    clear st37 X31 Kc34
    rw [own_nar8 hp33] at W37
    have f38 : Arv Z h37 b26 k26 .char (1 : Int32) [(.int w32)] (.int (0 : Int32)) := Arv.set Ar36 q36 S36 M36 P36 G36 (by have q := fits_nar_char w32; rw [own_nar8 hp33] at q; exact q) W37 0 rfl (Nat.le_of_ble_eq_true rfl)
    replace N0 := Fr.snoc X37 N0 big27
    replace hJ := own_Jwr hZ hJ W37 (own_farV f30 (by decide) (ow3 hw))
    clear f30
    replace O0 := own_oldWr O0 W37 big27
    replace K0 := K0.wr W37 (Or.inr sz28)
    replace K1 := K1.wr W37 (Or.inr sz29)
    replace hS := own_since hS (Nat.le_of_eq W37.size.symm)
    clear W37
    clear Ar36 q36 S36 M36 P36 G36 hin36
    show own_GoW p e below s _ _ _ _ (T37.setTop (mkF m 64 #[iv p1, iv p2, .val (.long q3), .second, iv p4, iv (1 : Int32), iv um, rv b26, .unset, .unset, .unset] []))
    refine own_goW (fun _ k => XS.iload X37.here hx rfl (hb hby at_64) rfl (XS.iconst X37.here hx rfl (hb hby at_66) (XS.icmpYes X37.here hx rfl (pc0 := 67) (pc' := 83) rfl (hb hby at_67) rfl (flt (by decide : ¬ ((1 : Int32) < (1 : Int32)))).2.2.2 (by decide) (by decide) (XS.iload X37.here hx rfl (hb hby at_83) rfl (XS.iconst X37.here hx rfl (hb hby at_85) (XS.icmpYes X37.here hx rfl (pc0 := 86) (pc' := 102) rfl (hb hby at_86) rfl (flt (by decide : ¬ ((2 : Int32) < (1 : Int32)))).2.2.2 (by decide) (by decide) k)))))) ?_
    show own_GoW p e below s _ _ _ _ (T37.setTop (mkF m 102 #[iv p1, iv p2, .val (.long q3), .second, iv p4, iv (1 : Int32), iv um, rv b26, .unset, .unset, .unset] []))
    refine own_goW (fun _ k => XS.iload X37.here hx rfl (hb hby at_102) rfl (XS.iconst X37.here hx rfl (hb hby at_104) (XS.icmpYes X37.here hx rfl (pc0 := 105) (pc' := 121) rfl (hb hby at_105) rfl (flt (by decide : ¬ ((3 : Int32) < (1 : Int32)))).2.2.2 (by decide) (by decide) (XS.iload X37.here hx rfl (hb hby at_121) rfl (XS.iconst X37.here hx rfl (hb hby at_123) (XS.icmpYes X37.here hx rfl (pc0 := 124) (pc' := 140) rfl (hb hby at_124) rfl (flt (by decide : ¬ ((4 : Int32) < (1 : Int32)))).2.2.2 (by decide) (by decide) k)))))) ?_
    show own_GoW p e below s _ _ _ _ (T37.setTop (mkF m 140 #[iv p1, iv p2, .val (.long q3), .second, iv p4, iv (1 : Int32), iv um, rv b26, .unset, .unset, .unset] []))
    refine own_goW (fun _ k => XS.iload X37.here hx rfl (hb hby at_140) rfl (XS.iconst X37.here hx rfl (hb hby at_142) (XS.icmpYes X37.here hx rfl (pc0 := 143) (pc' := 159) rfl (hb hby at_143) rfl (flt (by decide : ¬ ((5 : Int32) < (1 : Int32)))).2.2.2 (by decide) (by decide) (XS.iload X37.here hx rfl (hb hby at_159) rfl (XS.bipush X37.here hx rfl (hb hby at_161) (XS.icmpYes X37.here hx rfl (pc0 := 163) (pc' := 181) rfl (hb hby at_163) rfl (flt (by decide : ¬ ((6 : Int32) < (1 : Int32)))).2.2.2 (by decide) (by decide) k)))))) ?_
    show own_GoW p e below s _ _ _ _ (T37.setTop (mkF m 181 #[iv p1, iv p2, .val (.long q3), .second, iv p4, iv (1 : Int32), iv um, rv b26, .unset, .unset, .unset] []))
    refine own_goW (fun _ k => XS.iload X37.here hx rfl (hb hby at_181) rfl (XS.bipush X37.here hx rfl (hb hby at_183) (XS.icmpYes X37.here hx rfl (pc0 := 185) (pc' := 203) rfl (hb hby at_185) rfl (flt (by decide : ¬ ((7 : Int32) < (1 : Int32)))).2.2.2 (by decide) (by decide) (XS.iload X37.here hx rfl (hb hby at_203) rfl (XS.bipush X37.here hx rfl (hb hby at_205) (XS.icmpYes X37.here hx rfl (pc0 := 207) (pc' := 222) rfl (hb hby at_207) rfl (flt (by decide : ¬ ((8 : Int32) < (1 : Int32)))).2.2.2 (by decide) (by decide) k)))))) ?_
    show own_GoW p e below s _ _ _ _ (T37.setTop (mkF m 222 #[iv p1, iv p2, .val (.long q3), .second, iv p4, iv (1 : Int32), iv um, rv b26, .unset, .unset, .unset] []))
    obtain ⟨T39, h39, X39, e39, E39, A39, D39, -, st39⟩ := newO X37 hx hZ hown (ow2 hw) (ow3 hw) (ow4 hw) e37 (g := (mkF m 222 #[iv p1, iv p2, .val (.long q3), .second, iv p4, iv (1 : Int32), iv um, rv b26, .unset, .unset, .unset] [])) rfl (hb hby at_222) (by show _ ≤ 16; omega) (by show _ ≤ 1152; omega)
    obtain ⟨b39, g39⟩ : ∃ z, z = h37.size := ⟨_, rfl⟩
    rw [← g39] at A39 D39 st39
    refine own_goW st39 ?_
    clear st39 X37 e37
    have ge39 := Nat.le_of_eq g39.symm
    have ne40 : b26 ≠ b39 := Nat.ne_of_lt (Nat.lt_of_lt_of_le f38.lt ge39)
    have big41 : Z.heap.size ≤ b39 := Nat.le_trans O0.1 ge39
    have sz42 : h0.size ≤ b39 := Nat.le_trans K0.1 ge39
    have sz43 : hs1.size ≤ b39 := Nat.le_trans K1.1 ge39
    replace f38 := f38.ext E39
    replace O0 := own_oldExt O0 E39
    replace K0 := K0.ext E39
    replace K1 := K1.ext E39
    replace hS := own_since hS E39.1
    replace hJ := own_Jext hJ E39
    clear E39
    have f44 : Fld Z h39 b39 "java/lang/String" "value" "[B" .null := D39 (Or.inr (ow17 hw)) (ty := (.array .byte)) own_fd0
    have f45 : Fld Z h39 b39 "java/lang/String" "coder" "B" (.int (0 : Int32)) := D39 (Or.inr (ow18 hw)) (ty := .byte) own_fd1
    refine own_goW (fun _ k => XS.dup X39.here hx rfl (hb hby at_225) rfl rfl (XS.aload X39.here hx rfl (hb hby at_226) rfl rfl k)) ?_
    obtain ⟨v46, T46, L46, X46, hQ46, st46⟩ := own_callIB (y := own_y1) X39 hx hZ hown (ow5 hw) (ow6 hw) (ow4 hw) (ow7 hw) 1 1 1 (StrChars.Road.backV (W := 1) hZ (own_sw1 hw) (kI := 4) (ow3 hw) (cs := ([w32] : List Int32)) (bs := ([w32] : List Int32).map (fun c => c.toInt8.toInt32)) (n := 1) (n0 := Z.heap.size) big41 (Nat.le_trans O0.1 (Nat.le_refl _)) A39 f44 f45 f38 (oCS.ext O0) oCz rfl rfl (by decide) (by decide) (own_cC hp33 own_cN) rfl (by decide) (by decide)) rfl (by show _ ≤ 16; omega) (by show _ ≤ 1152; omega) e39 (g := (mkF m 228 #[iv p1, iv p2, .val (.long q3), .second, iv p4, iv (1 : Int32), iv um, rv b26, .unset, .unset, .unset] [(.ref b26), (.ref b39), (.ref b39)])) rfl (by rw [hml]; rfl) b39 [(.ref b26)] [(.ref b39)] (lenOf own_pd_6 rfl) rfl rfl (hb hby at_228)
    obtain ⟨rfl, Nc46, Kc46, f146, f246, t46, kb46, tb46, ts46, tn46, f346, f446⟩ := hQ46
    refine own_goW st46 ?_
    clear st46 X39 e39
    replace N0 := Fr.app N0 Nc46
    clear Nc46
    replace hS := own_since hS Kc46.1
    have ne47 : b26 ≠ t46 := Nat.ne_of_lt (Nat.lt_of_lt_of_le f38.lt ts46)
    have ne48 : b39 ≠ t46 := Nat.ne_of_lt (Nat.lt_of_lt_of_le A39.lt ts46)
    have big49 : Z.heap.size ≤ t46 := Nat.le_trans O0.1 ts46
    have sz50 : h0.size ≤ t46 := Nat.le_trans K0.1 ts46
    have sz51 : hs1.size ≤ t46 := Nat.le_trans K1.1 ts46
    have hAp_b39 := own_apart hZ hJ f44
    replace hJ := own_JkeepS hZ hJ Kc46 hAp_b39 A39 (ow3 hw)
    replace f38 := f38.keep Kc46 (ninS ne40 nin0)
    replace A39 := A39.keep Kc46
    clear f44
    clear f45
    replace O0 := own_oldKeep O0 Kc46 (allS big41 all0)
    replace K0 := K0.trans Kc46 (allS (Or.inr sz42) all0)
    replace K1 := K1.trans Kc46 (allS (Or.inr sz43) all0)
    clear Kc46
    replace f446 : Arv Z T46.heap t46 kb46 .byte (1 : Int32) [(.int (w32.toInt8.toInt32))] (.int (0 : Int32)) := f446
    refine own_goW (fun _ k => XS.astore X46.here hx rfl (hb hby at_231) rfl rfl (l' := #[iv p1, iv p2, .val (.long q3), .second, iv p4, iv (1 : Int32), iv um, rv b26, rv b39, .unset, .unset]) rfl (XS.iload X46.here hx rfl (hb hby at_233) rfl k)) ?_
    show own_GoW p e below s _ _ _ _ (T46.setTop (mkF m 235 #[iv p1, iv p2, .val (.long q3), .second, iv p4, iv (1 : Int32), iv um, rv b26, rv b39, .unset, .unset] [(.int (1 : Int32))]))
    refine own_goW (fun _ k => XS.bipush X46.here hx rfl (hb hby at_235) (XS.icmpYes X46.here hx rfl (pc0 := 237) (pc' := 308) rfl (hb hby at_237) rfl (tlt (by decide : (1 : Int32) < (7 : Int32))).1 (by decide) (by decide) (XS.iconst X46.here hx rfl (hb hby at_308) (XS.istore X46.here hx rfl (hb hby at_309) rfl (l' := #[iv p1, iv p2, .val (.long q3), .second, iv p4, iv (1 : Int32), iv um, rv b26, rv b39, iv (0 : Int32), .unset]) rfl (XS.aload X46.here hx rfl (hb hby at_311) rfl rfl k))))) ?_
    obtain ⟨v52, T52, L52, X52, hQ52, st52⟩ := own_callS (y := own_y7) X46 hx hZ hown (ow23 hw) (ow24 hw) (ow25 hw) (ow26 hw) (rm_ofn1 l Z a0 hw hO [] b39 t46 kb46 (w32.toInt8.toInt32) T46.heap O0 f146 f346 f246 f446) 0 0 0 (by show _ ≤ 16; omega) (by show _ ≤ 1152; omega) (rfl : T46.heap = T46.heap) (g := (mkF m 313 #[iv p1, iv p2, .val (.long q3), .second, iv p4, iv (1 : Int32), iv um, rv b26, rv b39, iv (0 : Int32), .unset] [(.ref b39)])) rfl (by rw [hml]; rfl) [(.ref b39)] [] (lenOf own_pd_7 rfl) rfl rfl (hb hby at_313)
    obtain ⟨rfl, Nc54, Kc53⟩ := hQ52
    refine own_goW st52 ?_
    clear st52 X46
    replace N0 := Fr.app N0 Nc54
    clear Nc54
    show own_GoW p e below s _ _ _ _ (T52.setTop (mkF m 316 #[iv p1, iv p2, .val (.long q3), .second, iv p4, iv (1 : Int32), iv um, rv b26, rv b39, iv (0 : Int32), .unset] [(.ref wx)]))
    refine own_goW (fun _ k => XS.astore X52.here hx rfl (hb hby at_316) rfl rfl (l' := #[iv p1, iv p2, .val (.long q3), .second, iv p4, iv (1 : Int32), iv um, rv b26, rv b39, iv (0 : Int32), rv wx]) rfl (XS.iload X52.here hx rfl (hb hby at_318) rfl (XS.ifYes X52.here hx rfl (pc0 := 320) (pc' := 337) rfl (hb hby at_320) rfl ((if0 _ _).trans (teq (by decide : (0 : Int32) = (0 : Int32))).1) (by decide) (by decide) (XS.aload X52.here hx rfl (hb hby at_337) rfl rfl k)))) ?_
    obtain ⟨T55, X55, e55, st55⟩ := getS2 X52 hx hZ hown (host := "") (Or.inl (ow54 hw)) Via.refl Kc53 (oEx.ext O0) (g := (mkF m 339 #[iv p1, iv p2, .val (.long q3), .second, iv p4, iv (1 : Int32), iv um, rv b26, rv b39, iv (0 : Int32), rv wx] [(.ref wx)])) rfl (hb hby at_339)
    refine own_goW st55 ?_
    clear st55 X52 Kc53
    refine own_goW (fun _ k => Jvm.RoadKit.acmp (g := (mkF m 342 #[iv p1, iv p2, .val (.long q3), .second, iv p4, iv (1 : Int32), iv um, rv b26, rv b39, iv (0 : Int32), rv wx] [(.ref wx), (.ref wx)])) X55 hx rfl rfl rfl (pc0 := 342) (pc' := 345) (same := true) rfl (hb hby at_342) rfl (decide_eq_true rfl) (by decide) (by decide) k) ?_
    show own_GoW p e below s _ _ _ _ (T55.setTop (mkF m 345 #[iv p1, iv p2, .val (.long q3), .second, iv p4, iv (1 : Int32), iv um, rv b26, rv b39, iv (0 : Int32), rv wx] []))
    refine own_goW (fun _ k => XS.iconst X55.here hx rfl (hb hby at_345) (XS.goto X55.here hx rfl (pc0 := 346) (pc' := 350) rfl (hb hby at_346) (by decide) (by decide) k)) ?_
    show own_GoW p e below s _ _ _ _ (T55.setTop (mkF m 350 #[iv p1, iv p2, .val (.long q3), .second, iv p4, iv (1 : Int32), iv um, rv b26, rv b39, iv (0 : Int32), rv wx] [(.int (1 : Int32))]))
    refine own_retNW X55 hS hL hZ hJ hx hlk e55 (t := .boolean) hret (by simp) (hb hby at_350) (by show _ ≤ 16; omega) (by show _ ≤ 1152; omega) ?_
    exact ⟨rfl, N0, K0⟩
  · rw [hn]
    clear hn
    show own_GoW p e below s _ _ _ _ (T.setTop (mkF m 42 #[iv p1, iv p2, .val (.long q3), .second, iv p4, iv (2 : Int32), iv um, .unset, .unset, .unset, .unset] [(.int (2 : Int32))]))
    obtain ⟨T56, h56, k56, X56, e56, E56, A56, st56⟩ := newP (aty := .char) X0 hx hZ (ow1 hw) e0 (g := (mkF m 42 #[iv p1, iv p2, .val (.long q3), .second, iv p4, iv (2 : Int32), iv um, .unset, .unset, .unset, .unset] [(.int (2 : Int32))])) rfl (hb hby at_42) rfl (by decide) (cap := 2) (by decide) (by decide) (by show _ ≤ 16; omega) (by show _ ≤ 1152; omega)
    obtain ⟨b56, g56⟩ : ∃ z, z = hs1.size := ⟨_, rfl⟩
    rw [← g56] at A56 st56
    refine own_goW st56 ?_
    clear st56 X0 e0
    have ge56 := Nat.le_of_eq g56.symm
    have big57 : Z.heap.size ≤ b56 := Nat.le_trans O0.1 ge56
    have sz58 : h0.size ≤ b56 := Nat.le_trans K0.1 ge56
    have sz59 : hs1.size ≤ b56 := Nat.le_trans K1.1 ge56
    replace O0 := own_oldExt O0 E56
    replace K0 := K0.ext E56
    replace K1 := K1.ext E56
    replace hS := own_since hS E56.1
    replace hJ := own_Jext hJ E56
    clear E56
    have f60 : Arv Z h56 b56 k56 .char (2 : Int32) [(.int (0 : Int32)), (.int (0 : Int32))] (.int (0 : Int32)) := (Arv.new A56 (by decide)).pad (pad_rep [] (.int (0 : Int32)) 2)
    refine own_goW (fun _ k => XS.astore X56.here hx rfl (hb hby at_44) rfl rfl (l' := #[iv p1, iv p2, .val (.long q3), .second, iv p4, iv (2 : Int32), iv um, rv b56, .unset, .unset, .unset]) rfl (XS.iload X56.here hx rfl (hb hby at_46) rfl (XS.ifNo X56.here hx rfl (hb hby at_48) rfl ((if0 _ _).trans (tlt (by decide : (0 : Int32) < (2 : Int32))).2.2.2) (XS.aload X56.here hx rfl (hb hby at_51) rfl rfl (XS.iconst X56.here hx rfl (hb hby at_53) k))))) ?_
    show own_GoW p e below s _ _ _ _ (T56.setTop (mkF m 54 #[iv p1, iv p2, .val (.long q3), .second, iv p4, iv (2 : Int32), iv um, rv b56, .unset, .unset, .unset] [(.int (0 : Int32)), (.ref b56)]))
    refine own_goW (fun _ k => XS.iconst X56.here hx rfl (hb hby at_54) (XS.bipush X56.here hx rfl (hb hby at_55) (XS.iload X56.here hx rfl (hb hby at_57) rfl (XS.lloadN X56.here hx rfl (hb hby at_59) rfl k)))) ?_
    obtain ⟨v61, T61, L61, X61, hQ61, st61⟩ := own_callS (y := own_y4) X56 hx hZ hown (ow55 hw) (ow56 hw) (ow57 hw) (ow58 hw) (rm_pick l Z a0 hw hO [] (0 : Int32) (115 : Int32) um q3 h56 O0 (⟨by decide, by decide⟩ : own_C8 (115 : Int32))) 2 0 0 (by show _ ≤ 16; omega) (by show _ ≤ 1152; omega) e56 (g := (mkF m 60 #[iv p1, iv p2, .val (.long q3), .second, iv p4, iv (2 : Int32), iv um, rv b56, .unset, .unset, .unset] [(.long q3), (.int um), (.int (115 : Int32)), (.int (0 : Int32)), (.int (0 : Int32)), (.ref b56)])) rfl (by rw [hml]; rfl) [(.int (0 : Int32)), (.int (115 : Int32)), (.int um), (.long q3)] [(.int (0 : Int32)), (.ref b56)] (lenOf own_pd_8 rfl) rfl rfl (hb hby at_60)
    obtain ⟨w62, rfl, Nc65, hp63, Kc64⟩ := hQ61
    refine own_goW st61 ?_
    clear st61 X56 e56
    replace N0 := Fr.app N0 Nc65
    clear Nc65
    obtain ⟨cl66, Ar66, q66, S66, M66, P66, G66⟩ := id f60
    have hin66 : ¬ ((0 : Int32) < 0 ∨ cl66.slots.size ≤ ((0 : Int32)).toNatClampNeg) := inb_of S66 ⟨by decide, by decide⟩
    obtain ⟨T67, h67, X67, e67, W67, st67⟩ := stC X61 hx hZ Kc64 Ar66 (j := (0 : Int32)) hin66 (g := (mkF m 63 #[iv p1, iv p2, .val (.long q3), .second, iv p4, iv (2 : Int32), iv um, rv b56, .unset, .unset, .unset] [(.int w62), (.int (0 : Int32)), (.ref b56)])) rfl rfl (hb hby at_63)
    refine own_goW st67 ?_
    clear st67 X61 Kc64
    rw [own_nar8 hp63] at W67
    have f68 : Arv Z h67 b56 k56 .char (2 : Int32) [(.int w62), (.int (0 : Int32))] (.int (0 : Int32)) := Arv.set Ar66 q66 S66 M66 P66 G66 (by have q := fits_nar_char w62; rw [own_nar8 hp63] at q; exact q) W67 0 rfl (Nat.le_of_ble_eq_true rfl)
    replace N0 := Fr.snoc X67 N0 big57
    replace hJ := own_Jwr hZ hJ W67 (own_farV f60 (by decide) (ow3 hw))
    clear f60
    replace O0 := own_oldWr O0 W67 big57
    replace K0 := K0.wr W67 (Or.inr sz58)
    replace K1 := K1.wr W67 (Or.inr sz59)
    replace hS := own_since hS (Nat.le_of_eq W67.size.symm)
    clear W67
    clear Ar66 q66 S66 M66 P66 G66 hin66
    show own_GoW p e below s _ _ _ _ (T67.setTop (mkF m 64 #[iv p1, iv p2, .val (.long q3), .second, iv p4, iv (2 : Int32), iv um, rv b56, .unset, .unset, .unset] []))
    refine own_goW (fun _ k => XS.iload X67.here hx rfl (hb hby at_64) rfl (XS.iconst X67.here hx rfl (hb hby at_66) (XS.icmpNo X67.here hx rfl (hb hby at_67) rfl (tlt (by decide : (1 : Int32) < (2 : Int32))).2.2.2 (XS.aload X67.here hx rfl (hb hby at_70) rfl rfl (XS.iconst X67.here hx rfl (hb hby at_72) (XS.iconst X67.here hx rfl (hb hby at_73) k)))))) ?_
    show own_GoW p e below s _ _ _ _ (T67.setTop (mkF m 74 #[iv p1, iv p2, .val (.long q3), .second, iv p4, iv (2 : Int32), iv um, rv b56, .unset, .unset, .unset] [(.int (1 : Int32)), (.int (1 : Int32)), (.ref b56)]))
    refine own_goW (fun _ k => XS.bipush X67.here hx rfl (hb hby at_74) (XS.iload X67.here hx rfl (hb hby at_76) rfl (XS.lloadN X67.here hx rfl (hb hby at_78) rfl k))) ?_
    obtain ⟨v69, T69, L69, X69, hQ69, st69⟩ := own_callS (y := own_y4) X67 hx hZ hown (ow55 hw) (ow56 hw) (ow57 hw) (ow58 hw) (rm_pick l Z a0 hw hO [] (1 : Int32) (104 : Int32) um q3 h67 O0 (⟨by decide, by decide⟩ : own_C8 (104 : Int32))) 2 0 0 (by show _ ≤ 16; omega) (by show _ ≤ 1152; omega) e67 (g := (mkF m 79 #[iv p1, iv p2, .val (.long q3), .second, iv p4, iv (2 : Int32), iv um, rv b56, .unset, .unset, .unset] [(.long q3), (.int um), (.int (104 : Int32)), (.int (1 : Int32)), (.int (1 : Int32)), (.ref b56)])) rfl (by rw [hml]; rfl) [(.int (1 : Int32)), (.int (104 : Int32)), (.int um), (.long q3)] [(.int (1 : Int32)), (.ref b56)] (lenOf own_pd_8 rfl) rfl rfl (hb hby at_79)
    obtain ⟨w70, rfl, Nc73, hp71, Kc72⟩ := hQ69
    refine own_goW st69 ?_
    clear st69 X67 e67
    replace N0 := Fr.app N0 Nc73
    clear Nc73
    obtain ⟨cl74, Ar74, q74, S74, M74, P74, G74⟩ := id f68
    have hin74 : ¬ ((1 : Int32) < 0 ∨ cl74.slots.size ≤ ((1 : Int32)).toNatClampNeg) := inb_of S74 ⟨by decide, by decide⟩
    obtain ⟨T75, h75, X75, e75, W75, st75⟩ := stC X69 hx hZ Kc72 Ar74 (j := (1 : Int32)) hin74 (g := (mkF m 82 #[iv p1, iv p2, .val (.long q3), .second, iv p4, iv (2 : Int32), iv um, rv b56, .unset, .unset, .unset] [(.int w70), (.int (1 : Int32)), (.ref b56)])) rfl rfl (hb hby at_82)
    refine own_goW st75 ?_
    clear st75 X69 Kc72
    rw [own_nar8 hp71] at W75
    have f76 : Arv Z h75 b56 k56 .char (2 : Int32) [(.int w62), (.int w70)] (.int (0 : Int32)) := Arv.set Ar74 q74 S74 M74 P74 G74 (by have q := fits_nar_char w70; rw [own_nar8 hp71] at q; exact q) W75 1 rfl (Nat.le_of_ble_eq_true rfl)
    replace N0 := Fr.snoc X75 N0 big57
    replace hJ := own_Jwr hZ hJ W75 (own_farV f68 (by decide) (ow3 hw))
    clear f68
    replace O0 := own_oldWr O0 W75 big57
    replace K0 := K0.wr W75 (Or.inr sz58)
    replace K1 := K1.wr W75 (Or.inr sz59)
    replace hS := own_since hS (Nat.le_of_eq W75.size.symm)
    clear W75
    clear Ar74 q74 S74 M74 P74 G74 hin74
    refine own_goW (fun _ k => XS.iload X75.here hx rfl (hb hby at_83) rfl k) ?_
    show own_GoW p e below s _ _ _ _ (T75.setTop (mkF m 85 #[iv p1, iv p2, .val (.long q3), .second, iv p4, iv (2 : Int32), iv um, rv b56, .unset, .unset, .unset] [(.int (2 : Int32))]))
    refine own_goW (fun _ k => XS.iconst X75.here hx rfl (hb hby at_85) (XS.icmpYes X75.here hx rfl (pc0 := 86) (pc' := 102) rfl (hb hby at_86) rfl (flt (by decide : ¬ ((2 : Int32) < (2 : Int32)))).2.2.2 (by decide) (by decide) (XS.iload X75.here hx rfl (hb hby at_102) rfl (XS.iconst X75.here hx rfl (hb hby at_104) (XS.icmpYes X75.here hx rfl (pc0 := 105) (pc' := 121) rfl (hb hby at_105) rfl (flt (by decide : ¬ ((3 : Int32) < (2 : Int32)))).2.2.2 (by decide) (by decide) (XS.iload X75.here hx rfl (hb hby at_121) rfl k)))))) ?_
    show own_GoW p e below s _ _ _ _ (T75.setTop (mkF m 123 #[iv p1, iv p2, .val (.long q3), .second, iv p4, iv (2 : Int32), iv um, rv b56, .unset, .unset, .unset] [(.int (2 : Int32))]))
    refine own_goW (fun _ k => XS.iconst X75.here hx rfl (hb hby at_123) (XS.icmpYes X75.here hx rfl (pc0 := 124) (pc' := 140) rfl (hb hby at_124) rfl (flt (by decide : ¬ ((4 : Int32) < (2 : Int32)))).2.2.2 (by decide) (by decide) (XS.iload X75.here hx rfl (hb hby at_140) rfl (XS.iconst X75.here hx rfl (hb hby at_142) (XS.icmpYes X75.here hx rfl (pc0 := 143) (pc' := 159) rfl (hb hby at_143) rfl (flt (by decide : ¬ ((5 : Int32) < (2 : Int32)))).2.2.2 (by decide) (by decide) (XS.iload X75.here hx rfl (hb hby at_159) rfl k)))))) ?_
    show own_GoW p e below s _ _ _ _ (T75.setTop (mkF m 161 #[iv p1, iv p2, .val (.long q3), .second, iv p4, iv (2 : Int32), iv um, rv b56, .unset, .unset, .unset] [(.int (2 : Int32))]))
    refine own_goW (fun _ k => XS.bipush X75.here hx rfl (hb hby at_161) (XS.icmpYes X75.here hx rfl (pc0 := 163) (pc' := 181) rfl (hb hby at_163) rfl (flt (by decide : ¬ ((6 : Int32) < (2 : Int32)))).2.2.2 (by decide) (by decide) (XS.iload X75.here hx rfl (hb hby at_181) rfl (XS.bipush X75.here hx rfl (hb hby at_183) (XS.icmpYes X75.here hx rfl (pc0 := 185) (pc' := 203) rfl (hb hby at_185) rfl (flt (by decide : ¬ ((7 : Int32) < (2 : Int32)))).2.2.2 (by decide) (by decide) (XS.iload X75.here hx rfl (hb hby at_203) rfl k)))))) ?_
    show own_GoW p e below s _ _ _ _ (T75.setTop (mkF m 205 #[iv p1, iv p2, .val (.long q3), .second, iv p4, iv (2 : Int32), iv um, rv b56, .unset, .unset, .unset] [(.int (2 : Int32))]))
    refine own_goW (fun _ k => XS.bipush X75.here hx rfl (hb hby at_205) (XS.icmpYes X75.here hx rfl (pc0 := 207) (pc' := 222) rfl (hb hby at_207) rfl (flt (by decide : ¬ ((8 : Int32) < (2 : Int32)))).2.2.2 (by decide) (by decide) k)) ?_
    obtain ⟨T77, h77, X77, e77, E77, A77, D77, -, st77⟩ := newO X75 hx hZ hown (ow2 hw) (ow3 hw) (ow4 hw) e75 (g := (mkF m 222 #[iv p1, iv p2, .val (.long q3), .second, iv p4, iv (2 : Int32), iv um, rv b56, .unset, .unset, .unset] [])) rfl (hb hby at_222) (by show _ ≤ 16; omega) (by show _ ≤ 1152; omega)
    obtain ⟨b77, g77⟩ : ∃ z, z = h75.size := ⟨_, rfl⟩
    rw [← g77] at A77 D77 st77
    refine own_goW st77 ?_
    clear st77 X75 e75
    have ge77 := Nat.le_of_eq g77.symm
    have ne78 : b56 ≠ b77 := Nat.ne_of_lt (Nat.lt_of_lt_of_le f76.lt ge77)
    have big79 : Z.heap.size ≤ b77 := Nat.le_trans O0.1 ge77
    have sz80 : h0.size ≤ b77 := Nat.le_trans K0.1 ge77
    have sz81 : hs1.size ≤ b77 := Nat.le_trans K1.1 ge77
    replace f76 := f76.ext E77
    replace O0 := own_oldExt O0 E77
    replace K0 := K0.ext E77
    replace K1 := K1.ext E77
    replace hS := own_since hS E77.1
    replace hJ := own_Jext hJ E77
    clear E77
    have f82 : Fld Z h77 b77 "java/lang/String" "value" "[B" .null := D77 (Or.inr (ow17 hw)) (ty := (.array .byte)) own_fd0
    have f83 : Fld Z h77 b77 "java/lang/String" "coder" "B" (.int (0 : Int32)) := D77 (Or.inr (ow18 hw)) (ty := .byte) own_fd1
    refine own_goW (fun _ k => XS.dup X77.here hx rfl (hb hby at_225) rfl rfl (XS.aload X77.here hx rfl (hb hby at_226) rfl rfl k)) ?_
    obtain ⟨v84, T84, L84, X84, hQ84, st84⟩ := own_callIB (y := own_y1) X77 hx hZ hown (ow5 hw) (ow6 hw) (ow4 hw) (ow7 hw) 1 1 2 (StrChars.Road.backV (W := 1) hZ (own_sw1 hw) (kI := 4) (ow3 hw) (cs := ([w62, w70] : List Int32)) (bs := ([w62, w70] : List Int32).map (fun c => c.toInt8.toInt32)) (n := 2) (n0 := Z.heap.size) big79 (Nat.le_trans O0.1 (Nat.le_refl _)) A77 f82 f83 f76 (oCS.ext O0) oCz rfl rfl (by decide) (by decide) (own_cC hp63 (own_cC hp71 own_cN)) rfl (by decide) (by decide)) rfl (by show _ ≤ 16; omega) (by show _ ≤ 1152; omega) e77 (g := (mkF m 228 #[iv p1, iv p2, .val (.long q3), .second, iv p4, iv (2 : Int32), iv um, rv b56, .unset, .unset, .unset] [(.ref b56), (.ref b77), (.ref b77)])) rfl (by rw [hml]; rfl) b77 [(.ref b56)] [(.ref b77)] (lenOf own_pd_6 rfl) rfl rfl (hb hby at_228)
    obtain ⟨rfl, Nc84, Kc84, f184, f284, t84, kb84, tb84, ts84, tn84, f384, f484⟩ := hQ84
    refine own_goW st84 ?_
    clear st84 X77 e77
    replace N0 := Fr.app N0 Nc84
    clear Nc84
    replace hS := own_since hS Kc84.1
    have ne85 : b56 ≠ t84 := Nat.ne_of_lt (Nat.lt_of_lt_of_le f76.lt ts84)
    have ne86 : b77 ≠ t84 := Nat.ne_of_lt (Nat.lt_of_lt_of_le A77.lt ts84)
    have big87 : Z.heap.size ≤ t84 := Nat.le_trans O0.1 ts84
    have sz88 : h0.size ≤ t84 := Nat.le_trans K0.1 ts84
    have sz89 : hs1.size ≤ t84 := Nat.le_trans K1.1 ts84
    have hAp_b77 := own_apart hZ hJ f82
    replace hJ := own_JkeepS hZ hJ Kc84 hAp_b77 A77 (ow3 hw)
    replace f76 := f76.keep Kc84 (ninS ne78 nin0)
    replace A77 := A77.keep Kc84
    clear f82
    clear f83
    replace O0 := own_oldKeep O0 Kc84 (allS big79 all0)
    replace K0 := K0.trans Kc84 (allS (Or.inr sz80) all0)
    replace K1 := K1.trans Kc84 (allS (Or.inr sz81) all0)
    clear Kc84
    replace f484 : Arv Z T84.heap t84 kb84 .byte (2 : Int32) [(.int (w62.toInt8.toInt32)), (.int (w70.toInt8.toInt32))] (.int (0 : Int32)) := f484
    show own_GoW p e below s _ _ _ _ (T84.setTop (mkF m 231 #[iv p1, iv p2, .val (.long q3), .second, iv p4, iv (2 : Int32), iv um, rv b56, .unset, .unset, .unset] [(.ref b77)]))
    refine own_goW (fun _ k => XS.astore X84.here hx rfl (hb hby at_231) rfl rfl (l' := #[iv p1, iv p2, .val (.long q3), .second, iv p4, iv (2 : Int32), iv um, rv b56, rv b77, .unset, .unset]) rfl (XS.iload X84.here hx rfl (hb hby at_233) rfl (XS.bipush X84.here hx rfl (hb hby at_235) (XS.icmpYes X84.here hx rfl (pc0 := 237) (pc' := 308) rfl (hb hby at_237) rfl (tlt (by decide : (2 : Int32) < (7 : Int32))).1 (by decide) (by decide) (XS.iconst X84.here hx rfl (hb hby at_308) (XS.istore X84.here hx rfl (hb hby at_309) rfl (l' := #[iv p1, iv p2, .val (.long q3), .second, iv p4, iv (2 : Int32), iv um, rv b56, rv b77, iv (0 : Int32), .unset]) rfl k)))))) ?_
    show own_GoW p e below s _ _ _ _ (T84.setTop (mkF m 311 #[iv p1, iv p2, .val (.long q3), .second, iv p4, iv (2 : Int32), iv um, rv b56, rv b77, iv (0 : Int32), .unset] []))
    refine own_goW (fun _ k => XS.aload X84.here hx rfl (hb hby at_311) rfl rfl k) ?_
    obtain ⟨v90, T90, L90, X90, hQ90, st90⟩ := own_callS (y := own_y7) X84 hx hZ hown (ow23 hw) (ow24 hw) (ow25 hw) (ow26 hw) (rm_ofn2 l Z a0 hw hO [] b77 t84 kb84 (w62.toInt8.toInt32) (w70.toInt8.toInt32) T84.heap O0 f184 f384 f284 f484) 0 0 0 (by show _ ≤ 16; omega) (by show _ ≤ 1152; omega) (rfl : T84.heap = T84.heap) (g := (mkF m 313 #[iv p1, iv p2, .val (.long q3), .second, iv p4, iv (2 : Int32), iv um, rv b56, rv b77, iv (0 : Int32), .unset] [(.ref b77)])) rfl (by rw [hml]; rfl) [(.ref b77)] [] (lenOf own_pd_7 rfl) rfl rfl (hb hby at_313)
    obtain ⟨rfl, Nc92, Kc91⟩ := hQ90
    refine own_goW st90 ?_
    clear st90 X84
    replace N0 := Fr.app N0 Nc92
    clear Nc92
    refine own_goW (fun _ k => XS.astore X90.here hx rfl (hb hby at_316) rfl rfl (l' := #[iv p1, iv p2, .val (.long q3), .second, iv p4, iv (2 : Int32), iv um, rv b56, rv b77, iv (0 : Int32), rv wx]) rfl (XS.iload X90.here hx rfl (hb hby at_318) rfl (XS.ifYes X90.here hx rfl (pc0 := 320) (pc' := 337) rfl (hb hby at_320) rfl ((if0 _ _).trans (teq (by decide : (0 : Int32) = (0 : Int32))).1) (by decide) (by decide) (XS.aload X90.here hx rfl (hb hby at_337) rfl rfl k)))) ?_
    show own_GoW p e below s _ _ _ _ (T90.setTop (mkF m 339 #[iv p1, iv p2, .val (.long q3), .second, iv p4, iv (2 : Int32), iv um, rv b56, rv b77, iv (0 : Int32), rv wx] [(.ref wx)]))
    obtain ⟨T93, X93, e93, st93⟩ := getS2 X90 hx hZ hown (host := "") (Or.inl (ow54 hw)) Via.refl Kc91 (oEx.ext O0) (g := (mkF m 339 #[iv p1, iv p2, .val (.long q3), .second, iv p4, iv (2 : Int32), iv um, rv b56, rv b77, iv (0 : Int32), rv wx] [(.ref wx)])) rfl (hb hby at_339)
    refine own_goW st93 ?_
    clear st93 X90 Kc91
    refine own_goW (fun _ k => Jvm.RoadKit.acmp (g := (mkF m 342 #[iv p1, iv p2, .val (.long q3), .second, iv p4, iv (2 : Int32), iv um, rv b56, rv b77, iv (0 : Int32), rv wx] [(.ref wx), (.ref wx)])) X93 hx rfl rfl rfl (pc0 := 342) (pc' := 345) (same := true) rfl (hb hby at_342) rfl (decide_eq_true rfl) (by decide) (by decide) (XS.iconst X93.here hx rfl (hb hby at_345) (XS.goto X93.here hx rfl (pc0 := 346) (pc' := 350) rfl (hb hby at_346) (by decide) (by decide) k))) ?_
    show own_GoW p e below s _ _ _ _ (T93.setTop (mkF m 350 #[iv p1, iv p2, .val (.long q3), .second, iv p4, iv (2 : Int32), iv um, rv b56, rv b77, iv (0 : Int32), rv wx] [(.int (1 : Int32))]))
    refine own_retNW X93 hS hL hZ hJ hx hlk e93 (t := .boolean) hret (by simp) (hb hby at_350) (by show _ ≤ 16; omega) (by show _ ≤ 1152; omega) ?_
    exact ⟨rfl, N0, K0⟩
  · rw [hn]
    clear hn
    show own_GoW p e below s _ _ _ _ (T.setTop (mkF m 42 #[iv p1, iv p2, .val (.long q3), .second, iv p4, iv (3 : Int32), iv um, .unset, .unset, .unset, .unset] [(.int (3 : Int32))]))
    obtain ⟨T94, h94, k94, X94, e94, E94, A94, st94⟩ := newP (aty := .char) X0 hx hZ (ow1 hw) e0 (g := (mkF m 42 #[iv p1, iv p2, .val (.long q3), .second, iv p4, iv (3 : Int32), iv um, .unset, .unset, .unset, .unset] [(.int (3 : Int32))])) rfl (hb hby at_42) rfl (by decide) (cap := 3) (by decide) (by decide) (by show _ ≤ 16; omega) (by show _ ≤ 1152; omega)
    obtain ⟨b94, g94⟩ : ∃ z, z = hs1.size := ⟨_, rfl⟩
    rw [← g94] at A94 st94
    refine own_goW st94 ?_
    clear st94 X0 e0
    have ge94 := Nat.le_of_eq g94.symm
    have big95 : Z.heap.size ≤ b94 := Nat.le_trans O0.1 ge94
    have sz96 : h0.size ≤ b94 := Nat.le_trans K0.1 ge94
    have sz97 : hs1.size ≤ b94 := Nat.le_trans K1.1 ge94
    replace O0 := own_oldExt O0 E94
    replace K0 := K0.ext E94
    replace K1 := K1.ext E94
    replace hS := own_since hS E94.1
    replace hJ := own_Jext hJ E94
    clear E94
    have f98 : Arv Z h94 b94 k94 .char (3 : Int32) [(.int (0 : Int32)), (.int (0 : Int32)), (.int (0 : Int32))] (.int (0 : Int32)) := (Arv.new A94 (by decide)).pad (pad_rep [] (.int (0 : Int32)) 3)
    refine own_goW (fun _ k => XS.astore X94.here hx rfl (hb hby at_44) rfl rfl (l' := #[iv p1, iv p2, .val (.long q3), .second, iv p4, iv (3 : Int32), iv um, rv b94, .unset, .unset, .unset]) rfl (XS.iload X94.here hx rfl (hb hby at_46) rfl (XS.ifNo X94.here hx rfl (hb hby at_48) rfl ((if0 _ _).trans (tlt (by decide : (0 : Int32) < (3 : Int32))).2.2.2) (XS.aload X94.here hx rfl (hb hby at_51) rfl rfl (XS.iconst X94.here hx rfl (hb hby at_53) k))))) ?_
    show own_GoW p e below s _ _ _ _ (T94.setTop (mkF m 54 #[iv p1, iv p2, .val (.long q3), .second, iv p4, iv (3 : Int32), iv um, rv b94, .unset, .unset, .unset] [(.int (0 : Int32)), (.ref b94)]))
    refine own_goW (fun _ k => XS.iconst X94.here hx rfl (hb hby at_54) (XS.bipush X94.here hx rfl (hb hby at_55) (XS.iload X94.here hx rfl (hb hby at_57) rfl (XS.lloadN X94.here hx rfl (hb hby at_59) rfl k)))) ?_
    obtain ⟨v99, T99, L99, X99, hQ99, st99⟩ := own_callS (y := own_y4) X94 hx hZ hown (ow55 hw) (ow56 hw) (ow57 hw) (ow58 hw) (rm_pick l Z a0 hw hO [] (0 : Int32) (115 : Int32) um q3 h94 O0 (⟨by decide, by decide⟩ : own_C8 (115 : Int32))) 2 0 0 (by show _ ≤ 16; omega) (by show _ ≤ 1152; omega) e94 (g := (mkF m 60 #[iv p1, iv p2, .val (.long q3), .second, iv p4, iv (3 : Int32), iv um, rv b94, .unset, .unset, .unset] [(.long q3), (.int um), (.int (115 : Int32)), (.int (0 : Int32)), (.int (0 : Int32)), (.ref b94)])) rfl (by rw [hml]; rfl) [(.int (0 : Int32)), (.int (115 : Int32)), (.int um), (.long q3)] [(.int (0 : Int32)), (.ref b94)] (lenOf own_pd_8 rfl) rfl rfl (hb hby at_60)
    obtain ⟨w100, rfl, Nc103, hp101, Kc102⟩ := hQ99
    refine own_goW st99 ?_
    clear st99 X94 e94
    replace N0 := Fr.app N0 Nc103
    clear Nc103
    obtain ⟨cl104, Ar104, q104, S104, M104, P104, G104⟩ := id f98
    have hin104 : ¬ ((0 : Int32) < 0 ∨ cl104.slots.size ≤ ((0 : Int32)).toNatClampNeg) := inb_of S104 ⟨by decide, by decide⟩
    obtain ⟨T105, h105, X105, e105, W105, st105⟩ := stC X99 hx hZ Kc102 Ar104 (j := (0 : Int32)) hin104 (g := (mkF m 63 #[iv p1, iv p2, .val (.long q3), .second, iv p4, iv (3 : Int32), iv um, rv b94, .unset, .unset, .unset] [(.int w100), (.int (0 : Int32)), (.ref b94)])) rfl rfl (hb hby at_63)
    refine own_goW st105 ?_
    clear st105 X99 Kc102
    rw [own_nar8 hp101] at W105
    have f106 : Arv Z h105 b94 k94 .char (3 : Int32) [(.int w100), (.int (0 : Int32)), (.int (0 : Int32))] (.int (0 : Int32)) := Arv.set Ar104 q104 S104 M104 P104 G104 (by have q := fits_nar_char w100; rw [own_nar8 hp101] at q; exact q) W105 0 rfl (Nat.le_of_ble_eq_true rfl)
    replace N0 := Fr.snoc X105 N0 big95
    replace hJ := own_Jwr hZ hJ W105 (own_farV f98 (by decide) (ow3 hw))
    clear f98
    replace O0 := own_oldWr O0 W105 big95
    replace K0 := K0.wr W105 (Or.inr sz96)
    replace K1 := K1.wr W105 (Or.inr sz97)
    replace hS := own_since hS (Nat.le_of_eq W105.size.symm)
    clear W105
    clear Ar104 q104 S104 M104 P104 G104 hin104
    show own_GoW p e below s _ _ _ _ (T105.setTop (mkF m 64 #[iv p1, iv p2, .val (.long q3), .second, iv p4, iv (3 : Int32), iv um, rv b94, .unset, .unset, .unset] []))
    refine own_goW (fun _ k => XS.iload X105.here hx rfl (hb hby at_64) rfl (XS.iconst X105.here hx rfl (hb hby at_66) (XS.icmpNo X105.here hx rfl (hb hby at_67) rfl (tlt (by decide : (1 : Int32) < (3 : Int32))).2.2.2 (XS.aload X105.here hx rfl (hb hby at_70) rfl rfl (XS.iconst X105.here hx rfl (hb hby at_72) (XS.iconst X105.here hx rfl (hb hby at_73) k)))))) ?_
    show own_GoW p e below s _ _ _ _ (T105.setTop (mkF m 74 #[iv p1, iv p2, .val (.long q3), .second, iv p4, iv (3 : Int32), iv um, rv b94, .unset, .unset, .unset] [(.int (1 : Int32)), (.int (1 : Int32)), (.ref b94)]))
    refine own_goW (fun _ k => XS.bipush X105.here hx rfl (hb hby at_74) (XS.iload X105.here hx rfl (hb hby at_76) rfl (XS.lloadN X105.here hx rfl (hb hby at_78) rfl k))) ?_
    obtain ⟨v107, T107, L107, X107, hQ107, st107⟩ := own_callS (y := own_y4) X105 hx hZ hown (ow55 hw) (ow56 hw) (ow57 hw) (ow58 hw) (rm_pick l Z a0 hw hO [] (1 : Int32) (104 : Int32) um q3 h105 O0 (⟨by decide, by decide⟩ : own_C8 (104 : Int32))) 2 0 0 (by show _ ≤ 16; omega) (by show _ ≤ 1152; omega) e105 (g := (mkF m 79 #[iv p1, iv p2, .val (.long q3), .second, iv p4, iv (3 : Int32), iv um, rv b94, .unset, .unset, .unset] [(.long q3), (.int um), (.int (104 : Int32)), (.int (1 : Int32)), (.int (1 : Int32)), (.ref b94)])) rfl (by rw [hml]; rfl) [(.int (1 : Int32)), (.int (104 : Int32)), (.int um), (.long q3)] [(.int (1 : Int32)), (.ref b94)] (lenOf own_pd_8 rfl) rfl rfl (hb hby at_79)
    obtain ⟨w108, rfl, Nc111, hp109, Kc110⟩ := hQ107
    refine own_goW st107 ?_
    clear st107 X105 e105
    replace N0 := Fr.app N0 Nc111
    clear Nc111
    obtain ⟨cl112, Ar112, q112, S112, M112, P112, G112⟩ := id f106
    have hin112 : ¬ ((1 : Int32) < 0 ∨ cl112.slots.size ≤ ((1 : Int32)).toNatClampNeg) := inb_of S112 ⟨by decide, by decide⟩
    obtain ⟨T113, h113, X113, e113, W113, st113⟩ := stC X107 hx hZ Kc110 Ar112 (j := (1 : Int32)) hin112 (g := (mkF m 82 #[iv p1, iv p2, .val (.long q3), .second, iv p4, iv (3 : Int32), iv um, rv b94, .unset, .unset, .unset] [(.int w108), (.int (1 : Int32)), (.ref b94)])) rfl rfl (hb hby at_82)
    refine own_goW st113 ?_
    clear st113 X107 Kc110
    rw [own_nar8 hp109] at W113
    have f114 : Arv Z h113 b94 k94 .char (3 : Int32) [(.int w100), (.int w108), (.int (0 : Int32))] (.int (0 : Int32)) := Arv.set Ar112 q112 S112 M112 P112 G112 (by have q := fits_nar_char w108; rw [own_nar8 hp109] at q; exact q) W113 1 rfl (Nat.le_of_ble_eq_true rfl)
    replace N0 := Fr.snoc X113 N0 big95
    replace hJ := own_Jwr hZ hJ W113 (own_farV f106 (by decide) (ow3 hw))
    clear f106
    replace O0 := own_oldWr O0 W113 big95
    replace K0 := K0.wr W113 (Or.inr sz96)
    replace K1 := K1.wr W113 (Or.inr sz97)
    replace hS := own_since hS (Nat.le_of_eq W113.size.symm)
    clear W113
    clear Ar112 q112 S112 M112 P112 G112 hin112
    refine own_goW (fun _ k => XS.iload X113.here hx rfl (hb hby at_83) rfl k) ?_
    show own_GoW p e below s _ _ _ _ (T113.setTop (mkF m 85 #[iv p1, iv p2, .val (.long q3), .second, iv p4, iv (3 : Int32), iv um, rv b94, .unset, .unset, .unset] [(.int (3 : Int32))]))
    refine own_goW (fun _ k => XS.iconst X113.here hx rfl (hb hby at_85) (XS.icmpNo X113.here hx rfl (hb hby at_86) rfl (tlt (by decide : (2 : Int32) < (3 : Int32))).2.2.2 (XS.aload X113.here hx rfl (hb hby at_89) rfl rfl (XS.iconst X113.here hx rfl (hb hby at_91) (XS.iconst X113.here hx rfl (hb hby at_92) (XS.bipush X113.here hx rfl (hb hby at_93) k)))))) ?_
    show own_GoW p e below s _ _ _ _ (T113.setTop (mkF m 95 #[iv p1, iv p2, .val (.long q3), .second, iv p4, iv (3 : Int32), iv um, rv b94, .unset, .unset, .unset] [(.int (97 : Int32)), (.int (2 : Int32)), (.int (2 : Int32)), (.ref b94)]))
    refine own_goW (fun _ k => XS.iload X113.here hx rfl (hb hby at_95) rfl (XS.lloadN X113.here hx rfl (hb hby at_97) rfl k)) ?_
    obtain ⟨v115, T115, L115, X115, hQ115, st115⟩ := own_callS (y := own_y4) X113 hx hZ hown (ow55 hw) (ow56 hw) (ow57 hw) (ow58 hw) (rm_pick l Z a0 hw hO [] (2 : Int32) (97 : Int32) um q3 h113 O0 (⟨by decide, by decide⟩ : own_C8 (97 : Int32))) 2 0 0 (by show _ ≤ 16; omega) (by show _ ≤ 1152; omega) e113 (g := (mkF m 98 #[iv p1, iv p2, .val (.long q3), .second, iv p4, iv (3 : Int32), iv um, rv b94, .unset, .unset, .unset] [(.long q3), (.int um), (.int (97 : Int32)), (.int (2 : Int32)), (.int (2 : Int32)), (.ref b94)])) rfl (by rw [hml]; rfl) [(.int (2 : Int32)), (.int (97 : Int32)), (.int um), (.long q3)] [(.int (2 : Int32)), (.ref b94)] (lenOf own_pd_8 rfl) rfl rfl (hb hby at_98)
    obtain ⟨w116, rfl, Nc119, hp117, Kc118⟩ := hQ115
    refine own_goW st115 ?_
    clear st115 X113 e113
    replace N0 := Fr.app N0 Nc119
    clear Nc119
    obtain ⟨cl120, Ar120, q120, S120, M120, P120, G120⟩ := id f114
    have hin120 : ¬ ((2 : Int32) < 0 ∨ cl120.slots.size ≤ ((2 : Int32)).toNatClampNeg) := inb_of S120 ⟨by decide, by decide⟩
    obtain ⟨T121, h121, X121, e121, W121, st121⟩ := stC X115 hx hZ Kc118 Ar120 (j := (2 : Int32)) hin120 (g := (mkF m 101 #[iv p1, iv p2, .val (.long q3), .second, iv p4, iv (3 : Int32), iv um, rv b94, .unset, .unset, .unset] [(.int w116), (.int (2 : Int32)), (.ref b94)])) rfl rfl (hb hby at_101)
    refine own_goW st121 ?_
    clear st121 X115 Kc118
    rw [own_nar8 hp117] at W121
    have f122 : Arv Z h121 b94 k94 .char (3 : Int32) [(.int w100), (.int w108), (.int w116)] (.int (0 : Int32)) := Arv.set Ar120 q120 S120 M120 P120 G120 (by have q := fits_nar_char w116; rw [own_nar8 hp117] at q; exact q) W121 2 rfl (Nat.le_of_ble_eq_true rfl)
    replace N0 := Fr.snoc X121 N0 big95
    replace hJ := own_Jwr hZ hJ W121 (own_farV f114 (by decide) (ow3 hw))
    clear f114
    replace O0 := own_oldWr O0 W121 big95
    replace K0 := K0.wr W121 (Or.inr sz96)
    replace K1 := K1.wr W121 (Or.inr sz97)
    replace hS := own_since hS (Nat.le_of_eq W121.size.symm)
    clear W121
    clear Ar120 q120 S120 M120 P120 G120 hin120
    refine own_goW (fun _ k => XS.iload X121.here hx rfl (hb hby at_102) rfl (XS.iconst X121.here hx rfl (hb hby at_104) k)) ?_
    show own_GoW p e below s _ _ _ _ (T121.setTop (mkF m 105 #[iv p1, iv p2, .val (.long q3), .second, iv p4, iv (3 : Int32), iv um, rv b94, .unset, .unset, .unset] [(.int (3 : Int32)), (.int (3 : Int32))]))
    refine own_goW (fun _ k => XS.icmpYes X121.here hx rfl (pc0 := 105) (pc' := 121) rfl (hb hby at_105) rfl (flt (by decide : ¬ ((3 : Int32) < (3 : Int32)))).2.2.2 (by decide) (by decide) (XS.iload X121.here hx rfl (hb hby at_121) rfl (XS.iconst X121.here hx rfl (hb hby at_123) (XS.icmpYes X121.here hx rfl (pc0 := 124) (pc' := 140) rfl (hb hby at_124) rfl (flt (by decide : ¬ ((4 : Int32) < (3 : Int32)))).2.2.2 (by decide) (by decide) (XS.iload X121.here hx rfl (hb hby at_140) rfl (XS.iconst X121.here hx rfl (hb hby at_142) k)))))) ?_
    show own_GoW p e below s _ _ _ _ (T121.setTop (mkF m 143 #[iv p1, iv p2, .val (.long q3), .second, iv p4, iv (3 : Int32), iv um, rv b94, .unset, .unset, .unset] [(.int (5 : Int32)), (.int (3 : Int32))]))
    refine own_goW (fun _ k => XS.icmpYes X121.here hx rfl (pc0 := 143) (pc' := 159) rfl (hb hby at_143) rfl (flt (by decide : ¬ ((5 : Int32) < (3 : Int32)))).2.2.2 (by decide) (by decide) (XS.iload X121.here hx rfl (hb hby at_159) rfl (XS.bipush X121.here hx rfl (hb hby at_161) (XS.icmpYes X121.here hx rfl (pc0 := 163) (pc' := 181) rfl (hb hby at_163) rfl (flt (by decide : ¬ ((6 : Int32) < (3 : Int32)))).2.2.2 (by decide) (by decide) (XS.iload X121.here hx rfl (hb hby at_181) rfl (XS.bipush X121.here hx rfl (hb hby at_183) k)))))) ?_
    show own_GoW p e below s _ _ _ _ (T121.setTop (mkF m 185 #[iv p1, iv p2, .val (.long q3), .second, iv p4, iv (3 : Int32), iv um, rv b94, .unset, .unset, .unset] [(.int (7 : Int32)), (.int (3 : Int32))]))
    refine own_goW (fun _ k => XS.icmpYes X121.here hx rfl (pc0 := 185) (pc' := 203) rfl (hb hby at_185) rfl (flt (by decide : ¬ ((7 : Int32) < (3 : Int32)))).2.2.2 (by decide) (by decide) (XS.iload X121.here hx rfl (hb hby at_203) rfl (XS.bipush X121.here hx rfl (hb hby at_205) (XS.icmpYes X121.here hx rfl (pc0 := 207) (pc' := 222) rfl (hb hby at_207) rfl (flt (by decide : ¬ ((8 : Int32) < (3 : Int32)))).2.2.2 (by decide) (by decide) k)))) ?_
    obtain ⟨T123, h123, X123, e123, E123, A123, D123, -, st123⟩ := newO X121 hx hZ hown (ow2 hw) (ow3 hw) (ow4 hw) e121 (g := (mkF m 222 #[iv p1, iv p2, .val (.long q3), .second, iv p4, iv (3 : Int32), iv um, rv b94, .unset, .unset, .unset] [])) rfl (hb hby at_222) (by show _ ≤ 16; omega) (by show _ ≤ 1152; omega)
    obtain ⟨b123, g123⟩ : ∃ z, z = h121.size := ⟨_, rfl⟩
    rw [← g123] at A123 D123 st123
    refine own_goW st123 ?_
    clear st123 X121 e121
    have ge123 := Nat.le_of_eq g123.symm
    have ne124 : b94 ≠ b123 := Nat.ne_of_lt (Nat.lt_of_lt_of_le f122.lt ge123)
    have big125 : Z.heap.size ≤ b123 := Nat.le_trans O0.1 ge123
    have sz126 : h0.size ≤ b123 := Nat.le_trans K0.1 ge123
    have sz127 : hs1.size ≤ b123 := Nat.le_trans K1.1 ge123
    replace f122 := f122.ext E123
    replace O0 := own_oldExt O0 E123
    replace K0 := K0.ext E123
    replace K1 := K1.ext E123
    replace hS := own_since hS E123.1
    replace hJ := own_Jext hJ E123
    clear E123
    have f128 : Fld Z h123 b123 "java/lang/String" "value" "[B" .null := D123 (Or.inr (ow17 hw)) (ty := (.array .byte)) own_fd0
    have f129 : Fld Z h123 b123 "java/lang/String" "coder" "B" (.int (0 : Int32)) := D123 (Or.inr (ow18 hw)) (ty := .byte) own_fd1
    refine own_goW (fun _ k => XS.dup X123.here hx rfl (hb hby at_225) rfl rfl k) ?_
    show own_GoW p e below s _ _ _ _ (T123.setTop (mkF m 226 #[iv p1, iv p2, .val (.long q3), .second, iv p4, iv (3 : Int32), iv um, rv b94, .unset, .unset, .unset] [(.ref b123), (.ref b123)]))
    refine own_goW (fun _ k => XS.aload X123.here hx rfl (hb hby at_226) rfl rfl k) ?_
    obtain ⟨v130, T130, L130, X130, hQ130, st130⟩ := own_callIB (y := own_y1) X123 hx hZ hown (ow5 hw) (ow6 hw) (ow4 hw) (ow7 hw) 1 1 3 (StrChars.Road.backV (W := 1) hZ (own_sw1 hw) (kI := 4) (ow3 hw) (cs := ([w100, w108, w116] : List Int32)) (bs := ([w100, w108, w116] : List Int32).map (fun c => c.toInt8.toInt32)) (n := 3) (n0 := Z.heap.size) big125 (Nat.le_trans O0.1 (Nat.le_refl _)) A123 f128 f129 f122 (oCS.ext O0) oCz rfl rfl (by decide) (by decide) (own_cC hp101 (own_cC hp109 (own_cC hp117 own_cN))) rfl (by decide) (by decide)) rfl (by show _ ≤ 16; omega) (by show _ ≤ 1152; omega) e123 (g := (mkF m 228 #[iv p1, iv p2, .val (.long q3), .second, iv p4, iv (3 : Int32), iv um, rv b94, .unset, .unset, .unset] [(.ref b94), (.ref b123), (.ref b123)])) rfl (by rw [hml]; rfl) b123 [(.ref b94)] [(.ref b123)] (lenOf own_pd_6 rfl) rfl rfl (hb hby at_228)
    obtain ⟨rfl, Nc130, Kc130, f1130, f2130, t130, kb130, tb130, ts130, tn130, f3130, f4130⟩ := hQ130
    refine own_goW st130 ?_
    clear st130 X123 e123
    replace N0 := Fr.app N0 Nc130
    clear Nc130
    replace hS := own_since hS Kc130.1
    have ne131 : b94 ≠ t130 := Nat.ne_of_lt (Nat.lt_of_lt_of_le f122.lt ts130)
    have ne132 : b123 ≠ t130 := Nat.ne_of_lt (Nat.lt_of_lt_of_le A123.lt ts130)
    have big133 : Z.heap.size ≤ t130 := Nat.le_trans O0.1 ts130
    have sz134 : h0.size ≤ t130 := Nat.le_trans K0.1 ts130
    have sz135 : hs1.size ≤ t130 := Nat.le_trans K1.1 ts130
    have hAp_b123 := own_apart hZ hJ f128
    replace hJ := own_JkeepS hZ hJ Kc130 hAp_b123 A123 (ow3 hw)
    replace f122 := f122.keep Kc130 (ninS ne124 nin0)
    replace A123 := A123.keep Kc130
    clear f128
    clear f129
    replace O0 := own_oldKeep O0 Kc130 (allS big125 all0)
    replace K0 := K0.trans Kc130 (allS (Or.inr sz126) all0)
    replace K1 := K1.trans Kc130 (allS (Or.inr sz127) all0)
    clear Kc130
    replace f4130 : Arv Z T130.heap t130 kb130 .byte (3 : Int32) [(.int (w100.toInt8.toInt32)), (.int (w108.toInt8.toInt32)), (.int (w116.toInt8.toInt32))] (.int (0 : Int32)) := f4130
    refine own_goW (fun _ k => XS.astore X130.here hx rfl (hb hby at_231) rfl rfl (l' := #[iv p1, iv p2, .val (.long q3), .second, iv p4, iv (3 : Int32), iv um, rv b94, rv b123, .unset, .unset]) rfl (XS.iload X130.here hx rfl (hb hby at_233) rfl (XS.bipush X130.here hx rfl (hb hby at_235) (XS.icmpYes X130.here hx rfl (pc0 := 237) (pc' := 308) rfl (hb hby at_237) rfl (tlt (by decide : (3 : Int32) < (7 : Int32))).1 (by decide) (by decide) k)))) ?_
    show own_GoW p e below s _ _ _ _ (T130.setTop (mkF m 308 #[iv p1, iv p2, .val (.long q3), .second, iv p4, iv (3 : Int32), iv um, rv b94, rv b123, .unset, .unset] []))
    refine own_goW (fun _ k => XS.iconst X130.here hx rfl (hb hby at_308) (XS.istore X130.here hx rfl (hb hby at_309) rfl (l' := #[iv p1, iv p2, .val (.long q3), .second, iv p4, iv (3 : Int32), iv um, rv b94, rv b123, iv (0 : Int32), .unset]) rfl (XS.aload X130.here hx rfl (hb hby at_311) rfl rfl k))) ?_
    obtain ⟨v136, T136, L136, X136, hQ136, st136⟩ := own_callS (y := own_y7) X130 hx hZ hown (ow23 hw) (ow24 hw) (ow25 hw) (ow26 hw) (rm_ofn3 l Z a0 hw hO [] b123 t130 kb130 (w100.toInt8.toInt32) (w108.toInt8.toInt32) (w116.toInt8.toInt32) T130.heap O0 f1130 f3130 f2130 f4130) 0 0 0 (by show _ ≤ 16; omega) (by show _ ≤ 1152; omega) (rfl : T130.heap = T130.heap) (g := (mkF m 313 #[iv p1, iv p2, .val (.long q3), .second, iv p4, iv (3 : Int32), iv um, rv b94, rv b123, iv (0 : Int32), .unset] [(.ref b123)])) rfl (by rw [hml]; rfl) [(.ref b123)] [] (lenOf own_pd_7 rfl) rfl rfl (hb hby at_313)
    obtain ⟨rfl, Nc138, Kc137⟩ := hQ136
    refine own_goW st136 ?_
    clear st136 X130
    replace N0 := Fr.app N0 Nc138
    clear Nc138
    refine own_goW (fun _ k => XS.astore X136.here hx rfl (hb hby at_316) rfl rfl (l' := #[iv p1, iv p2, .val (.long q3), .second, iv p4, iv (3 : Int32), iv um, rv b94, rv b123, iv (0 : Int32), rv wx]) rfl (XS.iload X136.here hx rfl (hb hby at_318) rfl k)) ?_
    show own_GoW p e below s _ _ _ _ (T136.setTop (mkF m 320 #[iv p1, iv p2, .val (.long q3), .second, iv p4, iv (3 : Int32), iv um, rv b94, rv b123, iv (0 : Int32), rv wx] [(.int (0 : Int32))]))
    refine own_goW (fun _ k => XS.ifYes X136.here hx rfl (pc0 := 320) (pc' := 337) rfl (hb hby at_320) rfl ((if0 _ _).trans (teq (by decide : (0 : Int32) = (0 : Int32))).1) (by decide) (by decide) (XS.aload X136.here hx rfl (hb hby at_337) rfl rfl k)) ?_
    obtain ⟨T139, X139, e139, st139⟩ := getS2 X136 hx hZ hown (host := "") (Or.inl (ow54 hw)) Via.refl Kc137 (oEx.ext O0) (g := (mkF m 339 #[iv p1, iv p2, .val (.long q3), .second, iv p4, iv (3 : Int32), iv um, rv b94, rv b123, iv (0 : Int32), rv wx] [(.ref wx)])) rfl (hb hby at_339)
    refine own_goW st139 ?_
    clear st139 X136 Kc137
    refine own_goW (fun _ k => Jvm.RoadKit.acmp (g := (mkF m 342 #[iv p1, iv p2, .val (.long q3), .second, iv p4, iv (3 : Int32), iv um, rv b94, rv b123, iv (0 : Int32), rv wx] [(.ref wx), (.ref wx)])) X139 hx rfl rfl rfl (pc0 := 342) (pc' := 345) (same := true) rfl (hb hby at_342) rfl (decide_eq_true rfl) (by decide) (by decide) (XS.iconst X139.here hx rfl (hb hby at_345) (XS.goto X139.here hx rfl (pc0 := 346) (pc' := 350) rfl (hb hby at_346) (by decide) (by decide) k))) ?_
    show own_GoW p e below s _ _ _ _ (T139.setTop (mkF m 350 #[iv p1, iv p2, .val (.long q3), .second, iv p4, iv (3 : Int32), iv um, rv b94, rv b123, iv (0 : Int32), rv wx] [(.int (1 : Int32))]))
    refine own_retNW X139 hS hL hZ hJ hx hlk e139 (t := .boolean) hret (by simp) (hb hby at_350) (by show _ ≤ 16; omega) (by show _ ≤ 1152; omega) ?_
    exact ⟨rfl, N0, K0⟩
  · rw [hn]
    clear hn
    show own_GoW p e below s _ _ _ _ (T.setTop (mkF m 42 #[iv p1, iv p2, .val (.long q3), .second, iv p4, iv (4 : Int32), iv um, .unset, .unset, .unset, .unset] [(.int (4 : Int32))]))
    obtain ⟨T140, h140, k140, X140, e140, E140, A140, st140⟩ := newP (aty := .char) X0 hx hZ (ow1 hw) e0 (g := (mkF m 42 #[iv p1, iv p2, .val (.long q3), .second, iv p4, iv (4 : Int32), iv um, .unset, .unset, .unset, .unset] [(.int (4 : Int32))])) rfl (hb hby at_42) rfl (by decide) (cap := 4) (by decide) (by decide) (by show _ ≤ 16; omega) (by show _ ≤ 1152; omega)
    obtain ⟨b140, g140⟩ : ∃ z, z = hs1.size := ⟨_, rfl⟩
    rw [← g140] at A140 st140
    refine own_goW st140 ?_
    clear st140 X0 e0
    have ge140 := Nat.le_of_eq g140.symm
    have big141 : Z.heap.size ≤ b140 := Nat.le_trans O0.1 ge140
    have sz142 : h0.size ≤ b140 := Nat.le_trans K0.1 ge140
    have sz143 : hs1.size ≤ b140 := Nat.le_trans K1.1 ge140
    replace O0 := own_oldExt O0 E140
    replace K0 := K0.ext E140
    replace K1 := K1.ext E140
    replace hS := own_since hS E140.1
    replace hJ := own_Jext hJ E140
    clear E140
    have f144 : Arv Z h140 b140 k140 .char (4 : Int32) [(.int (0 : Int32)), (.int (0 : Int32)), (.int (0 : Int32)), (.int (0 : Int32))] (.int (0 : Int32)) := (Arv.new A140 (by decide)).pad (pad_rep [] (.int (0 : Int32)) 4)
    refine own_goW (fun _ k => XS.astore X140.here hx rfl (hb hby at_44) rfl rfl (l' := #[iv p1, iv p2, .val (.long q3), .second, iv p4, iv (4 : Int32), iv um, rv b140, .unset, .unset, .unset]) rfl (XS.iload X140.here hx rfl (hb hby at_46) rfl (XS.ifNo X140.here hx rfl (hb hby at_48) rfl ((if0 _ _).trans (tlt (by decide : (0 : Int32) < (4 : Int32))).2.2.2) (XS.aload X140.here hx rfl (hb hby at_51) rfl rfl (XS.iconst X140.here hx rfl (hb hby at_53) k))))) ?_
    show own_GoW p e below s _ _ _ _ (T140.setTop (mkF m 54 #[iv p1, iv p2, .val (.long q3), .second, iv p4, iv (4 : Int32), iv um, rv b140, .unset, .unset, .unset] [(.int (0 : Int32)), (.ref b140)]))
    refine own_goW (fun _ k => XS.iconst X140.here hx rfl (hb hby at_54) (XS.bipush X140.here hx rfl (hb hby at_55) (XS.iload X140.here hx rfl (hb hby at_57) rfl (XS.lloadN X140.here hx rfl (hb hby at_59) rfl k)))) ?_
    obtain ⟨v145, T145, L145, X145, hQ145, st145⟩ := own_callS (y := own_y4) X140 hx hZ hown (ow55 hw) (ow56 hw) (ow57 hw) (ow58 hw) (rm_pick l Z a0 hw hO [] (0 : Int32) (115 : Int32) um q3 h140 O0 (⟨by decide, by decide⟩ : own_C8 (115 : Int32))) 2 0 0 (by show _ ≤ 16; omega) (by show _ ≤ 1152; omega) e140 (g := (mkF m 60 #[iv p1, iv p2, .val (.long q3), .second, iv p4, iv (4 : Int32), iv um, rv b140, .unset, .unset, .unset] [(.long q3), (.int um), (.int (115 : Int32)), (.int (0 : Int32)), (.int (0 : Int32)), (.ref b140)])) rfl (by rw [hml]; rfl) [(.int (0 : Int32)), (.int (115 : Int32)), (.int um), (.long q3)] [(.int (0 : Int32)), (.ref b140)] (lenOf own_pd_8 rfl) rfl rfl (hb hby at_60)
    obtain ⟨w146, rfl, Nc149, hp147, Kc148⟩ := hQ145
    refine own_goW st145 ?_
    clear st145 X140 e140
    replace N0 := Fr.app N0 Nc149
    clear Nc149
    obtain ⟨cl150, Ar150, q150, S150, M150, P150, G150⟩ := id f144
    have hin150 : ¬ ((0 : Int32) < 0 ∨ cl150.slots.size ≤ ((0 : Int32)).toNatClampNeg) := inb_of S150 ⟨by decide, by decide⟩
    obtain ⟨T151, h151, X151, e151, W151, st151⟩ := stC X145 hx hZ Kc148 Ar150 (j := (0 : Int32)) hin150 (g := (mkF m 63 #[iv p1, iv p2, .val (.long q3), .second, iv p4, iv (4 : Int32), iv um, rv b140, .unset, .unset, .unset] [(.int w146), (.int (0 : Int32)), (.ref b140)])) rfl rfl (hb hby at_63)
    refine own_goW st151 ?_
    clear st151 X145 Kc148
    rw [own_nar8 hp147] at W151
    have f152 : Arv Z h151 b140 k140 .char (4 : Int32) [(.int w146), (.int (0 : Int32)), (.int (0 : Int32)), (.int (0 : Int32))] (.int (0 : Int32)) := Arv.set Ar150 q150 S150 M150 P150 G150 (by have q := fits_nar_char w146; rw [own_nar8 hp147] at q; exact q) W151 0 rfl (Nat.le_of_ble_eq_true rfl)
    replace N0 := Fr.snoc X151 N0 big141
    replace hJ := own_Jwr hZ hJ W151 (own_farV f144 (by decide) (ow3 hw))
    clear f144
    replace O0 := own_oldWr O0 W151 big141
    replace K0 := K0.wr W151 (Or.inr sz142)
    replace K1 := K1.wr W151 (Or.inr sz143)
    replace hS := own_since hS (Nat.le_of_eq W151.size.symm)
    clear W151
    clear Ar150 q150 S150 M150 P150 G150 hin150
    show own_GoW p e below s _ _ _ _ (T151.setTop (mkF m 64 #[iv p1, iv p2, .val (.long q3), .second, iv p4, iv (4 : Int32), iv um, rv b140, .unset, .unset, .unset] []))
    refine own_goW (fun _ k => XS.iload X151.here hx rfl (hb hby at_64) rfl (XS.iconst X151.here hx rfl (hb hby at_66) (XS.icmpNo X151.here hx rfl (hb hby at_67) rfl (tlt (by decide : (1 : Int32) < (4 : Int32))).2.2.2 (XS.aload X151.here hx rfl (hb hby at_70) rfl rfl (XS.iconst X151.here hx rfl (hb hby at_72) (XS.iconst X151.here hx rfl (hb hby at_73) k)))))) ?_
    show own_GoW p e below s _ _ _ _ (T151.setTop (mkF m 74 #[iv p1, iv p2, .val (.long q3), .second, iv p4, iv (4 : Int32), iv um, rv b140, .unset, .unset, .unset] [(.int (1 : Int32)), (.int (1 : Int32)), (.ref b140)]))
    refine own_goW (fun _ k => XS.bipush X151.here hx rfl (hb hby at_74) (XS.iload X151.here hx rfl (hb hby at_76) rfl (XS.lloadN X151.here hx rfl (hb hby at_78) rfl k))) ?_
    obtain ⟨v153, T153, L153, X153, hQ153, st153⟩ := own_callS (y := own_y4) X151 hx hZ hown (ow55 hw) (ow56 hw) (ow57 hw) (ow58 hw) (rm_pick l Z a0 hw hO [] (1 : Int32) (104 : Int32) um q3 h151 O0 (⟨by decide, by decide⟩ : own_C8 (104 : Int32))) 2 0 0 (by show _ ≤ 16; omega) (by show _ ≤ 1152; omega) e151 (g := (mkF m 79 #[iv p1, iv p2, .val (.long q3), .second, iv p4, iv (4 : Int32), iv um, rv b140, .unset, .unset, .unset] [(.long q3), (.int um), (.int (104 : Int32)), (.int (1 : Int32)), (.int (1 : Int32)), (.ref b140)])) rfl (by rw [hml]; rfl) [(.int (1 : Int32)), (.int (104 : Int32)), (.int um), (.long q3)] [(.int (1 : Int32)), (.ref b140)] (lenOf own_pd_8 rfl) rfl rfl (hb hby at_79)
    obtain ⟨w154, rfl, Nc157, hp155, Kc156⟩ := hQ153
    refine own_goW st153 ?_
    clear st153 X151 e151
    replace N0 := Fr.app N0 Nc157
    clear Nc157
    obtain ⟨cl158, Ar158, q158, S158, M158, P158, G158⟩ := id f152
    have hin158 : ¬ ((1 : Int32) < 0 ∨ cl158.slots.size ≤ ((1 : Int32)).toNatClampNeg) := inb_of S158 ⟨by decide, by decide⟩
    obtain ⟨T159, h159, X159, e159, W159, st159⟩ := stC X153 hx hZ Kc156 Ar158 (j := (1 : Int32)) hin158 (g := (mkF m 82 #[iv p1, iv p2, .val (.long q3), .second, iv p4, iv (4 : Int32), iv um, rv b140, .unset, .unset, .unset] [(.int w154), (.int (1 : Int32)), (.ref b140)])) rfl rfl (hb hby at_82)
    refine own_goW st159 ?_
    clear st159 X153 Kc156
    rw [own_nar8 hp155] at W159
    have f160 : Arv Z h159 b140 k140 .char (4 : Int32) [(.int w146), (.int w154), (.int (0 : Int32)), (.int (0 : Int32))] (.int (0 : Int32)) := Arv.set Ar158 q158 S158 M158 P158 G158 (by have q := fits_nar_char w154; rw [own_nar8 hp155] at q; exact q) W159 1 rfl (Nat.le_of_ble_eq_true rfl)
    replace N0 := Fr.snoc X159 N0 big141
    replace hJ := own_Jwr hZ hJ W159 (own_farV f152 (by decide) (ow3 hw))
    clear f152
    replace O0 := own_oldWr O0 W159 big141
    replace K0 := K0.wr W159 (Or.inr sz142)
    replace K1 := K1.wr W159 (Or.inr sz143)
    replace hS := own_since hS (Nat.le_of_eq W159.size.symm)
    clear W159
    clear Ar158 q158 S158 M158 P158 G158 hin158
    refine own_goW (fun _ k => XS.iload X159.here hx rfl (hb hby at_83) rfl k) ?_
    show own_GoW p e below s _ _ _ _ (T159.setTop (mkF m 85 #[iv p1, iv p2, .val (.long q3), .second, iv p4, iv (4 : Int32), iv um, rv b140, .unset, .unset, .unset] [(.int (4 : Int32))]))
    refine own_goW (fun _ k => XS.iconst X159.here hx rfl (hb hby at_85) (XS.icmpNo X159.here hx rfl (hb hby at_86) rfl (tlt (by decide : (2 : Int32) < (4 : Int32))).2.2.2 (XS.aload X159.here hx rfl (hb hby at_89) rfl rfl (XS.iconst X159.here hx rfl (hb hby at_91) (XS.iconst X159.here hx rfl (hb hby at_92) (XS.bipush X159.here hx rfl (hb hby at_93) k)))))) ?_
    show own_GoW p e below s _ _ _ _ (T159.setTop (mkF m 95 #[iv p1, iv p2, .val (.long q3), .second, iv p4, iv (4 : Int32), iv um, rv b140, .unset, .unset, .unset] [(.int (97 : Int32)), (.int (2 : Int32)), (.int (2 : Int32)), (.ref b140)]))
    refine own_goW (fun _ k => XS.iload X159.here hx rfl (hb hby at_95) rfl (XS.lloadN X159.here hx rfl (hb hby at_97) rfl k)) ?_
    obtain ⟨v161, T161, L161, X161, hQ161, st161⟩ := own_callS (y := own_y4) X159 hx hZ hown (ow55 hw) (ow56 hw) (ow57 hw) (ow58 hw) (rm_pick l Z a0 hw hO [] (2 : Int32) (97 : Int32) um q3 h159 O0 (⟨by decide, by decide⟩ : own_C8 (97 : Int32))) 2 0 0 (by show _ ≤ 16; omega) (by show _ ≤ 1152; omega) e159 (g := (mkF m 98 #[iv p1, iv p2, .val (.long q3), .second, iv p4, iv (4 : Int32), iv um, rv b140, .unset, .unset, .unset] [(.long q3), (.int um), (.int (97 : Int32)), (.int (2 : Int32)), (.int (2 : Int32)), (.ref b140)])) rfl (by rw [hml]; rfl) [(.int (2 : Int32)), (.int (97 : Int32)), (.int um), (.long q3)] [(.int (2 : Int32)), (.ref b140)] (lenOf own_pd_8 rfl) rfl rfl (hb hby at_98)
    obtain ⟨w162, rfl, Nc165, hp163, Kc164⟩ := hQ161
    refine own_goW st161 ?_
    clear st161 X159 e159
    replace N0 := Fr.app N0 Nc165
    clear Nc165
    obtain ⟨cl166, Ar166, q166, S166, M166, P166, G166⟩ := id f160
    have hin166 : ¬ ((2 : Int32) < 0 ∨ cl166.slots.size ≤ ((2 : Int32)).toNatClampNeg) := inb_of S166 ⟨by decide, by decide⟩
    obtain ⟨T167, h167, X167, e167, W167, st167⟩ := stC X161 hx hZ Kc164 Ar166 (j := (2 : Int32)) hin166 (g := (mkF m 101 #[iv p1, iv p2, .val (.long q3), .second, iv p4, iv (4 : Int32), iv um, rv b140, .unset, .unset, .unset] [(.int w162), (.int (2 : Int32)), (.ref b140)])) rfl rfl (hb hby at_101)
    refine own_goW st167 ?_
    clear st167 X161 Kc164
    rw [own_nar8 hp163] at W167
    have f168 : Arv Z h167 b140 k140 .char (4 : Int32) [(.int w146), (.int w154), (.int w162), (.int (0 : Int32))] (.int (0 : Int32)) := Arv.set Ar166 q166 S166 M166 P166 G166 (by have q := fits_nar_char w162; rw [own_nar8 hp163] at q; exact q) W167 2 rfl (Nat.le_of_ble_eq_true rfl)
    replace N0 := Fr.snoc X167 N0 big141
    replace hJ := own_Jwr hZ hJ W167 (own_farV f160 (by decide) (ow3 hw))
    clear f160
    replace O0 := own_oldWr O0 W167 big141
    replace K0 := K0.wr W167 (Or.inr sz142)
    replace K1 := K1.wr W167 (Or.inr sz143)
    replace hS := own_since hS (Nat.le_of_eq W167.size.symm)
    clear W167
    clear Ar166 q166 S166 M166 P166 G166 hin166
    refine own_goW (fun _ k => XS.iload X167.here hx rfl (hb hby at_102) rfl (XS.iconst X167.here hx rfl (hb hby at_104) k)) ?_
    show own_GoW p e below s _ _ _ _ (T167.setTop (mkF m 105 #[iv p1, iv p2, .val (.long q3), .second, iv p4, iv (4 : Int32), iv um, rv b140, .unset, .unset, .unset] [(.int (3 : Int32)), (.int (4 : Int32))]))
    refine own_goW (fun _ k => XS.icmpNo X167.here hx rfl (hb hby at_105) rfl (tlt (by decide : (3 : Int32) < (4 : Int32))).2.2.2 (XS.aload X167.here hx rfl (hb hby at_108) rfl rfl (XS.iconst X167.here hx rfl (hb hby at_110) (XS.iconst X167.here hx rfl (hb hby at_111) (XS.bipush X167.here hx rfl (hb hby at_112) (XS.iload X167.here hx rfl (hb hby at_114) rfl k)))))) ?_
    show own_GoW p e below s _ _ _ _ (T167.setTop (mkF m 116 #[iv p1, iv p2, .val (.long q3), .second, iv p4, iv (4 : Int32), iv um, rv b140, .unset, .unset, .unset] [(.int um), (.int (114 : Int32)), (.int (3 : Int32)), (.int (3 : Int32)), (.ref b140)]))
    refine own_goW (fun _ k => XS.lloadN X167.here hx rfl (hb hby at_116) rfl k) ?_
    obtain ⟨v169, T169, L169, X169, hQ169, st169⟩ := own_callS (y := own_y4) X167 hx hZ hown (ow55 hw) (ow56 hw) (ow57 hw) (ow58 hw) (rm_pick l Z a0 hw hO [] (3 : Int32) (114 : Int32) um q3 h167 O0 (⟨by decide, by decide⟩ : own_C8 (114 : Int32))) 2 0 0 (by show _ ≤ 16; omega) (by show _ ≤ 1152; omega) e167 (g := (mkF m 117 #[iv p1, iv p2, .val (.long q3), .second, iv p4, iv (4 : Int32), iv um, rv b140, .unset, .unset, .unset] [(.long q3), (.int um), (.int (114 : Int32)), (.int (3 : Int32)), (.int (3 : Int32)), (.ref b140)])) rfl (by rw [hml]; rfl) [(.int (3 : Int32)), (.int (114 : Int32)), (.int um), (.long q3)] [(.int (3 : Int32)), (.ref b140)] (lenOf own_pd_8 rfl) rfl rfl (hb hby at_117)
    obtain ⟨w170, rfl, Nc173, hp171, Kc172⟩ := hQ169
    refine own_goW st169 ?_
    clear st169 X167 e167
    replace N0 := Fr.app N0 Nc173
    clear Nc173
    obtain ⟨cl174, Ar174, q174, S174, M174, P174, G174⟩ := id f168
    have hin174 : ¬ ((3 : Int32) < 0 ∨ cl174.slots.size ≤ ((3 : Int32)).toNatClampNeg) := inb_of S174 ⟨by decide, by decide⟩
    obtain ⟨T175, h175, X175, e175, W175, st175⟩ := stC X169 hx hZ Kc172 Ar174 (j := (3 : Int32)) hin174 (g := (mkF m 120 #[iv p1, iv p2, .val (.long q3), .second, iv p4, iv (4 : Int32), iv um, rv b140, .unset, .unset, .unset] [(.int w170), (.int (3 : Int32)), (.ref b140)])) rfl rfl (hb hby at_120)
    refine own_goW st175 ?_
    clear st175 X169 Kc172
    rw [own_nar8 hp171] at W175
    have f176 : Arv Z h175 b140 k140 .char (4 : Int32) [(.int w146), (.int w154), (.int w162), (.int w170)] (.int (0 : Int32)) := Arv.set Ar174 q174 S174 M174 P174 G174 (by have q := fits_nar_char w170; rw [own_nar8 hp171] at q; exact q) W175 3 rfl (Nat.le_of_ble_eq_true rfl)
    replace N0 := Fr.snoc X175 N0 big141
    replace hJ := own_Jwr hZ hJ W175 (own_farV f168 (by decide) (ow3 hw))
    clear f168
    replace O0 := own_oldWr O0 W175 big141
    replace K0 := K0.wr W175 (Or.inr sz142)
    replace K1 := K1.wr W175 (Or.inr sz143)
    replace hS := own_since hS (Nat.le_of_eq W175.size.symm)
    clear W175
    clear Ar174 q174 S174 M174 P174 G174 hin174
    refine own_goW (fun _ k => XS.iload X175.here hx rfl (hb hby at_121) rfl (XS.iconst X175.here hx rfl (hb hby at_123) (XS.icmpYes X175.here hx rfl (pc0 := 124) (pc' := 140) rfl (hb hby at_124) rfl (flt (by decide : ¬ ((4 : Int32) < (4 : Int32)))).2.2.2 (by decide) (by decide) k))) ?_
    show own_GoW p e below s _ _ _ _ (T175.setTop (mkF m 140 #[iv p1, iv p2, .val (.long q3), .second, iv p4, iv (4 : Int32), iv um, rv b140, .unset, .unset, .unset] []))
    refine own_goW (fun _ k => XS.iload X175.here hx rfl (hb hby at_140) rfl (XS.iconst X175.here hx rfl (hb hby at_142) (XS.icmpYes X175.here hx rfl (pc0 := 143) (pc' := 159) rfl (hb hby at_143) rfl (flt (by decide : ¬ ((5 : Int32) < (4 : Int32)))).2.2.2 (by decide) (by decide) (XS.iload X175.here hx rfl (hb hby at_159) rfl (XS.bipush X175.here hx rfl (hb hby at_161) (XS.icmpYes X175.here hx rfl (pc0 := 163) (pc' := 181) rfl (hb hby at_163) rfl (flt (by decide : ¬ ((6 : Int32) < (4 : Int32)))).2.2.2 (by decide) (by decide) k)))))) ?_
    show own_GoW p e below s _ _ _ _ (T175.setTop (mkF m 181 #[iv p1, iv p2, .val (.long q3), .second, iv p4, iv (4 : Int32), iv um, rv b140, .unset, .unset, .unset] []))
    refine own_goW (fun _ k => XS.iload X175.here hx rfl (hb hby at_181) rfl (XS.bipush X175.here hx rfl (hb hby at_183) (XS.icmpYes X175.here hx rfl (pc0 := 185) (pc' := 203) rfl (hb hby at_185) rfl (flt (by decide : ¬ ((7 : Int32) < (4 : Int32)))).2.2.2 (by decide) (by decide) (XS.iload X175.here hx rfl (hb hby at_203) rfl (XS.bipush X175.here hx rfl (hb hby at_205) (XS.icmpYes X175.here hx rfl (pc0 := 207) (pc' := 222) rfl (hb hby at_207) rfl (flt (by decide : ¬ ((8 : Int32) < (4 : Int32)))).2.2.2 (by decide) (by decide) k)))))) ?_
    show own_GoW p e below s _ _ _ _ (T175.setTop (mkF m 222 #[iv p1, iv p2, .val (.long q3), .second, iv p4, iv (4 : Int32), iv um, rv b140, .unset, .unset, .unset] []))
    obtain ⟨T177, h177, X177, e177, E177, A177, D177, -, st177⟩ := newO X175 hx hZ hown (ow2 hw) (ow3 hw) (ow4 hw) e175 (g := (mkF m 222 #[iv p1, iv p2, .val (.long q3), .second, iv p4, iv (4 : Int32), iv um, rv b140, .unset, .unset, .unset] [])) rfl (hb hby at_222) (by show _ ≤ 16; omega) (by show _ ≤ 1152; omega)
    obtain ⟨b177, g177⟩ : ∃ z, z = h175.size := ⟨_, rfl⟩
    rw [← g177] at A177 D177 st177
    refine own_goW st177 ?_
    clear st177 X175 e175
    have ge177 := Nat.le_of_eq g177.symm
    have ne178 : b140 ≠ b177 := Nat.ne_of_lt (Nat.lt_of_lt_of_le f176.lt ge177)
    have big179 : Z.heap.size ≤ b177 := Nat.le_trans O0.1 ge177
    have sz180 : h0.size ≤ b177 := Nat.le_trans K0.1 ge177
    have sz181 : hs1.size ≤ b177 := Nat.le_trans K1.1 ge177
    replace f176 := f176.ext E177
    replace O0 := own_oldExt O0 E177
    replace K0 := K0.ext E177
    replace K1 := K1.ext E177
    replace hS := own_since hS E177.1
    replace hJ := own_Jext hJ E177
    clear E177
    have f182 : Fld Z h177 b177 "java/lang/String" "value" "[B" .null := D177 (Or.inr (ow17 hw)) (ty := (.array .byte)) own_fd0
    have f183 : Fld Z h177 b177 "java/lang/String" "coder" "B" (.int (0 : Int32)) := D177 (Or.inr (ow18 hw)) (ty := .byte) own_fd1
    refine own_goW (fun _ k => XS.dup X177.here hx rfl (hb hby at_225) rfl rfl (XS.aload X177.here hx rfl (hb hby at_226) rfl rfl k)) ?_
    obtain ⟨v184, T184, L184, X184, hQ184, st184⟩ := own_callIB (y := own_y1) X177 hx hZ hown (ow5 hw) (ow6 hw) (ow4 hw) (ow7 hw) 1 1 4 (StrChars.Road.backV (W := 1) hZ (own_sw1 hw) (kI := 4) (ow3 hw) (cs := ([w146, w154, w162, w170] : List Int32)) (bs := ([w146, w154, w162, w170] : List Int32).map (fun c => c.toInt8.toInt32)) (n := 4) (n0 := Z.heap.size) big179 (Nat.le_trans O0.1 (Nat.le_refl _)) A177 f182 f183 f176 (oCS.ext O0) oCz rfl rfl (by decide) (by decide) (own_cC hp147 (own_cC hp155 (own_cC hp163 (own_cC hp171 own_cN)))) rfl (by decide) (by decide)) rfl (by show _ ≤ 16; omega) (by show _ ≤ 1152; omega) e177 (g := (mkF m 228 #[iv p1, iv p2, .val (.long q3), .second, iv p4, iv (4 : Int32), iv um, rv b140, .unset, .unset, .unset] [(.ref b140), (.ref b177), (.ref b177)])) rfl (by rw [hml]; rfl) b177 [(.ref b140)] [(.ref b177)] (lenOf own_pd_6 rfl) rfl rfl (hb hby at_228)
    obtain ⟨rfl, Nc184, Kc184, f1184, f2184, t184, kb184, tb184, ts184, tn184, f3184, f4184⟩ := hQ184
    refine own_goW st184 ?_
    clear st184 X177 e177
    replace N0 := Fr.app N0 Nc184
    clear Nc184
    replace hS := own_since hS Kc184.1
    have ne185 : b140 ≠ t184 := Nat.ne_of_lt (Nat.lt_of_lt_of_le f176.lt ts184)
    have ne186 : b177 ≠ t184 := Nat.ne_of_lt (Nat.lt_of_lt_of_le A177.lt ts184)
    have big187 : Z.heap.size ≤ t184 := Nat.le_trans O0.1 ts184
    have sz188 : h0.size ≤ t184 := Nat.le_trans K0.1 ts184
    have sz189 : hs1.size ≤ t184 := Nat.le_trans K1.1 ts184
    have hAp_b177 := own_apart hZ hJ f182
    replace hJ := own_JkeepS hZ hJ Kc184 hAp_b177 A177 (ow3 hw)
    replace f176 := f176.keep Kc184 (ninS ne178 nin0)
    replace A177 := A177.keep Kc184
    clear f182
    clear f183
    replace O0 := own_oldKeep O0 Kc184 (allS big179 all0)
    replace K0 := K0.trans Kc184 (allS (Or.inr sz180) all0)
    replace K1 := K1.trans Kc184 (allS (Or.inr sz181) all0)
    clear Kc184
    replace f4184 : Arv Z T184.heap t184 kb184 .byte (4 : Int32) [(.int (w146.toInt8.toInt32)), (.int (w154.toInt8.toInt32)), (.int (w162.toInt8.toInt32)), (.int (w170.toInt8.toInt32))] (.int (0 : Int32)) := f4184
    refine own_goW (fun _ k => XS.astore X184.here hx rfl (hb hby at_231) rfl rfl (l' := #[iv p1, iv p2, .val (.long q3), .second, iv p4, iv (4 : Int32), iv um, rv b140, rv b177, .unset, .unset]) rfl (XS.iload X184.here hx rfl (hb hby at_233) rfl k)) ?_
    show own_GoW p e below s _ _ _ _ (T184.setTop (mkF m 235 #[iv p1, iv p2, .val (.long q3), .second, iv p4, iv (4 : Int32), iv um, rv b140, rv b177, .unset, .unset] [(.int (4 : Int32))]))
    refine own_goW (fun _ k => XS.bipush X184.here hx rfl (hb hby at_235) (XS.icmpYes X184.here hx rfl (pc0 := 237) (pc' := 308) rfl (hb hby at_237) rfl (tlt (by decide : (4 : Int32) < (7 : Int32))).1 (by decide) (by decide) (XS.iconst X184.here hx rfl (hb hby at_308) (XS.istore X184.here hx rfl (hb hby at_309) rfl (l' := #[iv p1, iv p2, .val (.long q3), .second, iv p4, iv (4 : Int32), iv um, rv b140, rv b177, iv (0 : Int32), .unset]) rfl (XS.aload X184.here hx rfl (hb hby at_311) rfl rfl k))))) ?_
    obtain ⟨v190, T190, L190, X190, hQ190, st190⟩ := own_callS (y := own_y7) X184 hx hZ hown (ow23 hw) (ow24 hw) (ow25 hw) (ow26 hw) (rm_ofn4 l Z a0 hw hO [] b177 t184 kb184 (w146.toInt8.toInt32) (w154.toInt8.toInt32) (w162.toInt8.toInt32) (w170.toInt8.toInt32) T184.heap O0 f1184 f3184 f2184 f4184) 0 0 0 (by show _ ≤ 16; omega) (by show _ ≤ 1152; omega) (rfl : T184.heap = T184.heap) (g := (mkF m 313 #[iv p1, iv p2, .val (.long q3), .second, iv p4, iv (4 : Int32), iv um, rv b140, rv b177, iv (0 : Int32), .unset] [(.ref b177)])) rfl (by rw [hml]; rfl) [(.ref b177)] [] (lenOf own_pd_7 rfl) rfl rfl (hb hby at_313)
    obtain ⟨rfl, Nc192, Kc191⟩ := hQ190
    refine own_goW st190 ?_
    clear st190 X184
    replace N0 := Fr.app N0 Nc192
    clear Nc192
    show own_GoW p e below s _ _ _ _ (T190.setTop (mkF m 316 #[iv p1, iv p2, .val (.long q3), .second, iv p4, iv (4 : Int32), iv um, rv b140, rv b177, iv (0 : Int32), .unset] [(.ref wx)]))
    refine own_goW (fun _ k => XS.astore X190.here hx rfl (hb hby at_316) rfl rfl (l' := #[iv p1, iv p2, .val (.long q3), .second, iv p4, iv (4 : Int32), iv um, rv b140, rv b177, iv (0 : Int32), rv wx]) rfl (XS.iload X190.here hx rfl (hb hby at_318) rfl (XS.ifYes X190.here hx rfl (pc0 := 320) (pc' := 337) rfl (hb hby at_320) rfl ((if0 _ _).trans (teq (by decide : (0 : Int32) = (0 : Int32))).1) (by decide) (by decide) (XS.aload X190.here hx rfl (hb hby at_337) rfl rfl k)))) ?_
    obtain ⟨T193, X193, e193, st193⟩ := getS2 X190 hx hZ hown (host := "") (Or.inl (ow54 hw)) Via.refl Kc191 (oEx.ext O0) (g := (mkF m 339 #[iv p1, iv p2, .val (.long q3), .second, iv p4, iv (4 : Int32), iv um, rv b140, rv b177, iv (0 : Int32), rv wx] [(.ref wx)])) rfl (hb hby at_339)
    refine own_goW st193 ?_
    clear st193 X190 Kc191
    refine own_goW (fun _ k => Jvm.RoadKit.acmp (g := (mkF m 342 #[iv p1, iv p2, .val (.long q3), .second, iv p4, iv (4 : Int32), iv um, rv b140, rv b177, iv (0 : Int32), rv wx] [(.ref wx), (.ref wx)])) X193 hx rfl rfl rfl (pc0 := 342) (pc' := 345) (same := true) rfl (hb hby at_342) rfl (decide_eq_true rfl) (by decide) (by decide) k) ?_
    show own_GoW p e below s _ _ _ _ (T193.setTop (mkF m 345 #[iv p1, iv p2, .val (.long q3), .second, iv p4, iv (4 : Int32), iv um, rv b140, rv b177, iv (0 : Int32), rv wx] []))
    refine own_goW (fun _ k => XS.iconst X193.here hx rfl (hb hby at_345) (XS.goto X193.here hx rfl (pc0 := 346) (pc' := 350) rfl (hb hby at_346) (by decide) (by decide) k)) ?_
    show own_GoW p e below s _ _ _ _ (T193.setTop (mkF m 350 #[iv p1, iv p2, .val (.long q3), .second, iv p4, iv (4 : Int32), iv um, rv b140, rv b177, iv (0 : Int32), rv wx] [(.int (1 : Int32))]))
    refine own_retNW X193 hS hL hZ hJ hx hlk e193 (t := .boolean) hret (by simp) (hb hby at_350) (by show _ ≤ 16; omega) (by show _ ≤ 1152; omega) ?_
    exact ⟨rfl, N0, K0⟩
  · rw [hn]
    clear hn
    show own_GoW p e below s _ _ _ _ (T.setTop (mkF m 42 #[iv p1, iv p2, .val (.long q3), .second, iv p4, iv (5 : Int32), iv um, .unset, .unset, .unset, .unset] [(.int (5 : Int32))]))
    obtain ⟨T194, h194, k194, X194, e194, E194, A194, st194⟩ := newP (aty := .char) X0 hx hZ (ow1 hw) e0 (g := (mkF m 42 #[iv p1, iv p2, .val (.long q3), .second, iv p4, iv (5 : Int32), iv um, .unset, .unset, .unset, .unset] [(.int (5 : Int32))])) rfl (hb hby at_42) rfl (by decide) (cap := 5) (by decide) (by decide) (by show _ ≤ 16; omega) (by show _ ≤ 1152; omega)
    obtain ⟨b194, g194⟩ : ∃ z, z = hs1.size := ⟨_, rfl⟩
    rw [← g194] at A194 st194
    refine own_goW st194 ?_
    clear st194 X0 e0
    have ge194 := Nat.le_of_eq g194.symm
    have big195 : Z.heap.size ≤ b194 := Nat.le_trans O0.1 ge194
    have sz196 : h0.size ≤ b194 := Nat.le_trans K0.1 ge194
    have sz197 : hs1.size ≤ b194 := Nat.le_trans K1.1 ge194
    replace O0 := own_oldExt O0 E194
    replace K0 := K0.ext E194
    replace K1 := K1.ext E194
    replace hS := own_since hS E194.1
    replace hJ := own_Jext hJ E194
    clear E194
    have f198 : Arv Z h194 b194 k194 .char (5 : Int32) [(.int (0 : Int32)), (.int (0 : Int32)), (.int (0 : Int32)), (.int (0 : Int32)), (.int (0 : Int32))] (.int (0 : Int32)) := (Arv.new A194 (by decide)).pad (pad_rep [] (.int (0 : Int32)) 5)
    refine own_goW (fun _ k => XS.astore X194.here hx rfl (hb hby at_44) rfl rfl (l' := #[iv p1, iv p2, .val (.long q3), .second, iv p4, iv (5 : Int32), iv um, rv b194, .unset, .unset, .unset]) rfl (XS.iload X194.here hx rfl (hb hby at_46) rfl (XS.ifNo X194.here hx rfl (hb hby at_48) rfl ((if0 _ _).trans (tlt (by decide : (0 : Int32) < (5 : Int32))).2.2.2) (XS.aload X194.here hx rfl (hb hby at_51) rfl rfl (XS.iconst X194.here hx rfl (hb hby at_53) k))))) ?_
    show own_GoW p e below s _ _ _ _ (T194.setTop (mkF m 54 #[iv p1, iv p2, .val (.long q3), .second, iv p4, iv (5 : Int32), iv um, rv b194, .unset, .unset, .unset] [(.int (0 : Int32)), (.ref b194)]))
    refine own_goW (fun _ k => XS.iconst X194.here hx rfl (hb hby at_54) (XS.bipush X194.here hx rfl (hb hby at_55) (XS.iload X194.here hx rfl (hb hby at_57) rfl (XS.lloadN X194.here hx rfl (hb hby at_59) rfl k)))) ?_
    obtain ⟨v199, T199, L199, X199, hQ199, st199⟩ := own_callS (y := own_y4) X194 hx hZ hown (ow55 hw) (ow56 hw) (ow57 hw) (ow58 hw) (rm_pick l Z a0 hw hO [] (0 : Int32) (115 : Int32) um q3 h194 O0 (⟨by decide, by decide⟩ : own_C8 (115 : Int32))) 2 0 0 (by show _ ≤ 16; omega) (by show _ ≤ 1152; omega) e194 (g := (mkF m 60 #[iv p1, iv p2, .val (.long q3), .second, iv p4, iv (5 : Int32), iv um, rv b194, .unset, .unset, .unset] [(.long q3), (.int um), (.int (115 : Int32)), (.int (0 : Int32)), (.int (0 : Int32)), (.ref b194)])) rfl (by rw [hml]; rfl) [(.int (0 : Int32)), (.int (115 : Int32)), (.int um), (.long q3)] [(.int (0 : Int32)), (.ref b194)] (lenOf own_pd_8 rfl) rfl rfl (hb hby at_60)
    obtain ⟨w200, rfl, Nc203, hp201, Kc202⟩ := hQ199
    refine own_goW st199 ?_
    clear st199 X194 e194
    replace N0 := Fr.app N0 Nc203
    clear Nc203
    obtain ⟨cl204, Ar204, q204, S204, M204, P204, G204⟩ := id f198
    have hin204 : ¬ ((0 : Int32) < 0 ∨ cl204.slots.size ≤ ((0 : Int32)).toNatClampNeg) := inb_of S204 ⟨by decide, by decide⟩
    obtain ⟨T205, h205, X205, e205, W205, st205⟩ := stC X199 hx hZ Kc202 Ar204 (j := (0 : Int32)) hin204 (g := (mkF m 63 #[iv p1, iv p2, .val (.long q3), .second, iv p4, iv (5 : Int32), iv um, rv b194, .unset, .unset, .unset] [(.int w200), (.int (0 : Int32)), (.ref b194)])) rfl rfl (hb hby at_63)
    refine own_goW st205 ?_
    clear st205 X199 Kc202
    rw [own_nar8 hp201] at W205
    have f206 : Arv Z h205 b194 k194 .char (5 : Int32) [(.int w200), (.int (0 : Int32)), (.int (0 : Int32)), (.int (0 : Int32)), (.int (0 : Int32))] (.int (0 : Int32)) := Arv.set Ar204 q204 S204 M204 P204 G204 (by have q := fits_nar_char w200; rw [own_nar8 hp201] at q; exact q) W205 0 rfl (Nat.le_of_ble_eq_true rfl)
    replace N0 := Fr.snoc X205 N0 big195
    replace hJ := own_Jwr hZ hJ W205 (own_farV f198 (by decide) (ow3 hw))
    clear f198
    replace O0 := own_oldWr O0 W205 big195
    replace K0 := K0.wr W205 (Or.inr sz196)
    replace K1 := K1.wr W205 (Or.inr sz197)
    replace hS := own_since hS (Nat.le_of_eq W205.size.symm)
    clear W205
    clear Ar204 q204 S204 M204 P204 G204 hin204
    show own_GoW p e below s _ _ _ _ (T205.setTop (mkF m 64 #[iv p1, iv p2, .val (.long q3), .second, iv p4, iv (5 : Int32), iv um, rv b194, .unset, .unset, .unset] []))
    refine own_goW (fun _ k => XS.iload X205.here hx rfl (hb hby at_64) rfl (XS.iconst X205.here hx rfl (hb hby at_66) (XS.icmpNo X205.here hx rfl (hb hby at_67) rfl (tlt (by decide : (1 : Int32) < (5 : Int32))).2.2.2 (XS.aload X205.here hx rfl (hb hby at_70) rfl rfl (XS.iconst X205.here hx rfl (hb hby at_72) (XS.iconst X205.here hx rfl (hb hby at_73) k)))))) ?_
    show own_GoW p e below s _ _ _ _ (T205.setTop (mkF m 74 #[iv p1, iv p2, .val (.long q3), .second, iv p4, iv (5 : Int32), iv um, rv b194, .unset, .unset, .unset] [(.int (1 : Int32)), (.int (1 : Int32)), (.ref b194)]))
    refine own_goW (fun _ k => XS.bipush X205.here hx rfl (hb hby at_74) (XS.iload X205.here hx rfl (hb hby at_76) rfl (XS.lloadN X205.here hx rfl (hb hby at_78) rfl k))) ?_
    obtain ⟨v207, T207, L207, X207, hQ207, st207⟩ := own_callS (y := own_y4) X205 hx hZ hown (ow55 hw) (ow56 hw) (ow57 hw) (ow58 hw) (rm_pick l Z a0 hw hO [] (1 : Int32) (104 : Int32) um q3 h205 O0 (⟨by decide, by decide⟩ : own_C8 (104 : Int32))) 2 0 0 (by show _ ≤ 16; omega) (by show _ ≤ 1152; omega) e205 (g := (mkF m 79 #[iv p1, iv p2, .val (.long q3), .second, iv p4, iv (5 : Int32), iv um, rv b194, .unset, .unset, .unset] [(.long q3), (.int um), (.int (104 : Int32)), (.int (1 : Int32)), (.int (1 : Int32)), (.ref b194)])) rfl (by rw [hml]; rfl) [(.int (1 : Int32)), (.int (104 : Int32)), (.int um), (.long q3)] [(.int (1 : Int32)), (.ref b194)] (lenOf own_pd_8 rfl) rfl rfl (hb hby at_79)
    obtain ⟨w208, rfl, Nc211, hp209, Kc210⟩ := hQ207
    refine own_goW st207 ?_
    clear st207 X205 e205
    replace N0 := Fr.app N0 Nc211
    clear Nc211
    obtain ⟨cl212, Ar212, q212, S212, M212, P212, G212⟩ := id f206
    have hin212 : ¬ ((1 : Int32) < 0 ∨ cl212.slots.size ≤ ((1 : Int32)).toNatClampNeg) := inb_of S212 ⟨by decide, by decide⟩
    obtain ⟨T213, h213, X213, e213, W213, st213⟩ := stC X207 hx hZ Kc210 Ar212 (j := (1 : Int32)) hin212 (g := (mkF m 82 #[iv p1, iv p2, .val (.long q3), .second, iv p4, iv (5 : Int32), iv um, rv b194, .unset, .unset, .unset] [(.int w208), (.int (1 : Int32)), (.ref b194)])) rfl rfl (hb hby at_82)
    refine own_goW st213 ?_
    clear st213 X207 Kc210
    rw [own_nar8 hp209] at W213
    have f214 : Arv Z h213 b194 k194 .char (5 : Int32) [(.int w200), (.int w208), (.int (0 : Int32)), (.int (0 : Int32)), (.int (0 : Int32))] (.int (0 : Int32)) := Arv.set Ar212 q212 S212 M212 P212 G212 (by have q := fits_nar_char w208; rw [own_nar8 hp209] at q; exact q) W213 1 rfl (Nat.le_of_ble_eq_true rfl)
    replace N0 := Fr.snoc X213 N0 big195
    replace hJ := own_Jwr hZ hJ W213 (own_farV f206 (by decide) (ow3 hw))
    clear f206
    replace O0 := own_oldWr O0 W213 big195
    replace K0 := K0.wr W213 (Or.inr sz196)
    replace K1 := K1.wr W213 (Or.inr sz197)
    replace hS := own_since hS (Nat.le_of_eq W213.size.symm)
    clear W213
    clear Ar212 q212 S212 M212 P212 G212 hin212
    refine own_goW (fun _ k => XS.iload X213.here hx rfl (hb hby at_83) rfl k) ?_
    show own_GoW p e below s _ _ _ _ (T213.setTop (mkF m 85 #[iv p1, iv p2, .val (.long q3), .second, iv p4, iv (5 : Int32), iv um, rv b194, .unset, .unset, .unset] [(.int (5 : Int32))]))
    refine own_goW (fun _ k => XS.iconst X213.here hx rfl (hb hby at_85) (XS.icmpNo X213.here hx rfl (hb hby at_86) rfl (tlt (by decide : (2 : Int32) < (5 : Int32))).2.2.2 (XS.aload X213.here hx rfl (hb hby at_89) rfl rfl (XS.iconst X213.here hx rfl (hb hby at_91) (XS.iconst X213.here hx rfl (hb hby at_92) (XS.bipush X213.here hx rfl (hb hby at_93) k)))))) ?_
    show own_GoW p e below s _ _ _ _ (T213.setTop (mkF m 95 #[iv p1, iv p2, .val (.long q3), .second, iv p4, iv (5 : Int32), iv um, rv b194, .unset, .unset, .unset] [(.int (97 : Int32)), (.int (2 : Int32)), (.int (2 : Int32)), (.ref b194)]))
    refine own_goW (fun _ k => XS.iload X213.here hx rfl (hb hby at_95) rfl (XS.lloadN X213.here hx rfl (hb hby at_97) rfl k)) ?_
    obtain ⟨v215, T215, L215, X215, hQ215, st215⟩ := own_callS (y := own_y4) X213 hx hZ hown (ow55 hw) (ow56 hw) (ow57 hw) (ow58 hw) (rm_pick l Z a0 hw hO [] (2 : Int32) (97 : Int32) um q3 h213 O0 (⟨by decide, by decide⟩ : own_C8 (97 : Int32))) 2 0 0 (by show _ ≤ 16; omega) (by show _ ≤ 1152; omega) e213 (g := (mkF m 98 #[iv p1, iv p2, .val (.long q3), .second, iv p4, iv (5 : Int32), iv um, rv b194, .unset, .unset, .unset] [(.long q3), (.int um), (.int (97 : Int32)), (.int (2 : Int32)), (.int (2 : Int32)), (.ref b194)])) rfl (by rw [hml]; rfl) [(.int (2 : Int32)), (.int (97 : Int32)), (.int um), (.long q3)] [(.int (2 : Int32)), (.ref b194)] (lenOf own_pd_8 rfl) rfl rfl (hb hby at_98)
    obtain ⟨w216, rfl, Nc219, hp217, Kc218⟩ := hQ215
    refine own_goW st215 ?_
    clear st215 X213 e213
    replace N0 := Fr.app N0 Nc219
    clear Nc219
    obtain ⟨cl220, Ar220, q220, S220, M220, P220, G220⟩ := id f214
    have hin220 : ¬ ((2 : Int32) < 0 ∨ cl220.slots.size ≤ ((2 : Int32)).toNatClampNeg) := inb_of S220 ⟨by decide, by decide⟩
    obtain ⟨T221, h221, X221, e221, W221, st221⟩ := stC X215 hx hZ Kc218 Ar220 (j := (2 : Int32)) hin220 (g := (mkF m 101 #[iv p1, iv p2, .val (.long q3), .second, iv p4, iv (5 : Int32), iv um, rv b194, .unset, .unset, .unset] [(.int w216), (.int (2 : Int32)), (.ref b194)])) rfl rfl (hb hby at_101)
    refine own_goW st221 ?_
    clear st221 X215 Kc218
    rw [own_nar8 hp217] at W221
    have f222 : Arv Z h221 b194 k194 .char (5 : Int32) [(.int w200), (.int w208), (.int w216), (.int (0 : Int32)), (.int (0 : Int32))] (.int (0 : Int32)) := Arv.set Ar220 q220 S220 M220 P220 G220 (by have q := fits_nar_char w216; rw [own_nar8 hp217] at q; exact q) W221 2 rfl (Nat.le_of_ble_eq_true rfl)
    replace N0 := Fr.snoc X221 N0 big195
    replace hJ := own_Jwr hZ hJ W221 (own_farV f214 (by decide) (ow3 hw))
    clear f214
    replace O0 := own_oldWr O0 W221 big195
    replace K0 := K0.wr W221 (Or.inr sz196)
    replace K1 := K1.wr W221 (Or.inr sz197)
    replace hS := own_since hS (Nat.le_of_eq W221.size.symm)
    clear W221
    clear Ar220 q220 S220 M220 P220 G220 hin220
    refine own_goW (fun _ k => XS.iload X221.here hx rfl (hb hby at_102) rfl (XS.iconst X221.here hx rfl (hb hby at_104) k)) ?_
    show own_GoW p e below s _ _ _ _ (T221.setTop (mkF m 105 #[iv p1, iv p2, .val (.long q3), .second, iv p4, iv (5 : Int32), iv um, rv b194, .unset, .unset, .unset] [(.int (3 : Int32)), (.int (5 : Int32))]))
    refine own_goW (fun _ k => XS.icmpNo X221.here hx rfl (hb hby at_105) rfl (tlt (by decide : (3 : Int32) < (5 : Int32))).2.2.2 (XS.aload X221.here hx rfl (hb hby at_108) rfl rfl (XS.iconst X221.here hx rfl (hb hby at_110) (XS.iconst X221.here hx rfl (hb hby at_111) (XS.bipush X221.here hx rfl (hb hby at_112) (XS.iload X221.here hx rfl (hb hby at_114) rfl k)))))) ?_
    show own_GoW p e below s _ _ _ _ (T221.setTop (mkF m 116 #[iv p1, iv p2, .val (.long q3), .second, iv p4, iv (5 : Int32), iv um, rv b194, .unset, .unset, .unset] [(.int um), (.int (114 : Int32)), (.int (3 : Int32)), (.int (3 : Int32)), (.ref b194)]))
    refine own_goW (fun _ k => XS.lloadN X221.here hx rfl (hb hby at_116) rfl k) ?_
    obtain ⟨v223, T223, L223, X223, hQ223, st223⟩ := own_callS (y := own_y4) X221 hx hZ hown (ow55 hw) (ow56 hw) (ow57 hw) (ow58 hw) (rm_pick l Z a0 hw hO [] (3 : Int32) (114 : Int32) um q3 h221 O0 (⟨by decide, by decide⟩ : own_C8 (114 : Int32))) 2 0 0 (by show _ ≤ 16; omega) (by show _ ≤ 1152; omega) e221 (g := (mkF m 117 #[iv p1, iv p2, .val (.long q3), .second, iv p4, iv (5 : Int32), iv um, rv b194, .unset, .unset, .unset] [(.long q3), (.int um), (.int (114 : Int32)), (.int (3 : Int32)), (.int (3 : Int32)), (.ref b194)])) rfl (by rw [hml]; rfl) [(.int (3 : Int32)), (.int (114 : Int32)), (.int um), (.long q3)] [(.int (3 : Int32)), (.ref b194)] (lenOf own_pd_8 rfl) rfl rfl (hb hby at_117)
    obtain ⟨w224, rfl, Nc227, hp225, Kc226⟩ := hQ223
    refine own_goW st223 ?_
    clear st223 X221 e221
    replace N0 := Fr.app N0 Nc227
    clear Nc227
    obtain ⟨cl228, Ar228, q228, S228, M228, P228, G228⟩ := id f222
    have hin228 : ¬ ((3 : Int32) < 0 ∨ cl228.slots.size ≤ ((3 : Int32)).toNatClampNeg) := inb_of S228 ⟨by decide, by decide⟩
    obtain ⟨T229, h229, X229, e229, W229, st229⟩ := stC X223 hx hZ Kc226 Ar228 (j := (3 : Int32)) hin228 (g := (mkF m 120 #[iv p1, iv p2, .val (.long q3), .second, iv p4, iv (5 : Int32), iv um, rv b194, .unset, .unset, .unset] [(.int w224), (.int (3 : Int32)), (.ref b194)])) rfl rfl (hb hby at_120)
    refine own_goW st229 ?_
    clear st229 X223 Kc226
    rw [own_nar8 hp225] at W229
    have f230 : Arv Z h229 b194 k194 .char (5 : Int32) [(.int w200), (.int w208), (.int w216), (.int w224), (.int (0 : Int32))] (.int (0 : Int32)) := Arv.set Ar228 q228 S228 M228 P228 G228 (by have q := fits_nar_char w224; rw [own_nar8 hp225] at q; exact q) W229 3 rfl (Nat.le_of_ble_eq_true rfl)
    replace N0 := Fr.snoc X229 N0 big195
    replace hJ := own_Jwr hZ hJ W229 (own_farV f222 (by decide) (ow3 hw))
    clear f222
    replace O0 := own_oldWr O0 W229 big195
    replace K0 := K0.wr W229 (Or.inr sz196)
    replace K1 := K1.wr W229 (Or.inr sz197)
    replace hS := own_since hS (Nat.le_of_eq W229.size.symm)
    clear W229
    clear Ar228 q228 S228 M228 P228 G228 hin228
    refine own_goW (fun _ k => XS.iload X229.here hx rfl (hb hby at_121) rfl (XS.iconst X229.here hx rfl (hb hby at_123) (XS.icmpNo X229.here hx rfl (hb hby at_124) rfl (tlt (by decide : (4 : Int32) < (5 : Int32))).2.2.2 k))) ?_
    show own_GoW p e below s _ _ _ _ (T229.setTop (mkF m 127 #[iv p1, iv p2, .val (.long q3), .second, iv p4, iv (5 : Int32), iv um, rv b194, .unset, .unset, .unset] []))
    refine own_goW (fun _ k => XS.aload X229.here hx rfl (hb hby at_127) rfl rfl (XS.iconst X229.here hx rfl (hb hby at_129) (XS.iconst X229.here hx rfl (hb hby at_130) (XS.bipush X229.here hx rfl (hb hby at_131) (XS.iload X229.here hx rfl (hb hby at_133) rfl (XS.lloadN X229.here hx rfl (hb hby at_135) rfl k)))))) ?_
    show own_GoW p e below s _ _ _ _ (T229.setTop (mkF m 136 #[iv p1, iv p2, .val (.long q3), .second, iv p4, iv (5 : Int32), iv um, rv b194, .unset, .unset, .unset] [(.long q3), (.int um), (.int (101 : Int32)), (.int (4 : Int32)), (.int (4 : Int32)), (.ref b194)]))
    obtain ⟨v231, T231, L231, X231, hQ231, st231⟩ := own_callS (y := own_y4) X229 hx hZ hown (ow55 hw) (ow56 hw) (ow57 hw) (ow58 hw) (rm_pick l Z a0 hw hO [] (4 : Int32) (101 : Int32) um q3 h229 O0 (⟨by decide, by decide⟩ : own_C8 (101 : Int32))) 2 0 0 (by show _ ≤ 16; omega) (by show _ ≤ 1152; omega) e229 (g := (mkF m 136 #[iv p1, iv p2, .val (.long q3), .second, iv p4, iv (5 : Int32), iv um, rv b194, .unset, .unset, .unset] [(.long q3), (.int um), (.int (101 : Int32)), (.int (4 : Int32)), (.int (4 : Int32)), (.ref b194)])) rfl (by rw [hml]; rfl) [(.int (4 : Int32)), (.int (101 : Int32)), (.int um), (.long q3)] [(.int (4 : Int32)), (.ref b194)] (lenOf own_pd_8 rfl) rfl rfl (hb hby at_136)
    obtain ⟨w232, rfl, Nc235, hp233, Kc234⟩ := hQ231
    refine own_goW st231 ?_
    clear st231 X229 e229
    replace N0 := Fr.app N0 Nc235
    clear Nc235
    obtain ⟨cl236, Ar236, q236, S236, M236, P236, G236⟩ := id f230
    have hin236 : ¬ ((4 : Int32) < 0 ∨ cl236.slots.size ≤ ((4 : Int32)).toNatClampNeg) := inb_of S236 ⟨by decide, by decide⟩
    obtain ⟨T237, h237, X237, e237, W237, st237⟩ := stC X231 hx hZ Kc234 Ar236 (j := (4 : Int32)) hin236 (g := (mkF m 139 #[iv p1, iv p2, .val (.long q3), .second, iv p4, iv (5 : Int32), iv um, rv b194, .unset, .unset, .unset] [(.int w232), (.int (4 : Int32)), (.ref b194)])) rfl rfl (hb hby at_139)
    refine own_goW st237 ?_
    clear st237 X231 Kc234
    rw [own_nar8 hp233] at W237
    have f238 : Arv Z h237 b194 k194 .char (5 : Int32) [(.int w200), (.int w208), (.int w216), (.int w224), (.int w232)] (.int (0 : Int32)) := Arv.set Ar236 q236 S236 M236 P236 G236 (by have q := fits_nar_char w232; rw [own_nar8 hp233] at q; exact q) W237 4 rfl (Nat.le_of_ble_eq_true rfl)
    replace N0 := Fr.snoc X237 N0 big195
    replace hJ := own_Jwr hZ hJ W237 (own_farV f230 (by decide) (ow3 hw))
    clear f230
    replace O0 := own_oldWr O0 W237 big195
    replace K0 := K0.wr W237 (Or.inr sz196)
    replace K1 := K1.wr W237 (Or.inr sz197)
    replace hS := own_since hS (Nat.le_of_eq W237.size.symm)
    clear W237
    clear Ar236 q236 S236 M236 P236 G236 hin236
    refine own_goW (fun _ k => XS.iload X237.here hx rfl (hb hby at_140) rfl (XS.iconst X237.here hx rfl (hb hby at_142) (XS.icmpYes X237.here hx rfl (pc0 := 143) (pc' := 159) rfl (hb hby at_143) rfl (flt (by decide : ¬ ((5 : Int32) < (5 : Int32)))).2.2.2 (by decide) (by decide) (XS.iload X237.here hx rfl (hb hby at_159) rfl k)))) ?_
    show own_GoW p e below s _ _ _ _ (T237.setTop (mkF m 161 #[iv p1, iv p2, .val (.long q3), .second, iv p4, iv (5 : Int32), iv um, rv b194, .unset, .unset, .unset] [(.int (5 : Int32))]))
    refine own_goW (fun _ k => XS.bipush X237.here hx rfl (hb hby at_161) (XS.icmpYes X237.here hx rfl (pc0 := 163) (pc' := 181) rfl (hb hby at_163) rfl (flt (by decide : ¬ ((6 : Int32) < (5 : Int32)))).2.2.2 (by decide) (by decide) (XS.iload X237.here hx rfl (hb hby at_181) rfl (XS.bipush X237.here hx rfl (hb hby at_183) (XS.icmpYes X237.here hx rfl (pc0 := 185) (pc' := 203) rfl (hb hby at_185) rfl (flt (by decide : ¬ ((7 : Int32) < (5 : Int32)))).2.2.2 (by decide) (by decide) (XS.iload X237.here hx rfl (hb hby at_203) rfl k)))))) ?_
    show own_GoW p e below s _ _ _ _ (T237.setTop (mkF m 205 #[iv p1, iv p2, .val (.long q3), .second, iv p4, iv (5 : Int32), iv um, rv b194, .unset, .unset, .unset] [(.int (5 : Int32))]))
    refine own_goW (fun _ k => XS.bipush X237.here hx rfl (hb hby at_205) (XS.icmpYes X237.here hx rfl (pc0 := 207) (pc' := 222) rfl (hb hby at_207) rfl (flt (by decide : ¬ ((8 : Int32) < (5 : Int32)))).2.2.2 (by decide) (by decide) k)) ?_
    obtain ⟨T239, h239, X239, e239, E239, A239, D239, -, st239⟩ := newO X237 hx hZ hown (ow2 hw) (ow3 hw) (ow4 hw) e237 (g := (mkF m 222 #[iv p1, iv p2, .val (.long q3), .second, iv p4, iv (5 : Int32), iv um, rv b194, .unset, .unset, .unset] [])) rfl (hb hby at_222) (by show _ ≤ 16; omega) (by show _ ≤ 1152; omega)
    obtain ⟨b239, g239⟩ : ∃ z, z = h237.size := ⟨_, rfl⟩
    rw [← g239] at A239 D239 st239
    refine own_goW st239 ?_
    clear st239 X237 e237
    have ge239 := Nat.le_of_eq g239.symm
    have ne240 : b194 ≠ b239 := Nat.ne_of_lt (Nat.lt_of_lt_of_le f238.lt ge239)
    have big241 : Z.heap.size ≤ b239 := Nat.le_trans O0.1 ge239
    have sz242 : h0.size ≤ b239 := Nat.le_trans K0.1 ge239
    have sz243 : hs1.size ≤ b239 := Nat.le_trans K1.1 ge239
    replace f238 := f238.ext E239
    replace O0 := own_oldExt O0 E239
    replace K0 := K0.ext E239
    replace K1 := K1.ext E239
    replace hS := own_since hS E239.1
    replace hJ := own_Jext hJ E239
    clear E239
    have f244 : Fld Z h239 b239 "java/lang/String" "value" "[B" .null := D239 (Or.inr (ow17 hw)) (ty := (.array .byte)) own_fd0
    have f245 : Fld Z h239 b239 "java/lang/String" "coder" "B" (.int (0 : Int32)) := D239 (Or.inr (ow18 hw)) (ty := .byte) own_fd1
    refine own_goW (fun _ k => XS.dup X239.here hx rfl (hb hby at_225) rfl rfl (XS.aload X239.here hx rfl (hb hby at_226) rfl rfl k)) ?_
    obtain ⟨v246, T246, L246, X246, hQ246, st246⟩ := own_callIB (y := own_y1) X239 hx hZ hown (ow5 hw) (ow6 hw) (ow4 hw) (ow7 hw) 1 1 5 (StrChars.Road.backV (W := 1) hZ (own_sw1 hw) (kI := 4) (ow3 hw) (cs := ([w200, w208, w216, w224, w232] : List Int32)) (bs := ([w200, w208, w216, w224, w232] : List Int32).map (fun c => c.toInt8.toInt32)) (n := 5) (n0 := Z.heap.size) big241 (Nat.le_trans O0.1 (Nat.le_refl _)) A239 f244 f245 f238 (oCS.ext O0) oCz rfl rfl (by decide) (by decide) (own_cC hp201 (own_cC hp209 (own_cC hp217 (own_cC hp225 (own_cC hp233 own_cN))))) rfl (by decide) (by decide)) rfl (by show _ ≤ 16; omega) (by show _ ≤ 1152; omega) e239 (g := (mkF m 228 #[iv p1, iv p2, .val (.long q3), .second, iv p4, iv (5 : Int32), iv um, rv b194, .unset, .unset, .unset] [(.ref b194), (.ref b239), (.ref b239)])) rfl (by rw [hml]; rfl) b239 [(.ref b194)] [(.ref b239)] (lenOf own_pd_6 rfl) rfl rfl (hb hby at_228)
    obtain ⟨rfl, Nc246, Kc246, f1246, f2246, t246, kb246, tb246, ts246, tn246, f3246, f4246⟩ := hQ246
    refine own_goW st246 ?_
    clear st246 X239 e239
    replace N0 := Fr.app N0 Nc246
    clear Nc246
    replace hS := own_since hS Kc246.1
    have ne247 : b194 ≠ t246 := Nat.ne_of_lt (Nat.lt_of_lt_of_le f238.lt ts246)
    have ne248 : b239 ≠ t246 := Nat.ne_of_lt (Nat.lt_of_lt_of_le A239.lt ts246)
    have big249 : Z.heap.size ≤ t246 := Nat.le_trans O0.1 ts246
    have sz250 : h0.size ≤ t246 := Nat.le_trans K0.1 ts246
    have sz251 : hs1.size ≤ t246 := Nat.le_trans K1.1 ts246
    have hAp_b239 := own_apart hZ hJ f244
    replace hJ := own_JkeepS hZ hJ Kc246 hAp_b239 A239 (ow3 hw)
    replace f238 := f238.keep Kc246 (ninS ne240 nin0)
    replace A239 := A239.keep Kc246
    clear f244
    clear f245
    replace O0 := own_oldKeep O0 Kc246 (allS big241 all0)
    replace K0 := K0.trans Kc246 (allS (Or.inr sz242) all0)
    replace K1 := K1.trans Kc246 (allS (Or.inr sz243) all0)
    clear Kc246
    replace f4246 : Arv Z T246.heap t246 kb246 .byte (5 : Int32) [(.int (w200.toInt8.toInt32)), (.int (w208.toInt8.toInt32)), (.int (w216.toInt8.toInt32)), (.int (w224.toInt8.toInt32)), (.int (w232.toInt8.toInt32))] (.int (0 : Int32)) := f4246
    show own_GoW p e below s _ _ _ _ (T246.setTop (mkF m 231 #[iv p1, iv p2, .val (.long q3), .second, iv p4, iv (5 : Int32), iv um, rv b194, .unset, .unset, .unset] [(.ref b239)]))
    refine own_goW (fun _ k => XS.astore X246.here hx rfl (hb hby at_231) rfl rfl (l' := #[iv p1, iv p2, .val (.long q3), .second, iv p4, iv (5 : Int32), iv um, rv b194, rv b239, .unset, .unset]) rfl (XS.iload X246.here hx rfl (hb hby at_233) rfl (XS.bipush X246.here hx rfl (hb hby at_235) (XS.icmpYes X246.here hx rfl (pc0 := 237) (pc' := 308) rfl (hb hby at_237) rfl (tlt (by decide : (5 : Int32) < (7 : Int32))).1 (by decide) (by decide) (XS.iconst X246.here hx rfl (hb hby at_308) (XS.istore X246.here hx rfl (hb hby at_309) rfl (l' := #[iv p1, iv p2, .val (.long q3), .second, iv p4, iv (5 : Int32), iv um, rv b194, rv b239, iv (0 : Int32), .unset]) rfl k)))))) ?_
    show own_GoW p e below s _ _ _ _ (T246.setTop (mkF m 311 #[iv p1, iv p2, .val (.long q3), .second, iv p4, iv (5 : Int32), iv um, rv b194, rv b239, iv (0 : Int32), .unset] []))
    refine own_goW (fun _ k => XS.aload X246.here hx rfl (hb hby at_311) rfl rfl k) ?_
    obtain ⟨v252, T252, L252, X252, hQ252, st252⟩ := own_callS (y := own_y7) X246 hx hZ hown (ow23 hw) (ow24 hw) (ow25 hw) (ow26 hw) (rm_ofn5 l Z a0 hw hO [] b239 t246 kb246 (w200.toInt8.toInt32) (w208.toInt8.toInt32) (w216.toInt8.toInt32) (w224.toInt8.toInt32) (w232.toInt8.toInt32) T246.heap O0 f1246 f3246 f2246 f4246) 0 0 0 (by show _ ≤ 16; omega) (by show _ ≤ 1152; omega) (rfl : T246.heap = T246.heap) (g := (mkF m 313 #[iv p1, iv p2, .val (.long q3), .second, iv p4, iv (5 : Int32), iv um, rv b194, rv b239, iv (0 : Int32), .unset] [(.ref b239)])) rfl (by rw [hml]; rfl) [(.ref b239)] [] (lenOf own_pd_7 rfl) rfl rfl (hb hby at_313)
    obtain ⟨rfl, Nc254, Kc253⟩ := hQ252
    refine own_goW st252 ?_
    clear st252 X246
    replace N0 := Fr.app N0 Nc254
    clear Nc254
    refine own_goW (fun _ k => XS.astore X252.here hx rfl (hb hby at_316) rfl rfl (l' := #[iv p1, iv p2, .val (.long q3), .second, iv p4, iv (5 : Int32), iv um, rv b194, rv b239, iv (0 : Int32), rv wx]) rfl (XS.iload X252.here hx rfl (hb hby at_318) rfl (XS.ifYes X252.here hx rfl (pc0 := 320) (pc' := 337) rfl (hb hby at_320) rfl ((if0 _ _).trans (teq (by decide : (0 : Int32) = (0 : Int32))).1) (by decide) (by decide) (XS.aload X252.here hx rfl (hb hby at_337) rfl rfl k)))) ?_
    show own_GoW p e below s _ _ _ _ (T252.setTop (mkF m 339 #[iv p1, iv p2, .val (.long q3), .second, iv p4, iv (5 : Int32), iv um, rv b194, rv b239, iv (0 : Int32), rv wx] [(.ref wx)]))
    obtain ⟨T255, X255, e255, st255⟩ := getS2 X252 hx hZ hown (host := "") (Or.inl (ow54 hw)) Via.refl Kc253 (oEx.ext O0) (g := (mkF m 339 #[iv p1, iv p2, .val (.long q3), .second, iv p4, iv (5 : Int32), iv um, rv b194, rv b239, iv (0 : Int32), rv wx] [(.ref wx)])) rfl (hb hby at_339)
    refine own_goW st255 ?_
    clear st255 X252 Kc253
    refine own_goW (fun _ k => Jvm.RoadKit.acmp (g := (mkF m 342 #[iv p1, iv p2, .val (.long q3), .second, iv p4, iv (5 : Int32), iv um, rv b194, rv b239, iv (0 : Int32), rv wx] [(.ref wx), (.ref wx)])) X255 hx rfl rfl rfl (pc0 := 342) (pc' := 345) (same := true) rfl (hb hby at_342) rfl (decide_eq_true rfl) (by decide) (by decide) (XS.iconst X255.here hx rfl (hb hby at_345) (XS.goto X255.here hx rfl (pc0 := 346) (pc' := 350) rfl (hb hby at_346) (by decide) (by decide) k))) ?_
    show own_GoW p e below s _ _ _ _ (T255.setTop (mkF m 350 #[iv p1, iv p2, .val (.long q3), .second, iv p4, iv (5 : Int32), iv um, rv b194, rv b239, iv (0 : Int32), rv wx] [(.int (1 : Int32))]))
    refine own_retNW X255 hS hL hZ hJ hx hlk e255 (t := .boolean) hret (by simp) (hb hby at_350) (by show _ ≤ 16; omega) (by show _ ≤ 1152; omega) ?_
    exact ⟨rfl, N0, K0⟩
  · rw [hn]
    clear hn
    show own_GoW p e below s _ _ _ _ (T.setTop (mkF m 42 #[iv p1, iv p2, .val (.long q3), .second, iv p4, iv (6 : Int32), iv um, .unset, .unset, .unset, .unset] [(.int (6 : Int32))]))
    obtain ⟨T256, h256, k256, X256, e256, E256, A256, st256⟩ := newP (aty := .char) X0 hx hZ (ow1 hw) e0 (g := (mkF m 42 #[iv p1, iv p2, .val (.long q3), .second, iv p4, iv (6 : Int32), iv um, .unset, .unset, .unset, .unset] [(.int (6 : Int32))])) rfl (hb hby at_42) rfl (by decide) (cap := 6) (by decide) (by decide) (by show _ ≤ 16; omega) (by show _ ≤ 1152; omega)
    obtain ⟨b256, g256⟩ : ∃ z, z = hs1.size := ⟨_, rfl⟩
    rw [← g256] at A256 st256
    refine own_goW st256 ?_
    clear st256 X0 e0
    have ge256 := Nat.le_of_eq g256.symm
    have big257 : Z.heap.size ≤ b256 := Nat.le_trans O0.1 ge256
    have sz258 : h0.size ≤ b256 := Nat.le_trans K0.1 ge256
    have sz259 : hs1.size ≤ b256 := Nat.le_trans K1.1 ge256
    replace O0 := own_oldExt O0 E256
    replace K0 := K0.ext E256
    replace K1 := K1.ext E256
    replace hS := own_since hS E256.1
    replace hJ := own_Jext hJ E256
    clear E256
    have f260 : Arv Z h256 b256 k256 .char (6 : Int32) [(.int (0 : Int32)), (.int (0 : Int32)), (.int (0 : Int32)), (.int (0 : Int32)), (.int (0 : Int32)), (.int (0 : Int32))] (.int (0 : Int32)) := (Arv.new A256 (by decide)).pad (pad_rep [] (.int (0 : Int32)) 6)
    refine own_goW (fun _ k => XS.astore X256.here hx rfl (hb hby at_44) rfl rfl (l' := #[iv p1, iv p2, .val (.long q3), .second, iv p4, iv (6 : Int32), iv um, rv b256, .unset, .unset, .unset]) rfl (XS.iload X256.here hx rfl (hb hby at_46) rfl (XS.ifNo X256.here hx rfl (hb hby at_48) rfl ((if0 _ _).trans (tlt (by decide : (0 : Int32) < (6 : Int32))).2.2.2) (XS.aload X256.here hx rfl (hb hby at_51) rfl rfl (XS.iconst X256.here hx rfl (hb hby at_53) k))))) ?_
    show own_GoW p e below s _ _ _ _ (T256.setTop (mkF m 54 #[iv p1, iv p2, .val (.long q3), .second, iv p4, iv (6 : Int32), iv um, rv b256, .unset, .unset, .unset] [(.int (0 : Int32)), (.ref b256)]))
    refine own_goW (fun _ k => XS.iconst X256.here hx rfl (hb hby at_54) (XS.bipush X256.here hx rfl (hb hby at_55) (XS.iload X256.here hx rfl (hb hby at_57) rfl (XS.lloadN X256.here hx rfl (hb hby at_59) rfl k)))) ?_
    obtain ⟨v261, T261, L261, X261, hQ261, st261⟩ := own_callS (y := own_y4) X256 hx hZ hown (ow55 hw) (ow56 hw) (ow57 hw) (ow58 hw) (rm_pick l Z a0 hw hO [] (0 : Int32) (115 : Int32) um q3 h256 O0 (⟨by decide, by decide⟩ : own_C8 (115 : Int32))) 2 0 0 (by show _ ≤ 16; omega) (by show _ ≤ 1152; omega) e256 (g := (mkF m 60 #[iv p1, iv p2, .val (.long q3), .second, iv p4, iv (6 : Int32), iv um, rv b256, .unset, .unset, .unset] [(.long q3), (.int um), (.int (115 : Int32)), (.int (0 : Int32)), (.int (0 : Int32)), (.ref b256)])) rfl (by rw [hml]; rfl) [(.int (0 : Int32)), (.int (115 : Int32)), (.int um), (.long q3)] [(.int (0 : Int32)), (.ref b256)] (lenOf own_pd_8 rfl) rfl rfl (hb hby at_60)
    obtain ⟨w262, rfl, Nc265, hp263, Kc264⟩ := hQ261
    refine own_goW st261 ?_
    clear st261 X256 e256
    replace N0 := Fr.app N0 Nc265
    clear Nc265
    obtain ⟨cl266, Ar266, q266, S266, M266, P266, G266⟩ := id f260
    have hin266 : ¬ ((0 : Int32) < 0 ∨ cl266.slots.size ≤ ((0 : Int32)).toNatClampNeg) := inb_of S266 ⟨by decide, by decide⟩
    obtain ⟨T267, h267, X267, e267, W267, st267⟩ := stC X261 hx hZ Kc264 Ar266 (j := (0 : Int32)) hin266 (g := (mkF m 63 #[iv p1, iv p2, .val (.long q3), .second, iv p4, iv (6 : Int32), iv um, rv b256, .unset, .unset, .unset] [(.int w262), (.int (0 : Int32)), (.ref b256)])) rfl rfl (hb hby at_63)
    refine own_goW st267 ?_
    clear st267 X261 Kc264
    rw [own_nar8 hp263] at W267
    have f268 : Arv Z h267 b256 k256 .char (6 : Int32) [(.int w262), (.int (0 : Int32)), (.int (0 : Int32)), (.int (0 : Int32)), (.int (0 : Int32)), (.int (0 : Int32))] (.int (0 : Int32)) := Arv.set Ar266 q266 S266 M266 P266 G266 (by have q := fits_nar_char w262; rw [own_nar8 hp263] at q; exact q) W267 0 rfl (Nat.le_of_ble_eq_true rfl)
    replace N0 := Fr.snoc X267 N0 big257
    replace hJ := own_Jwr hZ hJ W267 (own_farV f260 (by decide) (ow3 hw))
    clear f260
    replace O0 := own_oldWr O0 W267 big257
    replace K0 := K0.wr W267 (Or.inr sz258)
    replace K1 := K1.wr W267 (Or.inr sz259)
    replace hS := own_since hS (Nat.le_of_eq W267.size.symm)
    clear W267
    clear Ar266 q266 S266 M266 P266 G266 hin266
    show own_GoW p e below s _ _ _ _ (T267.setTop (mkF m 64 #[iv p1, iv p2, .val (.long q3), .second, iv p4, iv (6 : Int32), iv um, rv b256, .unset, .unset, .unset] []))
    refine own_goW (fun _ k => XS.iload X267.here hx rfl (hb hby at_64) rfl (XS.iconst X267.here hx rfl (hb hby at_66) (XS.icmpNo X267.here hx rfl (hb hby at_67) rfl (tlt (by decide : (1 : Int32) < (6 : Int32))).2.2.2 (XS.aload X267.here hx rfl (hb hby at_70) rfl rfl (XS.iconst X267.here hx rfl (hb hby at_72) (XS.iconst X267.here hx rfl (hb hby at_73) k)))))) ?_
    show own_GoW p e below s _ _ _ _ (T267.setTop (mkF m 74 #[iv p1, iv p2, .val (.long q3), .second, iv p4, iv (6 : Int32), iv um, rv b256, .unset, .unset, .unset] [(.int (1 : Int32)), (.int (1 : Int32)), (.ref b256)]))
    refine own_goW (fun _ k => XS.bipush X267.here hx rfl (hb hby at_74) (XS.iload X267.here hx rfl (hb hby at_76) rfl (XS.lloadN X267.here hx rfl (hb hby at_78) rfl k))) ?_
    obtain ⟨v269, T269, L269, X269, hQ269, st269⟩ := own_callS (y := own_y4) X267 hx hZ hown (ow55 hw) (ow56 hw) (ow57 hw) (ow58 hw) (rm_pick l Z a0 hw hO [] (1 : Int32) (104 : Int32) um q3 h267 O0 (⟨by decide, by decide⟩ : own_C8 (104 : Int32))) 2 0 0 (by show _ ≤ 16; omega) (by show _ ≤ 1152; omega) e267 (g := (mkF m 79 #[iv p1, iv p2, .val (.long q3), .second, iv p4, iv (6 : Int32), iv um, rv b256, .unset, .unset, .unset] [(.long q3), (.int um), (.int (104 : Int32)), (.int (1 : Int32)), (.int (1 : Int32)), (.ref b256)])) rfl (by rw [hml]; rfl) [(.int (1 : Int32)), (.int (104 : Int32)), (.int um), (.long q3)] [(.int (1 : Int32)), (.ref b256)] (lenOf own_pd_8 rfl) rfl rfl (hb hby at_79)
    obtain ⟨w270, rfl, Nc273, hp271, Kc272⟩ := hQ269
    refine own_goW st269 ?_
    clear st269 X267 e267
    replace N0 := Fr.app N0 Nc273
    clear Nc273
    obtain ⟨cl274, Ar274, q274, S274, M274, P274, G274⟩ := id f268
    have hin274 : ¬ ((1 : Int32) < 0 ∨ cl274.slots.size ≤ ((1 : Int32)).toNatClampNeg) := inb_of S274 ⟨by decide, by decide⟩
    obtain ⟨T275, h275, X275, e275, W275, st275⟩ := stC X269 hx hZ Kc272 Ar274 (j := (1 : Int32)) hin274 (g := (mkF m 82 #[iv p1, iv p2, .val (.long q3), .second, iv p4, iv (6 : Int32), iv um, rv b256, .unset, .unset, .unset] [(.int w270), (.int (1 : Int32)), (.ref b256)])) rfl rfl (hb hby at_82)
    refine own_goW st275 ?_
    clear st275 X269 Kc272
    rw [own_nar8 hp271] at W275
    have f276 : Arv Z h275 b256 k256 .char (6 : Int32) [(.int w262), (.int w270), (.int (0 : Int32)), (.int (0 : Int32)), (.int (0 : Int32)), (.int (0 : Int32))] (.int (0 : Int32)) := Arv.set Ar274 q274 S274 M274 P274 G274 (by have q := fits_nar_char w270; rw [own_nar8 hp271] at q; exact q) W275 1 rfl (Nat.le_of_ble_eq_true rfl)
    replace N0 := Fr.snoc X275 N0 big257
    replace hJ := own_Jwr hZ hJ W275 (own_farV f268 (by decide) (ow3 hw))
    clear f268
    replace O0 := own_oldWr O0 W275 big257
    replace K0 := K0.wr W275 (Or.inr sz258)
    replace K1 := K1.wr W275 (Or.inr sz259)
    replace hS := own_since hS (Nat.le_of_eq W275.size.symm)
    clear W275
    clear Ar274 q274 S274 M274 P274 G274 hin274
    refine own_goW (fun _ k => XS.iload X275.here hx rfl (hb hby at_83) rfl k) ?_
    show own_GoW p e below s _ _ _ _ (T275.setTop (mkF m 85 #[iv p1, iv p2, .val (.long q3), .second, iv p4, iv (6 : Int32), iv um, rv b256, .unset, .unset, .unset] [(.int (6 : Int32))]))
    refine own_goW (fun _ k => XS.iconst X275.here hx rfl (hb hby at_85) (XS.icmpNo X275.here hx rfl (hb hby at_86) rfl (tlt (by decide : (2 : Int32) < (6 : Int32))).2.2.2 (XS.aload X275.here hx rfl (hb hby at_89) rfl rfl (XS.iconst X275.here hx rfl (hb hby at_91) (XS.iconst X275.here hx rfl (hb hby at_92) (XS.bipush X275.here hx rfl (hb hby at_93) k)))))) ?_
    show own_GoW p e below s _ _ _ _ (T275.setTop (mkF m 95 #[iv p1, iv p2, .val (.long q3), .second, iv p4, iv (6 : Int32), iv um, rv b256, .unset, .unset, .unset] [(.int (97 : Int32)), (.int (2 : Int32)), (.int (2 : Int32)), (.ref b256)]))
    refine own_goW (fun _ k => XS.iload X275.here hx rfl (hb hby at_95) rfl (XS.lloadN X275.here hx rfl (hb hby at_97) rfl k)) ?_
    obtain ⟨v277, T277, L277, X277, hQ277, st277⟩ := own_callS (y := own_y4) X275 hx hZ hown (ow55 hw) (ow56 hw) (ow57 hw) (ow58 hw) (rm_pick l Z a0 hw hO [] (2 : Int32) (97 : Int32) um q3 h275 O0 (⟨by decide, by decide⟩ : own_C8 (97 : Int32))) 2 0 0 (by show _ ≤ 16; omega) (by show _ ≤ 1152; omega) e275 (g := (mkF m 98 #[iv p1, iv p2, .val (.long q3), .second, iv p4, iv (6 : Int32), iv um, rv b256, .unset, .unset, .unset] [(.long q3), (.int um), (.int (97 : Int32)), (.int (2 : Int32)), (.int (2 : Int32)), (.ref b256)])) rfl (by rw [hml]; rfl) [(.int (2 : Int32)), (.int (97 : Int32)), (.int um), (.long q3)] [(.int (2 : Int32)), (.ref b256)] (lenOf own_pd_8 rfl) rfl rfl (hb hby at_98)
    obtain ⟨w278, rfl, Nc281, hp279, Kc280⟩ := hQ277
    refine own_goW st277 ?_
    clear st277 X275 e275
    replace N0 := Fr.app N0 Nc281
    clear Nc281
    obtain ⟨cl282, Ar282, q282, S282, M282, P282, G282⟩ := id f276
    have hin282 : ¬ ((2 : Int32) < 0 ∨ cl282.slots.size ≤ ((2 : Int32)).toNatClampNeg) := inb_of S282 ⟨by decide, by decide⟩
    obtain ⟨T283, h283, X283, e283, W283, st283⟩ := stC X277 hx hZ Kc280 Ar282 (j := (2 : Int32)) hin282 (g := (mkF m 101 #[iv p1, iv p2, .val (.long q3), .second, iv p4, iv (6 : Int32), iv um, rv b256, .unset, .unset, .unset] [(.int w278), (.int (2 : Int32)), (.ref b256)])) rfl rfl (hb hby at_101)
    refine own_goW st283 ?_
    clear st283 X277 Kc280
    rw [own_nar8 hp279] at W283
    have f284 : Arv Z h283 b256 k256 .char (6 : Int32) [(.int w262), (.int w270), (.int w278), (.int (0 : Int32)), (.int (0 : Int32)), (.int (0 : Int32))] (.int (0 : Int32)) := Arv.set Ar282 q282 S282 M282 P282 G282 (by have q := fits_nar_char w278; rw [own_nar8 hp279] at q; exact q) W283 2 rfl (Nat.le_of_ble_eq_true rfl)
    replace N0 := Fr.snoc X283 N0 big257
    replace hJ := own_Jwr hZ hJ W283 (own_farV f276 (by decide) (ow3 hw))
    clear f276
    replace O0 := own_oldWr O0 W283 big257
    replace K0 := K0.wr W283 (Or.inr sz258)
    replace K1 := K1.wr W283 (Or.inr sz259)
    replace hS := own_since hS (Nat.le_of_eq W283.size.symm)
    clear W283
    clear Ar282 q282 S282 M282 P282 G282 hin282
    refine own_goW (fun _ k => XS.iload X283.here hx rfl (hb hby at_102) rfl (XS.iconst X283.here hx rfl (hb hby at_104) k)) ?_
    show own_GoW p e below s _ _ _ _ (T283.setTop (mkF m 105 #[iv p1, iv p2, .val (.long q3), .second, iv p4, iv (6 : Int32), iv um, rv b256, .unset, .unset, .unset] [(.int (3 : Int32)), (.int (6 : Int32))]))
    refine own_goW (fun _ k => XS.icmpNo X283.here hx rfl (hb hby at_105) rfl (tlt (by decide : (3 : Int32) < (6 : Int32))).2.2.2 (XS.aload X283.here hx rfl (hb hby at_108) rfl rfl (XS.iconst X283.here hx rfl (hb hby at_110) (XS.iconst X283.here hx rfl (hb hby at_111) (XS.bipush X283.here hx rfl (hb hby at_112) (XS.iload X283.here hx rfl (hb hby at_114) rfl k)))))) ?_
    show own_GoW p e below s _ _ _ _ (T283.setTop (mkF m 116 #[iv p1, iv p2, .val (.long q3), .second, iv p4, iv (6 : Int32), iv um, rv b256, .unset, .unset, .unset] [(.int um), (.int (114 : Int32)), (.int (3 : Int32)), (.int (3 : Int32)), (.ref b256)]))
    refine own_goW (fun _ k => XS.lloadN X283.here hx rfl (hb hby at_116) rfl k) ?_
    obtain ⟨v285, T285, L285, X285, hQ285, st285⟩ := own_callS (y := own_y4) X283 hx hZ hown (ow55 hw) (ow56 hw) (ow57 hw) (ow58 hw) (rm_pick l Z a0 hw hO [] (3 : Int32) (114 : Int32) um q3 h283 O0 (⟨by decide, by decide⟩ : own_C8 (114 : Int32))) 2 0 0 (by show _ ≤ 16; omega) (by show _ ≤ 1152; omega) e283 (g := (mkF m 117 #[iv p1, iv p2, .val (.long q3), .second, iv p4, iv (6 : Int32), iv um, rv b256, .unset, .unset, .unset] [(.long q3), (.int um), (.int (114 : Int32)), (.int (3 : Int32)), (.int (3 : Int32)), (.ref b256)])) rfl (by rw [hml]; rfl) [(.int (3 : Int32)), (.int (114 : Int32)), (.int um), (.long q3)] [(.int (3 : Int32)), (.ref b256)] (lenOf own_pd_8 rfl) rfl rfl (hb hby at_117)
    obtain ⟨w286, rfl, Nc289, hp287, Kc288⟩ := hQ285
    refine own_goW st285 ?_
    clear st285 X283 e283
    replace N0 := Fr.app N0 Nc289
    clear Nc289
    obtain ⟨cl290, Ar290, q290, S290, M290, P290, G290⟩ := id f284
    have hin290 : ¬ ((3 : Int32) < 0 ∨ cl290.slots.size ≤ ((3 : Int32)).toNatClampNeg) := inb_of S290 ⟨by decide, by decide⟩
    obtain ⟨T291, h291, X291, e291, W291, st291⟩ := stC X285 hx hZ Kc288 Ar290 (j := (3 : Int32)) hin290 (g := (mkF m 120 #[iv p1, iv p2, .val (.long q3), .second, iv p4, iv (6 : Int32), iv um, rv b256, .unset, .unset, .unset] [(.int w286), (.int (3 : Int32)), (.ref b256)])) rfl rfl (hb hby at_120)
    refine own_goW st291 ?_
    clear st291 X285 Kc288
    rw [own_nar8 hp287] at W291
    have f292 : Arv Z h291 b256 k256 .char (6 : Int32) [(.int w262), (.int w270), (.int w278), (.int w286), (.int (0 : Int32)), (.int (0 : Int32))] (.int (0 : Int32)) := Arv.set Ar290 q290 S290 M290 P290 G290 (by have q := fits_nar_char w286; rw [own_nar8 hp287] at q; exact q) W291 3 rfl (Nat.le_of_ble_eq_true rfl)
    replace N0 := Fr.snoc X291 N0 big257
    replace hJ := own_Jwr hZ hJ W291 (own_farV f284 (by decide) (ow3 hw))
    clear f284
    replace O0 := own_oldWr O0 W291 big257
    replace K0 := K0.wr W291 (Or.inr sz258)
    replace K1 := K1.wr W291 (Or.inr sz259)
    replace hS := own_since hS (Nat.le_of_eq W291.size.symm)
    clear W291
    clear Ar290 q290 S290 M290 P290 G290 hin290
    refine own_goW (fun _ k => XS.iload X291.here hx rfl (hb hby at_121) rfl (XS.iconst X291.here hx rfl (hb hby at_123) (XS.icmpNo X291.here hx rfl (hb hby at_124) rfl (tlt (by decide : (4 : Int32) < (6 : Int32))).2.2.2 k))) ?_
    show own_GoW p e below s _ _ _ _ (T291.setTop (mkF m 127 #[iv p1, iv p2, .val (.long q3), .second, iv p4, iv (6 : Int32), iv um, rv b256, .unset, .unset, .unset] []))
    refine own_goW (fun _ k => XS.aload X291.here hx rfl (hb hby at_127) rfl rfl (XS.iconst X291.here hx rfl (hb hby at_129) (XS.iconst X291.here hx rfl (hb hby at_130) (XS.bipush X291.here hx rfl (hb hby at_131) (XS.iload X291.here hx rfl (hb hby at_133) rfl (XS.lloadN X291.here hx rfl (hb hby at_135) rfl k)))))) ?_
    show own_GoW p e below s _ _ _ _ (T291.setTop (mkF m 136 #[iv p1, iv p2, .val (.long q3), .second, iv p4, iv (6 : Int32), iv um, rv b256, .unset, .unset, .unset] [(.long q3), (.int um), (.int (101 : Int32)), (.int (4 : Int32)), (.int (4 : Int32)), (.ref b256)]))
    obtain ⟨v293, T293, L293, X293, hQ293, st293⟩ := own_callS (y := own_y4) X291 hx hZ hown (ow55 hw) (ow56 hw) (ow57 hw) (ow58 hw) (rm_pick l Z a0 hw hO [] (4 : Int32) (101 : Int32) um q3 h291 O0 (⟨by decide, by decide⟩ : own_C8 (101 : Int32))) 2 0 0 (by show _ ≤ 16; omega) (by show _ ≤ 1152; omega) e291 (g := (mkF m 136 #[iv p1, iv p2, .val (.long q3), .second, iv p4, iv (6 : Int32), iv um, rv b256, .unset, .unset, .unset] [(.long q3), (.int um), (.int (101 : Int32)), (.int (4 : Int32)), (.int (4 : Int32)), (.ref b256)])) rfl (by rw [hml]; rfl) [(.int (4 : Int32)), (.int (101 : Int32)), (.int um), (.long q3)] [(.int (4 : Int32)), (.ref b256)] (lenOf own_pd_8 rfl) rfl rfl (hb hby at_136)
    obtain ⟨w294, rfl, Nc297, hp295, Kc296⟩ := hQ293
    refine own_goW st293 ?_
    clear st293 X291 e291
    replace N0 := Fr.app N0 Nc297
    clear Nc297
    obtain ⟨cl298, Ar298, q298, S298, M298, P298, G298⟩ := id f292
    have hin298 : ¬ ((4 : Int32) < 0 ∨ cl298.slots.size ≤ ((4 : Int32)).toNatClampNeg) := inb_of S298 ⟨by decide, by decide⟩
    obtain ⟨T299, h299, X299, e299, W299, st299⟩ := stC X293 hx hZ Kc296 Ar298 (j := (4 : Int32)) hin298 (g := (mkF m 139 #[iv p1, iv p2, .val (.long q3), .second, iv p4, iv (6 : Int32), iv um, rv b256, .unset, .unset, .unset] [(.int w294), (.int (4 : Int32)), (.ref b256)])) rfl rfl (hb hby at_139)
    refine own_goW st299 ?_
    clear st299 X293 Kc296
    rw [own_nar8 hp295] at W299
    have f300 : Arv Z h299 b256 k256 .char (6 : Int32) [(.int w262), (.int w270), (.int w278), (.int w286), (.int w294), (.int (0 : Int32))] (.int (0 : Int32)) := Arv.set Ar298 q298 S298 M298 P298 G298 (by have q := fits_nar_char w294; rw [own_nar8 hp295] at q; exact q) W299 4 rfl (Nat.le_of_ble_eq_true rfl)
    replace N0 := Fr.snoc X299 N0 big257
    replace hJ := own_Jwr hZ hJ W299 (own_farV f292 (by decide) (ow3 hw))
    clear f292
    replace O0 := own_oldWr O0 W299 big257
    replace K0 := K0.wr W299 (Or.inr sz258)
    replace K1 := K1.wr W299 (Or.inr sz259)
    replace hS := own_since hS (Nat.le_of_eq W299.size.symm)
    clear W299
    clear Ar298 q298 S298 M298 P298 G298 hin298
    refine own_goW (fun _ k => XS.iload X299.here hx rfl (hb hby at_140) rfl (XS.iconst X299.here hx rfl (hb hby at_142) (XS.icmpNo X299.here hx rfl (hb hby at_143) rfl (tlt (by decide : (5 : Int32) < (6 : Int32))).2.2.2 (XS.aload X299.here hx rfl (hb hby at_146) rfl rfl k)))) ?_
    show own_GoW p e below s _ _ _ _ (T299.setTop (mkF m 148 #[iv p1, iv p2, .val (.long q3), .second, iv p4, iv (6 : Int32), iv um, rv b256, .unset, .unset, .unset] [(.ref b256)]))
    refine own_goW (fun _ k => XS.iconst X299.here hx rfl (hb hby at_148) (XS.iconst X299.here hx rfl (hb hby at_149) (XS.bipush X299.here hx rfl (hb hby at_150) (XS.iload X299.here hx rfl (hb hby at_152) rfl (XS.lloadN X299.here hx rfl (hb hby at_154) rfl k))))) ?_
    obtain ⟨v301, T301, L301, X301, hQ301, st301⟩ := own_callS (y := own_y4) X299 hx hZ hown (ow55 hw) (ow56 hw) (ow57 hw) (ow58 hw) (rm_pick l Z a0 hw hO [] (5 : Int32) (100 : Int32) um q3 h299 O0 (⟨by decide, by decide⟩ : own_C8 (100 : Int32))) 2 0 0 (by show _ ≤ 16; omega) (by show _ ≤ 1152; omega) e299 (g := (mkF m 155 #[iv p1, iv p2, .val (.long q3), .second, iv p4, iv (6 : Int32), iv um, rv b256, .unset, .unset, .unset] [(.long q3), (.int um), (.int (100 : Int32)), (.int (5 : Int32)), (.int (5 : Int32)), (.ref b256)])) rfl (by rw [hml]; rfl) [(.int (5 : Int32)), (.int (100 : Int32)), (.int um), (.long q3)] [(.int (5 : Int32)), (.ref b256)] (lenOf own_pd_8 rfl) rfl rfl (hb hby at_155)
    obtain ⟨w302, rfl, Nc305, hp303, Kc304⟩ := hQ301
    refine own_goW st301 ?_
    clear st301 X299 e299
    replace N0 := Fr.app N0 Nc305
    clear Nc305
    show own_GoW p e below s _ _ _ _ (T301.setTop (mkF m 158 #[iv p1, iv p2, .val (.long q3), .second, iv p4, iv (6 : Int32), iv um, rv b256, .unset, .unset, .unset] [(.int w302), (.int (5 : Int32)), (.ref b256)]))
    obtain ⟨cl306, Ar306, q306, S306, M306, P306, G306⟩ := id f300
    have hin306 : ¬ ((5 : Int32) < 0 ∨ cl306.slots.size ≤ ((5 : Int32)).toNatClampNeg) := inb_of S306 ⟨by decide, by decide⟩
    obtain ⟨T307, h307, X307, e307, W307, st307⟩ := stC X301 hx hZ Kc304 Ar306 (j := (5 : Int32)) hin306 (g := (mkF m 158 #[iv p1, iv p2, .val (.long q3), .second, iv p4, iv (6 : Int32), iv um, rv b256, .unset, .unset, .unset] [(.int w302), (.int (5 : Int32)), (.ref b256)])) rfl rfl (hb hby at_158)
    refine own_goW st307 ?_
    clear st307 X301 Kc304
    rw [own_nar8 hp303] at W307
    have f308 : Arv Z h307 b256 k256 .char (6 : Int32) [(.int w262), (.int w270), (.int w278), (.int w286), (.int w294), (.int w302)] (.int (0 : Int32)) := Arv.set Ar306 q306 S306 M306 P306 G306 (by have q := fits_nar_char w302; rw [own_nar8 hp303] at q; exact q) W307 5 rfl (Nat.le_of_ble_eq_true rfl)
    replace N0 := Fr.snoc X307 N0 big257
    replace hJ := own_Jwr hZ hJ W307 (own_farV f300 (by decide) (ow3 hw))
    clear f300
    replace O0 := own_oldWr O0 W307 big257
    replace K0 := K0.wr W307 (Or.inr sz258)
    replace K1 := K1.wr W307 (Or.inr sz259)
    replace hS := own_since hS (Nat.le_of_eq W307.size.symm)
    clear W307
    clear Ar306 q306 S306 M306 P306 G306 hin306
    refine own_goW (fun _ k => XS.iload X307.here hx rfl (hb hby at_159) rfl (XS.bipush X307.here hx rfl (hb hby at_161) (XS.icmpYes X307.here hx rfl (pc0 := 163) (pc' := 181) rfl (hb hby at_163) rfl (flt (by decide : ¬ ((6 : Int32) < (6 : Int32)))).2.2.2 (by decide) (by decide) (XS.iload X307.here hx rfl (hb hby at_181) rfl (XS.bipush X307.here hx rfl (hb hby at_183) k))))) ?_
    show own_GoW p e below s _ _ _ _ (T307.setTop (mkF m 185 #[iv p1, iv p2, .val (.long q3), .second, iv p4, iv (6 : Int32), iv um, rv b256, .unset, .unset, .unset] [(.int (7 : Int32)), (.int (6 : Int32))]))
    refine own_goW (fun _ k => XS.icmpYes X307.here hx rfl (pc0 := 185) (pc' := 203) rfl (hb hby at_185) rfl (flt (by decide : ¬ ((7 : Int32) < (6 : Int32)))).2.2.2 (by decide) (by decide) (XS.iload X307.here hx rfl (hb hby at_203) rfl (XS.bipush X307.here hx rfl (hb hby at_205) (XS.icmpYes X307.here hx rfl (pc0 := 207) (pc' := 222) rfl (hb hby at_207) rfl (flt (by decide : ¬ ((8 : Int32) < (6 : Int32)))).2.2.2 (by decide) (by decide) k)))) ?_
    obtain ⟨T309, h309, X309, e309, E309, A309, D309, -, st309⟩ := newO X307 hx hZ hown (ow2 hw) (ow3 hw) (ow4 hw) e307 (g := (mkF m 222 #[iv p1, iv p2, .val (.long q3), .second, iv p4, iv (6 : Int32), iv um, rv b256, .unset, .unset, .unset] [])) rfl (hb hby at_222) (by show _ ≤ 16; omega) (by show _ ≤ 1152; omega)
    obtain ⟨b309, g309⟩ : ∃ z, z = h307.size := ⟨_, rfl⟩
    rw [← g309] at A309 D309 st309
    refine own_goW st309 ?_
    clear st309 X307 e307
    have ge309 := Nat.le_of_eq g309.symm
    have ne310 : b256 ≠ b309 := Nat.ne_of_lt (Nat.lt_of_lt_of_le f308.lt ge309)
    have big311 : Z.heap.size ≤ b309 := Nat.le_trans O0.1 ge309
    have sz312 : h0.size ≤ b309 := Nat.le_trans K0.1 ge309
    have sz313 : hs1.size ≤ b309 := Nat.le_trans K1.1 ge309
    replace f308 := f308.ext E309
    replace O0 := own_oldExt O0 E309
    replace K0 := K0.ext E309
    replace K1 := K1.ext E309
    replace hS := own_since hS E309.1
    replace hJ := own_Jext hJ E309
    clear E309
    have f314 : Fld Z h309 b309 "java/lang/String" "value" "[B" .null := D309 (Or.inr (ow17 hw)) (ty := (.array .byte)) own_fd0
    have f315 : Fld Z h309 b309 "java/lang/String" "coder" "B" (.int (0 : Int32)) := D309 (Or.inr (ow18 hw)) (ty := .byte) own_fd1
    refine own_goW (fun _ k => XS.dup X309.here hx rfl (hb hby at_225) rfl rfl k) ?_
    show own_GoW p e below s _ _ _ _ (T309.setTop (mkF m 226 #[iv p1, iv p2, .val (.long q3), .second, iv p4, iv (6 : Int32), iv um, rv b256, .unset, .unset, .unset] [(.ref b309), (.ref b309)]))
    refine own_goW (fun _ k => XS.aload X309.here hx rfl (hb hby at_226) rfl rfl k) ?_
    obtain ⟨v316, T316, L316, X316, hQ316, st316⟩ := own_callIB (y := own_y1) X309 hx hZ hown (ow5 hw) (ow6 hw) (ow4 hw) (ow7 hw) 1 1 6 (StrChars.Road.backV (W := 1) hZ (own_sw1 hw) (kI := 4) (ow3 hw) (cs := ([w262, w270, w278, w286, w294, w302] : List Int32)) (bs := ([w262, w270, w278, w286, w294, w302] : List Int32).map (fun c => c.toInt8.toInt32)) (n := 6) (n0 := Z.heap.size) big311 (Nat.le_trans O0.1 (Nat.le_refl _)) A309 f314 f315 f308 (oCS.ext O0) oCz rfl rfl (by decide) (by decide) (own_cC hp263 (own_cC hp271 (own_cC hp279 (own_cC hp287 (own_cC hp295 (own_cC hp303 own_cN)))))) rfl (by decide) (by decide)) rfl (by show _ ≤ 16; omega) (by show _ ≤ 1152; omega) e309 (g := (mkF m 228 #[iv p1, iv p2, .val (.long q3), .second, iv p4, iv (6 : Int32), iv um, rv b256, .unset, .unset, .unset] [(.ref b256), (.ref b309), (.ref b309)])) rfl (by rw [hml]; rfl) b309 [(.ref b256)] [(.ref b309)] (lenOf own_pd_6 rfl) rfl rfl (hb hby at_228)
    obtain ⟨rfl, Nc316, Kc316, f1316, f2316, t316, kb316, tb316, ts316, tn316, f3316, f4316⟩ := hQ316
    refine own_goW st316 ?_
    clear st316 X309 e309
    replace N0 := Fr.app N0 Nc316
    clear Nc316
    replace hS := own_since hS Kc316.1
    have ne317 : b256 ≠ t316 := Nat.ne_of_lt (Nat.lt_of_lt_of_le f308.lt ts316)
    have ne318 : b309 ≠ t316 := Nat.ne_of_lt (Nat.lt_of_lt_of_le A309.lt ts316)
    have big319 : Z.heap.size ≤ t316 := Nat.le_trans O0.1 ts316
    have sz320 : h0.size ≤ t316 := Nat.le_trans K0.1 ts316
    have sz321 : hs1.size ≤ t316 := Nat.le_trans K1.1 ts316
    have hAp_b309 := own_apart hZ hJ f314
    replace hJ := own_JkeepS hZ hJ Kc316 hAp_b309 A309 (ow3 hw)
    replace f308 := f308.keep Kc316 (ninS ne310 nin0)
    replace A309 := A309.keep Kc316
    clear f314
    clear f315
    replace O0 := own_oldKeep O0 Kc316 (allS big311 all0)
    replace K0 := K0.trans Kc316 (allS (Or.inr sz312) all0)
    replace K1 := K1.trans Kc316 (allS (Or.inr sz313) all0)
    clear Kc316
    replace f4316 : Arv Z T316.heap t316 kb316 .byte (6 : Int32) [(.int (w262.toInt8.toInt32)), (.int (w270.toInt8.toInt32)), (.int (w278.toInt8.toInt32)), (.int (w286.toInt8.toInt32)), (.int (w294.toInt8.toInt32)), (.int (w302.toInt8.toInt32))] (.int (0 : Int32)) := f4316
    refine own_goW (fun _ k => XS.astore X316.here hx rfl (hb hby at_231) rfl rfl (l' := #[iv p1, iv p2, .val (.long q3), .second, iv p4, iv (6 : Int32), iv um, rv b256, rv b309, .unset, .unset]) rfl (XS.iload X316.here hx rfl (hb hby at_233) rfl (XS.bipush X316.here hx rfl (hb hby at_235) (XS.icmpYes X316.here hx rfl (pc0 := 237) (pc' := 308) rfl (hb hby at_237) rfl (tlt (by decide : (6 : Int32) < (7 : Int32))).1 (by decide) (by decide) k)))) ?_
    show own_GoW p e below s _ _ _ _ (T316.setTop (mkF m 308 #[iv p1, iv p2, .val (.long q3), .second, iv p4, iv (6 : Int32), iv um, rv b256, rv b309, .unset, .unset] []))
    refine own_goW (fun _ k => XS.iconst X316.here hx rfl (hb hby at_308) (XS.istore X316.here hx rfl (hb hby at_309) rfl (l' := #[iv p1, iv p2, .val (.long q3), .second, iv p4, iv (6 : Int32), iv um, rv b256, rv b309, iv (0 : Int32), .unset]) rfl (XS.aload X316.here hx rfl (hb hby at_311) rfl rfl k))) ?_
    obtain ⟨v322, T322, L322, X322, hQ322, st322⟩ := own_callS (y := own_y7) X316 hx hZ hown (ow23 hw) (ow24 hw) (ow25 hw) (ow26 hw) (rm_ofn6 l Z a0 hw hO [] b309 t316 kb316 (w262.toInt8.toInt32) (w270.toInt8.toInt32) (w278.toInt8.toInt32) (w286.toInt8.toInt32) (w294.toInt8.toInt32) (w302.toInt8.toInt32) T316.heap O0 f1316 f3316 f2316 f4316) 0 0 0 (by show _ ≤ 16; omega) (by show _ ≤ 1152; omega) (rfl : T316.heap = T316.heap) (g := (mkF m 313 #[iv p1, iv p2, .val (.long q3), .second, iv p4, iv (6 : Int32), iv um, rv b256, rv b309, iv (0 : Int32), .unset] [(.ref b309)])) rfl (by rw [hml]; rfl) [(.ref b309)] [] (lenOf own_pd_7 rfl) rfl rfl (hb hby at_313)
    obtain ⟨rfl, Nc324, Kc323⟩ := hQ322
    refine own_goW st322 ?_
    clear st322 X316
    replace N0 := Fr.app N0 Nc324
    clear Nc324
    refine own_goW (fun _ k => XS.astore X322.here hx rfl (hb hby at_316) rfl rfl (l' := #[iv p1, iv p2, .val (.long q3), .second, iv p4, iv (6 : Int32), iv um, rv b256, rv b309, iv (0 : Int32), rv wx]) rfl (XS.iload X322.here hx rfl (hb hby at_318) rfl k)) ?_
    show own_GoW p e below s _ _ _ _ (T322.setTop (mkF m 320 #[iv p1, iv p2, .val (.long q3), .second, iv p4, iv (6 : Int32), iv um, rv b256, rv b309, iv (0 : Int32), rv wx] [(.int (0 : Int32))]))
    refine own_goW (fun _ k => XS.ifYes X322.here hx rfl (pc0 := 320) (pc' := 337) rfl (hb hby at_320) rfl ((if0 _ _).trans (teq (by decide : (0 : Int32) = (0 : Int32))).1) (by decide) (by decide) (XS.aload X322.here hx rfl (hb hby at_337) rfl rfl k)) ?_
    obtain ⟨T325, X325, e325, st325⟩ := getS2 X322 hx hZ hown (host := "") (Or.inl (ow54 hw)) Via.refl Kc323 (oEx.ext O0) (g := (mkF m 339 #[iv p1, iv p2, .val (.long q3), .second, iv p4, iv (6 : Int32), iv um, rv b256, rv b309, iv (0 : Int32), rv wx] [(.ref wx)])) rfl (hb hby at_339)
    refine own_goW st325 ?_
    clear st325 X322 Kc323
    refine own_goW (fun _ k => Jvm.RoadKit.acmp (g := (mkF m 342 #[iv p1, iv p2, .val (.long q3), .second, iv p4, iv (6 : Int32), iv um, rv b256, rv b309, iv (0 : Int32), rv wx] [(.ref wx), (.ref wx)])) X325 hx rfl rfl rfl (pc0 := 342) (pc' := 345) (same := true) rfl (hb hby at_342) rfl (decide_eq_true rfl) (by decide) (by decide) (XS.iconst X325.here hx rfl (hb hby at_345) (XS.goto X325.here hx rfl (pc0 := 346) (pc' := 350) rfl (hb hby at_346) (by decide) (by decide) k))) ?_
    show own_GoW p e below s _ _ _ _ (T325.setTop (mkF m 350 #[iv p1, iv p2, .val (.long q3), .second, iv p4, iv (6 : Int32), iv um, rv b256, rv b309, iv (0 : Int32), rv wx] [(.int (1 : Int32))]))
    refine own_retNW X325 hS hL hZ hJ hx hlk e325 (t := .boolean) hret (by simp) (hb hby at_350) (by show _ ≤ 16; omega) (by show _ ≤ 1152; omega) ?_
    exact ⟨rfl, N0, K0⟩
  · rw [hn]
    clear hn
    show own_GoW p e below s _ _ _ _ (T.setTop (mkF m 42 #[iv p1, iv p2, .val (.long q3), .second, iv p4, iv (7 : Int32), iv um, .unset, .unset, .unset, .unset] [(.int (7 : Int32))]))
    obtain ⟨T326, h326, k326, X326, e326, E326, A326, st326⟩ := newP (aty := .char) X0 hx hZ (ow1 hw) e0 (g := (mkF m 42 #[iv p1, iv p2, .val (.long q3), .second, iv p4, iv (7 : Int32), iv um, .unset, .unset, .unset, .unset] [(.int (7 : Int32))])) rfl (hb hby at_42) rfl (by decide) (cap := 7) (by decide) (by decide) (by show _ ≤ 16; omega) (by show _ ≤ 1152; omega)
    obtain ⟨b326, g326⟩ : ∃ z, z = hs1.size := ⟨_, rfl⟩
    rw [← g326] at A326 st326
    refine own_goW st326 ?_
    clear st326 X0 e0
    have ge326 := Nat.le_of_eq g326.symm
    have big327 : Z.heap.size ≤ b326 := Nat.le_trans O0.1 ge326
    have sz328 : h0.size ≤ b326 := Nat.le_trans K0.1 ge326
    have sz329 : hs1.size ≤ b326 := Nat.le_trans K1.1 ge326
    replace O0 := own_oldExt O0 E326
    replace K0 := K0.ext E326
    replace K1 := K1.ext E326
    replace hS := own_since hS E326.1
    replace hJ := own_Jext hJ E326
    clear E326
    have f330 : Arv Z h326 b326 k326 .char (7 : Int32) [(.int (0 : Int32)), (.int (0 : Int32)), (.int (0 : Int32)), (.int (0 : Int32)), (.int (0 : Int32)), (.int (0 : Int32)), (.int (0 : Int32))] (.int (0 : Int32)) := (Arv.new A326 (by decide)).pad (pad_rep [] (.int (0 : Int32)) 7)
    refine own_goW (fun _ k => XS.astore X326.here hx rfl (hb hby at_44) rfl rfl (l' := #[iv p1, iv p2, .val (.long q3), .second, iv p4, iv (7 : Int32), iv um, rv b326, .unset, .unset, .unset]) rfl (XS.iload X326.here hx rfl (hb hby at_46) rfl (XS.ifNo X326.here hx rfl (hb hby at_48) rfl ((if0 _ _).trans (tlt (by decide : (0 : Int32) < (7 : Int32))).2.2.2) (XS.aload X326.here hx rfl (hb hby at_51) rfl rfl (XS.iconst X326.here hx rfl (hb hby at_53) k))))) ?_
    show own_GoW p e below s _ _ _ _ (T326.setTop (mkF m 54 #[iv p1, iv p2, .val (.long q3), .second, iv p4, iv (7 : Int32), iv um, rv b326, .unset, .unset, .unset] [(.int (0 : Int32)), (.ref b326)]))
    refine own_goW (fun _ k => XS.iconst X326.here hx rfl (hb hby at_54) (XS.bipush X326.here hx rfl (hb hby at_55) (XS.iload X326.here hx rfl (hb hby at_57) rfl (XS.lloadN X326.here hx rfl (hb hby at_59) rfl k)))) ?_
    obtain ⟨v331, T331, L331, X331, hQ331, st331⟩ := own_callS (y := own_y4) X326 hx hZ hown (ow55 hw) (ow56 hw) (ow57 hw) (ow58 hw) (rm_pick l Z a0 hw hO [] (0 : Int32) (115 : Int32) um q3 h326 O0 (⟨by decide, by decide⟩ : own_C8 (115 : Int32))) 2 0 0 (by show _ ≤ 16; omega) (by show _ ≤ 1152; omega) e326 (g := (mkF m 60 #[iv p1, iv p2, .val (.long q3), .second, iv p4, iv (7 : Int32), iv um, rv b326, .unset, .unset, .unset] [(.long q3), (.int um), (.int (115 : Int32)), (.int (0 : Int32)), (.int (0 : Int32)), (.ref b326)])) rfl (by rw [hml]; rfl) [(.int (0 : Int32)), (.int (115 : Int32)), (.int um), (.long q3)] [(.int (0 : Int32)), (.ref b326)] (lenOf own_pd_8 rfl) rfl rfl (hb hby at_60)
    obtain ⟨w332, rfl, Nc335, hp333, Kc334⟩ := hQ331
    refine own_goW st331 ?_
    clear st331 X326 e326
    replace N0 := Fr.app N0 Nc335
    clear Nc335
    obtain ⟨cl336, Ar336, q336, S336, M336, P336, G336⟩ := id f330
    have hin336 : ¬ ((0 : Int32) < 0 ∨ cl336.slots.size ≤ ((0 : Int32)).toNatClampNeg) := inb_of S336 ⟨by decide, by decide⟩
    obtain ⟨T337, h337, X337, e337, W337, st337⟩ := stC X331 hx hZ Kc334 Ar336 (j := (0 : Int32)) hin336 (g := (mkF m 63 #[iv p1, iv p2, .val (.long q3), .second, iv p4, iv (7 : Int32), iv um, rv b326, .unset, .unset, .unset] [(.int w332), (.int (0 : Int32)), (.ref b326)])) rfl rfl (hb hby at_63)
    refine own_goW st337 ?_
    clear st337 X331 Kc334
    rw [own_nar8 hp333] at W337
    have f338 : Arv Z h337 b326 k326 .char (7 : Int32) [(.int w332), (.int (0 : Int32)), (.int (0 : Int32)), (.int (0 : Int32)), (.int (0 : Int32)), (.int (0 : Int32)), (.int (0 : Int32))] (.int (0 : Int32)) := Arv.set Ar336 q336 S336 M336 P336 G336 (by have q := fits_nar_char w332; rw [own_nar8 hp333] at q; exact q) W337 0 rfl (Nat.le_of_ble_eq_true rfl)
    replace N0 := Fr.snoc X337 N0 big327
    replace hJ := own_Jwr hZ hJ W337 (own_farV f330 (by decide) (ow3 hw))
    clear f330
    replace O0 := own_oldWr O0 W337 big327
    replace K0 := K0.wr W337 (Or.inr sz328)
    replace K1 := K1.wr W337 (Or.inr sz329)
    replace hS := own_since hS (Nat.le_of_eq W337.size.symm)
    clear W337
    clear Ar336 q336 S336 M336 P336 G336 hin336
    show own_GoW p e below s _ _ _ _ (T337.setTop (mkF m 64 #[iv p1, iv p2, .val (.long q3), .second, iv p4, iv (7 : Int32), iv um, rv b326, .unset, .unset, .unset] []))
    refine own_goW (fun _ k => XS.iload X337.here hx rfl (hb hby at_64) rfl (XS.iconst X337.here hx rfl (hb hby at_66) (XS.icmpNo X337.here hx rfl (hb hby at_67) rfl (tlt (by decide : (1 : Int32) < (7 : Int32))).2.2.2 (XS.aload X337.here hx rfl (hb hby at_70) rfl rfl (XS.iconst X337.here hx rfl (hb hby at_72) (XS.iconst X337.here hx rfl (hb hby at_73) k)))))) ?_
    show own_GoW p e below s _ _ _ _ (T337.setTop (mkF m 74 #[iv p1, iv p2, .val (.long q3), .second, iv p4, iv (7 : Int32), iv um, rv b326, .unset, .unset, .unset] [(.int (1 : Int32)), (.int (1 : Int32)), (.ref b326)]))
    refine own_goW (fun _ k => XS.bipush X337.here hx rfl (hb hby at_74) (XS.iload X337.here hx rfl (hb hby at_76) rfl (XS.lloadN X337.here hx rfl (hb hby at_78) rfl k))) ?_
    obtain ⟨v339, T339, L339, X339, hQ339, st339⟩ := own_callS (y := own_y4) X337 hx hZ hown (ow55 hw) (ow56 hw) (ow57 hw) (ow58 hw) (rm_pick l Z a0 hw hO [] (1 : Int32) (104 : Int32) um q3 h337 O0 (⟨by decide, by decide⟩ : own_C8 (104 : Int32))) 2 0 0 (by show _ ≤ 16; omega) (by show _ ≤ 1152; omega) e337 (g := (mkF m 79 #[iv p1, iv p2, .val (.long q3), .second, iv p4, iv (7 : Int32), iv um, rv b326, .unset, .unset, .unset] [(.long q3), (.int um), (.int (104 : Int32)), (.int (1 : Int32)), (.int (1 : Int32)), (.ref b326)])) rfl (by rw [hml]; rfl) [(.int (1 : Int32)), (.int (104 : Int32)), (.int um), (.long q3)] [(.int (1 : Int32)), (.ref b326)] (lenOf own_pd_8 rfl) rfl rfl (hb hby at_79)
    obtain ⟨w340, rfl, Nc343, hp341, Kc342⟩ := hQ339
    refine own_goW st339 ?_
    clear st339 X337 e337
    replace N0 := Fr.app N0 Nc343
    clear Nc343
    obtain ⟨cl344, Ar344, q344, S344, M344, P344, G344⟩ := id f338
    have hin344 : ¬ ((1 : Int32) < 0 ∨ cl344.slots.size ≤ ((1 : Int32)).toNatClampNeg) := inb_of S344 ⟨by decide, by decide⟩
    obtain ⟨T345, h345, X345, e345, W345, st345⟩ := stC X339 hx hZ Kc342 Ar344 (j := (1 : Int32)) hin344 (g := (mkF m 82 #[iv p1, iv p2, .val (.long q3), .second, iv p4, iv (7 : Int32), iv um, rv b326, .unset, .unset, .unset] [(.int w340), (.int (1 : Int32)), (.ref b326)])) rfl rfl (hb hby at_82)
    refine own_goW st345 ?_
    clear st345 X339 Kc342
    rw [own_nar8 hp341] at W345
    have f346 : Arv Z h345 b326 k326 .char (7 : Int32) [(.int w332), (.int w340), (.int (0 : Int32)), (.int (0 : Int32)), (.int (0 : Int32)), (.int (0 : Int32)), (.int (0 : Int32))] (.int (0 : Int32)) := Arv.set Ar344 q344 S344 M344 P344 G344 (by have q := fits_nar_char w340; rw [own_nar8 hp341] at q; exact q) W345 1 rfl (Nat.le_of_ble_eq_true rfl)
    replace N0 := Fr.snoc X345 N0 big327
    replace hJ := own_Jwr hZ hJ W345 (own_farV f338 (by decide) (ow3 hw))
    clear f338
    replace O0 := own_oldWr O0 W345 big327
    replace K0 := K0.wr W345 (Or.inr sz328)
    replace K1 := K1.wr W345 (Or.inr sz329)
    replace hS := own_since hS (Nat.le_of_eq W345.size.symm)
    clear W345
    clear Ar344 q344 S344 M344 P344 G344 hin344
    refine own_goW (fun _ k => XS.iload X345.here hx rfl (hb hby at_83) rfl k) ?_
    show own_GoW p e below s _ _ _ _ (T345.setTop (mkF m 85 #[iv p1, iv p2, .val (.long q3), .second, iv p4, iv (7 : Int32), iv um, rv b326, .unset, .unset, .unset] [(.int (7 : Int32))]))
    refine own_goW (fun _ k => XS.iconst X345.here hx rfl (hb hby at_85) (XS.icmpNo X345.here hx rfl (hb hby at_86) rfl (tlt (by decide : (2 : Int32) < (7 : Int32))).2.2.2 (XS.aload X345.here hx rfl (hb hby at_89) rfl rfl (XS.iconst X345.here hx rfl (hb hby at_91) (XS.iconst X345.here hx rfl (hb hby at_92) (XS.bipush X345.here hx rfl (hb hby at_93) k)))))) ?_
    show own_GoW p e below s _ _ _ _ (T345.setTop (mkF m 95 #[iv p1, iv p2, .val (.long q3), .second, iv p4, iv (7 : Int32), iv um, rv b326, .unset, .unset, .unset] [(.int (97 : Int32)), (.int (2 : Int32)), (.int (2 : Int32)), (.ref b326)]))
    refine own_goW (fun _ k => XS.iload X345.here hx rfl (hb hby at_95) rfl (XS.lloadN X345.here hx rfl (hb hby at_97) rfl k)) ?_
    obtain ⟨v347, T347, L347, X347, hQ347, st347⟩ := own_callS (y := own_y4) X345 hx hZ hown (ow55 hw) (ow56 hw) (ow57 hw) (ow58 hw) (rm_pick l Z a0 hw hO [] (2 : Int32) (97 : Int32) um q3 h345 O0 (⟨by decide, by decide⟩ : own_C8 (97 : Int32))) 2 0 0 (by show _ ≤ 16; omega) (by show _ ≤ 1152; omega) e345 (g := (mkF m 98 #[iv p1, iv p2, .val (.long q3), .second, iv p4, iv (7 : Int32), iv um, rv b326, .unset, .unset, .unset] [(.long q3), (.int um), (.int (97 : Int32)), (.int (2 : Int32)), (.int (2 : Int32)), (.ref b326)])) rfl (by rw [hml]; rfl) [(.int (2 : Int32)), (.int (97 : Int32)), (.int um), (.long q3)] [(.int (2 : Int32)), (.ref b326)] (lenOf own_pd_8 rfl) rfl rfl (hb hby at_98)
    obtain ⟨w348, rfl, Nc351, hp349, Kc350⟩ := hQ347
    refine own_goW st347 ?_
    clear st347 X345 e345
    replace N0 := Fr.app N0 Nc351
    clear Nc351
    obtain ⟨cl352, Ar352, q352, S352, M352, P352, G352⟩ := id f346
    have hin352 : ¬ ((2 : Int32) < 0 ∨ cl352.slots.size ≤ ((2 : Int32)).toNatClampNeg) := inb_of S352 ⟨by decide, by decide⟩
    obtain ⟨T353, h353, X353, e353, W353, st353⟩ := stC X347 hx hZ Kc350 Ar352 (j := (2 : Int32)) hin352 (g := (mkF m 101 #[iv p1, iv p2, .val (.long q3), .second, iv p4, iv (7 : Int32), iv um, rv b326, .unset, .unset, .unset] [(.int w348), (.int (2 : Int32)), (.ref b326)])) rfl rfl (hb hby at_101)
    refine own_goW st353 ?_
    clear st353 X347 Kc350
    rw [own_nar8 hp349] at W353
    have f354 : Arv Z h353 b326 k326 .char (7 : Int32) [(.int w332), (.int w340), (.int w348), (.int (0 : Int32)), (.int (0 : Int32)), (.int (0 : Int32)), (.int (0 : Int32))] (.int (0 : Int32)) := Arv.set Ar352 q352 S352 M352 P352 G352 (by have q := fits_nar_char w348; rw [own_nar8 hp349] at q; exact q) W353 2 rfl (Nat.le_of_ble_eq_true rfl)
    replace N0 := Fr.snoc X353 N0 big327
    replace hJ := own_Jwr hZ hJ W353 (own_farV f346 (by decide) (ow3 hw))
    clear f346
    replace O0 := own_oldWr O0 W353 big327
    replace K0 := K0.wr W353 (Or.inr sz328)
    replace K1 := K1.wr W353 (Or.inr sz329)
    replace hS := own_since hS (Nat.le_of_eq W353.size.symm)
    clear W353
    clear Ar352 q352 S352 M352 P352 G352 hin352
    refine own_goW (fun _ k => XS.iload X353.here hx rfl (hb hby at_102) rfl (XS.iconst X353.here hx rfl (hb hby at_104) k)) ?_
    show own_GoW p e below s _ _ _ _ (T353.setTop (mkF m 105 #[iv p1, iv p2, .val (.long q3), .second, iv p4, iv (7 : Int32), iv um, rv b326, .unset, .unset, .unset] [(.int (3 : Int32)), (.int (7 : Int32))]))
    refine own_goW (fun _ k => XS.icmpNo X353.here hx rfl (hb hby at_105) rfl (tlt (by decide : (3 : Int32) < (7 : Int32))).2.2.2 (XS.aload X353.here hx rfl (hb hby at_108) rfl rfl (XS.iconst X353.here hx rfl (hb hby at_110) (XS.iconst X353.here hx rfl (hb hby at_111) (XS.bipush X353.here hx rfl (hb hby at_112) (XS.iload X353.here hx rfl (hb hby at_114) rfl k)))))) ?_
    show own_GoW p e below s _ _ _ _ (T353.setTop (mkF m 116 #[iv p1, iv p2, .val (.long q3), .second, iv p4, iv (7 : Int32), iv um, rv b326, .unset, .unset, .unset] [(.int um), (.int (114 : Int32)), (.int (3 : Int32)), (.int (3 : Int32)), (.ref b326)]))
    refine own_goW (fun _ k => XS.lloadN X353.here hx rfl (hb hby at_116) rfl k) ?_
    obtain ⟨v355, T355, L355, X355, hQ355, st355⟩ := own_callS (y := own_y4) X353 hx hZ hown (ow55 hw) (ow56 hw) (ow57 hw) (ow58 hw) (rm_pick l Z a0 hw hO [] (3 : Int32) (114 : Int32) um q3 h353 O0 (⟨by decide, by decide⟩ : own_C8 (114 : Int32))) 2 0 0 (by show _ ≤ 16; omega) (by show _ ≤ 1152; omega) e353 (g := (mkF m 117 #[iv p1, iv p2, .val (.long q3), .second, iv p4, iv (7 : Int32), iv um, rv b326, .unset, .unset, .unset] [(.long q3), (.int um), (.int (114 : Int32)), (.int (3 : Int32)), (.int (3 : Int32)), (.ref b326)])) rfl (by rw [hml]; rfl) [(.int (3 : Int32)), (.int (114 : Int32)), (.int um), (.long q3)] [(.int (3 : Int32)), (.ref b326)] (lenOf own_pd_8 rfl) rfl rfl (hb hby at_117)
    obtain ⟨w356, rfl, Nc359, hp357, Kc358⟩ := hQ355
    refine own_goW st355 ?_
    clear st355 X353 e353
    replace N0 := Fr.app N0 Nc359
    clear Nc359
    obtain ⟨cl360, Ar360, q360, S360, M360, P360, G360⟩ := id f354
    have hin360 : ¬ ((3 : Int32) < 0 ∨ cl360.slots.size ≤ ((3 : Int32)).toNatClampNeg) := inb_of S360 ⟨by decide, by decide⟩
    obtain ⟨T361, h361, X361, e361, W361, st361⟩ := stC X355 hx hZ Kc358 Ar360 (j := (3 : Int32)) hin360 (g := (mkF m 120 #[iv p1, iv p2, .val (.long q3), .second, iv p4, iv (7 : Int32), iv um, rv b326, .unset, .unset, .unset] [(.int w356), (.int (3 : Int32)), (.ref b326)])) rfl rfl (hb hby at_120)
    refine own_goW st361 ?_
    clear st361 X355 Kc358
    rw [own_nar8 hp357] at W361
    have f362 : Arv Z h361 b326 k326 .char (7 : Int32) [(.int w332), (.int w340), (.int w348), (.int w356), (.int (0 : Int32)), (.int (0 : Int32)), (.int (0 : Int32))] (.int (0 : Int32)) := Arv.set Ar360 q360 S360 M360 P360 G360 (by have q := fits_nar_char w356; rw [own_nar8 hp357] at q; exact q) W361 3 rfl (Nat.le_of_ble_eq_true rfl)
    replace N0 := Fr.snoc X361 N0 big327
    replace hJ := own_Jwr hZ hJ W361 (own_farV f354 (by decide) (ow3 hw))
    clear f354
    replace O0 := own_oldWr O0 W361 big327
    replace K0 := K0.wr W361 (Or.inr sz328)
    replace K1 := K1.wr W361 (Or.inr sz329)
    replace hS := own_since hS (Nat.le_of_eq W361.size.symm)
    clear W361
    clear Ar360 q360 S360 M360 P360 G360 hin360
    refine own_goW (fun _ k => XS.iload X361.here hx rfl (hb hby at_121) rfl (XS.iconst X361.here hx rfl (hb hby at_123) (XS.icmpNo X361.here hx rfl (hb hby at_124) rfl (tlt (by decide : (4 : Int32) < (7 : Int32))).2.2.2 k))) ?_
    show own_GoW p e below s _ _ _ _ (T361.setTop (mkF m 127 #[iv p1, iv p2, .val (.long q3), .second, iv p4, iv (7 : Int32), iv um, rv b326, .unset, .unset, .unset] []))
    refine own_goW (fun _ k => XS.aload X361.here hx rfl (hb hby at_127) rfl rfl (XS.iconst X361.here hx rfl (hb hby at_129) (XS.iconst X361.here hx rfl (hb hby at_130) (XS.bipush X361.here hx rfl (hb hby at_131) (XS.iload X361.here hx rfl (hb hby at_133) rfl (XS.lloadN X361.here hx rfl (hb hby at_135) rfl k)))))) ?_
    show own_GoW p e below s _ _ _ _ (T361.setTop (mkF m 136 #[iv p1, iv p2, .val (.long q3), .second, iv p4, iv (7 : Int32), iv um, rv b326, .unset, .unset, .unset] [(.long q3), (.int um), (.int (101 : Int32)), (.int (4 : Int32)), (.int (4 : Int32)), (.ref b326)]))
    obtain ⟨v363, T363, L363, X363, hQ363, st363⟩ := own_callS (y := own_y4) X361 hx hZ hown (ow55 hw) (ow56 hw) (ow57 hw) (ow58 hw) (rm_pick l Z a0 hw hO [] (4 : Int32) (101 : Int32) um q3 h361 O0 (⟨by decide, by decide⟩ : own_C8 (101 : Int32))) 2 0 0 (by show _ ≤ 16; omega) (by show _ ≤ 1152; omega) e361 (g := (mkF m 136 #[iv p1, iv p2, .val (.long q3), .second, iv p4, iv (7 : Int32), iv um, rv b326, .unset, .unset, .unset] [(.long q3), (.int um), (.int (101 : Int32)), (.int (4 : Int32)), (.int (4 : Int32)), (.ref b326)])) rfl (by rw [hml]; rfl) [(.int (4 : Int32)), (.int (101 : Int32)), (.int um), (.long q3)] [(.int (4 : Int32)), (.ref b326)] (lenOf own_pd_8 rfl) rfl rfl (hb hby at_136)
    obtain ⟨w364, rfl, Nc367, hp365, Kc366⟩ := hQ363
    refine own_goW st363 ?_
    clear st363 X361 e361
    replace N0 := Fr.app N0 Nc367
    clear Nc367
    obtain ⟨cl368, Ar368, q368, S368, M368, P368, G368⟩ := id f362
    have hin368 : ¬ ((4 : Int32) < 0 ∨ cl368.slots.size ≤ ((4 : Int32)).toNatClampNeg) := inb_of S368 ⟨by decide, by decide⟩
    obtain ⟨T369, h369, X369, e369, W369, st369⟩ := stC X363 hx hZ Kc366 Ar368 (j := (4 : Int32)) hin368 (g := (mkF m 139 #[iv p1, iv p2, .val (.long q3), .second, iv p4, iv (7 : Int32), iv um, rv b326, .unset, .unset, .unset] [(.int w364), (.int (4 : Int32)), (.ref b326)])) rfl rfl (hb hby at_139)
    refine own_goW st369 ?_
    clear st369 X363 Kc366
    rw [own_nar8 hp365] at W369
    have f370 : Arv Z h369 b326 k326 .char (7 : Int32) [(.int w332), (.int w340), (.int w348), (.int w356), (.int w364), (.int (0 : Int32)), (.int (0 : Int32))] (.int (0 : Int32)) := Arv.set Ar368 q368 S368 M368 P368 G368 (by have q := fits_nar_char w364; rw [own_nar8 hp365] at q; exact q) W369 4 rfl (Nat.le_of_ble_eq_true rfl)
    replace N0 := Fr.snoc X369 N0 big327
    replace hJ := own_Jwr hZ hJ W369 (own_farV f362 (by decide) (ow3 hw))
    clear f362
    replace O0 := own_oldWr O0 W369 big327
    replace K0 := K0.wr W369 (Or.inr sz328)
    replace K1 := K1.wr W369 (Or.inr sz329)
    replace hS := own_since hS (Nat.le_of_eq W369.size.symm)
    clear W369
    clear Ar368 q368 S368 M368 P368 G368 hin368
    refine own_goW (fun _ k => XS.iload X369.here hx rfl (hb hby at_140) rfl (XS.iconst X369.here hx rfl (hb hby at_142) (XS.icmpNo X369.here hx rfl (hb hby at_143) rfl (tlt (by decide : (5 : Int32) < (7 : Int32))).2.2.2 (XS.aload X369.here hx rfl (hb hby at_146) rfl rfl k)))) ?_
    show own_GoW p e below s _ _ _ _ (T369.setTop (mkF m 148 #[iv p1, iv p2, .val (.long q3), .second, iv p4, iv (7 : Int32), iv um, rv b326, .unset, .unset, .unset] [(.ref b326)]))
    refine own_goW (fun _ k => XS.iconst X369.here hx rfl (hb hby at_148) (XS.iconst X369.here hx rfl (hb hby at_149) (XS.bipush X369.here hx rfl (hb hby at_150) (XS.iload X369.here hx rfl (hb hby at_152) rfl (XS.lloadN X369.here hx rfl (hb hby at_154) rfl k))))) ?_
    obtain ⟨v371, T371, L371, X371, hQ371, st371⟩ := own_callS (y := own_y4) X369 hx hZ hown (ow55 hw) (ow56 hw) (ow57 hw) (ow58 hw) (rm_pick l Z a0 hw hO [] (5 : Int32) (100 : Int32) um q3 h369 O0 (⟨by decide, by decide⟩ : own_C8 (100 : Int32))) 2 0 0 (by show _ ≤ 16; omega) (by show _ ≤ 1152; omega) e369 (g := (mkF m 155 #[iv p1, iv p2, .val (.long q3), .second, iv p4, iv (7 : Int32), iv um, rv b326, .unset, .unset, .unset] [(.long q3), (.int um), (.int (100 : Int32)), (.int (5 : Int32)), (.int (5 : Int32)), (.ref b326)])) rfl (by rw [hml]; rfl) [(.int (5 : Int32)), (.int (100 : Int32)), (.int um), (.long q3)] [(.int (5 : Int32)), (.ref b326)] (lenOf own_pd_8 rfl) rfl rfl (hb hby at_155)
    obtain ⟨w372, rfl, Nc375, hp373, Kc374⟩ := hQ371
    refine own_goW st371 ?_
    clear st371 X369 e369
    replace N0 := Fr.app N0 Nc375
    clear Nc375
    show own_GoW p e below s _ _ _ _ (T371.setTop (mkF m 158 #[iv p1, iv p2, .val (.long q3), .second, iv p4, iv (7 : Int32), iv um, rv b326, .unset, .unset, .unset] [(.int w372), (.int (5 : Int32)), (.ref b326)]))
    obtain ⟨cl376, Ar376, q376, S376, M376, P376, G376⟩ := id f370
    have hin376 : ¬ ((5 : Int32) < 0 ∨ cl376.slots.size ≤ ((5 : Int32)).toNatClampNeg) := inb_of S376 ⟨by decide, by decide⟩
    obtain ⟨T377, h377, X377, e377, W377, st377⟩ := stC X371 hx hZ Kc374 Ar376 (j := (5 : Int32)) hin376 (g := (mkF m 158 #[iv p1, iv p2, .val (.long q3), .second, iv p4, iv (7 : Int32), iv um, rv b326, .unset, .unset, .unset] [(.int w372), (.int (5 : Int32)), (.ref b326)])) rfl rfl (hb hby at_158)
    refine own_goW st377 ?_
    clear st377 X371 Kc374
    rw [own_nar8 hp373] at W377
    have f378 : Arv Z h377 b326 k326 .char (7 : Int32) [(.int w332), (.int w340), (.int w348), (.int w356), (.int w364), (.int w372), (.int (0 : Int32))] (.int (0 : Int32)) := Arv.set Ar376 q376 S376 M376 P376 G376 (by have q := fits_nar_char w372; rw [own_nar8 hp373] at q; exact q) W377 5 rfl (Nat.le_of_ble_eq_true rfl)
    replace N0 := Fr.snoc X377 N0 big327
    replace hJ := own_Jwr hZ hJ W377 (own_farV f370 (by decide) (ow3 hw))
    clear f370
    replace O0 := own_oldWr O0 W377 big327
    replace K0 := K0.wr W377 (Or.inr sz328)
    replace K1 := K1.wr W377 (Or.inr sz329)
    replace hS := own_since hS (Nat.le_of_eq W377.size.symm)
    clear W377
    clear Ar376 q376 S376 M376 P376 G376 hin376
    refine own_goW (fun _ k => XS.iload X377.here hx rfl (hb hby at_159) rfl (XS.bipush X377.here hx rfl (hb hby at_161) (XS.icmpNo X377.here hx rfl (hb hby at_163) rfl (tlt (by decide : (6 : Int32) < (7 : Int32))).2.2.2 (XS.aload X377.here hx rfl (hb hby at_166) rfl rfl (XS.bipush X377.here hx rfl (hb hby at_168) k))))) ?_
    show own_GoW p e below s _ _ _ _ (T377.setTop (mkF m 170 #[iv p1, iv p2, .val (.long q3), .second, iv p4, iv (7 : Int32), iv um, rv b326, .unset, .unset, .unset] [(.int (6 : Int32)), (.ref b326)]))
    refine own_goW (fun _ k => XS.bipush X377.here hx rfl (hb hby at_170) (XS.bipush X377.here hx rfl (hb hby at_172) (XS.iload X377.here hx rfl (hb hby at_174) rfl (XS.lloadN X377.here hx rfl (hb hby at_176) rfl k)))) ?_
    obtain ⟨v379, T379, L379, X379, hQ379, st379⟩ := own_callS (y := own_y4) X377 hx hZ hown (ow55 hw) (ow56 hw) (ow57 hw) (ow58 hw) (rm_pick l Z a0 hw hO [] (6 : Int32) (45 : Int32) um q3 h377 O0 (⟨by decide, by decide⟩ : own_C8 (45 : Int32))) 2 0 0 (by show _ ≤ 16; omega) (by show _ ≤ 1152; omega) e377 (g := (mkF m 177 #[iv p1, iv p2, .val (.long q3), .second, iv p4, iv (7 : Int32), iv um, rv b326, .unset, .unset, .unset] [(.long q3), (.int um), (.int (45 : Int32)), (.int (6 : Int32)), (.int (6 : Int32)), (.ref b326)])) rfl (by rw [hml]; rfl) [(.int (6 : Int32)), (.int (45 : Int32)), (.int um), (.long q3)] [(.int (6 : Int32)), (.ref b326)] (lenOf own_pd_8 rfl) rfl rfl (hb hby at_177)
    obtain ⟨w380, rfl, Nc383, hp381, Kc382⟩ := hQ379
    refine own_goW st379 ?_
    clear st379 X377 e377
    replace N0 := Fr.app N0 Nc383
    clear Nc383
    obtain ⟨cl384, Ar384, q384, S384, M384, P384, G384⟩ := id f378
    have hin384 : ¬ ((6 : Int32) < 0 ∨ cl384.slots.size ≤ ((6 : Int32)).toNatClampNeg) := inb_of S384 ⟨by decide, by decide⟩
    obtain ⟨T385, h385, X385, e385, W385, st385⟩ := stC X379 hx hZ Kc382 Ar384 (j := (6 : Int32)) hin384 (g := (mkF m 180 #[iv p1, iv p2, .val (.long q3), .second, iv p4, iv (7 : Int32), iv um, rv b326, .unset, .unset, .unset] [(.int w380), (.int (6 : Int32)), (.ref b326)])) rfl rfl (hb hby at_180)
    refine own_goW st385 ?_
    clear st385 X379 Kc382
    rw [own_nar8 hp381] at W385
    have f386 : Arv Z h385 b326 k326 .char (7 : Int32) [(.int w332), (.int w340), (.int w348), (.int w356), (.int w364), (.int w372), (.int w380)] (.int (0 : Int32)) := Arv.set Ar384 q384 S384 M384 P384 G384 (by have q := fits_nar_char w380; rw [own_nar8 hp381] at q; exact q) W385 6 rfl (Nat.le_of_ble_eq_true rfl)
    replace N0 := Fr.snoc X385 N0 big327
    replace hJ := own_Jwr hZ hJ W385 (own_farV f378 (by decide) (ow3 hw))
    clear f378
    replace O0 := own_oldWr O0 W385 big327
    replace K0 := K0.wr W385 (Or.inr sz328)
    replace K1 := K1.wr W385 (Or.inr sz329)
    replace hS := own_since hS (Nat.le_of_eq W385.size.symm)
    clear W385
    clear Ar384 q384 S384 M384 P384 G384 hin384
    show own_GoW p e below s _ _ _ _ (T385.setTop (mkF m 181 #[iv p1, iv p2, .val (.long q3), .second, iv p4, iv (7 : Int32), iv um, rv b326, .unset, .unset, .unset] []))
    refine own_goW (fun _ k => XS.iload X385.here hx rfl (hb hby at_181) rfl (XS.bipush X385.here hx rfl (hb hby at_183) (XS.icmpYes X385.here hx rfl (pc0 := 185) (pc' := 203) rfl (hb hby at_185) rfl (flt (by decide : ¬ ((7 : Int32) < (7 : Int32)))).2.2.2 (by decide) (by decide) (XS.iload X385.here hx rfl (hb hby at_203) rfl (XS.bipush X385.here hx rfl (hb hby at_205) (XS.icmpYes X385.here hx rfl (pc0 := 207) (pc' := 222) rfl (hb hby at_207) rfl (flt (by decide : ¬ ((8 : Int32) < (7 : Int32)))).2.2.2 (by decide) (by decide) k)))))) ?_
    show own_GoW p e below s _ _ _ _ (T385.setTop (mkF m 222 #[iv p1, iv p2, .val (.long q3), .second, iv p4, iv (7 : Int32), iv um, rv b326, .unset, .unset, .unset] []))
    obtain ⟨T387, h387, X387, e387, E387, A387, D387, -, st387⟩ := newO X385 hx hZ hown (ow2 hw) (ow3 hw) (ow4 hw) e385 (g := (mkF m 222 #[iv p1, iv p2, .val (.long q3), .second, iv p4, iv (7 : Int32), iv um, rv b326, .unset, .unset, .unset] [])) rfl (hb hby at_222) (by show _ ≤ 16; omega) (by show _ ≤ 1152; omega)
    obtain ⟨b387, g387⟩ : ∃ z, z = h385.size := ⟨_, rfl⟩
    rw [← g387] at A387 D387 st387
    refine own_goW st387 ?_
    clear st387 X385 e385
    have ge387 := Nat.le_of_eq g387.symm
    have ne388 : b326 ≠ b387 := Nat.ne_of_lt (Nat.lt_of_lt_of_le f386.lt ge387)
    have big389 : Z.heap.size ≤ b387 := Nat.le_trans O0.1 ge387
    have sz390 : h0.size ≤ b387 := Nat.le_trans K0.1 ge387
    have sz391 : hs1.size ≤ b387 := Nat.le_trans K1.1 ge387
    replace f386 := f386.ext E387
    replace O0 := own_oldExt O0 E387
    replace K0 := K0.ext E387
    replace K1 := K1.ext E387
    replace hS := own_since hS E387.1
    replace hJ := own_Jext hJ E387
    clear E387
    have f392 : Fld Z h387 b387 "java/lang/String" "value" "[B" .null := D387 (Or.inr (ow17 hw)) (ty := (.array .byte)) own_fd0
    have f393 : Fld Z h387 b387 "java/lang/String" "coder" "B" (.int (0 : Int32)) := D387 (Or.inr (ow18 hw)) (ty := .byte) own_fd1
    refine own_goW (fun _ k => XS.dup X387.here hx rfl (hb hby at_225) rfl rfl (XS.aload X387.here hx rfl (hb hby at_226) rfl rfl k)) ?_
    obtain ⟨v394, T394, L394, X394, hQ394, st394⟩ := own_callIB (y := own_y1) X387 hx hZ hown (ow5 hw) (ow6 hw) (ow4 hw) (ow7 hw) 1 1 7 (StrChars.Road.backV (W := 1) hZ (own_sw1 hw) (kI := 4) (ow3 hw) (cs := ([w332, w340, w348, w356, w364, w372, w380] : List Int32)) (bs := ([w332, w340, w348, w356, w364, w372, w380] : List Int32).map (fun c => c.toInt8.toInt32)) (n := 7) (n0 := Z.heap.size) big389 (Nat.le_trans O0.1 (Nat.le_refl _)) A387 f392 f393 f386 (oCS.ext O0) oCz rfl rfl (by decide) (by decide) (own_cC hp333 (own_cC hp341 (own_cC hp349 (own_cC hp357 (own_cC hp365 (own_cC hp373 (own_cC hp381 own_cN))))))) rfl (by decide) (by decide)) rfl (by show _ ≤ 16; omega) (by show _ ≤ 1152; omega) e387 (g := (mkF m 228 #[iv p1, iv p2, .val (.long q3), .second, iv p4, iv (7 : Int32), iv um, rv b326, .unset, .unset, .unset] [(.ref b326), (.ref b387), (.ref b387)])) rfl (by rw [hml]; rfl) b387 [(.ref b326)] [(.ref b387)] (lenOf own_pd_6 rfl) rfl rfl (hb hby at_228)
    obtain ⟨rfl, Nc394, Kc394, f1394, f2394, t394, kb394, tb394, ts394, tn394, f3394, f4394⟩ := hQ394
    refine own_goW st394 ?_
    clear st394 X387 e387
    replace N0 := Fr.app N0 Nc394
    clear Nc394
    replace hS := own_since hS Kc394.1
    have ne395 : b326 ≠ t394 := Nat.ne_of_lt (Nat.lt_of_lt_of_le f386.lt ts394)
    have ne396 : b387 ≠ t394 := Nat.ne_of_lt (Nat.lt_of_lt_of_le A387.lt ts394)
    have big397 : Z.heap.size ≤ t394 := Nat.le_trans O0.1 ts394
    have sz398 : h0.size ≤ t394 := Nat.le_trans K0.1 ts394
    have sz399 : hs1.size ≤ t394 := Nat.le_trans K1.1 ts394
    have hAp_b387 := own_apart hZ hJ f392
    replace hJ := own_JkeepS hZ hJ Kc394 hAp_b387 A387 (ow3 hw)
    replace f386 := f386.keep Kc394 (ninS ne388 nin0)
    replace A387 := A387.keep Kc394
    clear f392
    clear f393
    replace O0 := own_oldKeep O0 Kc394 (allS big389 all0)
    replace K0 := K0.trans Kc394 (allS (Or.inr sz390) all0)
    replace K1 := K1.trans Kc394 (allS (Or.inr sz391) all0)
    clear Kc394
    replace f4394 : Arv Z T394.heap t394 kb394 .byte (7 : Int32) [(.int (w332.toInt8.toInt32)), (.int (w340.toInt8.toInt32)), (.int (w348.toInt8.toInt32)), (.int (w356.toInt8.toInt32)), (.int (w364.toInt8.toInt32)), (.int (w372.toInt8.toInt32)), (.int (w380.toInt8.toInt32))] (.int (0 : Int32)) := f4394
    refine own_goW (fun _ k => XS.astore X394.here hx rfl (hb hby at_231) rfl rfl (l' := #[iv p1, iv p2, .val (.long q3), .second, iv p4, iv (7 : Int32), iv um, rv b326, rv b387, .unset, .unset]) rfl (XS.iload X394.here hx rfl (hb hby at_233) rfl k)) ?_
    show own_GoW p e below s _ _ _ _ (T394.setTop (mkF m 235 #[iv p1, iv p2, .val (.long q3), .second, iv p4, iv (7 : Int32), iv um, rv b326, rv b387, .unset, .unset] [(.int (7 : Int32))]))
    refine own_goW (fun _ k => XS.bipush X394.here hx rfl (hb hby at_235) (XS.icmpNo X394.here hx rfl (hb hby at_237) rfl (flt (by decide : ¬ ((7 : Int32) < (7 : Int32)))).1 (XS.aload X394.here hx rfl (hb hby at_240) rfl rfl (XS.iconst X394.here hx rfl (hb hby at_242) k)))) ?_
    obtain ⟨cl400, Ar400, -, S400, -, P400, -⟩ := id f386
    have hin400 : ¬ ((0 : Int32) < 0 ∨ cl400.slots.size ≤ ((0 : Int32)).toNatClampNeg) := inb_of S400 ⟨by decide, by decide⟩
    refine own_goW (X394.caload hx (j := (0 : Int32)) (v := (.int w332)) (by rw [(rfl : T394.heap = T394.heap)]; exact Ar400.1) (State.isArrayOf_alike hZ.alike Ar400.2.1) Ar400.2.2 hin400 (P400.at hin400 rfl) (g := (mkF m 243 #[iv p1, iv p2, .val (.long q3), .second, iv p4, iv (7 : Int32), iv um, rv b326, rv b387, .unset, .unset] [(.int (0 : Int32)), (.ref b326)])) rfl rfl (hb hby at_243)) ?_
    refine own_goW (fun _ k => XS.bipush X394.here hx rfl (hb hby at_244) k) ?_
    show own_GoW p e below s _ _ _ _ (T394.setTop (mkF m 246 #[iv p1, iv p2, .val (.long q3), .second, iv p4, iv (7 : Int32), iv um, rv b326, rv b387, .unset, .unset] [(.int (115 : Int32)), (.int w332)]))
    by_cases hc401 : w332 = (115 : Int32)
    · refine own_goW (fun _ k => XS.icmpNo X394.here hx rfl (hb hby at_246) rfl (teq hc401).2 k) ?_
      show own_GoW p e below s _ _ _ _ (T394.setTop (mkF m 249 #[iv p1, iv p2, .val (.long q3), .second, iv p4, iv (7 : Int32), iv um, rv b326, rv b387, .unset, .unset] []))
      refine own_goW (fun _ k => XS.aload X394.here hx rfl (hb hby at_249) rfl rfl (XS.iconst X394.here hx rfl (hb hby at_251) k)) ?_
      obtain ⟨cl402, Ar402, -, S402, -, P402, -⟩ := id f386
      have hin402 : ¬ ((1 : Int32) < 0 ∨ cl402.slots.size ≤ ((1 : Int32)).toNatClampNeg) := inb_of S402 ⟨by decide, by decide⟩
      refine own_goW (X394.caload hx (j := (1 : Int32)) (v := (.int w340)) (by rw [(rfl : T394.heap = T394.heap)]; exact Ar402.1) (State.isArrayOf_alike hZ.alike Ar402.2.1) Ar402.2.2 hin402 (P402.at hin402 rfl) (g := (mkF m 252 #[iv p1, iv p2, .val (.long q3), .second, iv p4, iv (7 : Int32), iv um, rv b326, rv b387, .unset, .unset] [(.int (1 : Int32)), (.ref b326)])) rfl rfl (hb hby at_252)) ?_
      refine own_goW (fun _ k => XS.bipush X394.here hx rfl (hb hby at_253) k) ?_
      by_cases hc403 : w340 = (104 : Int32)
      · refine own_goW (fun _ k => XS.icmpNo X394.here hx rfl (hb hby at_255) rfl (teq hc403).2 k) ?_
        show own_GoW p e below s _ _ _ _ (T394.setTop (mkF m 258 #[iv p1, iv p2, .val (.long q3), .second, iv p4, iv (7 : Int32), iv um, rv b326, rv b387, .unset, .unset] []))
        refine own_goW (fun _ k => XS.aload X394.here hx rfl (hb hby at_258) rfl rfl (XS.iconst X394.here hx rfl (hb hby at_260) k)) ?_
        obtain ⟨cl404, Ar404, -, S404, -, P404, -⟩ := id f386
        have hin404 : ¬ ((2 : Int32) < 0 ∨ cl404.slots.size ≤ ((2 : Int32)).toNatClampNeg) := inb_of S404 ⟨by decide, by decide⟩
        refine own_goW (X394.caload hx (j := (2 : Int32)) (v := (.int w348)) (by rw [(rfl : T394.heap = T394.heap)]; exact Ar404.1) (State.isArrayOf_alike hZ.alike Ar404.2.1) Ar404.2.2 hin404 (P404.at hin404 rfl) (g := (mkF m 261 #[iv p1, iv p2, .val (.long q3), .second, iv p4, iv (7 : Int32), iv um, rv b326, rv b387, .unset, .unset] [(.int (2 : Int32)), (.ref b326)])) rfl rfl (hb hby at_261)) ?_
        refine own_goW (fun _ k => XS.bipush X394.here hx rfl (hb hby at_262) k) ?_
        by_cases hc405 : w348 = (97 : Int32)
        · refine own_goW (fun _ k => XS.icmpNo X394.here hx rfl (hb hby at_264) rfl (teq hc405).2 k) ?_
          show own_GoW p e below s _ _ _ _ (T394.setTop (mkF m 267 #[iv p1, iv p2, .val (.long q3), .second, iv p4, iv (7 : Int32), iv um, rv b326, rv b387, .unset, .unset] []))
          refine own_goW (fun _ k => XS.aload X394.here hx rfl (hb hby at_267) rfl rfl (XS.iconst X394.here hx rfl (hb hby at_269) k)) ?_
          obtain ⟨cl406, Ar406, -, S406, -, P406, -⟩ := id f386
          have hin406 : ¬ ((3 : Int32) < 0 ∨ cl406.slots.size ≤ ((3 : Int32)).toNatClampNeg) := inb_of S406 ⟨by decide, by decide⟩
          refine own_goW (X394.caload hx (j := (3 : Int32)) (v := (.int w356)) (by rw [(rfl : T394.heap = T394.heap)]; exact Ar406.1) (State.isArrayOf_alike hZ.alike Ar406.2.1) Ar406.2.2 hin406 (P406.at hin406 rfl) (g := (mkF m 270 #[iv p1, iv p2, .val (.long q3), .second, iv p4, iv (7 : Int32), iv um, rv b326, rv b387, .unset, .unset] [(.int (3 : Int32)), (.ref b326)])) rfl rfl (hb hby at_270)) ?_
          refine own_goW (fun _ k => XS.bipush X394.here hx rfl (hb hby at_271) k) ?_
          by_cases hc407 : w356 = (114 : Int32)
          · refine own_goW (fun _ k => XS.icmpNo X394.here hx rfl (hb hby at_273) rfl (teq hc407).2 k) ?_
            show own_GoW p e below s _ _ _ _ (T394.setTop (mkF m 276 #[iv p1, iv p2, .val (.long q3), .second, iv p4, iv (7 : Int32), iv um, rv b326, rv b387, .unset, .unset] []))
            refine own_goW (fun _ k => XS.aload X394.here hx rfl (hb hby at_276) rfl rfl (XS.iconst X394.here hx rfl (hb hby at_278) k)) ?_
            obtain ⟨cl408, Ar408, -, S408, -, P408, -⟩ := id f386
            have hin408 : ¬ ((4 : Int32) < 0 ∨ cl408.slots.size ≤ ((4 : Int32)).toNatClampNeg) := inb_of S408 ⟨by decide, by decide⟩
            refine own_goW (X394.caload hx (j := (4 : Int32)) (v := (.int w364)) (by rw [(rfl : T394.heap = T394.heap)]; exact Ar408.1) (State.isArrayOf_alike hZ.alike Ar408.2.1) Ar408.2.2 hin408 (P408.at hin408 rfl) (g := (mkF m 279 #[iv p1, iv p2, .val (.long q3), .second, iv p4, iv (7 : Int32), iv um, rv b326, rv b387, .unset, .unset] [(.int (4 : Int32)), (.ref b326)])) rfl rfl (hb hby at_279)) ?_
            refine own_goW (fun _ k => XS.bipush X394.here hx rfl (hb hby at_280) k) ?_
            by_cases hc409 : w364 = (101 : Int32)
            · refine own_goW (fun _ k => XS.icmpNo X394.here hx rfl (hb hby at_282) rfl (teq hc409).2 k) ?_
              show own_GoW p e below s _ _ _ _ (T394.setTop (mkF m 285 #[iv p1, iv p2, .val (.long q3), .second, iv p4, iv (7 : Int32), iv um, rv b326, rv b387, .unset, .unset] []))
              refine own_goW (fun _ k => XS.aload X394.here hx rfl (hb hby at_285) rfl rfl (XS.iconst X394.here hx rfl (hb hby at_287) k)) ?_
              obtain ⟨cl410, Ar410, -, S410, -, P410, -⟩ := id f386
              have hin410 : ¬ ((5 : Int32) < 0 ∨ cl410.slots.size ≤ ((5 : Int32)).toNatClampNeg) := inb_of S410 ⟨by decide, by decide⟩
              refine own_goW (X394.caload hx (j := (5 : Int32)) (v := (.int w372)) (by rw [(rfl : T394.heap = T394.heap)]; exact Ar410.1) (State.isArrayOf_alike hZ.alike Ar410.2.1) Ar410.2.2 hin410 (P410.at hin410 rfl) (g := (mkF m 288 #[iv p1, iv p2, .val (.long q3), .second, iv p4, iv (7 : Int32), iv um, rv b326, rv b387, .unset, .unset] [(.int (5 : Int32)), (.ref b326)])) rfl rfl (hb hby at_288)) ?_
              refine own_goW (fun _ k => XS.bipush X394.here hx rfl (hb hby at_289) k) ?_
              by_cases hc411 : w372 = (100 : Int32)
              · refine own_goW (fun _ k => XS.icmpNo X394.here hx rfl (hb hby at_291) rfl (teq hc411).2 k) ?_
                show own_GoW p e below s _ _ _ _ (T394.setTop (mkF m 294 #[iv p1, iv p2, .val (.long q3), .second, iv p4, iv (7 : Int32), iv um, rv b326, rv b387, .unset, .unset] []))
                refine own_goW (fun _ k => XS.aload X394.here hx rfl (hb hby at_294) rfl rfl (XS.bipush X394.here hx rfl (hb hby at_296) k)) ?_
                obtain ⟨cl412, Ar412, -, S412, -, P412, -⟩ := id f386
                have hin412 : ¬ ((6 : Int32) < 0 ∨ cl412.slots.size ≤ ((6 : Int32)).toNatClampNeg) := inb_of S412 ⟨by decide, by decide⟩
                refine own_goW (X394.caload hx (j := (6 : Int32)) (v := (.int w380)) (by rw [(rfl : T394.heap = T394.heap)]; exact Ar412.1) (State.isArrayOf_alike hZ.alike Ar412.2.1) Ar412.2.2 hin412 (P412.at hin412 rfl) (g := (mkF m 298 #[iv p1, iv p2, .val (.long q3), .second, iv p4, iv (7 : Int32), iv um, rv b326, rv b387, .unset, .unset] [(.int (6 : Int32)), (.ref b326)])) rfl rfl (hb hby at_298)) ?_
                refine own_goW (fun _ k => XS.bipush X394.here hx rfl (hb hby at_299) k) ?_
                by_cases hc413 : w380 = (45 : Int32)
                · refine own_goW (fun _ k => XS.icmpNo X394.here hx rfl (hb hby at_301) rfl (teq hc413).2 k) ?_
                  show own_GoW p e below s _ _ _ _ (T394.setTop (mkF m 304 #[iv p1, iv p2, .val (.long q3), .second, iv p4, iv (7 : Int32), iv um, rv b326, rv b387, .unset, .unset] []))
                  refine own_goW (fun _ k => XS.iconst X394.here hx rfl (hb hby at_304) (XS.goto X394.here hx rfl (pc0 := 305) (pc' := 309) rfl (hb hby at_305) (by decide) (by decide) (XS.istore X394.here hx rfl (hb hby at_309) rfl (l' := #[iv p1, iv p2, .val (.long q3), .second, iv p4, iv (7 : Int32), iv um, rv b326, rv b387, iv (1 : Int32), .unset]) rfl (XS.aload X394.here hx rfl (hb hby at_311) rfl rfl k)))) ?_
                  obtain ⟨v414, T414, L414, X414, hQ414, st414⟩ := own_callS (y := own_y7) X394 hx hZ hown (ow23 hw) (ow24 hw) (ow25 hw) (ow26 hw) (rm_ofn7 l Z a0 hw hO [] b387 t394 kb394 (w332.toInt8.toInt32) (w340.toInt8.toInt32) (w348.toInt8.toInt32) (w356.toInt8.toInt32) (w364.toInt8.toInt32) (w372.toInt8.toInt32) (w380.toInt8.toInt32) T394.heap O0 f1394 f3394 f2394 f4394) 0 0 0 (by show _ ≤ 16; omega) (by show _ ≤ 1152; omega) (rfl : T394.heap = T394.heap) (g := (mkF m 313 #[iv p1, iv p2, .val (.long q3), .second, iv p4, iv (7 : Int32), iv um, rv b326, rv b387, iv (1 : Int32), .unset] [(.ref b387)])) rfl (by rw [hml]; rfl) [(.ref b387)] [] (lenOf own_pd_7 rfl) rfl rfl (hb hby at_313)
                  rcases hQ414 with hQ414 | hQ414
                  · obtain ⟨rfl, Nc417, hp415, Kc416⟩ := hQ414
                    refine own_goW st414 ?_
                    clear st414 X394
                    replace N0 := Fr.app N0 Nc417
                    clear Nc417
                    show own_GoW p e below s _ _ _ _ (T414.setTop (mkF m 316 #[iv p1, iv p2, .val (.long q3), .second, iv p4, iv (7 : Int32), iv um, rv b326, rv b387, iv (1 : Int32), .unset] [(.ref wy)]))
                    refine own_goW (fun _ k => XS.astore X414.here hx rfl (hb hby at_316) rfl rfl (l' := #[iv p1, iv p2, .val (.long q3), .second, iv p4, iv (7 : Int32), iv um, rv b326, rv b387, iv (1 : Int32), rv wy]) rfl (XS.iload X414.here hx rfl (hb hby at_318) rfl (XS.ifNo X414.here hx rfl (hb hby at_320) rfl ((if0 _ _).trans (feq (by decide : ¬ ((1 : Int32) = (0 : Int32)))).1) (XS.aload X414.here hx rfl (hb hby at_323) rfl rfl k)))) ?_
                    obtain ⟨T418, X418, e418, st418⟩ := getS2 X414 hx hZ hown (host := "") (Or.inl (ow74 hw)) Via.refl Kc416 (oSh.ext O0) (g := (mkF m 325 #[iv p1, iv p2, .val (.long q3), .second, iv p4, iv (7 : Int32), iv um, rv b326, rv b387, iv (1 : Int32), rv wy] [(.ref wy)])) rfl (hb hby at_325)
                    refine own_goW st418 ?_
                    clear st418 X414 Kc416
                    refine own_goW (fun _ k => Jvm.RoadKit.acmp (g := (mkF m 328 #[iv p1, iv p2, .val (.long q3), .second, iv p4, iv (7 : Int32), iv um, rv b326, rv b387, iv (1 : Int32), rv wy] [(.ref wy), (.ref wy)])) X418 hx rfl rfl rfl (pc0 := 328) (pc' := 331) (same := true) rfl (hb hby at_328) rfl (decide_eq_true rfl) (by decide) (by decide) k) ?_
                    show own_GoW p e below s _ _ _ _ (T418.setTop (mkF m 331 #[iv p1, iv p2, .val (.long q3), .second, iv p4, iv (7 : Int32), iv um, rv b326, rv b387, iv (1 : Int32), rv wy] []))
                    refine own_goW (fun _ k => XS.iconst X418.here hx rfl (hb hby at_331) (XS.goto X418.here hx rfl (pc0 := 332) (pc' := 336) rfl (hb hby at_332) (by decide) (by decide) k)) ?_
                    show own_GoW p e below s _ _ _ _ (T418.setTop (mkF m 336 #[iv p1, iv p2, .val (.long q3), .second, iv p4, iv (7 : Int32), iv um, rv b326, rv b387, iv (1 : Int32), rv wy] [(.int (1 : Int32))]))
                    refine own_retNW X418 hS hL hZ hJ hx hlk e418 (t := .boolean) hret (by simp) (hb hby at_336) (by show _ ≤ 16; omega) (by show _ ≤ 1152; omega) ?_
                    exact ⟨rfl, N0, K0⟩
                  · obtain ⟨rfl, Nc421, hp419, Kc420⟩ := hQ414
                    refine own_goW st414 ?_
                    clear st414 X394
                    replace N0 := Fr.app N0 Nc421
                    clear Nc421
                    exact absurd ⟨((own_b8 hp333 (by decide) (by decide)).mpr hc401), ((own_b8 hp341 (by decide) (by decide)).mpr hc403), ((own_b8 hp349 (by decide) (by decide)).mpr hc405), ((own_b8 hp357 (by decide) (by decide)).mpr hc407), ((own_b8 hp365 (by decide) (by decide)).mpr hc409), ((own_b8 hp373 (by decide) (by decide)).mpr hc411), ((own_b8 hp381 (by decide) (by decide)).mpr hc413)⟩ hp419
                · refine own_goW (fun _ k => XS.icmpYes X394.here hx rfl (pc0 := 301) (pc' := 308) rfl (hb hby at_301) rfl (feq hc413).2 (by decide) (by decide) k) ?_
                  show own_GoW p e below s _ _ _ _ (T394.setTop (mkF m 308 #[iv p1, iv p2, .val (.long q3), .second, iv p4, iv (7 : Int32), iv um, rv b326, rv b387, .unset, .unset] []))
                  refine own_goW (fun _ k => XS.iconst X394.here hx rfl (hb hby at_308) (XS.istore X394.here hx rfl (hb hby at_309) rfl (l' := #[iv p1, iv p2, .val (.long q3), .second, iv p4, iv (7 : Int32), iv um, rv b326, rv b387, iv (0 : Int32), .unset]) rfl (XS.aload X394.here hx rfl (hb hby at_311) rfl rfl k))) ?_
                  obtain ⟨v422, T422, L422, X422, hQ422, st422⟩ := own_callS (y := own_y7) X394 hx hZ hown (ow23 hw) (ow24 hw) (ow25 hw) (ow26 hw) (rm_ofn7 l Z a0 hw hO [] b387 t394 kb394 (w332.toInt8.toInt32) (w340.toInt8.toInt32) (w348.toInt8.toInt32) (w356.toInt8.toInt32) (w364.toInt8.toInt32) (w372.toInt8.toInt32) (w380.toInt8.toInt32) T394.heap O0 f1394 f3394 f2394 f4394) 0 0 0 (by show _ ≤ 16; omega) (by show _ ≤ 1152; omega) (rfl : T394.heap = T394.heap) (g := (mkF m 313 #[iv p1, iv p2, .val (.long q3), .second, iv p4, iv (7 : Int32), iv um, rv b326, rv b387, iv (0 : Int32), .unset] [(.ref b387)])) rfl (by rw [hml]; rfl) [(.ref b387)] [] (lenOf own_pd_7 rfl) rfl rfl (hb hby at_313)
                  rcases hQ422 with hQ422 | hQ422
                  · obtain ⟨rfl, Nc425, hp423, Kc424⟩ := hQ422
                    refine own_goW st422 ?_
                    clear st422 X394
                    replace N0 := Fr.app N0 Nc425
                    clear Nc425
                    exact absurd hp423 (fun h7 => (mt (own_b8 hp381 (by decide) (by decide)).mp hc413) h7.2.2.2.2.2.2)
                  · obtain ⟨rfl, Nc428, hp426, Kc427⟩ := hQ422
                    refine own_goW st422 ?_
                    clear st422 X394
                    replace N0 := Fr.app N0 Nc428
                    clear Nc428
                    show own_GoW p e below s _ _ _ _ (T422.setTop (mkF m 316 #[iv p1, iv p2, .val (.long q3), .second, iv p4, iv (7 : Int32), iv um, rv b326, rv b387, iv (0 : Int32), .unset] [(.ref wx)]))
                    refine own_goW (fun _ k => XS.astore X422.here hx rfl (hb hby at_316) rfl rfl (l' := #[iv p1, iv p2, .val (.long q3), .second, iv p4, iv (7 : Int32), iv um, rv b326, rv b387, iv (0 : Int32), rv wx]) rfl (XS.iload X422.here hx rfl (hb hby at_318) rfl (XS.ifYes X422.here hx rfl (pc0 := 320) (pc' := 337) rfl (hb hby at_320) rfl ((if0 _ _).trans (teq (by decide : (0 : Int32) = (0 : Int32))).1) (by decide) (by decide) (XS.aload X422.here hx rfl (hb hby at_337) rfl rfl k)))) ?_
                    obtain ⟨T429, X429, e429, st429⟩ := getS2 X422 hx hZ hown (host := "") (Or.inl (ow54 hw)) Via.refl Kc427 (oEx.ext O0) (g := (mkF m 339 #[iv p1, iv p2, .val (.long q3), .second, iv p4, iv (7 : Int32), iv um, rv b326, rv b387, iv (0 : Int32), rv wx] [(.ref wx)])) rfl (hb hby at_339)
                    refine own_goW st429 ?_
                    clear st429 X422 Kc427
                    refine own_goW (fun _ k => Jvm.RoadKit.acmp (g := (mkF m 342 #[iv p1, iv p2, .val (.long q3), .second, iv p4, iv (7 : Int32), iv um, rv b326, rv b387, iv (0 : Int32), rv wx] [(.ref wx), (.ref wx)])) X429 hx rfl rfl rfl (pc0 := 342) (pc' := 345) (same := true) rfl (hb hby at_342) rfl (decide_eq_true rfl) (by decide) (by decide) k) ?_
                    show own_GoW p e below s _ _ _ _ (T429.setTop (mkF m 345 #[iv p1, iv p2, .val (.long q3), .second, iv p4, iv (7 : Int32), iv um, rv b326, rv b387, iv (0 : Int32), rv wx] []))
                    refine own_goW (fun _ k => XS.iconst X429.here hx rfl (hb hby at_345) (XS.goto X429.here hx rfl (pc0 := 346) (pc' := 350) rfl (hb hby at_346) (by decide) (by decide) k)) ?_
                    show own_GoW p e below s _ _ _ _ (T429.setTop (mkF m 350 #[iv p1, iv p2, .val (.long q3), .second, iv p4, iv (7 : Int32), iv um, rv b326, rv b387, iv (0 : Int32), rv wx] [(.int (1 : Int32))]))
                    refine own_retNW X429 hS hL hZ hJ hx hlk e429 (t := .boolean) hret (by simp) (hb hby at_350) (by show _ ≤ 16; omega) (by show _ ≤ 1152; omega) ?_
                    exact ⟨rfl, N0, K0⟩
              · refine own_goW (fun _ k => XS.icmpYes X394.here hx rfl (pc0 := 291) (pc' := 308) rfl (hb hby at_291) rfl (feq hc411).2 (by decide) (by decide) k) ?_
                show own_GoW p e below s _ _ _ _ (T394.setTop (mkF m 308 #[iv p1, iv p2, .val (.long q3), .second, iv p4, iv (7 : Int32), iv um, rv b326, rv b387, .unset, .unset] []))
                refine own_goW (fun _ k => XS.iconst X394.here hx rfl (hb hby at_308) (XS.istore X394.here hx rfl (hb hby at_309) rfl (l' := #[iv p1, iv p2, .val (.long q3), .second, iv p4, iv (7 : Int32), iv um, rv b326, rv b387, iv (0 : Int32), .unset]) rfl (XS.aload X394.here hx rfl (hb hby at_311) rfl rfl k))) ?_
                obtain ⟨v430, T430, L430, X430, hQ430, st430⟩ := own_callS (y := own_y7) X394 hx hZ hown (ow23 hw) (ow24 hw) (ow25 hw) (ow26 hw) (rm_ofn7 l Z a0 hw hO [] b387 t394 kb394 (w332.toInt8.toInt32) (w340.toInt8.toInt32) (w348.toInt8.toInt32) (w356.toInt8.toInt32) (w364.toInt8.toInt32) (w372.toInt8.toInt32) (w380.toInt8.toInt32) T394.heap O0 f1394 f3394 f2394 f4394) 0 0 0 (by show _ ≤ 16; omega) (by show _ ≤ 1152; omega) (rfl : T394.heap = T394.heap) (g := (mkF m 313 #[iv p1, iv p2, .val (.long q3), .second, iv p4, iv (7 : Int32), iv um, rv b326, rv b387, iv (0 : Int32), .unset] [(.ref b387)])) rfl (by rw [hml]; rfl) [(.ref b387)] [] (lenOf own_pd_7 rfl) rfl rfl (hb hby at_313)
                rcases hQ430 with hQ430 | hQ430
                · obtain ⟨rfl, Nc433, hp431, Kc432⟩ := hQ430
                  refine own_goW st430 ?_
                  clear st430 X394
                  replace N0 := Fr.app N0 Nc433
                  clear Nc433
                  exact absurd hp431 (fun h7 => (mt (own_b8 hp373 (by decide) (by decide)).mp hc411) h7.2.2.2.2.2.1)
                · obtain ⟨rfl, Nc436, hp434, Kc435⟩ := hQ430
                  refine own_goW st430 ?_
                  clear st430 X394
                  replace N0 := Fr.app N0 Nc436
                  clear Nc436
                  show own_GoW p e below s _ _ _ _ (T430.setTop (mkF m 316 #[iv p1, iv p2, .val (.long q3), .second, iv p4, iv (7 : Int32), iv um, rv b326, rv b387, iv (0 : Int32), .unset] [(.ref wx)]))
                  refine own_goW (fun _ k => XS.astore X430.here hx rfl (hb hby at_316) rfl rfl (l' := #[iv p1, iv p2, .val (.long q3), .second, iv p4, iv (7 : Int32), iv um, rv b326, rv b387, iv (0 : Int32), rv wx]) rfl (XS.iload X430.here hx rfl (hb hby at_318) rfl (XS.ifYes X430.here hx rfl (pc0 := 320) (pc' := 337) rfl (hb hby at_320) rfl ((if0 _ _).trans (teq (by decide : (0 : Int32) = (0 : Int32))).1) (by decide) (by decide) (XS.aload X430.here hx rfl (hb hby at_337) rfl rfl k)))) ?_
                  obtain ⟨T437, X437, e437, st437⟩ := getS2 X430 hx hZ hown (host := "") (Or.inl (ow54 hw)) Via.refl Kc435 (oEx.ext O0) (g := (mkF m 339 #[iv p1, iv p2, .val (.long q3), .second, iv p4, iv (7 : Int32), iv um, rv b326, rv b387, iv (0 : Int32), rv wx] [(.ref wx)])) rfl (hb hby at_339)
                  refine own_goW st437 ?_
                  clear st437 X430 Kc435
                  refine own_goW (fun _ k => Jvm.RoadKit.acmp (g := (mkF m 342 #[iv p1, iv p2, .val (.long q3), .second, iv p4, iv (7 : Int32), iv um, rv b326, rv b387, iv (0 : Int32), rv wx] [(.ref wx), (.ref wx)])) X437 hx rfl rfl rfl (pc0 := 342) (pc' := 345) (same := true) rfl (hb hby at_342) rfl (decide_eq_true rfl) (by decide) (by decide) k) ?_
                  show own_GoW p e below s _ _ _ _ (T437.setTop (mkF m 345 #[iv p1, iv p2, .val (.long q3), .second, iv p4, iv (7 : Int32), iv um, rv b326, rv b387, iv (0 : Int32), rv wx] []))
                  refine own_goW (fun _ k => XS.iconst X437.here hx rfl (hb hby at_345) (XS.goto X437.here hx rfl (pc0 := 346) (pc' := 350) rfl (hb hby at_346) (by decide) (by decide) k)) ?_
                  show own_GoW p e below s _ _ _ _ (T437.setTop (mkF m 350 #[iv p1, iv p2, .val (.long q3), .second, iv p4, iv (7 : Int32), iv um, rv b326, rv b387, iv (0 : Int32), rv wx] [(.int (1 : Int32))]))
                  refine own_retNW X437 hS hL hZ hJ hx hlk e437 (t := .boolean) hret (by simp) (hb hby at_350) (by show _ ≤ 16; omega) (by show _ ≤ 1152; omega) ?_
                  exact ⟨rfl, N0, K0⟩
            · refine own_goW (fun _ k => XS.icmpYes X394.here hx rfl (pc0 := 282) (pc' := 308) rfl (hb hby at_282) rfl (feq hc409).2 (by decide) (by decide) k) ?_
              show own_GoW p e below s _ _ _ _ (T394.setTop (mkF m 308 #[iv p1, iv p2, .val (.long q3), .second, iv p4, iv (7 : Int32), iv um, rv b326, rv b387, .unset, .unset] []))
              refine own_goW (fun _ k => XS.iconst X394.here hx rfl (hb hby at_308) (XS.istore X394.here hx rfl (hb hby at_309) rfl (l' := #[iv p1, iv p2, .val (.long q3), .second, iv p4, iv (7 : Int32), iv um, rv b326, rv b387, iv (0 : Int32), .unset]) rfl (XS.aload X394.here hx rfl (hb hby at_311) rfl rfl k))) ?_
              obtain ⟨v438, T438, L438, X438, hQ438, st438⟩ := own_callS (y := own_y7) X394 hx hZ hown (ow23 hw) (ow24 hw) (ow25 hw) (ow26 hw) (rm_ofn7 l Z a0 hw hO [] b387 t394 kb394 (w332.toInt8.toInt32) (w340.toInt8.toInt32) (w348.toInt8.toInt32) (w356.toInt8.toInt32) (w364.toInt8.toInt32) (w372.toInt8.toInt32) (w380.toInt8.toInt32) T394.heap O0 f1394 f3394 f2394 f4394) 0 0 0 (by show _ ≤ 16; omega) (by show _ ≤ 1152; omega) (rfl : T394.heap = T394.heap) (g := (mkF m 313 #[iv p1, iv p2, .val (.long q3), .second, iv p4, iv (7 : Int32), iv um, rv b326, rv b387, iv (0 : Int32), .unset] [(.ref b387)])) rfl (by rw [hml]; rfl) [(.ref b387)] [] (lenOf own_pd_7 rfl) rfl rfl (hb hby at_313)
              rcases hQ438 with hQ438 | hQ438
              · obtain ⟨rfl, Nc441, hp439, Kc440⟩ := hQ438
                refine own_goW st438 ?_
                clear st438 X394
                replace N0 := Fr.app N0 Nc441
                clear Nc441
                exact absurd hp439 (fun h7 => (mt (own_b8 hp365 (by decide) (by decide)).mp hc409) h7.2.2.2.2.1)
              · obtain ⟨rfl, Nc444, hp442, Kc443⟩ := hQ438
                refine own_goW st438 ?_
                clear st438 X394
                replace N0 := Fr.app N0 Nc444
                clear Nc444
                show own_GoW p e below s _ _ _ _ (T438.setTop (mkF m 316 #[iv p1, iv p2, .val (.long q3), .second, iv p4, iv (7 : Int32), iv um, rv b326, rv b387, iv (0 : Int32), .unset] [(.ref wx)]))
                refine own_goW (fun _ k => XS.astore X438.here hx rfl (hb hby at_316) rfl rfl (l' := #[iv p1, iv p2, .val (.long q3), .second, iv p4, iv (7 : Int32), iv um, rv b326, rv b387, iv (0 : Int32), rv wx]) rfl (XS.iload X438.here hx rfl (hb hby at_318) rfl (XS.ifYes X438.here hx rfl (pc0 := 320) (pc' := 337) rfl (hb hby at_320) rfl ((if0 _ _).trans (teq (by decide : (0 : Int32) = (0 : Int32))).1) (by decide) (by decide) (XS.aload X438.here hx rfl (hb hby at_337) rfl rfl k)))) ?_
                obtain ⟨T445, X445, e445, st445⟩ := getS2 X438 hx hZ hown (host := "") (Or.inl (ow54 hw)) Via.refl Kc443 (oEx.ext O0) (g := (mkF m 339 #[iv p1, iv p2, .val (.long q3), .second, iv p4, iv (7 : Int32), iv um, rv b326, rv b387, iv (0 : Int32), rv wx] [(.ref wx)])) rfl (hb hby at_339)
                refine own_goW st445 ?_
                clear st445 X438 Kc443
                refine own_goW (fun _ k => Jvm.RoadKit.acmp (g := (mkF m 342 #[iv p1, iv p2, .val (.long q3), .second, iv p4, iv (7 : Int32), iv um, rv b326, rv b387, iv (0 : Int32), rv wx] [(.ref wx), (.ref wx)])) X445 hx rfl rfl rfl (pc0 := 342) (pc' := 345) (same := true) rfl (hb hby at_342) rfl (decide_eq_true rfl) (by decide) (by decide) k) ?_
                show own_GoW p e below s _ _ _ _ (T445.setTop (mkF m 345 #[iv p1, iv p2, .val (.long q3), .second, iv p4, iv (7 : Int32), iv um, rv b326, rv b387, iv (0 : Int32), rv wx] []))
                refine own_goW (fun _ k => XS.iconst X445.here hx rfl (hb hby at_345) (XS.goto X445.here hx rfl (pc0 := 346) (pc' := 350) rfl (hb hby at_346) (by decide) (by decide) k)) ?_
                show own_GoW p e below s _ _ _ _ (T445.setTop (mkF m 350 #[iv p1, iv p2, .val (.long q3), .second, iv p4, iv (7 : Int32), iv um, rv b326, rv b387, iv (0 : Int32), rv wx] [(.int (1 : Int32))]))
                refine own_retNW X445 hS hL hZ hJ hx hlk e445 (t := .boolean) hret (by simp) (hb hby at_350) (by show _ ≤ 16; omega) (by show _ ≤ 1152; omega) ?_
                exact ⟨rfl, N0, K0⟩
          · refine own_goW (fun _ k => XS.icmpYes X394.here hx rfl (pc0 := 273) (pc' := 308) rfl (hb hby at_273) rfl (feq hc407).2 (by decide) (by decide) k) ?_
            show own_GoW p e below s _ _ _ _ (T394.setTop (mkF m 308 #[iv p1, iv p2, .val (.long q3), .second, iv p4, iv (7 : Int32), iv um, rv b326, rv b387, .unset, .unset] []))
            refine own_goW (fun _ k => XS.iconst X394.here hx rfl (hb hby at_308) (XS.istore X394.here hx rfl (hb hby at_309) rfl (l' := #[iv p1, iv p2, .val (.long q3), .second, iv p4, iv (7 : Int32), iv um, rv b326, rv b387, iv (0 : Int32), .unset]) rfl (XS.aload X394.here hx rfl (hb hby at_311) rfl rfl k))) ?_
            obtain ⟨v446, T446, L446, X446, hQ446, st446⟩ := own_callS (y := own_y7) X394 hx hZ hown (ow23 hw) (ow24 hw) (ow25 hw) (ow26 hw) (rm_ofn7 l Z a0 hw hO [] b387 t394 kb394 (w332.toInt8.toInt32) (w340.toInt8.toInt32) (w348.toInt8.toInt32) (w356.toInt8.toInt32) (w364.toInt8.toInt32) (w372.toInt8.toInt32) (w380.toInt8.toInt32) T394.heap O0 f1394 f3394 f2394 f4394) 0 0 0 (by show _ ≤ 16; omega) (by show _ ≤ 1152; omega) (rfl : T394.heap = T394.heap) (g := (mkF m 313 #[iv p1, iv p2, .val (.long q3), .second, iv p4, iv (7 : Int32), iv um, rv b326, rv b387, iv (0 : Int32), .unset] [(.ref b387)])) rfl (by rw [hml]; rfl) [(.ref b387)] [] (lenOf own_pd_7 rfl) rfl rfl (hb hby at_313)
            rcases hQ446 with hQ446 | hQ446
            · obtain ⟨rfl, Nc449, hp447, Kc448⟩ := hQ446
              refine own_goW st446 ?_
              clear st446 X394
              replace N0 := Fr.app N0 Nc449
              clear Nc449
              exact absurd hp447 (fun h7 => (mt (own_b8 hp357 (by decide) (by decide)).mp hc407) h7.2.2.2.1)
            · obtain ⟨rfl, Nc452, hp450, Kc451⟩ := hQ446
              refine own_goW st446 ?_
              clear st446 X394
              replace N0 := Fr.app N0 Nc452
              clear Nc452
              show own_GoW p e below s _ _ _ _ (T446.setTop (mkF m 316 #[iv p1, iv p2, .val (.long q3), .second, iv p4, iv (7 : Int32), iv um, rv b326, rv b387, iv (0 : Int32), .unset] [(.ref wx)]))
              refine own_goW (fun _ k => XS.astore X446.here hx rfl (hb hby at_316) rfl rfl (l' := #[iv p1, iv p2, .val (.long q3), .second, iv p4, iv (7 : Int32), iv um, rv b326, rv b387, iv (0 : Int32), rv wx]) rfl (XS.iload X446.here hx rfl (hb hby at_318) rfl (XS.ifYes X446.here hx rfl (pc0 := 320) (pc' := 337) rfl (hb hby at_320) rfl ((if0 _ _).trans (teq (by decide : (0 : Int32) = (0 : Int32))).1) (by decide) (by decide) (XS.aload X446.here hx rfl (hb hby at_337) rfl rfl k)))) ?_
              obtain ⟨T453, X453, e453, st453⟩ := getS2 X446 hx hZ hown (host := "") (Or.inl (ow54 hw)) Via.refl Kc451 (oEx.ext O0) (g := (mkF m 339 #[iv p1, iv p2, .val (.long q3), .second, iv p4, iv (7 : Int32), iv um, rv b326, rv b387, iv (0 : Int32), rv wx] [(.ref wx)])) rfl (hb hby at_339)
              refine own_goW st453 ?_
              clear st453 X446 Kc451
              refine own_goW (fun _ k => Jvm.RoadKit.acmp (g := (mkF m 342 #[iv p1, iv p2, .val (.long q3), .second, iv p4, iv (7 : Int32), iv um, rv b326, rv b387, iv (0 : Int32), rv wx] [(.ref wx), (.ref wx)])) X453 hx rfl rfl rfl (pc0 := 342) (pc' := 345) (same := true) rfl (hb hby at_342) rfl (decide_eq_true rfl) (by decide) (by decide) k) ?_
              show own_GoW p e below s _ _ _ _ (T453.setTop (mkF m 345 #[iv p1, iv p2, .val (.long q3), .second, iv p4, iv (7 : Int32), iv um, rv b326, rv b387, iv (0 : Int32), rv wx] []))
              refine own_goW (fun _ k => XS.iconst X453.here hx rfl (hb hby at_345) (XS.goto X453.here hx rfl (pc0 := 346) (pc' := 350) rfl (hb hby at_346) (by decide) (by decide) k)) ?_
              show own_GoW p e below s _ _ _ _ (T453.setTop (mkF m 350 #[iv p1, iv p2, .val (.long q3), .second, iv p4, iv (7 : Int32), iv um, rv b326, rv b387, iv (0 : Int32), rv wx] [(.int (1 : Int32))]))
              refine own_retNW X453 hS hL hZ hJ hx hlk e453 (t := .boolean) hret (by simp) (hb hby at_350) (by show _ ≤ 16; omega) (by show _ ≤ 1152; omega) ?_
              exact ⟨rfl, N0, K0⟩
        · refine own_goW (fun _ k => XS.icmpYes X394.here hx rfl (pc0 := 264) (pc' := 308) rfl (hb hby at_264) rfl (feq hc405).2 (by decide) (by decide) k) ?_
          show own_GoW p e below s _ _ _ _ (T394.setTop (mkF m 308 #[iv p1, iv p2, .val (.long q3), .second, iv p4, iv (7 : Int32), iv um, rv b326, rv b387, .unset, .unset] []))
          refine own_goW (fun _ k => XS.iconst X394.here hx rfl (hb hby at_308) (XS.istore X394.here hx rfl (hb hby at_309) rfl (l' := #[iv p1, iv p2, .val (.long q3), .second, iv p4, iv (7 : Int32), iv um, rv b326, rv b387, iv (0 : Int32), .unset]) rfl (XS.aload X394.here hx rfl (hb hby at_311) rfl rfl k))) ?_
          obtain ⟨v454, T454, L454, X454, hQ454, st454⟩ := own_callS (y := own_y7) X394 hx hZ hown (ow23 hw) (ow24 hw) (ow25 hw) (ow26 hw) (rm_ofn7 l Z a0 hw hO [] b387 t394 kb394 (w332.toInt8.toInt32) (w340.toInt8.toInt32) (w348.toInt8.toInt32) (w356.toInt8.toInt32) (w364.toInt8.toInt32) (w372.toInt8.toInt32) (w380.toInt8.toInt32) T394.heap O0 f1394 f3394 f2394 f4394) 0 0 0 (by show _ ≤ 16; omega) (by show _ ≤ 1152; omega) (rfl : T394.heap = T394.heap) (g := (mkF m 313 #[iv p1, iv p2, .val (.long q3), .second, iv p4, iv (7 : Int32), iv um, rv b326, rv b387, iv (0 : Int32), .unset] [(.ref b387)])) rfl (by rw [hml]; rfl) [(.ref b387)] [] (lenOf own_pd_7 rfl) rfl rfl (hb hby at_313)
          rcases hQ454 with hQ454 | hQ454
          · obtain ⟨rfl, Nc457, hp455, Kc456⟩ := hQ454
            refine own_goW st454 ?_
            clear st454 X394
            replace N0 := Fr.app N0 Nc457
            clear Nc457
            exact absurd hp455 (fun h7 => (mt (own_b8 hp349 (by decide) (by decide)).mp hc405) h7.2.2.1)
          · obtain ⟨rfl, Nc460, hp458, Kc459⟩ := hQ454
            refine own_goW st454 ?_
            clear st454 X394
            replace N0 := Fr.app N0 Nc460
            clear Nc460
            show own_GoW p e below s _ _ _ _ (T454.setTop (mkF m 316 #[iv p1, iv p2, .val (.long q3), .second, iv p4, iv (7 : Int32), iv um, rv b326, rv b387, iv (0 : Int32), .unset] [(.ref wx)]))
            refine own_goW (fun _ k => XS.astore X454.here hx rfl (hb hby at_316) rfl rfl (l' := #[iv p1, iv p2, .val (.long q3), .second, iv p4, iv (7 : Int32), iv um, rv b326, rv b387, iv (0 : Int32), rv wx]) rfl (XS.iload X454.here hx rfl (hb hby at_318) rfl (XS.ifYes X454.here hx rfl (pc0 := 320) (pc' := 337) rfl (hb hby at_320) rfl ((if0 _ _).trans (teq (by decide : (0 : Int32) = (0 : Int32))).1) (by decide) (by decide) (XS.aload X454.here hx rfl (hb hby at_337) rfl rfl k)))) ?_
            obtain ⟨T461, X461, e461, st461⟩ := getS2 X454 hx hZ hown (host := "") (Or.inl (ow54 hw)) Via.refl Kc459 (oEx.ext O0) (g := (mkF m 339 #[iv p1, iv p2, .val (.long q3), .second, iv p4, iv (7 : Int32), iv um, rv b326, rv b387, iv (0 : Int32), rv wx] [(.ref wx)])) rfl (hb hby at_339)
            refine own_goW st461 ?_
            clear st461 X454 Kc459
            refine own_goW (fun _ k => Jvm.RoadKit.acmp (g := (mkF m 342 #[iv p1, iv p2, .val (.long q3), .second, iv p4, iv (7 : Int32), iv um, rv b326, rv b387, iv (0 : Int32), rv wx] [(.ref wx), (.ref wx)])) X461 hx rfl rfl rfl (pc0 := 342) (pc' := 345) (same := true) rfl (hb hby at_342) rfl (decide_eq_true rfl) (by decide) (by decide) k) ?_
            show own_GoW p e below s _ _ _ _ (T461.setTop (mkF m 345 #[iv p1, iv p2, .val (.long q3), .second, iv p4, iv (7 : Int32), iv um, rv b326, rv b387, iv (0 : Int32), rv wx] []))
            refine own_goW (fun _ k => XS.iconst X461.here hx rfl (hb hby at_345) (XS.goto X461.here hx rfl (pc0 := 346) (pc' := 350) rfl (hb hby at_346) (by decide) (by decide) k)) ?_
            show own_GoW p e below s _ _ _ _ (T461.setTop (mkF m 350 #[iv p1, iv p2, .val (.long q3), .second, iv p4, iv (7 : Int32), iv um, rv b326, rv b387, iv (0 : Int32), rv wx] [(.int (1 : Int32))]))
            refine own_retNW X461 hS hL hZ hJ hx hlk e461 (t := .boolean) hret (by simp) (hb hby at_350) (by show _ ≤ 16; omega) (by show _ ≤ 1152; omega) ?_
            exact ⟨rfl, N0, K0⟩
      · refine own_goW (fun _ k => XS.icmpYes X394.here hx rfl (pc0 := 255) (pc' := 308) rfl (hb hby at_255) rfl (feq hc403).2 (by decide) (by decide) k) ?_
        show own_GoW p e below s _ _ _ _ (T394.setTop (mkF m 308 #[iv p1, iv p2, .val (.long q3), .second, iv p4, iv (7 : Int32), iv um, rv b326, rv b387, .unset, .unset] []))
        refine own_goW (fun _ k => XS.iconst X394.here hx rfl (hb hby at_308) (XS.istore X394.here hx rfl (hb hby at_309) rfl (l' := #[iv p1, iv p2, .val (.long q3), .second, iv p4, iv (7 : Int32), iv um, rv b326, rv b387, iv (0 : Int32), .unset]) rfl (XS.aload X394.here hx rfl (hb hby at_311) rfl rfl k))) ?_
        obtain ⟨v462, T462, L462, X462, hQ462, st462⟩ := own_callS (y := own_y7) X394 hx hZ hown (ow23 hw) (ow24 hw) (ow25 hw) (ow26 hw) (rm_ofn7 l Z a0 hw hO [] b387 t394 kb394 (w332.toInt8.toInt32) (w340.toInt8.toInt32) (w348.toInt8.toInt32) (w356.toInt8.toInt32) (w364.toInt8.toInt32) (w372.toInt8.toInt32) (w380.toInt8.toInt32) T394.heap O0 f1394 f3394 f2394 f4394) 0 0 0 (by show _ ≤ 16; omega) (by show _ ≤ 1152; omega) (rfl : T394.heap = T394.heap) (g := (mkF m 313 #[iv p1, iv p2, .val (.long q3), .second, iv p4, iv (7 : Int32), iv um, rv b326, rv b387, iv (0 : Int32), .unset] [(.ref b387)])) rfl (by rw [hml]; rfl) [(.ref b387)] [] (lenOf own_pd_7 rfl) rfl rfl (hb hby at_313)
        rcases hQ462 with hQ462 | hQ462
        · obtain ⟨rfl, Nc465, hp463, Kc464⟩ := hQ462
          refine own_goW st462 ?_
          clear st462 X394
          replace N0 := Fr.app N0 Nc465
          clear Nc465
          exact absurd hp463 (fun h7 => (mt (own_b8 hp341 (by decide) (by decide)).mp hc403) h7.2.1)
        · obtain ⟨rfl, Nc468, hp466, Kc467⟩ := hQ462
          refine own_goW st462 ?_
          clear st462 X394
          replace N0 := Fr.app N0 Nc468
          clear Nc468
          show own_GoW p e below s _ _ _ _ (T462.setTop (mkF m 316 #[iv p1, iv p2, .val (.long q3), .second, iv p4, iv (7 : Int32), iv um, rv b326, rv b387, iv (0 : Int32), .unset] [(.ref wx)]))
          refine own_goW (fun _ k => XS.astore X462.here hx rfl (hb hby at_316) rfl rfl (l' := #[iv p1, iv p2, .val (.long q3), .second, iv p4, iv (7 : Int32), iv um, rv b326, rv b387, iv (0 : Int32), rv wx]) rfl (XS.iload X462.here hx rfl (hb hby at_318) rfl (XS.ifYes X462.here hx rfl (pc0 := 320) (pc' := 337) rfl (hb hby at_320) rfl ((if0 _ _).trans (teq (by decide : (0 : Int32) = (0 : Int32))).1) (by decide) (by decide) (XS.aload X462.here hx rfl (hb hby at_337) rfl rfl k)))) ?_
          obtain ⟨T469, X469, e469, st469⟩ := getS2 X462 hx hZ hown (host := "") (Or.inl (ow54 hw)) Via.refl Kc467 (oEx.ext O0) (g := (mkF m 339 #[iv p1, iv p2, .val (.long q3), .second, iv p4, iv (7 : Int32), iv um, rv b326, rv b387, iv (0 : Int32), rv wx] [(.ref wx)])) rfl (hb hby at_339)
          refine own_goW st469 ?_
          clear st469 X462 Kc467
          refine own_goW (fun _ k => Jvm.RoadKit.acmp (g := (mkF m 342 #[iv p1, iv p2, .val (.long q3), .second, iv p4, iv (7 : Int32), iv um, rv b326, rv b387, iv (0 : Int32), rv wx] [(.ref wx), (.ref wx)])) X469 hx rfl rfl rfl (pc0 := 342) (pc' := 345) (same := true) rfl (hb hby at_342) rfl (decide_eq_true rfl) (by decide) (by decide) k) ?_
          show own_GoW p e below s _ _ _ _ (T469.setTop (mkF m 345 #[iv p1, iv p2, .val (.long q3), .second, iv p4, iv (7 : Int32), iv um, rv b326, rv b387, iv (0 : Int32), rv wx] []))
          refine own_goW (fun _ k => XS.iconst X469.here hx rfl (hb hby at_345) (XS.goto X469.here hx rfl (pc0 := 346) (pc' := 350) rfl (hb hby at_346) (by decide) (by decide) k)) ?_
          show own_GoW p e below s _ _ _ _ (T469.setTop (mkF m 350 #[iv p1, iv p2, .val (.long q3), .second, iv p4, iv (7 : Int32), iv um, rv b326, rv b387, iv (0 : Int32), rv wx] [(.int (1 : Int32))]))
          refine own_retNW X469 hS hL hZ hJ hx hlk e469 (t := .boolean) hret (by simp) (hb hby at_350) (by show _ ≤ 16; omega) (by show _ ≤ 1152; omega) ?_
          exact ⟨rfl, N0, K0⟩
    · refine own_goW (fun _ k => XS.icmpYes X394.here hx rfl (pc0 := 246) (pc' := 308) rfl (hb hby at_246) rfl (feq hc401).2 (by decide) (by decide) k) ?_
      show own_GoW p e below s _ _ _ _ (T394.setTop (mkF m 308 #[iv p1, iv p2, .val (.long q3), .second, iv p4, iv (7 : Int32), iv um, rv b326, rv b387, .unset, .unset] []))
      refine own_goW (fun _ k => XS.iconst X394.here hx rfl (hb hby at_308) (XS.istore X394.here hx rfl (hb hby at_309) rfl (l' := #[iv p1, iv p2, .val (.long q3), .second, iv p4, iv (7 : Int32), iv um, rv b326, rv b387, iv (0 : Int32), .unset]) rfl (XS.aload X394.here hx rfl (hb hby at_311) rfl rfl k))) ?_
      obtain ⟨v470, T470, L470, X470, hQ470, st470⟩ := own_callS (y := own_y7) X394 hx hZ hown (ow23 hw) (ow24 hw) (ow25 hw) (ow26 hw) (rm_ofn7 l Z a0 hw hO [] b387 t394 kb394 (w332.toInt8.toInt32) (w340.toInt8.toInt32) (w348.toInt8.toInt32) (w356.toInt8.toInt32) (w364.toInt8.toInt32) (w372.toInt8.toInt32) (w380.toInt8.toInt32) T394.heap O0 f1394 f3394 f2394 f4394) 0 0 0 (by show _ ≤ 16; omega) (by show _ ≤ 1152; omega) (rfl : T394.heap = T394.heap) (g := (mkF m 313 #[iv p1, iv p2, .val (.long q3), .second, iv p4, iv (7 : Int32), iv um, rv b326, rv b387, iv (0 : Int32), .unset] [(.ref b387)])) rfl (by rw [hml]; rfl) [(.ref b387)] [] (lenOf own_pd_7 rfl) rfl rfl (hb hby at_313)
      rcases hQ470 with hQ470 | hQ470
      · obtain ⟨rfl, Nc473, hp471, Kc472⟩ := hQ470
        refine own_goW st470 ?_
        clear st470 X394
        replace N0 := Fr.app N0 Nc473
        clear Nc473
        exact absurd hp471 (fun h7 => (mt (own_b8 hp333 (by decide) (by decide)).mp hc401) h7.1)
      · obtain ⟨rfl, Nc476, hp474, Kc475⟩ := hQ470
        refine own_goW st470 ?_
        clear st470 X394
        replace N0 := Fr.app N0 Nc476
        clear Nc476
        show own_GoW p e below s _ _ _ _ (T470.setTop (mkF m 316 #[iv p1, iv p2, .val (.long q3), .second, iv p4, iv (7 : Int32), iv um, rv b326, rv b387, iv (0 : Int32), .unset] [(.ref wx)]))
        refine own_goW (fun _ k => XS.astore X470.here hx rfl (hb hby at_316) rfl rfl (l' := #[iv p1, iv p2, .val (.long q3), .second, iv p4, iv (7 : Int32), iv um, rv b326, rv b387, iv (0 : Int32), rv wx]) rfl (XS.iload X470.here hx rfl (hb hby at_318) rfl (XS.ifYes X470.here hx rfl (pc0 := 320) (pc' := 337) rfl (hb hby at_320) rfl ((if0 _ _).trans (teq (by decide : (0 : Int32) = (0 : Int32))).1) (by decide) (by decide) (XS.aload X470.here hx rfl (hb hby at_337) rfl rfl k)))) ?_
        obtain ⟨T477, X477, e477, st477⟩ := getS2 X470 hx hZ hown (host := "") (Or.inl (ow54 hw)) Via.refl Kc475 (oEx.ext O0) (g := (mkF m 339 #[iv p1, iv p2, .val (.long q3), .second, iv p4, iv (7 : Int32), iv um, rv b326, rv b387, iv (0 : Int32), rv wx] [(.ref wx)])) rfl (hb hby at_339)
        refine own_goW st477 ?_
        clear st477 X470 Kc475
        refine own_goW (fun _ k => Jvm.RoadKit.acmp (g := (mkF m 342 #[iv p1, iv p2, .val (.long q3), .second, iv p4, iv (7 : Int32), iv um, rv b326, rv b387, iv (0 : Int32), rv wx] [(.ref wx), (.ref wx)])) X477 hx rfl rfl rfl (pc0 := 342) (pc' := 345) (same := true) rfl (hb hby at_342) rfl (decide_eq_true rfl) (by decide) (by decide) k) ?_
        show own_GoW p e below s _ _ _ _ (T477.setTop (mkF m 345 #[iv p1, iv p2, .val (.long q3), .second, iv p4, iv (7 : Int32), iv um, rv b326, rv b387, iv (0 : Int32), rv wx] []))
        refine own_goW (fun _ k => XS.iconst X477.here hx rfl (hb hby at_345) (XS.goto X477.here hx rfl (pc0 := 346) (pc' := 350) rfl (hb hby at_346) (by decide) (by decide) k)) ?_
        show own_GoW p e below s _ _ _ _ (T477.setTop (mkF m 350 #[iv p1, iv p2, .val (.long q3), .second, iv p4, iv (7 : Int32), iv um, rv b326, rv b387, iv (0 : Int32), rv wx] [(.int (1 : Int32))]))
        refine own_retNW X477 hS hL hZ hJ hx hlk e477 (t := .boolean) hret (by simp) (hb hby at_350) (by show _ ≤ 16; omega) (by show _ ≤ 1152; omega) ?_
        exact ⟨rfl, N0, K0⟩
  · rw [hn]
    clear hn
    show own_GoW p e below s _ _ _ _ (T.setTop (mkF m 42 #[iv p1, iv p2, .val (.long q3), .second, iv p4, iv (8 : Int32), iv um, .unset, .unset, .unset, .unset] [(.int (8 : Int32))]))
    obtain ⟨T478, h478, k478, X478, e478, E478, A478, st478⟩ := newP (aty := .char) X0 hx hZ (ow1 hw) e0 (g := (mkF m 42 #[iv p1, iv p2, .val (.long q3), .second, iv p4, iv (8 : Int32), iv um, .unset, .unset, .unset, .unset] [(.int (8 : Int32))])) rfl (hb hby at_42) rfl (by decide) (cap := 8) (by decide) (by decide) (by show _ ≤ 16; omega) (by show _ ≤ 1152; omega)
    obtain ⟨b478, g478⟩ : ∃ z, z = hs1.size := ⟨_, rfl⟩
    rw [← g478] at A478 st478
    refine own_goW st478 ?_
    clear st478 X0 e0
    have ge478 := Nat.le_of_eq g478.symm
    have big479 : Z.heap.size ≤ b478 := Nat.le_trans O0.1 ge478
    have sz480 : h0.size ≤ b478 := Nat.le_trans K0.1 ge478
    have sz481 : hs1.size ≤ b478 := Nat.le_trans K1.1 ge478
    replace O0 := own_oldExt O0 E478
    replace K0 := K0.ext E478
    replace K1 := K1.ext E478
    replace hS := own_since hS E478.1
    replace hJ := own_Jext hJ E478
    clear E478
    have f482 : Arv Z h478 b478 k478 .char (8 : Int32) [(.int (0 : Int32)), (.int (0 : Int32)), (.int (0 : Int32)), (.int (0 : Int32)), (.int (0 : Int32)), (.int (0 : Int32)), (.int (0 : Int32)), (.int (0 : Int32))] (.int (0 : Int32)) := (Arv.new A478 (by decide)).pad (pad_rep [] (.int (0 : Int32)) 8)
    refine own_goW (fun _ k => XS.astore X478.here hx rfl (hb hby at_44) rfl rfl (l' := #[iv p1, iv p2, .val (.long q3), .second, iv p4, iv (8 : Int32), iv um, rv b478, .unset, .unset, .unset]) rfl (XS.iload X478.here hx rfl (hb hby at_46) rfl (XS.ifNo X478.here hx rfl (hb hby at_48) rfl ((if0 _ _).trans (tlt (by decide : (0 : Int32) < (8 : Int32))).2.2.2) (XS.aload X478.here hx rfl (hb hby at_51) rfl rfl (XS.iconst X478.here hx rfl (hb hby at_53) k))))) ?_
    show own_GoW p e below s _ _ _ _ (T478.setTop (mkF m 54 #[iv p1, iv p2, .val (.long q3), .second, iv p4, iv (8 : Int32), iv um, rv b478, .unset, .unset, .unset] [(.int (0 : Int32)), (.ref b478)]))
    refine own_goW (fun _ k => XS.iconst X478.here hx rfl (hb hby at_54) (XS.bipush X478.here hx rfl (hb hby at_55) (XS.iload X478.here hx rfl (hb hby at_57) rfl (XS.lloadN X478.here hx rfl (hb hby at_59) rfl k)))) ?_
    obtain ⟨v483, T483, L483, X483, hQ483, st483⟩ := own_callS (y := own_y4) X478 hx hZ hown (ow55 hw) (ow56 hw) (ow57 hw) (ow58 hw) (rm_pick l Z a0 hw hO [] (0 : Int32) (115 : Int32) um q3 h478 O0 (⟨by decide, by decide⟩ : own_C8 (115 : Int32))) 2 0 0 (by show _ ≤ 16; omega) (by show _ ≤ 1152; omega) e478 (g := (mkF m 60 #[iv p1, iv p2, .val (.long q3), .second, iv p4, iv (8 : Int32), iv um, rv b478, .unset, .unset, .unset] [(.long q3), (.int um), (.int (115 : Int32)), (.int (0 : Int32)), (.int (0 : Int32)), (.ref b478)])) rfl (by rw [hml]; rfl) [(.int (0 : Int32)), (.int (115 : Int32)), (.int um), (.long q3)] [(.int (0 : Int32)), (.ref b478)] (lenOf own_pd_8 rfl) rfl rfl (hb hby at_60)
    obtain ⟨w484, rfl, Nc487, hp485, Kc486⟩ := hQ483
    refine own_goW st483 ?_
    clear st483 X478 e478
    replace N0 := Fr.app N0 Nc487
    clear Nc487
    obtain ⟨cl488, Ar488, q488, S488, M488, P488, G488⟩ := id f482
    have hin488 : ¬ ((0 : Int32) < 0 ∨ cl488.slots.size ≤ ((0 : Int32)).toNatClampNeg) := inb_of S488 ⟨by decide, by decide⟩
    obtain ⟨T489, h489, X489, e489, W489, st489⟩ := stC X483 hx hZ Kc486 Ar488 (j := (0 : Int32)) hin488 (g := (mkF m 63 #[iv p1, iv p2, .val (.long q3), .second, iv p4, iv (8 : Int32), iv um, rv b478, .unset, .unset, .unset] [(.int w484), (.int (0 : Int32)), (.ref b478)])) rfl rfl (hb hby at_63)
    refine own_goW st489 ?_
    clear st489 X483 Kc486
    rw [own_nar8 hp485] at W489
    have f490 : Arv Z h489 b478 k478 .char (8 : Int32) [(.int w484), (.int (0 : Int32)), (.int (0 : Int32)), (.int (0 : Int32)), (.int (0 : Int32)), (.int (0 : Int32)), (.int (0 : Int32)), (.int (0 : Int32))] (.int (0 : Int32)) := Arv.set Ar488 q488 S488 M488 P488 G488 (by have q := fits_nar_char w484; rw [own_nar8 hp485] at q; exact q) W489 0 rfl (Nat.le_of_ble_eq_true rfl)
    replace N0 := Fr.snoc X489 N0 big479
    replace hJ := own_Jwr hZ hJ W489 (own_farV f482 (by decide) (ow3 hw))
    clear f482
    replace O0 := own_oldWr O0 W489 big479
    replace K0 := K0.wr W489 (Or.inr sz480)
    replace K1 := K1.wr W489 (Or.inr sz481)
    replace hS := own_since hS (Nat.le_of_eq W489.size.symm)
    clear W489
    clear Ar488 q488 S488 M488 P488 G488 hin488
    show own_GoW p e below s _ _ _ _ (T489.setTop (mkF m 64 #[iv p1, iv p2, .val (.long q3), .second, iv p4, iv (8 : Int32), iv um, rv b478, .unset, .unset, .unset] []))
    refine own_goW (fun _ k => XS.iload X489.here hx rfl (hb hby at_64) rfl (XS.iconst X489.here hx rfl (hb hby at_66) (XS.icmpNo X489.here hx rfl (hb hby at_67) rfl (tlt (by decide : (1 : Int32) < (8 : Int32))).2.2.2 (XS.aload X489.here hx rfl (hb hby at_70) rfl rfl (XS.iconst X489.here hx rfl (hb hby at_72) (XS.iconst X489.here hx rfl (hb hby at_73) k)))))) ?_
    show own_GoW p e below s _ _ _ _ (T489.setTop (mkF m 74 #[iv p1, iv p2, .val (.long q3), .second, iv p4, iv (8 : Int32), iv um, rv b478, .unset, .unset, .unset] [(.int (1 : Int32)), (.int (1 : Int32)), (.ref b478)]))
    refine own_goW (fun _ k => XS.bipush X489.here hx rfl (hb hby at_74) (XS.iload X489.here hx rfl (hb hby at_76) rfl (XS.lloadN X489.here hx rfl (hb hby at_78) rfl k))) ?_
    obtain ⟨v491, T491, L491, X491, hQ491, st491⟩ := own_callS (y := own_y4) X489 hx hZ hown (ow55 hw) (ow56 hw) (ow57 hw) (ow58 hw) (rm_pick l Z a0 hw hO [] (1 : Int32) (104 : Int32) um q3 h489 O0 (⟨by decide, by decide⟩ : own_C8 (104 : Int32))) 2 0 0 (by show _ ≤ 16; omega) (by show _ ≤ 1152; omega) e489 (g := (mkF m 79 #[iv p1, iv p2, .val (.long q3), .second, iv p4, iv (8 : Int32), iv um, rv b478, .unset, .unset, .unset] [(.long q3), (.int um), (.int (104 : Int32)), (.int (1 : Int32)), (.int (1 : Int32)), (.ref b478)])) rfl (by rw [hml]; rfl) [(.int (1 : Int32)), (.int (104 : Int32)), (.int um), (.long q3)] [(.int (1 : Int32)), (.ref b478)] (lenOf own_pd_8 rfl) rfl rfl (hb hby at_79)
    obtain ⟨w492, rfl, Nc495, hp493, Kc494⟩ := hQ491
    refine own_goW st491 ?_
    clear st491 X489 e489
    replace N0 := Fr.app N0 Nc495
    clear Nc495
    obtain ⟨cl496, Ar496, q496, S496, M496, P496, G496⟩ := id f490
    have hin496 : ¬ ((1 : Int32) < 0 ∨ cl496.slots.size ≤ ((1 : Int32)).toNatClampNeg) := inb_of S496 ⟨by decide, by decide⟩
    obtain ⟨T497, h497, X497, e497, W497, st497⟩ := stC X491 hx hZ Kc494 Ar496 (j := (1 : Int32)) hin496 (g := (mkF m 82 #[iv p1, iv p2, .val (.long q3), .second, iv p4, iv (8 : Int32), iv um, rv b478, .unset, .unset, .unset] [(.int w492), (.int (1 : Int32)), (.ref b478)])) rfl rfl (hb hby at_82)
    refine own_goW st497 ?_
    clear st497 X491 Kc494
    rw [own_nar8 hp493] at W497
    have f498 : Arv Z h497 b478 k478 .char (8 : Int32) [(.int w484), (.int w492), (.int (0 : Int32)), (.int (0 : Int32)), (.int (0 : Int32)), (.int (0 : Int32)), (.int (0 : Int32)), (.int (0 : Int32))] (.int (0 : Int32)) := Arv.set Ar496 q496 S496 M496 P496 G496 (by have q := fits_nar_char w492; rw [own_nar8 hp493] at q; exact q) W497 1 rfl (Nat.le_of_ble_eq_true rfl)
    replace N0 := Fr.snoc X497 N0 big479
    replace hJ := own_Jwr hZ hJ W497 (own_farV f490 (by decide) (ow3 hw))
    clear f490
    replace O0 := own_oldWr O0 W497 big479
    replace K0 := K0.wr W497 (Or.inr sz480)
    replace K1 := K1.wr W497 (Or.inr sz481)
    replace hS := own_since hS (Nat.le_of_eq W497.size.symm)
    clear W497
    clear Ar496 q496 S496 M496 P496 G496 hin496
    refine own_goW (fun _ k => XS.iload X497.here hx rfl (hb hby at_83) rfl k) ?_
    show own_GoW p e below s _ _ _ _ (T497.setTop (mkF m 85 #[iv p1, iv p2, .val (.long q3), .second, iv p4, iv (8 : Int32), iv um, rv b478, .unset, .unset, .unset] [(.int (8 : Int32))]))
    refine own_goW (fun _ k => XS.iconst X497.here hx rfl (hb hby at_85) (XS.icmpNo X497.here hx rfl (hb hby at_86) rfl (tlt (by decide : (2 : Int32) < (8 : Int32))).2.2.2 (XS.aload X497.here hx rfl (hb hby at_89) rfl rfl (XS.iconst X497.here hx rfl (hb hby at_91) (XS.iconst X497.here hx rfl (hb hby at_92) (XS.bipush X497.here hx rfl (hb hby at_93) k)))))) ?_
    show own_GoW p e below s _ _ _ _ (T497.setTop (mkF m 95 #[iv p1, iv p2, .val (.long q3), .second, iv p4, iv (8 : Int32), iv um, rv b478, .unset, .unset, .unset] [(.int (97 : Int32)), (.int (2 : Int32)), (.int (2 : Int32)), (.ref b478)]))
    refine own_goW (fun _ k => XS.iload X497.here hx rfl (hb hby at_95) rfl (XS.lloadN X497.here hx rfl (hb hby at_97) rfl k)) ?_
    obtain ⟨v499, T499, L499, X499, hQ499, st499⟩ := own_callS (y := own_y4) X497 hx hZ hown (ow55 hw) (ow56 hw) (ow57 hw) (ow58 hw) (rm_pick l Z a0 hw hO [] (2 : Int32) (97 : Int32) um q3 h497 O0 (⟨by decide, by decide⟩ : own_C8 (97 : Int32))) 2 0 0 (by show _ ≤ 16; omega) (by show _ ≤ 1152; omega) e497 (g := (mkF m 98 #[iv p1, iv p2, .val (.long q3), .second, iv p4, iv (8 : Int32), iv um, rv b478, .unset, .unset, .unset] [(.long q3), (.int um), (.int (97 : Int32)), (.int (2 : Int32)), (.int (2 : Int32)), (.ref b478)])) rfl (by rw [hml]; rfl) [(.int (2 : Int32)), (.int (97 : Int32)), (.int um), (.long q3)] [(.int (2 : Int32)), (.ref b478)] (lenOf own_pd_8 rfl) rfl rfl (hb hby at_98)
    obtain ⟨w500, rfl, Nc503, hp501, Kc502⟩ := hQ499
    refine own_goW st499 ?_
    clear st499 X497 e497
    replace N0 := Fr.app N0 Nc503
    clear Nc503
    obtain ⟨cl504, Ar504, q504, S504, M504, P504, G504⟩ := id f498
    have hin504 : ¬ ((2 : Int32) < 0 ∨ cl504.slots.size ≤ ((2 : Int32)).toNatClampNeg) := inb_of S504 ⟨by decide, by decide⟩
    obtain ⟨T505, h505, X505, e505, W505, st505⟩ := stC X499 hx hZ Kc502 Ar504 (j := (2 : Int32)) hin504 (g := (mkF m 101 #[iv p1, iv p2, .val (.long q3), .second, iv p4, iv (8 : Int32), iv um, rv b478, .unset, .unset, .unset] [(.int w500), (.int (2 : Int32)), (.ref b478)])) rfl rfl (hb hby at_101)
    refine own_goW st505 ?_
    clear st505 X499 Kc502
    rw [own_nar8 hp501] at W505
    have f506 : Arv Z h505 b478 k478 .char (8 : Int32) [(.int w484), (.int w492), (.int w500), (.int (0 : Int32)), (.int (0 : Int32)), (.int (0 : Int32)), (.int (0 : Int32)), (.int (0 : Int32))] (.int (0 : Int32)) := Arv.set Ar504 q504 S504 M504 P504 G504 (by have q := fits_nar_char w500; rw [own_nar8 hp501] at q; exact q) W505 2 rfl (Nat.le_of_ble_eq_true rfl)
    replace N0 := Fr.snoc X505 N0 big479
    replace hJ := own_Jwr hZ hJ W505 (own_farV f498 (by decide) (ow3 hw))
    clear f498
    replace O0 := own_oldWr O0 W505 big479
    replace K0 := K0.wr W505 (Or.inr sz480)
    replace K1 := K1.wr W505 (Or.inr sz481)
    replace hS := own_since hS (Nat.le_of_eq W505.size.symm)
    clear W505
    clear Ar504 q504 S504 M504 P504 G504 hin504
    refine own_goW (fun _ k => XS.iload X505.here hx rfl (hb hby at_102) rfl (XS.iconst X505.here hx rfl (hb hby at_104) k)) ?_
    show own_GoW p e below s _ _ _ _ (T505.setTop (mkF m 105 #[iv p1, iv p2, .val (.long q3), .second, iv p4, iv (8 : Int32), iv um, rv b478, .unset, .unset, .unset] [(.int (3 : Int32)), (.int (8 : Int32))]))
    refine own_goW (fun _ k => XS.icmpNo X505.here hx rfl (hb hby at_105) rfl (tlt (by decide : (3 : Int32) < (8 : Int32))).2.2.2 (XS.aload X505.here hx rfl (hb hby at_108) rfl rfl (XS.iconst X505.here hx rfl (hb hby at_110) (XS.iconst X505.here hx rfl (hb hby at_111) (XS.bipush X505.here hx rfl (hb hby at_112) (XS.iload X505.here hx rfl (hb hby at_114) rfl k)))))) ?_
    show own_GoW p e below s _ _ _ _ (T505.setTop (mkF m 116 #[iv p1, iv p2, .val (.long q3), .second, iv p4, iv (8 : Int32), iv um, rv b478, .unset, .unset, .unset] [(.int um), (.int (114 : Int32)), (.int (3 : Int32)), (.int (3 : Int32)), (.ref b478)]))
    refine own_goW (fun _ k => XS.lloadN X505.here hx rfl (hb hby at_116) rfl k) ?_
    obtain ⟨v507, T507, L507, X507, hQ507, st507⟩ := own_callS (y := own_y4) X505 hx hZ hown (ow55 hw) (ow56 hw) (ow57 hw) (ow58 hw) (rm_pick l Z a0 hw hO [] (3 : Int32) (114 : Int32) um q3 h505 O0 (⟨by decide, by decide⟩ : own_C8 (114 : Int32))) 2 0 0 (by show _ ≤ 16; omega) (by show _ ≤ 1152; omega) e505 (g := (mkF m 117 #[iv p1, iv p2, .val (.long q3), .second, iv p4, iv (8 : Int32), iv um, rv b478, .unset, .unset, .unset] [(.long q3), (.int um), (.int (114 : Int32)), (.int (3 : Int32)), (.int (3 : Int32)), (.ref b478)])) rfl (by rw [hml]; rfl) [(.int (3 : Int32)), (.int (114 : Int32)), (.int um), (.long q3)] [(.int (3 : Int32)), (.ref b478)] (lenOf own_pd_8 rfl) rfl rfl (hb hby at_117)
    obtain ⟨w508, rfl, Nc511, hp509, Kc510⟩ := hQ507
    refine own_goW st507 ?_
    clear st507 X505 e505
    replace N0 := Fr.app N0 Nc511
    clear Nc511
    obtain ⟨cl512, Ar512, q512, S512, M512, P512, G512⟩ := id f506
    have hin512 : ¬ ((3 : Int32) < 0 ∨ cl512.slots.size ≤ ((3 : Int32)).toNatClampNeg) := inb_of S512 ⟨by decide, by decide⟩
    obtain ⟨T513, h513, X513, e513, W513, st513⟩ := stC X507 hx hZ Kc510 Ar512 (j := (3 : Int32)) hin512 (g := (mkF m 120 #[iv p1, iv p2, .val (.long q3), .second, iv p4, iv (8 : Int32), iv um, rv b478, .unset, .unset, .unset] [(.int w508), (.int (3 : Int32)), (.ref b478)])) rfl rfl (hb hby at_120)
    refine own_goW st513 ?_
    clear st513 X507 Kc510
    rw [own_nar8 hp509] at W513
    have f514 : Arv Z h513 b478 k478 .char (8 : Int32) [(.int w484), (.int w492), (.int w500), (.int w508), (.int (0 : Int32)), (.int (0 : Int32)), (.int (0 : Int32)), (.int (0 : Int32))] (.int (0 : Int32)) := Arv.set Ar512 q512 S512 M512 P512 G512 (by have q := fits_nar_char w508; rw [own_nar8 hp509] at q; exact q) W513 3 rfl (Nat.le_of_ble_eq_true rfl)
    replace N0 := Fr.snoc X513 N0 big479
    replace hJ := own_Jwr hZ hJ W513 (own_farV f506 (by decide) (ow3 hw))
    clear f506
    replace O0 := own_oldWr O0 W513 big479
    replace K0 := K0.wr W513 (Or.inr sz480)
    replace K1 := K1.wr W513 (Or.inr sz481)
    replace hS := own_since hS (Nat.le_of_eq W513.size.symm)
    clear W513
    clear Ar512 q512 S512 M512 P512 G512 hin512
    refine own_goW (fun _ k => XS.iload X513.here hx rfl (hb hby at_121) rfl (XS.iconst X513.here hx rfl (hb hby at_123) (XS.icmpNo X513.here hx rfl (hb hby at_124) rfl (tlt (by decide : (4 : Int32) < (8 : Int32))).2.2.2 k))) ?_
    show own_GoW p e below s _ _ _ _ (T513.setTop (mkF m 127 #[iv p1, iv p2, .val (.long q3), .second, iv p4, iv (8 : Int32), iv um, rv b478, .unset, .unset, .unset] []))
    refine own_goW (fun _ k => XS.aload X513.here hx rfl (hb hby at_127) rfl rfl (XS.iconst X513.here hx rfl (hb hby at_129) (XS.iconst X513.here hx rfl (hb hby at_130) (XS.bipush X513.here hx rfl (hb hby at_131) (XS.iload X513.here hx rfl (hb hby at_133) rfl (XS.lloadN X513.here hx rfl (hb hby at_135) rfl k)))))) ?_
    show own_GoW p e below s _ _ _ _ (T513.setTop (mkF m 136 #[iv p1, iv p2, .val (.long q3), .second, iv p4, iv (8 : Int32), iv um, rv b478, .unset, .unset, .unset] [(.long q3), (.int um), (.int (101 : Int32)), (.int (4 : Int32)), (.int (4 : Int32)), (.ref b478)]))
    obtain ⟨v515, T515, L515, X515, hQ515, st515⟩ := own_callS (y := own_y4) X513 hx hZ hown (ow55 hw) (ow56 hw) (ow57 hw) (ow58 hw) (rm_pick l Z a0 hw hO [] (4 : Int32) (101 : Int32) um q3 h513 O0 (⟨by decide, by decide⟩ : own_C8 (101 : Int32))) 2 0 0 (by show _ ≤ 16; omega) (by show _ ≤ 1152; omega) e513 (g := (mkF m 136 #[iv p1, iv p2, .val (.long q3), .second, iv p4, iv (8 : Int32), iv um, rv b478, .unset, .unset, .unset] [(.long q3), (.int um), (.int (101 : Int32)), (.int (4 : Int32)), (.int (4 : Int32)), (.ref b478)])) rfl (by rw [hml]; rfl) [(.int (4 : Int32)), (.int (101 : Int32)), (.int um), (.long q3)] [(.int (4 : Int32)), (.ref b478)] (lenOf own_pd_8 rfl) rfl rfl (hb hby at_136)
    obtain ⟨w516, rfl, Nc519, hp517, Kc518⟩ := hQ515
    refine own_goW st515 ?_
    clear st515 X513 e513
    replace N0 := Fr.app N0 Nc519
    clear Nc519
    obtain ⟨cl520, Ar520, q520, S520, M520, P520, G520⟩ := id f514
    have hin520 : ¬ ((4 : Int32) < 0 ∨ cl520.slots.size ≤ ((4 : Int32)).toNatClampNeg) := inb_of S520 ⟨by decide, by decide⟩
    obtain ⟨T521, h521, X521, e521, W521, st521⟩ := stC X515 hx hZ Kc518 Ar520 (j := (4 : Int32)) hin520 (g := (mkF m 139 #[iv p1, iv p2, .val (.long q3), .second, iv p4, iv (8 : Int32), iv um, rv b478, .unset, .unset, .unset] [(.int w516), (.int (4 : Int32)), (.ref b478)])) rfl rfl (hb hby at_139)
    refine own_goW st521 ?_
    clear st521 X515 Kc518
    rw [own_nar8 hp517] at W521
    have f522 : Arv Z h521 b478 k478 .char (8 : Int32) [(.int w484), (.int w492), (.int w500), (.int w508), (.int w516), (.int (0 : Int32)), (.int (0 : Int32)), (.int (0 : Int32))] (.int (0 : Int32)) := Arv.set Ar520 q520 S520 M520 P520 G520 (by have q := fits_nar_char w516; rw [own_nar8 hp517] at q; exact q) W521 4 rfl (Nat.le_of_ble_eq_true rfl)
    replace N0 := Fr.snoc X521 N0 big479
    replace hJ := own_Jwr hZ hJ W521 (own_farV f514 (by decide) (ow3 hw))
    clear f514
    replace O0 := own_oldWr O0 W521 big479
    replace K0 := K0.wr W521 (Or.inr sz480)
    replace K1 := K1.wr W521 (Or.inr sz481)
    replace hS := own_since hS (Nat.le_of_eq W521.size.symm)
    clear W521
    clear Ar520 q520 S520 M520 P520 G520 hin520
    refine own_goW (fun _ k => XS.iload X521.here hx rfl (hb hby at_140) rfl (XS.iconst X521.here hx rfl (hb hby at_142) (XS.icmpNo X521.here hx rfl (hb hby at_143) rfl (tlt (by decide : (5 : Int32) < (8 : Int32))).2.2.2 (XS.aload X521.here hx rfl (hb hby at_146) rfl rfl k)))) ?_
    show own_GoW p e below s _ _ _ _ (T521.setTop (mkF m 148 #[iv p1, iv p2, .val (.long q3), .second, iv p4, iv (8 : Int32), iv um, rv b478, .unset, .unset, .unset] [(.ref b478)]))
    refine own_goW (fun _ k => XS.iconst X521.here hx rfl (hb hby at_148) (XS.iconst X521.here hx rfl (hb hby at_149) (XS.bipush X521.here hx rfl (hb hby at_150) (XS.iload X521.here hx rfl (hb hby at_152) rfl (XS.lloadN X521.here hx rfl (hb hby at_154) rfl k))))) ?_
    obtain ⟨v523, T523, L523, X523, hQ523, st523⟩ := own_callS (y := own_y4) X521 hx hZ hown (ow55 hw) (ow56 hw) (ow57 hw) (ow58 hw) (rm_pick l Z a0 hw hO [] (5 : Int32) (100 : Int32) um q3 h521 O0 (⟨by decide, by decide⟩ : own_C8 (100 : Int32))) 2 0 0 (by show _ ≤ 16; omega) (by show _ ≤ 1152; omega) e521 (g := (mkF m 155 #[iv p1, iv p2, .val (.long q3), .second, iv p4, iv (8 : Int32), iv um, rv b478, .unset, .unset, .unset] [(.long q3), (.int um), (.int (100 : Int32)), (.int (5 : Int32)), (.int (5 : Int32)), (.ref b478)])) rfl (by rw [hml]; rfl) [(.int (5 : Int32)), (.int (100 : Int32)), (.int um), (.long q3)] [(.int (5 : Int32)), (.ref b478)] (lenOf own_pd_8 rfl) rfl rfl (hb hby at_155)
    obtain ⟨w524, rfl, Nc527, hp525, Kc526⟩ := hQ523
    refine own_goW st523 ?_
    clear st523 X521 e521
    replace N0 := Fr.app N0 Nc527
    clear Nc527
    show own_GoW p e below s _ _ _ _ (T523.setTop (mkF m 158 #[iv p1, iv p2, .val (.long q3), .second, iv p4, iv (8 : Int32), iv um, rv b478, .unset, .unset, .unset] [(.int w524), (.int (5 : Int32)), (.ref b478)]))
    obtain ⟨cl528, Ar528, q528, S528, M528, P528, G528⟩ := id f522
    have hin528 : ¬ ((5 : Int32) < 0 ∨ cl528.slots.size ≤ ((5 : Int32)).toNatClampNeg) := inb_of S528 ⟨by decide, by decide⟩
    obtain ⟨T529, h529, X529, e529, W529, st529⟩ := stC X523 hx hZ Kc526 Ar528 (j := (5 : Int32)) hin528 (g := (mkF m 158 #[iv p1, iv p2, .val (.long q3), .second, iv p4, iv (8 : Int32), iv um, rv b478, .unset, .unset, .unset] [(.int w524), (.int (5 : Int32)), (.ref b478)])) rfl rfl (hb hby at_158)
    refine own_goW st529 ?_
    clear st529 X523 Kc526
    rw [own_nar8 hp525] at W529
    have f530 : Arv Z h529 b478 k478 .char (8 : Int32) [(.int w484), (.int w492), (.int w500), (.int w508), (.int w516), (.int w524), (.int (0 : Int32)), (.int (0 : Int32))] (.int (0 : Int32)) := Arv.set Ar528 q528 S528 M528 P528 G528 (by have q := fits_nar_char w524; rw [own_nar8 hp525] at q; exact q) W529 5 rfl (Nat.le_of_ble_eq_true rfl)
    replace N0 := Fr.snoc X529 N0 big479
    replace hJ := own_Jwr hZ hJ W529 (own_farV f522 (by decide) (ow3 hw))
    clear f522
    replace O0 := own_oldWr O0 W529 big479
    replace K0 := K0.wr W529 (Or.inr sz480)
    replace K1 := K1.wr W529 (Or.inr sz481)
    replace hS := own_since hS (Nat.le_of_eq W529.size.symm)
    clear W529
    clear Ar528 q528 S528 M528 P528 G528 hin528
    refine own_goW (fun _ k => XS.iload X529.here hx rfl (hb hby at_159) rfl (XS.bipush X529.here hx rfl (hb hby at_161) (XS.icmpNo X529.here hx rfl (hb hby at_163) rfl (tlt (by decide : (6 : Int32) < (8 : Int32))).2.2.2 (XS.aload X529.here hx rfl (hb hby at_166) rfl rfl (XS.bipush X529.here hx rfl (hb hby at_168) k))))) ?_
    show own_GoW p e below s _ _ _ _ (T529.setTop (mkF m 170 #[iv p1, iv p2, .val (.long q3), .second, iv p4, iv (8 : Int32), iv um, rv b478, .unset, .unset, .unset] [(.int (6 : Int32)), (.ref b478)]))
    refine own_goW (fun _ k => XS.bipush X529.here hx rfl (hb hby at_170) (XS.bipush X529.here hx rfl (hb hby at_172) (XS.iload X529.here hx rfl (hb hby at_174) rfl (XS.lloadN X529.here hx rfl (hb hby at_176) rfl k)))) ?_
    obtain ⟨v531, T531, L531, X531, hQ531, st531⟩ := own_callS (y := own_y4) X529 hx hZ hown (ow55 hw) (ow56 hw) (ow57 hw) (ow58 hw) (rm_pick l Z a0 hw hO [] (6 : Int32) (45 : Int32) um q3 h529 O0 (⟨by decide, by decide⟩ : own_C8 (45 : Int32))) 2 0 0 (by show _ ≤ 16; omega) (by show _ ≤ 1152; omega) e529 (g := (mkF m 177 #[iv p1, iv p2, .val (.long q3), .second, iv p4, iv (8 : Int32), iv um, rv b478, .unset, .unset, .unset] [(.long q3), (.int um), (.int (45 : Int32)), (.int (6 : Int32)), (.int (6 : Int32)), (.ref b478)])) rfl (by rw [hml]; rfl) [(.int (6 : Int32)), (.int (45 : Int32)), (.int um), (.long q3)] [(.int (6 : Int32)), (.ref b478)] (lenOf own_pd_8 rfl) rfl rfl (hb hby at_177)
    obtain ⟨w532, rfl, Nc535, hp533, Kc534⟩ := hQ531
    refine own_goW st531 ?_
    clear st531 X529 e529
    replace N0 := Fr.app N0 Nc535
    clear Nc535
    obtain ⟨cl536, Ar536, q536, S536, M536, P536, G536⟩ := id f530
    have hin536 : ¬ ((6 : Int32) < 0 ∨ cl536.slots.size ≤ ((6 : Int32)).toNatClampNeg) := inb_of S536 ⟨by decide, by decide⟩
    obtain ⟨T537, h537, X537, e537, W537, st537⟩ := stC X531 hx hZ Kc534 Ar536 (j := (6 : Int32)) hin536 (g := (mkF m 180 #[iv p1, iv p2, .val (.long q3), .second, iv p4, iv (8 : Int32), iv um, rv b478, .unset, .unset, .unset] [(.int w532), (.int (6 : Int32)), (.ref b478)])) rfl rfl (hb hby at_180)
    refine own_goW st537 ?_
    clear st537 X531 Kc534
    rw [own_nar8 hp533] at W537
    have f538 : Arv Z h537 b478 k478 .char (8 : Int32) [(.int w484), (.int w492), (.int w500), (.int w508), (.int w516), (.int w524), (.int w532), (.int (0 : Int32))] (.int (0 : Int32)) := Arv.set Ar536 q536 S536 M536 P536 G536 (by have q := fits_nar_char w532; rw [own_nar8 hp533] at q; exact q) W537 6 rfl (Nat.le_of_ble_eq_true rfl)
    replace N0 := Fr.snoc X537 N0 big479
    replace hJ := own_Jwr hZ hJ W537 (own_farV f530 (by decide) (ow3 hw))
    clear f530
    replace O0 := own_oldWr O0 W537 big479
    replace K0 := K0.wr W537 (Or.inr sz480)
    replace K1 := K1.wr W537 (Or.inr sz481)
    replace hS := own_since hS (Nat.le_of_eq W537.size.symm)
    clear W537
    clear Ar536 q536 S536 M536 P536 G536 hin536
    show own_GoW p e below s _ _ _ _ (T537.setTop (mkF m 181 #[iv p1, iv p2, .val (.long q3), .second, iv p4, iv (8 : Int32), iv um, rv b478, .unset, .unset, .unset] []))
    refine own_goW (fun _ k => XS.iload X537.here hx rfl (hb hby at_181) rfl (XS.bipush X537.here hx rfl (hb hby at_183) (XS.icmpNo X537.here hx rfl (hb hby at_185) rfl (tlt (by decide : (7 : Int32) < (8 : Int32))).2.2.2 (XS.aload X537.here hx rfl (hb hby at_188) rfl rfl (XS.bipush X537.here hx rfl (hb hby at_190) (XS.lloadN X537.here hx rfl (hb hby at_192) rfl k)))))) ?_
    show own_GoW p e below s _ _ _ _ (T537.setTop (mkF m 193 #[iv p1, iv p2, .val (.long q3), .second, iv p4, iv (8 : Int32), iv um, rv b478, .unset, .unset, .unset] [(.long q3), (.int (7 : Int32)), (.ref b478)]))
    refine own_goW (fun _ k => XS.bipush X537.here hx rfl (hb hby at_193) (XS.lushr X537.here hx rfl (hb hby at_195) rfl k)) ?_
    refine own_goW (X537.ldc2Long hx hown (mvT hZ (ow59 hw)) (g := (mkF m 196 #[iv p1, iv p2, .val (.long q3), .second, iv p4, iv (8 : Int32), iv um, rv b478, .unset, .unset, .unset] [(.long ((q3.toUInt64 >>> ((56 : Int32) &&& 0x3f).toInt64.toUInt64).toInt64)), (.int (7 : Int32)), (.ref b478)])) rfl (hb hby at_196)) ?_
    refine own_goW (fun _ k => XS.land X537.here hx rfl (hb hby at_199) rfl (XS.l2i X537.here hx rfl (hb hby at_200) rfl (XS.i2c X537.here hx rfl (hb hby at_201) rfl k))) ?_
    show own_GoW p e below s _ _ _ _ (T537.setTop (mkF m 202 #[iv p1, iv p2, .val (.long q3), .second, iv p4, iv (8 : Int32), iv um, rv b478, .unset, .unset, .unset] [(.int (((((q3.toUInt64 >>> ((56 : Int32) &&& 0x3f).toInt64.toUInt64).toInt64) &&& (255 : Int64)).toInt32).toUInt32.toUInt16.toUInt32.toInt32)), (.int (7 : Int32)), (.ref b478)]))
    obtain ⟨cl539, Ar539, q539, S539, M539, P539, G539⟩ := id f538
    have hin539 : ¬ ((7 : Int32) < 0 ∨ cl539.slots.size ≤ ((7 : Int32)).toNatClampNeg) := inb_of S539 ⟨by decide, by decide⟩
    obtain ⟨T540, h540, X540, e540, W540, st540⟩ := stC X537 hx hZ e537 Ar539 (j := (7 : Int32)) hin539 (g := (mkF m 202 #[iv p1, iv p2, .val (.long q3), .second, iv p4, iv (8 : Int32), iv um, rv b478, .unset, .unset, .unset] [(.int (((((q3.toUInt64 >>> ((56 : Int32) &&& 0x3f).toInt64.toUInt64).toInt64) &&& (255 : Int64)).toInt32).toUInt32.toUInt16.toUInt32.toInt32)), (.int (7 : Int32)), (.ref b478)])) rfl rfl (hb hby at_202)
    refine own_goW st540 ?_
    clear st540 X537 e537
    rw [own_nar8 (own_c8l ((q3.toUInt64 >>> ((56 : Int32) &&& 0x3f).toInt64.toUInt64).toInt64))] at W540
    have f541 : Arv Z h540 b478 k478 .char (8 : Int32) [(.int w484), (.int w492), (.int w500), (.int w508), (.int w516), (.int w524), (.int w532), (.int (((((q3.toUInt64 >>> ((56 : Int32) &&& 0x3f).toInt64.toUInt64).toInt64) &&& (255 : Int64)).toInt32).toUInt32.toUInt16.toUInt32.toInt32))] (.int (0 : Int32)) := Arv.set Ar539 q539 S539 M539 P539 G539 (by have q := fits_nar_char (((((q3.toUInt64 >>> ((56 : Int32) &&& 0x3f).toInt64.toUInt64).toInt64) &&& (255 : Int64)).toInt32).toUInt32.toUInt16.toUInt32.toInt32); rw [own_nar8 (own_c8l ((q3.toUInt64 >>> ((56 : Int32) &&& 0x3f).toInt64.toUInt64).toInt64))] at q; exact q) W540 7 rfl (Nat.le_of_ble_eq_true rfl)
    replace N0 := Fr.snoc X540 N0 big479
    replace hJ := own_Jwr hZ hJ W540 (own_farV f538 (by decide) (ow3 hw))
    clear f538
    replace O0 := own_oldWr O0 W540 big479
    replace K0 := K0.wr W540 (Or.inr sz480)
    replace K1 := K1.wr W540 (Or.inr sz481)
    replace hS := own_since hS (Nat.le_of_eq W540.size.symm)
    clear W540
    clear Ar539 q539 S539 M539 P539 G539 hin539
    refine own_goW (fun _ k => XS.iload X540.here hx rfl (hb hby at_203) rfl (XS.bipush X540.here hx rfl (hb hby at_205) (XS.icmpYes X540.here hx rfl (pc0 := 207) (pc' := 222) rfl (hb hby at_207) rfl (flt (by decide : ¬ ((8 : Int32) < (8 : Int32)))).2.2.2 (by decide) (by decide) k))) ?_
    obtain ⟨T542, h542, X542, e542, E542, A542, D542, -, st542⟩ := newO X540 hx hZ hown (ow2 hw) (ow3 hw) (ow4 hw) e540 (g := (mkF m 222 #[iv p1, iv p2, .val (.long q3), .second, iv p4, iv (8 : Int32), iv um, rv b478, .unset, .unset, .unset] [])) rfl (hb hby at_222) (by show _ ≤ 16; omega) (by show _ ≤ 1152; omega)
    obtain ⟨b542, g542⟩ : ∃ z, z = h540.size := ⟨_, rfl⟩
    rw [← g542] at A542 D542 st542
    refine own_goW st542 ?_
    clear st542 X540 e540
    have ge542 := Nat.le_of_eq g542.symm
    have ne543 : b478 ≠ b542 := Nat.ne_of_lt (Nat.lt_of_lt_of_le f541.lt ge542)
    have big544 : Z.heap.size ≤ b542 := Nat.le_trans O0.1 ge542
    have sz545 : h0.size ≤ b542 := Nat.le_trans K0.1 ge542
    have sz546 : hs1.size ≤ b542 := Nat.le_trans K1.1 ge542
    replace f541 := f541.ext E542
    replace O0 := own_oldExt O0 E542
    replace K0 := K0.ext E542
    replace K1 := K1.ext E542
    replace hS := own_since hS E542.1
    replace hJ := own_Jext hJ E542
    clear E542
    have f547 : Fld Z h542 b542 "java/lang/String" "value" "[B" .null := D542 (Or.inr (ow17 hw)) (ty := (.array .byte)) own_fd0
    have f548 : Fld Z h542 b542 "java/lang/String" "coder" "B" (.int (0 : Int32)) := D542 (Or.inr (ow18 hw)) (ty := .byte) own_fd1
    refine own_goW (fun _ k => XS.dup X542.here hx rfl (hb hby at_225) rfl rfl k) ?_
    show own_GoW p e below s _ _ _ _ (T542.setTop (mkF m 226 #[iv p1, iv p2, .val (.long q3), .second, iv p4, iv (8 : Int32), iv um, rv b478, .unset, .unset, .unset] [(.ref b542), (.ref b542)]))
    refine own_goW (fun _ k => XS.aload X542.here hx rfl (hb hby at_226) rfl rfl k) ?_
    obtain ⟨v549, T549, L549, X549, hQ549, st549⟩ := own_callIB (y := own_y1) X542 hx hZ hown (ow5 hw) (ow6 hw) (ow4 hw) (ow7 hw) 1 1 8 (StrChars.Road.backV (W := 1) hZ (own_sw1 hw) (kI := 4) (ow3 hw) (cs := ([w484, w492, w500, w508, w516, w524, w532, (((((q3.toUInt64 >>> ((56 : Int32) &&& 0x3f).toInt64.toUInt64).toInt64) &&& (255 : Int64)).toInt32).toUInt32.toUInt16.toUInt32.toInt32)] : List Int32)) (bs := ([w484, w492, w500, w508, w516, w524, w532, (((((q3.toUInt64 >>> ((56 : Int32) &&& 0x3f).toInt64.toUInt64).toInt64) &&& (255 : Int64)).toInt32).toUInt32.toUInt16.toUInt32.toInt32)] : List Int32).map (fun c => c.toInt8.toInt32)) (n := 8) (n0 := Z.heap.size) big544 (Nat.le_trans O0.1 (Nat.le_refl _)) A542 f547 f548 f541 (oCS.ext O0) oCz rfl rfl (by decide) (by decide) (own_cC hp485 (own_cC hp493 (own_cC hp501 (own_cC hp509 (own_cC hp517 (own_cC hp525 (own_cC hp533 (own_cC (own_c8l ((q3.toUInt64 >>> ((56 : Int32) &&& 0x3f).toInt64.toUInt64).toInt64)) own_cN)))))))) rfl (by decide) (by decide)) rfl (by show _ ≤ 16; omega) (by show _ ≤ 1152; omega) e542 (g := (mkF m 228 #[iv p1, iv p2, .val (.long q3), .second, iv p4, iv (8 : Int32), iv um, rv b478, .unset, .unset, .unset] [(.ref b478), (.ref b542), (.ref b542)])) rfl (by rw [hml]; rfl) b542 [(.ref b478)] [(.ref b542)] (lenOf own_pd_6 rfl) rfl rfl (hb hby at_228)
    obtain ⟨rfl, Nc549, Kc549, f1549, f2549, t549, kb549, tb549, ts549, tn549, f3549, f4549⟩ := hQ549
    refine own_goW st549 ?_
    clear st549 X542 e542
    replace N0 := Fr.app N0 Nc549
    clear Nc549
    replace hS := own_since hS Kc549.1
    have ne550 : b478 ≠ t549 := Nat.ne_of_lt (Nat.lt_of_lt_of_le f541.lt ts549)
    have ne551 : b542 ≠ t549 := Nat.ne_of_lt (Nat.lt_of_lt_of_le A542.lt ts549)
    have big552 : Z.heap.size ≤ t549 := Nat.le_trans O0.1 ts549
    have sz553 : h0.size ≤ t549 := Nat.le_trans K0.1 ts549
    have sz554 : hs1.size ≤ t549 := Nat.le_trans K1.1 ts549
    have hAp_b542 := own_apart hZ hJ f547
    replace hJ := own_JkeepS hZ hJ Kc549 hAp_b542 A542 (ow3 hw)
    replace f541 := f541.keep Kc549 (ninS ne543 nin0)
    replace A542 := A542.keep Kc549
    clear f547
    clear f548
    replace O0 := own_oldKeep O0 Kc549 (allS big544 all0)
    replace K0 := K0.trans Kc549 (allS (Or.inr sz545) all0)
    replace K1 := K1.trans Kc549 (allS (Or.inr sz546) all0)
    clear Kc549
    replace f4549 : Arv Z T549.heap t549 kb549 .byte (8 : Int32) [(.int (w484.toInt8.toInt32)), (.int (w492.toInt8.toInt32)), (.int (w500.toInt8.toInt32)), (.int (w508.toInt8.toInt32)), (.int (w516.toInt8.toInt32)), (.int (w524.toInt8.toInt32)), (.int (w532.toInt8.toInt32)), (.int ((((((q3.toUInt64 >>> ((56 : Int32) &&& 0x3f).toInt64.toUInt64).toInt64) &&& (255 : Int64)).toInt32).toUInt32.toUInt16.toUInt32.toInt32).toInt8.toInt32))] (.int (0 : Int32)) := f4549
    refine own_goW (fun _ k => XS.astore X549.here hx rfl (hb hby at_231) rfl rfl (l' := #[iv p1, iv p2, .val (.long q3), .second, iv p4, iv (8 : Int32), iv um, rv b478, rv b542, .unset, .unset]) rfl (XS.iload X549.here hx rfl (hb hby at_233) rfl (XS.bipush X549.here hx rfl (hb hby at_235) (XS.icmpNo X549.here hx rfl (hb hby at_237) rfl (flt (by decide : ¬ ((8 : Int32) < (7 : Int32)))).1 k)))) ?_
    show own_GoW p e below s _ _ _ _ (T549.setTop (mkF m 240 #[iv p1, iv p2, .val (.long q3), .second, iv p4, iv (8 : Int32), iv um, rv b478, rv b542, .unset, .unset] []))
    refine own_goW (fun _ k => XS.aload X549.here hx rfl (hb hby at_240) rfl rfl (XS.iconst X549.here hx rfl (hb hby at_242) k)) ?_
    obtain ⟨cl555, Ar555, -, S555, -, P555, -⟩ := id f541
    have hin555 : ¬ ((0 : Int32) < 0 ∨ cl555.slots.size ≤ ((0 : Int32)).toNatClampNeg) := inb_of S555 ⟨by decide, by decide⟩
    refine own_goW (X549.caload hx (j := (0 : Int32)) (v := (.int w484)) (by rw [(rfl : T549.heap = T549.heap)]; exact Ar555.1) (State.isArrayOf_alike hZ.alike Ar555.2.1) Ar555.2.2 hin555 (P555.at hin555 rfl) (g := (mkF m 243 #[iv p1, iv p2, .val (.long q3), .second, iv p4, iv (8 : Int32), iv um, rv b478, rv b542, .unset, .unset] [(.int (0 : Int32)), (.ref b478)])) rfl rfl (hb hby at_243)) ?_
    refine own_goW (fun _ k => XS.bipush X549.here hx rfl (hb hby at_244) k) ?_
    by_cases hc556 : w484 = (115 : Int32)
    · refine own_goW (fun _ k => XS.icmpNo X549.here hx rfl (hb hby at_246) rfl (teq hc556).2 k) ?_
      show own_GoW p e below s _ _ _ _ (T549.setTop (mkF m 249 #[iv p1, iv p2, .val (.long q3), .second, iv p4, iv (8 : Int32), iv um, rv b478, rv b542, .unset, .unset] []))
      refine own_goW (fun _ k => XS.aload X549.here hx rfl (hb hby at_249) rfl rfl (XS.iconst X549.here hx rfl (hb hby at_251) k)) ?_
      obtain ⟨cl557, Ar557, -, S557, -, P557, -⟩ := id f541
      have hin557 : ¬ ((1 : Int32) < 0 ∨ cl557.slots.size ≤ ((1 : Int32)).toNatClampNeg) := inb_of S557 ⟨by decide, by decide⟩
      refine own_goW (X549.caload hx (j := (1 : Int32)) (v := (.int w492)) (by rw [(rfl : T549.heap = T549.heap)]; exact Ar557.1) (State.isArrayOf_alike hZ.alike Ar557.2.1) Ar557.2.2 hin557 (P557.at hin557 rfl) (g := (mkF m 252 #[iv p1, iv p2, .val (.long q3), .second, iv p4, iv (8 : Int32), iv um, rv b478, rv b542, .unset, .unset] [(.int (1 : Int32)), (.ref b478)])) rfl rfl (hb hby at_252)) ?_
      refine own_goW (fun _ k => XS.bipush X549.here hx rfl (hb hby at_253) k) ?_
      by_cases hc558 : w492 = (104 : Int32)
      · refine own_goW (fun _ k => XS.icmpNo X549.here hx rfl (hb hby at_255) rfl (teq hc558).2 k) ?_
        show own_GoW p e below s _ _ _ _ (T549.setTop (mkF m 258 #[iv p1, iv p2, .val (.long q3), .second, iv p4, iv (8 : Int32), iv um, rv b478, rv b542, .unset, .unset] []))
        refine own_goW (fun _ k => XS.aload X549.here hx rfl (hb hby at_258) rfl rfl (XS.iconst X549.here hx rfl (hb hby at_260) k)) ?_
        obtain ⟨cl559, Ar559, -, S559, -, P559, -⟩ := id f541
        have hin559 : ¬ ((2 : Int32) < 0 ∨ cl559.slots.size ≤ ((2 : Int32)).toNatClampNeg) := inb_of S559 ⟨by decide, by decide⟩
        refine own_goW (X549.caload hx (j := (2 : Int32)) (v := (.int w500)) (by rw [(rfl : T549.heap = T549.heap)]; exact Ar559.1) (State.isArrayOf_alike hZ.alike Ar559.2.1) Ar559.2.2 hin559 (P559.at hin559 rfl) (g := (mkF m 261 #[iv p1, iv p2, .val (.long q3), .second, iv p4, iv (8 : Int32), iv um, rv b478, rv b542, .unset, .unset] [(.int (2 : Int32)), (.ref b478)])) rfl rfl (hb hby at_261)) ?_
        refine own_goW (fun _ k => XS.bipush X549.here hx rfl (hb hby at_262) k) ?_
        by_cases hc560 : w500 = (97 : Int32)
        · refine own_goW (fun _ k => XS.icmpNo X549.here hx rfl (hb hby at_264) rfl (teq hc560).2 k) ?_
          show own_GoW p e below s _ _ _ _ (T549.setTop (mkF m 267 #[iv p1, iv p2, .val (.long q3), .second, iv p4, iv (8 : Int32), iv um, rv b478, rv b542, .unset, .unset] []))
          refine own_goW (fun _ k => XS.aload X549.here hx rfl (hb hby at_267) rfl rfl (XS.iconst X549.here hx rfl (hb hby at_269) k)) ?_
          obtain ⟨cl561, Ar561, -, S561, -, P561, -⟩ := id f541
          have hin561 : ¬ ((3 : Int32) < 0 ∨ cl561.slots.size ≤ ((3 : Int32)).toNatClampNeg) := inb_of S561 ⟨by decide, by decide⟩
          refine own_goW (X549.caload hx (j := (3 : Int32)) (v := (.int w508)) (by rw [(rfl : T549.heap = T549.heap)]; exact Ar561.1) (State.isArrayOf_alike hZ.alike Ar561.2.1) Ar561.2.2 hin561 (P561.at hin561 rfl) (g := (mkF m 270 #[iv p1, iv p2, .val (.long q3), .second, iv p4, iv (8 : Int32), iv um, rv b478, rv b542, .unset, .unset] [(.int (3 : Int32)), (.ref b478)])) rfl rfl (hb hby at_270)) ?_
          refine own_goW (fun _ k => XS.bipush X549.here hx rfl (hb hby at_271) k) ?_
          by_cases hc562 : w508 = (114 : Int32)
          · refine own_goW (fun _ k => XS.icmpNo X549.here hx rfl (hb hby at_273) rfl (teq hc562).2 k) ?_
            show own_GoW p e below s _ _ _ _ (T549.setTop (mkF m 276 #[iv p1, iv p2, .val (.long q3), .second, iv p4, iv (8 : Int32), iv um, rv b478, rv b542, .unset, .unset] []))
            refine own_goW (fun _ k => XS.aload X549.here hx rfl (hb hby at_276) rfl rfl (XS.iconst X549.here hx rfl (hb hby at_278) k)) ?_
            obtain ⟨cl563, Ar563, -, S563, -, P563, -⟩ := id f541
            have hin563 : ¬ ((4 : Int32) < 0 ∨ cl563.slots.size ≤ ((4 : Int32)).toNatClampNeg) := inb_of S563 ⟨by decide, by decide⟩
            refine own_goW (X549.caload hx (j := (4 : Int32)) (v := (.int w516)) (by rw [(rfl : T549.heap = T549.heap)]; exact Ar563.1) (State.isArrayOf_alike hZ.alike Ar563.2.1) Ar563.2.2 hin563 (P563.at hin563 rfl) (g := (mkF m 279 #[iv p1, iv p2, .val (.long q3), .second, iv p4, iv (8 : Int32), iv um, rv b478, rv b542, .unset, .unset] [(.int (4 : Int32)), (.ref b478)])) rfl rfl (hb hby at_279)) ?_
            refine own_goW (fun _ k => XS.bipush X549.here hx rfl (hb hby at_280) k) ?_
            by_cases hc564 : w516 = (101 : Int32)
            · refine own_goW (fun _ k => XS.icmpNo X549.here hx rfl (hb hby at_282) rfl (teq hc564).2 k) ?_
              show own_GoW p e below s _ _ _ _ (T549.setTop (mkF m 285 #[iv p1, iv p2, .val (.long q3), .second, iv p4, iv (8 : Int32), iv um, rv b478, rv b542, .unset, .unset] []))
              refine own_goW (fun _ k => XS.aload X549.here hx rfl (hb hby at_285) rfl rfl (XS.iconst X549.here hx rfl (hb hby at_287) k)) ?_
              obtain ⟨cl565, Ar565, -, S565, -, P565, -⟩ := id f541
              have hin565 : ¬ ((5 : Int32) < 0 ∨ cl565.slots.size ≤ ((5 : Int32)).toNatClampNeg) := inb_of S565 ⟨by decide, by decide⟩
              refine own_goW (X549.caload hx (j := (5 : Int32)) (v := (.int w524)) (by rw [(rfl : T549.heap = T549.heap)]; exact Ar565.1) (State.isArrayOf_alike hZ.alike Ar565.2.1) Ar565.2.2 hin565 (P565.at hin565 rfl) (g := (mkF m 288 #[iv p1, iv p2, .val (.long q3), .second, iv p4, iv (8 : Int32), iv um, rv b478, rv b542, .unset, .unset] [(.int (5 : Int32)), (.ref b478)])) rfl rfl (hb hby at_288)) ?_
              refine own_goW (fun _ k => XS.bipush X549.here hx rfl (hb hby at_289) k) ?_
              by_cases hc566 : w524 = (100 : Int32)
              · refine own_goW (fun _ k => XS.icmpNo X549.here hx rfl (hb hby at_291) rfl (teq hc566).2 k) ?_
                show own_GoW p e below s _ _ _ _ (T549.setTop (mkF m 294 #[iv p1, iv p2, .val (.long q3), .second, iv p4, iv (8 : Int32), iv um, rv b478, rv b542, .unset, .unset] []))
                refine own_goW (fun _ k => XS.aload X549.here hx rfl (hb hby at_294) rfl rfl (XS.bipush X549.here hx rfl (hb hby at_296) k)) ?_
                obtain ⟨cl567, Ar567, -, S567, -, P567, -⟩ := id f541
                have hin567 : ¬ ((6 : Int32) < 0 ∨ cl567.slots.size ≤ ((6 : Int32)).toNatClampNeg) := inb_of S567 ⟨by decide, by decide⟩
                refine own_goW (X549.caload hx (j := (6 : Int32)) (v := (.int w532)) (by rw [(rfl : T549.heap = T549.heap)]; exact Ar567.1) (State.isArrayOf_alike hZ.alike Ar567.2.1) Ar567.2.2 hin567 (P567.at hin567 rfl) (g := (mkF m 298 #[iv p1, iv p2, .val (.long q3), .second, iv p4, iv (8 : Int32), iv um, rv b478, rv b542, .unset, .unset] [(.int (6 : Int32)), (.ref b478)])) rfl rfl (hb hby at_298)) ?_
                refine own_goW (fun _ k => XS.bipush X549.here hx rfl (hb hby at_299) k) ?_
                by_cases hc568 : w532 = (45 : Int32)
                · refine own_goW (fun _ k => XS.icmpNo X549.here hx rfl (hb hby at_301) rfl (teq hc568).2 k) ?_
                  show own_GoW p e below s _ _ _ _ (T549.setTop (mkF m 304 #[iv p1, iv p2, .val (.long q3), .second, iv p4, iv (8 : Int32), iv um, rv b478, rv b542, .unset, .unset] []))
                  refine own_goW (fun _ k => XS.iconst X549.here hx rfl (hb hby at_304) (XS.goto X549.here hx rfl (pc0 := 305) (pc' := 309) rfl (hb hby at_305) (by decide) (by decide) (XS.istore X549.here hx rfl (hb hby at_309) rfl (l' := #[iv p1, iv p2, .val (.long q3), .second, iv p4, iv (8 : Int32), iv um, rv b478, rv b542, iv (1 : Int32), .unset]) rfl (XS.aload X549.here hx rfl (hb hby at_311) rfl rfl k)))) ?_
                  obtain ⟨v569, T569, L569, X569, hQ569, st569⟩ := own_callS (y := own_y7) X549 hx hZ hown (ow23 hw) (ow24 hw) (ow25 hw) (ow26 hw) (rm_ofn8 l Z a0 hw hO [] b542 t549 kb549 (w484.toInt8.toInt32) (w492.toInt8.toInt32) (w500.toInt8.toInt32) (w508.toInt8.toInt32) (w516.toInt8.toInt32) (w524.toInt8.toInt32) (w532.toInt8.toInt32) ((((((q3.toUInt64 >>> ((56 : Int32) &&& 0x3f).toInt64.toUInt64).toInt64) &&& (255 : Int64)).toInt32).toUInt32.toUInt16.toUInt32.toInt32).toInt8.toInt32) T549.heap O0 f1549 f3549 f2549 f4549) 0 0 0 (by show _ ≤ 16; omega) (by show _ ≤ 1152; omega) (rfl : T549.heap = T549.heap) (g := (mkF m 313 #[iv p1, iv p2, .val (.long q3), .second, iv p4, iv (8 : Int32), iv um, rv b478, rv b542, iv (1 : Int32), .unset] [(.ref b542)])) rfl (by rw [hml]; rfl) [(.ref b542)] [] (lenOf own_pd_7 rfl) rfl rfl (hb hby at_313)
                  rcases hQ569 with hQ569 | hQ569
                  · obtain ⟨rfl, Nc572, hp570, Kc571⟩ := hQ569
                    refine own_goW st569 ?_
                    clear st569 X549
                    replace N0 := Fr.app N0 Nc572
                    clear Nc572
                    show own_GoW p e below s _ _ _ _ (T569.setTop (mkF m 316 #[iv p1, iv p2, .val (.long q3), .second, iv p4, iv (8 : Int32), iv um, rv b478, rv b542, iv (1 : Int32), .unset] [(.ref wy)]))
                    refine own_goW (fun _ k => XS.astore X569.here hx rfl (hb hby at_316) rfl rfl (l' := #[iv p1, iv p2, .val (.long q3), .second, iv p4, iv (8 : Int32), iv um, rv b478, rv b542, iv (1 : Int32), rv wy]) rfl (XS.iload X569.here hx rfl (hb hby at_318) rfl (XS.ifNo X569.here hx rfl (hb hby at_320) rfl ((if0 _ _).trans (feq (by decide : ¬ ((1 : Int32) = (0 : Int32)))).1) (XS.aload X569.here hx rfl (hb hby at_323) rfl rfl k)))) ?_
                    obtain ⟨T573, X573, e573, st573⟩ := getS2 X569 hx hZ hown (host := "") (Or.inl (ow74 hw)) Via.refl Kc571 (oSh.ext O0) (g := (mkF m 325 #[iv p1, iv p2, .val (.long q3), .second, iv p4, iv (8 : Int32), iv um, rv b478, rv b542, iv (1 : Int32), rv wy] [(.ref wy)])) rfl (hb hby at_325)
                    refine own_goW st573 ?_
                    clear st573 X569 Kc571
                    refine own_goW (fun _ k => Jvm.RoadKit.acmp (g := (mkF m 328 #[iv p1, iv p2, .val (.long q3), .second, iv p4, iv (8 : Int32), iv um, rv b478, rv b542, iv (1 : Int32), rv wy] [(.ref wy), (.ref wy)])) X573 hx rfl rfl rfl (pc0 := 328) (pc' := 331) (same := true) rfl (hb hby at_328) rfl (decide_eq_true rfl) (by decide) (by decide) k) ?_
                    show own_GoW p e below s _ _ _ _ (T573.setTop (mkF m 331 #[iv p1, iv p2, .val (.long q3), .second, iv p4, iv (8 : Int32), iv um, rv b478, rv b542, iv (1 : Int32), rv wy] []))
                    refine own_goW (fun _ k => XS.iconst X573.here hx rfl (hb hby at_331) (XS.goto X573.here hx rfl (pc0 := 332) (pc' := 336) rfl (hb hby at_332) (by decide) (by decide) k)) ?_
                    show own_GoW p e below s _ _ _ _ (T573.setTop (mkF m 336 #[iv p1, iv p2, .val (.long q3), .second, iv p4, iv (8 : Int32), iv um, rv b478, rv b542, iv (1 : Int32), rv wy] [(.int (1 : Int32))]))
                    refine own_retNW X573 hS hL hZ hJ hx hlk e573 (t := .boolean) hret (by simp) (hb hby at_336) (by show _ ≤ 16; omega) (by show _ ≤ 1152; omega) ?_
                    exact ⟨rfl, N0, K0⟩
                  · obtain ⟨rfl, Nc576, hp574, Kc575⟩ := hQ569
                    refine own_goW st569 ?_
                    clear st569 X549
                    replace N0 := Fr.app N0 Nc576
                    clear Nc576
                    exact absurd ⟨((own_b8 hp485 (by decide) (by decide)).mpr hc556), ((own_b8 hp493 (by decide) (by decide)).mpr hc558), ((own_b8 hp501 (by decide) (by decide)).mpr hc560), ((own_b8 hp509 (by decide) (by decide)).mpr hc562), ((own_b8 hp517 (by decide) (by decide)).mpr hc564), ((own_b8 hp525 (by decide) (by decide)).mpr hc566), ((own_b8 hp533 (by decide) (by decide)).mpr hc568)⟩ hp574
                · refine own_goW (fun _ k => XS.icmpYes X549.here hx rfl (pc0 := 301) (pc' := 308) rfl (hb hby at_301) rfl (feq hc568).2 (by decide) (by decide) k) ?_
                  show own_GoW p e below s _ _ _ _ (T549.setTop (mkF m 308 #[iv p1, iv p2, .val (.long q3), .second, iv p4, iv (8 : Int32), iv um, rv b478, rv b542, .unset, .unset] []))
                  refine own_goW (fun _ k => XS.iconst X549.here hx rfl (hb hby at_308) (XS.istore X549.here hx rfl (hb hby at_309) rfl (l' := #[iv p1, iv p2, .val (.long q3), .second, iv p4, iv (8 : Int32), iv um, rv b478, rv b542, iv (0 : Int32), .unset]) rfl (XS.aload X549.here hx rfl (hb hby at_311) rfl rfl k))) ?_
                  obtain ⟨v577, T577, L577, X577, hQ577, st577⟩ := own_callS (y := own_y7) X549 hx hZ hown (ow23 hw) (ow24 hw) (ow25 hw) (ow26 hw) (rm_ofn8 l Z a0 hw hO [] b542 t549 kb549 (w484.toInt8.toInt32) (w492.toInt8.toInt32) (w500.toInt8.toInt32) (w508.toInt8.toInt32) (w516.toInt8.toInt32) (w524.toInt8.toInt32) (w532.toInt8.toInt32) ((((((q3.toUInt64 >>> ((56 : Int32) &&& 0x3f).toInt64.toUInt64).toInt64) &&& (255 : Int64)).toInt32).toUInt32.toUInt16.toUInt32.toInt32).toInt8.toInt32) T549.heap O0 f1549 f3549 f2549 f4549) 0 0 0 (by show _ ≤ 16; omega) (by show _ ≤ 1152; omega) (rfl : T549.heap = T549.heap) (g := (mkF m 313 #[iv p1, iv p2, .val (.long q3), .second, iv p4, iv (8 : Int32), iv um, rv b478, rv b542, iv (0 : Int32), .unset] [(.ref b542)])) rfl (by rw [hml]; rfl) [(.ref b542)] [] (lenOf own_pd_7 rfl) rfl rfl (hb hby at_313)
                  rcases hQ577 with hQ577 | hQ577
                  · obtain ⟨rfl, Nc580, hp578, Kc579⟩ := hQ577
                    refine own_goW st577 ?_
                    clear st577 X549
                    replace N0 := Fr.app N0 Nc580
                    clear Nc580
                    exact absurd hp578 (fun h7 => (mt (own_b8 hp533 (by decide) (by decide)).mp hc568) h7.2.2.2.2.2.2)
                  · obtain ⟨rfl, Nc583, hp581, Kc582⟩ := hQ577
                    refine own_goW st577 ?_
                    clear st577 X549
                    replace N0 := Fr.app N0 Nc583
                    clear Nc583
                    show own_GoW p e below s _ _ _ _ (T577.setTop (mkF m 316 #[iv p1, iv p2, .val (.long q3), .second, iv p4, iv (8 : Int32), iv um, rv b478, rv b542, iv (0 : Int32), .unset] [(.ref wx)]))
                    refine own_goW (fun _ k => XS.astore X577.here hx rfl (hb hby at_316) rfl rfl (l' := #[iv p1, iv p2, .val (.long q3), .second, iv p4, iv (8 : Int32), iv um, rv b478, rv b542, iv (0 : Int32), rv wx]) rfl (XS.iload X577.here hx rfl (hb hby at_318) rfl (XS.ifYes X577.here hx rfl (pc0 := 320) (pc' := 337) rfl (hb hby at_320) rfl ((if0 _ _).trans (teq (by decide : (0 : Int32) = (0 : Int32))).1) (by decide) (by decide) (XS.aload X577.here hx rfl (hb hby at_337) rfl rfl k)))) ?_
                    obtain ⟨T584, X584, e584, st584⟩ := getS2 X577 hx hZ hown (host := "") (Or.inl (ow54 hw)) Via.refl Kc582 (oEx.ext O0) (g := (mkF m 339 #[iv p1, iv p2, .val (.long q3), .second, iv p4, iv (8 : Int32), iv um, rv b478, rv b542, iv (0 : Int32), rv wx] [(.ref wx)])) rfl (hb hby at_339)
                    refine own_goW st584 ?_
                    clear st584 X577 Kc582
                    refine own_goW (fun _ k => Jvm.RoadKit.acmp (g := (mkF m 342 #[iv p1, iv p2, .val (.long q3), .second, iv p4, iv (8 : Int32), iv um, rv b478, rv b542, iv (0 : Int32), rv wx] [(.ref wx), (.ref wx)])) X584 hx rfl rfl rfl (pc0 := 342) (pc' := 345) (same := true) rfl (hb hby at_342) rfl (decide_eq_true rfl) (by decide) (by decide) k) ?_
                    show own_GoW p e below s _ _ _ _ (T584.setTop (mkF m 345 #[iv p1, iv p2, .val (.long q3), .second, iv p4, iv (8 : Int32), iv um, rv b478, rv b542, iv (0 : Int32), rv wx] []))
                    refine own_goW (fun _ k => XS.iconst X584.here hx rfl (hb hby at_345) (XS.goto X584.here hx rfl (pc0 := 346) (pc' := 350) rfl (hb hby at_346) (by decide) (by decide) k)) ?_
                    show own_GoW p e below s _ _ _ _ (T584.setTop (mkF m 350 #[iv p1, iv p2, .val (.long q3), .second, iv p4, iv (8 : Int32), iv um, rv b478, rv b542, iv (0 : Int32), rv wx] [(.int (1 : Int32))]))
                    refine own_retNW X584 hS hL hZ hJ hx hlk e584 (t := .boolean) hret (by simp) (hb hby at_350) (by show _ ≤ 16; omega) (by show _ ≤ 1152; omega) ?_
                    exact ⟨rfl, N0, K0⟩
              · refine own_goW (fun _ k => XS.icmpYes X549.here hx rfl (pc0 := 291) (pc' := 308) rfl (hb hby at_291) rfl (feq hc566).2 (by decide) (by decide) k) ?_
                show own_GoW p e below s _ _ _ _ (T549.setTop (mkF m 308 #[iv p1, iv p2, .val (.long q3), .second, iv p4, iv (8 : Int32), iv um, rv b478, rv b542, .unset, .unset] []))
                refine own_goW (fun _ k => XS.iconst X549.here hx rfl (hb hby at_308) (XS.istore X549.here hx rfl (hb hby at_309) rfl (l' := #[iv p1, iv p2, .val (.long q3), .second, iv p4, iv (8 : Int32), iv um, rv b478, rv b542, iv (0 : Int32), .unset]) rfl (XS.aload X549.here hx rfl (hb hby at_311) rfl rfl k))) ?_
                obtain ⟨v585, T585, L585, X585, hQ585, st585⟩ := own_callS (y := own_y7) X549 hx hZ hown (ow23 hw) (ow24 hw) (ow25 hw) (ow26 hw) (rm_ofn8 l Z a0 hw hO [] b542 t549 kb549 (w484.toInt8.toInt32) (w492.toInt8.toInt32) (w500.toInt8.toInt32) (w508.toInt8.toInt32) (w516.toInt8.toInt32) (w524.toInt8.toInt32) (w532.toInt8.toInt32) ((((((q3.toUInt64 >>> ((56 : Int32) &&& 0x3f).toInt64.toUInt64).toInt64) &&& (255 : Int64)).toInt32).toUInt32.toUInt16.toUInt32.toInt32).toInt8.toInt32) T549.heap O0 f1549 f3549 f2549 f4549) 0 0 0 (by show _ ≤ 16; omega) (by show _ ≤ 1152; omega) (rfl : T549.heap = T549.heap) (g := (mkF m 313 #[iv p1, iv p2, .val (.long q3), .second, iv p4, iv (8 : Int32), iv um, rv b478, rv b542, iv (0 : Int32), .unset] [(.ref b542)])) rfl (by rw [hml]; rfl) [(.ref b542)] [] (lenOf own_pd_7 rfl) rfl rfl (hb hby at_313)
                rcases hQ585 with hQ585 | hQ585
                · obtain ⟨rfl, Nc588, hp586, Kc587⟩ := hQ585
                  refine own_goW st585 ?_
                  clear st585 X549
                  replace N0 := Fr.app N0 Nc588
                  clear Nc588
                  exact absurd hp586 (fun h7 => (mt (own_b8 hp525 (by decide) (by decide)).mp hc566) h7.2.2.2.2.2.1)
                · obtain ⟨rfl, Nc591, hp589, Kc590⟩ := hQ585
                  refine own_goW st585 ?_
                  clear st585 X549
                  replace N0 := Fr.app N0 Nc591
                  clear Nc591
                  show own_GoW p e below s _ _ _ _ (T585.setTop (mkF m 316 #[iv p1, iv p2, .val (.long q3), .second, iv p4, iv (8 : Int32), iv um, rv b478, rv b542, iv (0 : Int32), .unset] [(.ref wx)]))
                  refine own_goW (fun _ k => XS.astore X585.here hx rfl (hb hby at_316) rfl rfl (l' := #[iv p1, iv p2, .val (.long q3), .second, iv p4, iv (8 : Int32), iv um, rv b478, rv b542, iv (0 : Int32), rv wx]) rfl (XS.iload X585.here hx rfl (hb hby at_318) rfl (XS.ifYes X585.here hx rfl (pc0 := 320) (pc' := 337) rfl (hb hby at_320) rfl ((if0 _ _).trans (teq (by decide : (0 : Int32) = (0 : Int32))).1) (by decide) (by decide) (XS.aload X585.here hx rfl (hb hby at_337) rfl rfl k)))) ?_
                  obtain ⟨T592, X592, e592, st592⟩ := getS2 X585 hx hZ hown (host := "") (Or.inl (ow54 hw)) Via.refl Kc590 (oEx.ext O0) (g := (mkF m 339 #[iv p1, iv p2, .val (.long q3), .second, iv p4, iv (8 : Int32), iv um, rv b478, rv b542, iv (0 : Int32), rv wx] [(.ref wx)])) rfl (hb hby at_339)
                  refine own_goW st592 ?_
                  clear st592 X585 Kc590
                  refine own_goW (fun _ k => Jvm.RoadKit.acmp (g := (mkF m 342 #[iv p1, iv p2, .val (.long q3), .second, iv p4, iv (8 : Int32), iv um, rv b478, rv b542, iv (0 : Int32), rv wx] [(.ref wx), (.ref wx)])) X592 hx rfl rfl rfl (pc0 := 342) (pc' := 345) (same := true) rfl (hb hby at_342) rfl (decide_eq_true rfl) (by decide) (by decide) k) ?_
                  show own_GoW p e below s _ _ _ _ (T592.setTop (mkF m 345 #[iv p1, iv p2, .val (.long q3), .second, iv p4, iv (8 : Int32), iv um, rv b478, rv b542, iv (0 : Int32), rv wx] []))
                  refine own_goW (fun _ k => XS.iconst X592.here hx rfl (hb hby at_345) (XS.goto X592.here hx rfl (pc0 := 346) (pc' := 350) rfl (hb hby at_346) (by decide) (by decide) k)) ?_
                  show own_GoW p e below s _ _ _ _ (T592.setTop (mkF m 350 #[iv p1, iv p2, .val (.long q3), .second, iv p4, iv (8 : Int32), iv um, rv b478, rv b542, iv (0 : Int32), rv wx] [(.int (1 : Int32))]))
                  refine own_retNW X592 hS hL hZ hJ hx hlk e592 (t := .boolean) hret (by simp) (hb hby at_350) (by show _ ≤ 16; omega) (by show _ ≤ 1152; omega) ?_
                  exact ⟨rfl, N0, K0⟩
            · refine own_goW (fun _ k => XS.icmpYes X549.here hx rfl (pc0 := 282) (pc' := 308) rfl (hb hby at_282) rfl (feq hc564).2 (by decide) (by decide) k) ?_
              show own_GoW p e below s _ _ _ _ (T549.setTop (mkF m 308 #[iv p1, iv p2, .val (.long q3), .second, iv p4, iv (8 : Int32), iv um, rv b478, rv b542, .unset, .unset] []))
              refine own_goW (fun _ k => XS.iconst X549.here hx rfl (hb hby at_308) (XS.istore X549.here hx rfl (hb hby at_309) rfl (l' := #[iv p1, iv p2, .val (.long q3), .second, iv p4, iv (8 : Int32), iv um, rv b478, rv b542, iv (0 : Int32), .unset]) rfl (XS.aload X549.here hx rfl (hb hby at_311) rfl rfl k))) ?_
              obtain ⟨v593, T593, L593, X593, hQ593, st593⟩ := own_callS (y := own_y7) X549 hx hZ hown (ow23 hw) (ow24 hw) (ow25 hw) (ow26 hw) (rm_ofn8 l Z a0 hw hO [] b542 t549 kb549 (w484.toInt8.toInt32) (w492.toInt8.toInt32) (w500.toInt8.toInt32) (w508.toInt8.toInt32) (w516.toInt8.toInt32) (w524.toInt8.toInt32) (w532.toInt8.toInt32) ((((((q3.toUInt64 >>> ((56 : Int32) &&& 0x3f).toInt64.toUInt64).toInt64) &&& (255 : Int64)).toInt32).toUInt32.toUInt16.toUInt32.toInt32).toInt8.toInt32) T549.heap O0 f1549 f3549 f2549 f4549) 0 0 0 (by show _ ≤ 16; omega) (by show _ ≤ 1152; omega) (rfl : T549.heap = T549.heap) (g := (mkF m 313 #[iv p1, iv p2, .val (.long q3), .second, iv p4, iv (8 : Int32), iv um, rv b478, rv b542, iv (0 : Int32), .unset] [(.ref b542)])) rfl (by rw [hml]; rfl) [(.ref b542)] [] (lenOf own_pd_7 rfl) rfl rfl (hb hby at_313)
              rcases hQ593 with hQ593 | hQ593
              · obtain ⟨rfl, Nc596, hp594, Kc595⟩ := hQ593
                refine own_goW st593 ?_
                clear st593 X549
                replace N0 := Fr.app N0 Nc596
                clear Nc596
                exact absurd hp594 (fun h7 => (mt (own_b8 hp517 (by decide) (by decide)).mp hc564) h7.2.2.2.2.1)
              · obtain ⟨rfl, Nc599, hp597, Kc598⟩ := hQ593
                refine own_goW st593 ?_
                clear st593 X549
                replace N0 := Fr.app N0 Nc599
                clear Nc599
                show own_GoW p e below s _ _ _ _ (T593.setTop (mkF m 316 #[iv p1, iv p2, .val (.long q3), .second, iv p4, iv (8 : Int32), iv um, rv b478, rv b542, iv (0 : Int32), .unset] [(.ref wx)]))
                refine own_goW (fun _ k => XS.astore X593.here hx rfl (hb hby at_316) rfl rfl (l' := #[iv p1, iv p2, .val (.long q3), .second, iv p4, iv (8 : Int32), iv um, rv b478, rv b542, iv (0 : Int32), rv wx]) rfl (XS.iload X593.here hx rfl (hb hby at_318) rfl (XS.ifYes X593.here hx rfl (pc0 := 320) (pc' := 337) rfl (hb hby at_320) rfl ((if0 _ _).trans (teq (by decide : (0 : Int32) = (0 : Int32))).1) (by decide) (by decide) (XS.aload X593.here hx rfl (hb hby at_337) rfl rfl k)))) ?_
                obtain ⟨T600, X600, e600, st600⟩ := getS2 X593 hx hZ hown (host := "") (Or.inl (ow54 hw)) Via.refl Kc598 (oEx.ext O0) (g := (mkF m 339 #[iv p1, iv p2, .val (.long q3), .second, iv p4, iv (8 : Int32), iv um, rv b478, rv b542, iv (0 : Int32), rv wx] [(.ref wx)])) rfl (hb hby at_339)
                refine own_goW st600 ?_
                clear st600 X593 Kc598
                refine own_goW (fun _ k => Jvm.RoadKit.acmp (g := (mkF m 342 #[iv p1, iv p2, .val (.long q3), .second, iv p4, iv (8 : Int32), iv um, rv b478, rv b542, iv (0 : Int32), rv wx] [(.ref wx), (.ref wx)])) X600 hx rfl rfl rfl (pc0 := 342) (pc' := 345) (same := true) rfl (hb hby at_342) rfl (decide_eq_true rfl) (by decide) (by decide) k) ?_
                show own_GoW p e below s _ _ _ _ (T600.setTop (mkF m 345 #[iv p1, iv p2, .val (.long q3), .second, iv p4, iv (8 : Int32), iv um, rv b478, rv b542, iv (0 : Int32), rv wx] []))
                refine own_goW (fun _ k => XS.iconst X600.here hx rfl (hb hby at_345) (XS.goto X600.here hx rfl (pc0 := 346) (pc' := 350) rfl (hb hby at_346) (by decide) (by decide) k)) ?_
                show own_GoW p e below s _ _ _ _ (T600.setTop (mkF m 350 #[iv p1, iv p2, .val (.long q3), .second, iv p4, iv (8 : Int32), iv um, rv b478, rv b542, iv (0 : Int32), rv wx] [(.int (1 : Int32))]))
                refine own_retNW X600 hS hL hZ hJ hx hlk e600 (t := .boolean) hret (by simp) (hb hby at_350) (by show _ ≤ 16; omega) (by show _ ≤ 1152; omega) ?_
                exact ⟨rfl, N0, K0⟩
          · refine own_goW (fun _ k => XS.icmpYes X549.here hx rfl (pc0 := 273) (pc' := 308) rfl (hb hby at_273) rfl (feq hc562).2 (by decide) (by decide) k) ?_
            show own_GoW p e below s _ _ _ _ (T549.setTop (mkF m 308 #[iv p1, iv p2, .val (.long q3), .second, iv p4, iv (8 : Int32), iv um, rv b478, rv b542, .unset, .unset] []))
            refine own_goW (fun _ k => XS.iconst X549.here hx rfl (hb hby at_308) (XS.istore X549.here hx rfl (hb hby at_309) rfl (l' := #[iv p1, iv p2, .val (.long q3), .second, iv p4, iv (8 : Int32), iv um, rv b478, rv b542, iv (0 : Int32), .unset]) rfl (XS.aload X549.here hx rfl (hb hby at_311) rfl rfl k))) ?_
            obtain ⟨v601, T601, L601, X601, hQ601, st601⟩ := own_callS (y := own_y7) X549 hx hZ hown (ow23 hw) (ow24 hw) (ow25 hw) (ow26 hw) (rm_ofn8 l Z a0 hw hO [] b542 t549 kb549 (w484.toInt8.toInt32) (w492.toInt8.toInt32) (w500.toInt8.toInt32) (w508.toInt8.toInt32) (w516.toInt8.toInt32) (w524.toInt8.toInt32) (w532.toInt8.toInt32) ((((((q3.toUInt64 >>> ((56 : Int32) &&& 0x3f).toInt64.toUInt64).toInt64) &&& (255 : Int64)).toInt32).toUInt32.toUInt16.toUInt32.toInt32).toInt8.toInt32) T549.heap O0 f1549 f3549 f2549 f4549) 0 0 0 (by show _ ≤ 16; omega) (by show _ ≤ 1152; omega) (rfl : T549.heap = T549.heap) (g := (mkF m 313 #[iv p1, iv p2, .val (.long q3), .second, iv p4, iv (8 : Int32), iv um, rv b478, rv b542, iv (0 : Int32), .unset] [(.ref b542)])) rfl (by rw [hml]; rfl) [(.ref b542)] [] (lenOf own_pd_7 rfl) rfl rfl (hb hby at_313)
            rcases hQ601 with hQ601 | hQ601
            · obtain ⟨rfl, Nc604, hp602, Kc603⟩ := hQ601
              refine own_goW st601 ?_
              clear st601 X549
              replace N0 := Fr.app N0 Nc604
              clear Nc604
              exact absurd hp602 (fun h7 => (mt (own_b8 hp509 (by decide) (by decide)).mp hc562) h7.2.2.2.1)
            · obtain ⟨rfl, Nc607, hp605, Kc606⟩ := hQ601
              refine own_goW st601 ?_
              clear st601 X549
              replace N0 := Fr.app N0 Nc607
              clear Nc607
              show own_GoW p e below s _ _ _ _ (T601.setTop (mkF m 316 #[iv p1, iv p2, .val (.long q3), .second, iv p4, iv (8 : Int32), iv um, rv b478, rv b542, iv (0 : Int32), .unset] [(.ref wx)]))
              refine own_goW (fun _ k => XS.astore X601.here hx rfl (hb hby at_316) rfl rfl (l' := #[iv p1, iv p2, .val (.long q3), .second, iv p4, iv (8 : Int32), iv um, rv b478, rv b542, iv (0 : Int32), rv wx]) rfl (XS.iload X601.here hx rfl (hb hby at_318) rfl (XS.ifYes X601.here hx rfl (pc0 := 320) (pc' := 337) rfl (hb hby at_320) rfl ((if0 _ _).trans (teq (by decide : (0 : Int32) = (0 : Int32))).1) (by decide) (by decide) (XS.aload X601.here hx rfl (hb hby at_337) rfl rfl k)))) ?_
              obtain ⟨T608, X608, e608, st608⟩ := getS2 X601 hx hZ hown (host := "") (Or.inl (ow54 hw)) Via.refl Kc606 (oEx.ext O0) (g := (mkF m 339 #[iv p1, iv p2, .val (.long q3), .second, iv p4, iv (8 : Int32), iv um, rv b478, rv b542, iv (0 : Int32), rv wx] [(.ref wx)])) rfl (hb hby at_339)
              refine own_goW st608 ?_
              clear st608 X601 Kc606
              refine own_goW (fun _ k => Jvm.RoadKit.acmp (g := (mkF m 342 #[iv p1, iv p2, .val (.long q3), .second, iv p4, iv (8 : Int32), iv um, rv b478, rv b542, iv (0 : Int32), rv wx] [(.ref wx), (.ref wx)])) X608 hx rfl rfl rfl (pc0 := 342) (pc' := 345) (same := true) rfl (hb hby at_342) rfl (decide_eq_true rfl) (by decide) (by decide) k) ?_
              show own_GoW p e below s _ _ _ _ (T608.setTop (mkF m 345 #[iv p1, iv p2, .val (.long q3), .second, iv p4, iv (8 : Int32), iv um, rv b478, rv b542, iv (0 : Int32), rv wx] []))
              refine own_goW (fun _ k => XS.iconst X608.here hx rfl (hb hby at_345) (XS.goto X608.here hx rfl (pc0 := 346) (pc' := 350) rfl (hb hby at_346) (by decide) (by decide) k)) ?_
              show own_GoW p e below s _ _ _ _ (T608.setTop (mkF m 350 #[iv p1, iv p2, .val (.long q3), .second, iv p4, iv (8 : Int32), iv um, rv b478, rv b542, iv (0 : Int32), rv wx] [(.int (1 : Int32))]))
              refine own_retNW X608 hS hL hZ hJ hx hlk e608 (t := .boolean) hret (by simp) (hb hby at_350) (by show _ ≤ 16; omega) (by show _ ≤ 1152; omega) ?_
              exact ⟨rfl, N0, K0⟩
        · refine own_goW (fun _ k => XS.icmpYes X549.here hx rfl (pc0 := 264) (pc' := 308) rfl (hb hby at_264) rfl (feq hc560).2 (by decide) (by decide) k) ?_
          show own_GoW p e below s _ _ _ _ (T549.setTop (mkF m 308 #[iv p1, iv p2, .val (.long q3), .second, iv p4, iv (8 : Int32), iv um, rv b478, rv b542, .unset, .unset] []))
          refine own_goW (fun _ k => XS.iconst X549.here hx rfl (hb hby at_308) (XS.istore X549.here hx rfl (hb hby at_309) rfl (l' := #[iv p1, iv p2, .val (.long q3), .second, iv p4, iv (8 : Int32), iv um, rv b478, rv b542, iv (0 : Int32), .unset]) rfl (XS.aload X549.here hx rfl (hb hby at_311) rfl rfl k))) ?_
          obtain ⟨v609, T609, L609, X609, hQ609, st609⟩ := own_callS (y := own_y7) X549 hx hZ hown (ow23 hw) (ow24 hw) (ow25 hw) (ow26 hw) (rm_ofn8 l Z a0 hw hO [] b542 t549 kb549 (w484.toInt8.toInt32) (w492.toInt8.toInt32) (w500.toInt8.toInt32) (w508.toInt8.toInt32) (w516.toInt8.toInt32) (w524.toInt8.toInt32) (w532.toInt8.toInt32) ((((((q3.toUInt64 >>> ((56 : Int32) &&& 0x3f).toInt64.toUInt64).toInt64) &&& (255 : Int64)).toInt32).toUInt32.toUInt16.toUInt32.toInt32).toInt8.toInt32) T549.heap O0 f1549 f3549 f2549 f4549) 0 0 0 (by show _ ≤ 16; omega) (by show _ ≤ 1152; omega) (rfl : T549.heap = T549.heap) (g := (mkF m 313 #[iv p1, iv p2, .val (.long q3), .second, iv p4, iv (8 : Int32), iv um, rv b478, rv b542, iv (0 : Int32), .unset] [(.ref b542)])) rfl (by rw [hml]; rfl) [(.ref b542)] [] (lenOf own_pd_7 rfl) rfl rfl (hb hby at_313)
          rcases hQ609 with hQ609 | hQ609
          · obtain ⟨rfl, Nc612, hp610, Kc611⟩ := hQ609
            refine own_goW st609 ?_
            clear st609 X549
            replace N0 := Fr.app N0 Nc612
            clear Nc612
            exact absurd hp610 (fun h7 => (mt (own_b8 hp501 (by decide) (by decide)).mp hc560) h7.2.2.1)
          · obtain ⟨rfl, Nc615, hp613, Kc614⟩ := hQ609
            refine own_goW st609 ?_
            clear st609 X549
            replace N0 := Fr.app N0 Nc615
            clear Nc615
            show own_GoW p e below s _ _ _ _ (T609.setTop (mkF m 316 #[iv p1, iv p2, .val (.long q3), .second, iv p4, iv (8 : Int32), iv um, rv b478, rv b542, iv (0 : Int32), .unset] [(.ref wx)]))
            refine own_goW (fun _ k => XS.astore X609.here hx rfl (hb hby at_316) rfl rfl (l' := #[iv p1, iv p2, .val (.long q3), .second, iv p4, iv (8 : Int32), iv um, rv b478, rv b542, iv (0 : Int32), rv wx]) rfl (XS.iload X609.here hx rfl (hb hby at_318) rfl (XS.ifYes X609.here hx rfl (pc0 := 320) (pc' := 337) rfl (hb hby at_320) rfl ((if0 _ _).trans (teq (by decide : (0 : Int32) = (0 : Int32))).1) (by decide) (by decide) (XS.aload X609.here hx rfl (hb hby at_337) rfl rfl k)))) ?_
            obtain ⟨T616, X616, e616, st616⟩ := getS2 X609 hx hZ hown (host := "") (Or.inl (ow54 hw)) Via.refl Kc614 (oEx.ext O0) (g := (mkF m 339 #[iv p1, iv p2, .val (.long q3), .second, iv p4, iv (8 : Int32), iv um, rv b478, rv b542, iv (0 : Int32), rv wx] [(.ref wx)])) rfl (hb hby at_339)
            refine own_goW st616 ?_
            clear st616 X609 Kc614
            refine own_goW (fun _ k => Jvm.RoadKit.acmp (g := (mkF m 342 #[iv p1, iv p2, .val (.long q3), .second, iv p4, iv (8 : Int32), iv um, rv b478, rv b542, iv (0 : Int32), rv wx] [(.ref wx), (.ref wx)])) X616 hx rfl rfl rfl (pc0 := 342) (pc' := 345) (same := true) rfl (hb hby at_342) rfl (decide_eq_true rfl) (by decide) (by decide) k) ?_
            show own_GoW p e below s _ _ _ _ (T616.setTop (mkF m 345 #[iv p1, iv p2, .val (.long q3), .second, iv p4, iv (8 : Int32), iv um, rv b478, rv b542, iv (0 : Int32), rv wx] []))
            refine own_goW (fun _ k => XS.iconst X616.here hx rfl (hb hby at_345) (XS.goto X616.here hx rfl (pc0 := 346) (pc' := 350) rfl (hb hby at_346) (by decide) (by decide) k)) ?_
            show own_GoW p e below s _ _ _ _ (T616.setTop (mkF m 350 #[iv p1, iv p2, .val (.long q3), .second, iv p4, iv (8 : Int32), iv um, rv b478, rv b542, iv (0 : Int32), rv wx] [(.int (1 : Int32))]))
            refine own_retNW X616 hS hL hZ hJ hx hlk e616 (t := .boolean) hret (by simp) (hb hby at_350) (by show _ ≤ 16; omega) (by show _ ≤ 1152; omega) ?_
            exact ⟨rfl, N0, K0⟩
      · refine own_goW (fun _ k => XS.icmpYes X549.here hx rfl (pc0 := 255) (pc' := 308) rfl (hb hby at_255) rfl (feq hc558).2 (by decide) (by decide) k) ?_
        show own_GoW p e below s _ _ _ _ (T549.setTop (mkF m 308 #[iv p1, iv p2, .val (.long q3), .second, iv p4, iv (8 : Int32), iv um, rv b478, rv b542, .unset, .unset] []))
        refine own_goW (fun _ k => XS.iconst X549.here hx rfl (hb hby at_308) (XS.istore X549.here hx rfl (hb hby at_309) rfl (l' := #[iv p1, iv p2, .val (.long q3), .second, iv p4, iv (8 : Int32), iv um, rv b478, rv b542, iv (0 : Int32), .unset]) rfl (XS.aload X549.here hx rfl (hb hby at_311) rfl rfl k))) ?_
        obtain ⟨v617, T617, L617, X617, hQ617, st617⟩ := own_callS (y := own_y7) X549 hx hZ hown (ow23 hw) (ow24 hw) (ow25 hw) (ow26 hw) (rm_ofn8 l Z a0 hw hO [] b542 t549 kb549 (w484.toInt8.toInt32) (w492.toInt8.toInt32) (w500.toInt8.toInt32) (w508.toInt8.toInt32) (w516.toInt8.toInt32) (w524.toInt8.toInt32) (w532.toInt8.toInt32) ((((((q3.toUInt64 >>> ((56 : Int32) &&& 0x3f).toInt64.toUInt64).toInt64) &&& (255 : Int64)).toInt32).toUInt32.toUInt16.toUInt32.toInt32).toInt8.toInt32) T549.heap O0 f1549 f3549 f2549 f4549) 0 0 0 (by show _ ≤ 16; omega) (by show _ ≤ 1152; omega) (rfl : T549.heap = T549.heap) (g := (mkF m 313 #[iv p1, iv p2, .val (.long q3), .second, iv p4, iv (8 : Int32), iv um, rv b478, rv b542, iv (0 : Int32), .unset] [(.ref b542)])) rfl (by rw [hml]; rfl) [(.ref b542)] [] (lenOf own_pd_7 rfl) rfl rfl (hb hby at_313)
        rcases hQ617 with hQ617 | hQ617
        · obtain ⟨rfl, Nc620, hp618, Kc619⟩ := hQ617
          refine own_goW st617 ?_
          clear st617 X549
          replace N0 := Fr.app N0 Nc620
          clear Nc620
          exact absurd hp618 (fun h7 => (mt (own_b8 hp493 (by decide) (by decide)).mp hc558) h7.2.1)
        · obtain ⟨rfl, Nc623, hp621, Kc622⟩ := hQ617
          refine own_goW st617 ?_
          clear st617 X549
          replace N0 := Fr.app N0 Nc623
          clear Nc623
          show own_GoW p e below s _ _ _ _ (T617.setTop (mkF m 316 #[iv p1, iv p2, .val (.long q3), .second, iv p4, iv (8 : Int32), iv um, rv b478, rv b542, iv (0 : Int32), .unset] [(.ref wx)]))
          refine own_goW (fun _ k => XS.astore X617.here hx rfl (hb hby at_316) rfl rfl (l' := #[iv p1, iv p2, .val (.long q3), .second, iv p4, iv (8 : Int32), iv um, rv b478, rv b542, iv (0 : Int32), rv wx]) rfl (XS.iload X617.here hx rfl (hb hby at_318) rfl (XS.ifYes X617.here hx rfl (pc0 := 320) (pc' := 337) rfl (hb hby at_320) rfl ((if0 _ _).trans (teq (by decide : (0 : Int32) = (0 : Int32))).1) (by decide) (by decide) (XS.aload X617.here hx rfl (hb hby at_337) rfl rfl k)))) ?_
          obtain ⟨T624, X624, e624, st624⟩ := getS2 X617 hx hZ hown (host := "") (Or.inl (ow54 hw)) Via.refl Kc622 (oEx.ext O0) (g := (mkF m 339 #[iv p1, iv p2, .val (.long q3), .second, iv p4, iv (8 : Int32), iv um, rv b478, rv b542, iv (0 : Int32), rv wx] [(.ref wx)])) rfl (hb hby at_339)
          refine own_goW st624 ?_
          clear st624 X617 Kc622
          refine own_goW (fun _ k => Jvm.RoadKit.acmp (g := (mkF m 342 #[iv p1, iv p2, .val (.long q3), .second, iv p4, iv (8 : Int32), iv um, rv b478, rv b542, iv (0 : Int32), rv wx] [(.ref wx), (.ref wx)])) X624 hx rfl rfl rfl (pc0 := 342) (pc' := 345) (same := true) rfl (hb hby at_342) rfl (decide_eq_true rfl) (by decide) (by decide) k) ?_
          show own_GoW p e below s _ _ _ _ (T624.setTop (mkF m 345 #[iv p1, iv p2, .val (.long q3), .second, iv p4, iv (8 : Int32), iv um, rv b478, rv b542, iv (0 : Int32), rv wx] []))
          refine own_goW (fun _ k => XS.iconst X624.here hx rfl (hb hby at_345) (XS.goto X624.here hx rfl (pc0 := 346) (pc' := 350) rfl (hb hby at_346) (by decide) (by decide) k)) ?_
          show own_GoW p e below s _ _ _ _ (T624.setTop (mkF m 350 #[iv p1, iv p2, .val (.long q3), .second, iv p4, iv (8 : Int32), iv um, rv b478, rv b542, iv (0 : Int32), rv wx] [(.int (1 : Int32))]))
          refine own_retNW X624 hS hL hZ hJ hx hlk e624 (t := .boolean) hret (by simp) (hb hby at_350) (by show _ ≤ 16; omega) (by show _ ≤ 1152; omega) ?_
          exact ⟨rfl, N0, K0⟩
    · refine own_goW (fun _ k => XS.icmpYes X549.here hx rfl (pc0 := 246) (pc' := 308) rfl (hb hby at_246) rfl (feq hc556).2 (by decide) (by decide) k) ?_
      show own_GoW p e below s _ _ _ _ (T549.setTop (mkF m 308 #[iv p1, iv p2, .val (.long q3), .second, iv p4, iv (8 : Int32), iv um, rv b478, rv b542, .unset, .unset] []))
      refine own_goW (fun _ k => XS.iconst X549.here hx rfl (hb hby at_308) (XS.istore X549.here hx rfl (hb hby at_309) rfl (l' := #[iv p1, iv p2, .val (.long q3), .second, iv p4, iv (8 : Int32), iv um, rv b478, rv b542, iv (0 : Int32), .unset]) rfl (XS.aload X549.here hx rfl (hb hby at_311) rfl rfl k))) ?_
      obtain ⟨v625, T625, L625, X625, hQ625, st625⟩ := own_callS (y := own_y7) X549 hx hZ hown (ow23 hw) (ow24 hw) (ow25 hw) (ow26 hw) (rm_ofn8 l Z a0 hw hO [] b542 t549 kb549 (w484.toInt8.toInt32) (w492.toInt8.toInt32) (w500.toInt8.toInt32) (w508.toInt8.toInt32) (w516.toInt8.toInt32) (w524.toInt8.toInt32) (w532.toInt8.toInt32) ((((((q3.toUInt64 >>> ((56 : Int32) &&& 0x3f).toInt64.toUInt64).toInt64) &&& (255 : Int64)).toInt32).toUInt32.toUInt16.toUInt32.toInt32).toInt8.toInt32) T549.heap O0 f1549 f3549 f2549 f4549) 0 0 0 (by show _ ≤ 16; omega) (by show _ ≤ 1152; omega) (rfl : T549.heap = T549.heap) (g := (mkF m 313 #[iv p1, iv p2, .val (.long q3), .second, iv p4, iv (8 : Int32), iv um, rv b478, rv b542, iv (0 : Int32), .unset] [(.ref b542)])) rfl (by rw [hml]; rfl) [(.ref b542)] [] (lenOf own_pd_7 rfl) rfl rfl (hb hby at_313)
      rcases hQ625 with hQ625 | hQ625
      · obtain ⟨rfl, Nc628, hp626, Kc627⟩ := hQ625
        refine own_goW st625 ?_
        clear st625 X549
        replace N0 := Fr.app N0 Nc628
        clear Nc628
        exact absurd hp626 (fun h7 => (mt (own_b8 hp485 (by decide) (by decide)).mp hc556) h7.1)
      · obtain ⟨rfl, Nc631, hp629, Kc630⟩ := hQ625
        refine own_goW st625 ?_
        clear st625 X549
        replace N0 := Fr.app N0 Nc631
        clear Nc631
        show own_GoW p e below s _ _ _ _ (T625.setTop (mkF m 316 #[iv p1, iv p2, .val (.long q3), .second, iv p4, iv (8 : Int32), iv um, rv b478, rv b542, iv (0 : Int32), .unset] [(.ref wx)]))
        refine own_goW (fun _ k => XS.astore X625.here hx rfl (hb hby at_316) rfl rfl (l' := #[iv p1, iv p2, .val (.long q3), .second, iv p4, iv (8 : Int32), iv um, rv b478, rv b542, iv (0 : Int32), rv wx]) rfl (XS.iload X625.here hx rfl (hb hby at_318) rfl (XS.ifYes X625.here hx rfl (pc0 := 320) (pc' := 337) rfl (hb hby at_320) rfl ((if0 _ _).trans (teq (by decide : (0 : Int32) = (0 : Int32))).1) (by decide) (by decide) (XS.aload X625.here hx rfl (hb hby at_337) rfl rfl k)))) ?_
        obtain ⟨T632, X632, e632, st632⟩ := getS2 X625 hx hZ hown (host := "") (Or.inl (ow54 hw)) Via.refl Kc630 (oEx.ext O0) (g := (mkF m 339 #[iv p1, iv p2, .val (.long q3), .second, iv p4, iv (8 : Int32), iv um, rv b478, rv b542, iv (0 : Int32), rv wx] [(.ref wx)])) rfl (hb hby at_339)
        refine own_goW st632 ?_
        clear st632 X625 Kc630
        refine own_goW (fun _ k => Jvm.RoadKit.acmp (g := (mkF m 342 #[iv p1, iv p2, .val (.long q3), .second, iv p4, iv (8 : Int32), iv um, rv b478, rv b542, iv (0 : Int32), rv wx] [(.ref wx), (.ref wx)])) X632 hx rfl rfl rfl (pc0 := 342) (pc' := 345) (same := true) rfl (hb hby at_342) rfl (decide_eq_true rfl) (by decide) (by decide) k) ?_
        show own_GoW p e below s _ _ _ _ (T632.setTop (mkF m 345 #[iv p1, iv p2, .val (.long q3), .second, iv p4, iv (8 : Int32), iv um, rv b478, rv b542, iv (0 : Int32), rv wx] []))
        refine own_goW (fun _ k => XS.iconst X632.here hx rfl (hb hby at_345) (XS.goto X632.here hx rfl (pc0 := 346) (pc' := 350) rfl (hb hby at_346) (by decide) (by decide) k)) ?_
        show own_GoW p e below s _ _ _ _ (T632.setTop (mkF m 350 #[iv p1, iv p2, .val (.long q3), .second, iv p4, iv (8 : Int32), iv um, rv b478, rv b542, iv (0 : Int32), rv wx] [(.int (1 : Int32))]))
        refine own_retNW X632 hS hL hZ hJ hx hlk e632 (t := .boolean) hret (by simp) (hb hby at_350) (by show _ ≤ 16; omega) (by show _ ≤ 1152; omega) ?_
        exact ⟨rfl, N0, K0⟩
  · rw [hn]
    clear hn
    show own_GoW p e below s _ _ _ _ (T.setTop (mkF m 42 #[iv p1, iv p2, .val (.long q3), .second, iv p4, iv (9 : Int32), iv um, .unset, .unset, .unset, .unset] [(.int (9 : Int32))]))
    obtain ⟨T633, h633, k633, X633, e633, E633, A633, st633⟩ := newP (aty := .char) X0 hx hZ (ow1 hw) e0 (g := (mkF m 42 #[iv p1, iv p2, .val (.long q3), .second, iv p4, iv (9 : Int32), iv um, .unset, .unset, .unset, .unset] [(.int (9 : Int32))])) rfl (hb hby at_42) rfl (by decide) (cap := 9) (by decide) (by decide) (by show _ ≤ 16; omega) (by show _ ≤ 1152; omega)
    obtain ⟨b633, g633⟩ : ∃ z, z = hs1.size := ⟨_, rfl⟩
    rw [← g633] at A633 st633
    refine own_goW st633 ?_
    clear st633 X0 e0
    have ge633 := Nat.le_of_eq g633.symm
    have big634 : Z.heap.size ≤ b633 := Nat.le_trans O0.1 ge633
    have sz635 : h0.size ≤ b633 := Nat.le_trans K0.1 ge633
    have sz636 : hs1.size ≤ b633 := Nat.le_trans K1.1 ge633
    replace O0 := own_oldExt O0 E633
    replace K0 := K0.ext E633
    replace K1 := K1.ext E633
    replace hS := own_since hS E633.1
    replace hJ := own_Jext hJ E633
    clear E633
    have f637 : Arv Z h633 b633 k633 .char (9 : Int32) [(.int (0 : Int32)), (.int (0 : Int32)), (.int (0 : Int32)), (.int (0 : Int32)), (.int (0 : Int32)), (.int (0 : Int32)), (.int (0 : Int32)), (.int (0 : Int32)), (.int (0 : Int32))] (.int (0 : Int32)) := (Arv.new A633 (by decide)).pad (pad_rep [] (.int (0 : Int32)) 9)
    refine own_goW (fun _ k => XS.astore X633.here hx rfl (hb hby at_44) rfl rfl (l' := #[iv p1, iv p2, .val (.long q3), .second, iv p4, iv (9 : Int32), iv um, rv b633, .unset, .unset, .unset]) rfl (XS.iload X633.here hx rfl (hb hby at_46) rfl (XS.ifNo X633.here hx rfl (hb hby at_48) rfl ((if0 _ _).trans (tlt (by decide : (0 : Int32) < (9 : Int32))).2.2.2) (XS.aload X633.here hx rfl (hb hby at_51) rfl rfl (XS.iconst X633.here hx rfl (hb hby at_53) k))))) ?_
    show own_GoW p e below s _ _ _ _ (T633.setTop (mkF m 54 #[iv p1, iv p2, .val (.long q3), .second, iv p4, iv (9 : Int32), iv um, rv b633, .unset, .unset, .unset] [(.int (0 : Int32)), (.ref b633)]))
    refine own_goW (fun _ k => XS.iconst X633.here hx rfl (hb hby at_54) (XS.bipush X633.here hx rfl (hb hby at_55) (XS.iload X633.here hx rfl (hb hby at_57) rfl (XS.lloadN X633.here hx rfl (hb hby at_59) rfl k)))) ?_
    obtain ⟨v638, T638, L638, X638, hQ638, st638⟩ := own_callS (y := own_y4) X633 hx hZ hown (ow55 hw) (ow56 hw) (ow57 hw) (ow58 hw) (rm_pick l Z a0 hw hO [] (0 : Int32) (115 : Int32) um q3 h633 O0 (⟨by decide, by decide⟩ : own_C8 (115 : Int32))) 2 0 0 (by show _ ≤ 16; omega) (by show _ ≤ 1152; omega) e633 (g := (mkF m 60 #[iv p1, iv p2, .val (.long q3), .second, iv p4, iv (9 : Int32), iv um, rv b633, .unset, .unset, .unset] [(.long q3), (.int um), (.int (115 : Int32)), (.int (0 : Int32)), (.int (0 : Int32)), (.ref b633)])) rfl (by rw [hml]; rfl) [(.int (0 : Int32)), (.int (115 : Int32)), (.int um), (.long q3)] [(.int (0 : Int32)), (.ref b633)] (lenOf own_pd_8 rfl) rfl rfl (hb hby at_60)
    obtain ⟨w639, rfl, Nc642, hp640, Kc641⟩ := hQ638
    refine own_goW st638 ?_
    clear st638 X633 e633
    replace N0 := Fr.app N0 Nc642
    clear Nc642
    obtain ⟨cl643, Ar643, q643, S643, M643, P643, G643⟩ := id f637
    have hin643 : ¬ ((0 : Int32) < 0 ∨ cl643.slots.size ≤ ((0 : Int32)).toNatClampNeg) := inb_of S643 ⟨by decide, by decide⟩
    obtain ⟨T644, h644, X644, e644, W644, st644⟩ := stC X638 hx hZ Kc641 Ar643 (j := (0 : Int32)) hin643 (g := (mkF m 63 #[iv p1, iv p2, .val (.long q3), .second, iv p4, iv (9 : Int32), iv um, rv b633, .unset, .unset, .unset] [(.int w639), (.int (0 : Int32)), (.ref b633)])) rfl rfl (hb hby at_63)
    refine own_goW st644 ?_
    clear st644 X638 Kc641
    rw [own_nar8 hp640] at W644
    have f645 : Arv Z h644 b633 k633 .char (9 : Int32) [(.int w639), (.int (0 : Int32)), (.int (0 : Int32)), (.int (0 : Int32)), (.int (0 : Int32)), (.int (0 : Int32)), (.int (0 : Int32)), (.int (0 : Int32)), (.int (0 : Int32))] (.int (0 : Int32)) := Arv.set Ar643 q643 S643 M643 P643 G643 (by have q := fits_nar_char w639; rw [own_nar8 hp640] at q; exact q) W644 0 rfl (Nat.le_of_ble_eq_true rfl)
    replace N0 := Fr.snoc X644 N0 big634
    replace hJ := own_Jwr hZ hJ W644 (own_farV f637 (by decide) (ow3 hw))
    clear f637
    replace O0 := own_oldWr O0 W644 big634
    replace K0 := K0.wr W644 (Or.inr sz635)
    replace K1 := K1.wr W644 (Or.inr sz636)
    replace hS := own_since hS (Nat.le_of_eq W644.size.symm)
    clear W644
    clear Ar643 q643 S643 M643 P643 G643 hin643
    show own_GoW p e below s _ _ _ _ (T644.setTop (mkF m 64 #[iv p1, iv p2, .val (.long q3), .second, iv p4, iv (9 : Int32), iv um, rv b633, .unset, .unset, .unset] []))
    refine own_goW (fun _ k => XS.iload X644.here hx rfl (hb hby at_64) rfl (XS.iconst X644.here hx rfl (hb hby at_66) (XS.icmpNo X644.here hx rfl (hb hby at_67) rfl (tlt (by decide : (1 : Int32) < (9 : Int32))).2.2.2 (XS.aload X644.here hx rfl (hb hby at_70) rfl rfl (XS.iconst X644.here hx rfl (hb hby at_72) (XS.iconst X644.here hx rfl (hb hby at_73) k)))))) ?_
    show own_GoW p e below s _ _ _ _ (T644.setTop (mkF m 74 #[iv p1, iv p2, .val (.long q3), .second, iv p4, iv (9 : Int32), iv um, rv b633, .unset, .unset, .unset] [(.int (1 : Int32)), (.int (1 : Int32)), (.ref b633)]))
    refine own_goW (fun _ k => XS.bipush X644.here hx rfl (hb hby at_74) (XS.iload X644.here hx rfl (hb hby at_76) rfl (XS.lloadN X644.here hx rfl (hb hby at_78) rfl k))) ?_
    obtain ⟨v646, T646, L646, X646, hQ646, st646⟩ := own_callS (y := own_y4) X644 hx hZ hown (ow55 hw) (ow56 hw) (ow57 hw) (ow58 hw) (rm_pick l Z a0 hw hO [] (1 : Int32) (104 : Int32) um q3 h644 O0 (⟨by decide, by decide⟩ : own_C8 (104 : Int32))) 2 0 0 (by show _ ≤ 16; omega) (by show _ ≤ 1152; omega) e644 (g := (mkF m 79 #[iv p1, iv p2, .val (.long q3), .second, iv p4, iv (9 : Int32), iv um, rv b633, .unset, .unset, .unset] [(.long q3), (.int um), (.int (104 : Int32)), (.int (1 : Int32)), (.int (1 : Int32)), (.ref b633)])) rfl (by rw [hml]; rfl) [(.int (1 : Int32)), (.int (104 : Int32)), (.int um), (.long q3)] [(.int (1 : Int32)), (.ref b633)] (lenOf own_pd_8 rfl) rfl rfl (hb hby at_79)
    obtain ⟨w647, rfl, Nc650, hp648, Kc649⟩ := hQ646
    refine own_goW st646 ?_
    clear st646 X644 e644
    replace N0 := Fr.app N0 Nc650
    clear Nc650
    obtain ⟨cl651, Ar651, q651, S651, M651, P651, G651⟩ := id f645
    have hin651 : ¬ ((1 : Int32) < 0 ∨ cl651.slots.size ≤ ((1 : Int32)).toNatClampNeg) := inb_of S651 ⟨by decide, by decide⟩
    obtain ⟨T652, h652, X652, e652, W652, st652⟩ := stC X646 hx hZ Kc649 Ar651 (j := (1 : Int32)) hin651 (g := (mkF m 82 #[iv p1, iv p2, .val (.long q3), .second, iv p4, iv (9 : Int32), iv um, rv b633, .unset, .unset, .unset] [(.int w647), (.int (1 : Int32)), (.ref b633)])) rfl rfl (hb hby at_82)
    refine own_goW st652 ?_
    clear st652 X646 Kc649
    rw [own_nar8 hp648] at W652
    have f653 : Arv Z h652 b633 k633 .char (9 : Int32) [(.int w639), (.int w647), (.int (0 : Int32)), (.int (0 : Int32)), (.int (0 : Int32)), (.int (0 : Int32)), (.int (0 : Int32)), (.int (0 : Int32)), (.int (0 : Int32))] (.int (0 : Int32)) := Arv.set Ar651 q651 S651 M651 P651 G651 (by have q := fits_nar_char w647; rw [own_nar8 hp648] at q; exact q) W652 1 rfl (Nat.le_of_ble_eq_true rfl)
    replace N0 := Fr.snoc X652 N0 big634
    replace hJ := own_Jwr hZ hJ W652 (own_farV f645 (by decide) (ow3 hw))
    clear f645
    replace O0 := own_oldWr O0 W652 big634
    replace K0 := K0.wr W652 (Or.inr sz635)
    replace K1 := K1.wr W652 (Or.inr sz636)
    replace hS := own_since hS (Nat.le_of_eq W652.size.symm)
    clear W652
    clear Ar651 q651 S651 M651 P651 G651 hin651
    refine own_goW (fun _ k => XS.iload X652.here hx rfl (hb hby at_83) rfl k) ?_
    show own_GoW p e below s _ _ _ _ (T652.setTop (mkF m 85 #[iv p1, iv p2, .val (.long q3), .second, iv p4, iv (9 : Int32), iv um, rv b633, .unset, .unset, .unset] [(.int (9 : Int32))]))
    refine own_goW (fun _ k => XS.iconst X652.here hx rfl (hb hby at_85) (XS.icmpNo X652.here hx rfl (hb hby at_86) rfl (tlt (by decide : (2 : Int32) < (9 : Int32))).2.2.2 (XS.aload X652.here hx rfl (hb hby at_89) rfl rfl (XS.iconst X652.here hx rfl (hb hby at_91) (XS.iconst X652.here hx rfl (hb hby at_92) (XS.bipush X652.here hx rfl (hb hby at_93) k)))))) ?_
    show own_GoW p e below s _ _ _ _ (T652.setTop (mkF m 95 #[iv p1, iv p2, .val (.long q3), .second, iv p4, iv (9 : Int32), iv um, rv b633, .unset, .unset, .unset] [(.int (97 : Int32)), (.int (2 : Int32)), (.int (2 : Int32)), (.ref b633)]))
    refine own_goW (fun _ k => XS.iload X652.here hx rfl (hb hby at_95) rfl (XS.lloadN X652.here hx rfl (hb hby at_97) rfl k)) ?_
    obtain ⟨v654, T654, L654, X654, hQ654, st654⟩ := own_callS (y := own_y4) X652 hx hZ hown (ow55 hw) (ow56 hw) (ow57 hw) (ow58 hw) (rm_pick l Z a0 hw hO [] (2 : Int32) (97 : Int32) um q3 h652 O0 (⟨by decide, by decide⟩ : own_C8 (97 : Int32))) 2 0 0 (by show _ ≤ 16; omega) (by show _ ≤ 1152; omega) e652 (g := (mkF m 98 #[iv p1, iv p2, .val (.long q3), .second, iv p4, iv (9 : Int32), iv um, rv b633, .unset, .unset, .unset] [(.long q3), (.int um), (.int (97 : Int32)), (.int (2 : Int32)), (.int (2 : Int32)), (.ref b633)])) rfl (by rw [hml]; rfl) [(.int (2 : Int32)), (.int (97 : Int32)), (.int um), (.long q3)] [(.int (2 : Int32)), (.ref b633)] (lenOf own_pd_8 rfl) rfl rfl (hb hby at_98)
    obtain ⟨w655, rfl, Nc658, hp656, Kc657⟩ := hQ654
    refine own_goW st654 ?_
    clear st654 X652 e652
    replace N0 := Fr.app N0 Nc658
    clear Nc658
    obtain ⟨cl659, Ar659, q659, S659, M659, P659, G659⟩ := id f653
    have hin659 : ¬ ((2 : Int32) < 0 ∨ cl659.slots.size ≤ ((2 : Int32)).toNatClampNeg) := inb_of S659 ⟨by decide, by decide⟩
    obtain ⟨T660, h660, X660, e660, W660, st660⟩ := stC X654 hx hZ Kc657 Ar659 (j := (2 : Int32)) hin659 (g := (mkF m 101 #[iv p1, iv p2, .val (.long q3), .second, iv p4, iv (9 : Int32), iv um, rv b633, .unset, .unset, .unset] [(.int w655), (.int (2 : Int32)), (.ref b633)])) rfl rfl (hb hby at_101)
    refine own_goW st660 ?_
    clear st660 X654 Kc657
    rw [own_nar8 hp656] at W660
    have f661 : Arv Z h660 b633 k633 .char (9 : Int32) [(.int w639), (.int w647), (.int w655), (.int (0 : Int32)), (.int (0 : Int32)), (.int (0 : Int32)), (.int (0 : Int32)), (.int (0 : Int32)), (.int (0 : Int32))] (.int (0 : Int32)) := Arv.set Ar659 q659 S659 M659 P659 G659 (by have q := fits_nar_char w655; rw [own_nar8 hp656] at q; exact q) W660 2 rfl (Nat.le_of_ble_eq_true rfl)
    replace N0 := Fr.snoc X660 N0 big634
    replace hJ := own_Jwr hZ hJ W660 (own_farV f653 (by decide) (ow3 hw))
    clear f653
    replace O0 := own_oldWr O0 W660 big634
    replace K0 := K0.wr W660 (Or.inr sz635)
    replace K1 := K1.wr W660 (Or.inr sz636)
    replace hS := own_since hS (Nat.le_of_eq W660.size.symm)
    clear W660
    clear Ar659 q659 S659 M659 P659 G659 hin659
    refine own_goW (fun _ k => XS.iload X660.here hx rfl (hb hby at_102) rfl (XS.iconst X660.here hx rfl (hb hby at_104) k)) ?_
    show own_GoW p e below s _ _ _ _ (T660.setTop (mkF m 105 #[iv p1, iv p2, .val (.long q3), .second, iv p4, iv (9 : Int32), iv um, rv b633, .unset, .unset, .unset] [(.int (3 : Int32)), (.int (9 : Int32))]))
    refine own_goW (fun _ k => XS.icmpNo X660.here hx rfl (hb hby at_105) rfl (tlt (by decide : (3 : Int32) < (9 : Int32))).2.2.2 (XS.aload X660.here hx rfl (hb hby at_108) rfl rfl (XS.iconst X660.here hx rfl (hb hby at_110) (XS.iconst X660.here hx rfl (hb hby at_111) (XS.bipush X660.here hx rfl (hb hby at_112) (XS.iload X660.here hx rfl (hb hby at_114) rfl k)))))) ?_
    show own_GoW p e below s _ _ _ _ (T660.setTop (mkF m 116 #[iv p1, iv p2, .val (.long q3), .second, iv p4, iv (9 : Int32), iv um, rv b633, .unset, .unset, .unset] [(.int um), (.int (114 : Int32)), (.int (3 : Int32)), (.int (3 : Int32)), (.ref b633)]))
    refine own_goW (fun _ k => XS.lloadN X660.here hx rfl (hb hby at_116) rfl k) ?_
    obtain ⟨v662, T662, L662, X662, hQ662, st662⟩ := own_callS (y := own_y4) X660 hx hZ hown (ow55 hw) (ow56 hw) (ow57 hw) (ow58 hw) (rm_pick l Z a0 hw hO [] (3 : Int32) (114 : Int32) um q3 h660 O0 (⟨by decide, by decide⟩ : own_C8 (114 : Int32))) 2 0 0 (by show _ ≤ 16; omega) (by show _ ≤ 1152; omega) e660 (g := (mkF m 117 #[iv p1, iv p2, .val (.long q3), .second, iv p4, iv (9 : Int32), iv um, rv b633, .unset, .unset, .unset] [(.long q3), (.int um), (.int (114 : Int32)), (.int (3 : Int32)), (.int (3 : Int32)), (.ref b633)])) rfl (by rw [hml]; rfl) [(.int (3 : Int32)), (.int (114 : Int32)), (.int um), (.long q3)] [(.int (3 : Int32)), (.ref b633)] (lenOf own_pd_8 rfl) rfl rfl (hb hby at_117)
    obtain ⟨w663, rfl, Nc666, hp664, Kc665⟩ := hQ662
    refine own_goW st662 ?_
    clear st662 X660 e660
    replace N0 := Fr.app N0 Nc666
    clear Nc666
    obtain ⟨cl667, Ar667, q667, S667, M667, P667, G667⟩ := id f661
    have hin667 : ¬ ((3 : Int32) < 0 ∨ cl667.slots.size ≤ ((3 : Int32)).toNatClampNeg) := inb_of S667 ⟨by decide, by decide⟩
    obtain ⟨T668, h668, X668, e668, W668, st668⟩ := stC X662 hx hZ Kc665 Ar667 (j := (3 : Int32)) hin667 (g := (mkF m 120 #[iv p1, iv p2, .val (.long q3), .second, iv p4, iv (9 : Int32), iv um, rv b633, .unset, .unset, .unset] [(.int w663), (.int (3 : Int32)), (.ref b633)])) rfl rfl (hb hby at_120)
    refine own_goW st668 ?_
    clear st668 X662 Kc665
    rw [own_nar8 hp664] at W668
    have f669 : Arv Z h668 b633 k633 .char (9 : Int32) [(.int w639), (.int w647), (.int w655), (.int w663), (.int (0 : Int32)), (.int (0 : Int32)), (.int (0 : Int32)), (.int (0 : Int32)), (.int (0 : Int32))] (.int (0 : Int32)) := Arv.set Ar667 q667 S667 M667 P667 G667 (by have q := fits_nar_char w663; rw [own_nar8 hp664] at q; exact q) W668 3 rfl (Nat.le_of_ble_eq_true rfl)
    replace N0 := Fr.snoc X668 N0 big634
    replace hJ := own_Jwr hZ hJ W668 (own_farV f661 (by decide) (ow3 hw))
    clear f661
    replace O0 := own_oldWr O0 W668 big634
    replace K0 := K0.wr W668 (Or.inr sz635)
    replace K1 := K1.wr W668 (Or.inr sz636)
    replace hS := own_since hS (Nat.le_of_eq W668.size.symm)
    clear W668
    clear Ar667 q667 S667 M667 P667 G667 hin667
    refine own_goW (fun _ k => XS.iload X668.here hx rfl (hb hby at_121) rfl (XS.iconst X668.here hx rfl (hb hby at_123) (XS.icmpNo X668.here hx rfl (hb hby at_124) rfl (tlt (by decide : (4 : Int32) < (9 : Int32))).2.2.2 k))) ?_
    show own_GoW p e below s _ _ _ _ (T668.setTop (mkF m 127 #[iv p1, iv p2, .val (.long q3), .second, iv p4, iv (9 : Int32), iv um, rv b633, .unset, .unset, .unset] []))
    refine own_goW (fun _ k => XS.aload X668.here hx rfl (hb hby at_127) rfl rfl (XS.iconst X668.here hx rfl (hb hby at_129) (XS.iconst X668.here hx rfl (hb hby at_130) (XS.bipush X668.here hx rfl (hb hby at_131) (XS.iload X668.here hx rfl (hb hby at_133) rfl (XS.lloadN X668.here hx rfl (hb hby at_135) rfl k)))))) ?_
    show own_GoW p e below s _ _ _ _ (T668.setTop (mkF m 136 #[iv p1, iv p2, .val (.long q3), .second, iv p4, iv (9 : Int32), iv um, rv b633, .unset, .unset, .unset] [(.long q3), (.int um), (.int (101 : Int32)), (.int (4 : Int32)), (.int (4 : Int32)), (.ref b633)]))
    obtain ⟨v670, T670, L670, X670, hQ670, st670⟩ := own_callS (y := own_y4) X668 hx hZ hown (ow55 hw) (ow56 hw) (ow57 hw) (ow58 hw) (rm_pick l Z a0 hw hO [] (4 : Int32) (101 : Int32) um q3 h668 O0 (⟨by decide, by decide⟩ : own_C8 (101 : Int32))) 2 0 0 (by show _ ≤ 16; omega) (by show _ ≤ 1152; omega) e668 (g := (mkF m 136 #[iv p1, iv p2, .val (.long q3), .second, iv p4, iv (9 : Int32), iv um, rv b633, .unset, .unset, .unset] [(.long q3), (.int um), (.int (101 : Int32)), (.int (4 : Int32)), (.int (4 : Int32)), (.ref b633)])) rfl (by rw [hml]; rfl) [(.int (4 : Int32)), (.int (101 : Int32)), (.int um), (.long q3)] [(.int (4 : Int32)), (.ref b633)] (lenOf own_pd_8 rfl) rfl rfl (hb hby at_136)
    obtain ⟨w671, rfl, Nc674, hp672, Kc673⟩ := hQ670
    refine own_goW st670 ?_
    clear st670 X668 e668
    replace N0 := Fr.app N0 Nc674
    clear Nc674
    obtain ⟨cl675, Ar675, q675, S675, M675, P675, G675⟩ := id f669
    have hin675 : ¬ ((4 : Int32) < 0 ∨ cl675.slots.size ≤ ((4 : Int32)).toNatClampNeg) := inb_of S675 ⟨by decide, by decide⟩
    obtain ⟨T676, h676, X676, e676, W676, st676⟩ := stC X670 hx hZ Kc673 Ar675 (j := (4 : Int32)) hin675 (g := (mkF m 139 #[iv p1, iv p2, .val (.long q3), .second, iv p4, iv (9 : Int32), iv um, rv b633, .unset, .unset, .unset] [(.int w671), (.int (4 : Int32)), (.ref b633)])) rfl rfl (hb hby at_139)
    refine own_goW st676 ?_
    clear st676 X670 Kc673
    rw [own_nar8 hp672] at W676
    have f677 : Arv Z h676 b633 k633 .char (9 : Int32) [(.int w639), (.int w647), (.int w655), (.int w663), (.int w671), (.int (0 : Int32)), (.int (0 : Int32)), (.int (0 : Int32)), (.int (0 : Int32))] (.int (0 : Int32)) := Arv.set Ar675 q675 S675 M675 P675 G675 (by have q := fits_nar_char w671; rw [own_nar8 hp672] at q; exact q) W676 4 rfl (Nat.le_of_ble_eq_true rfl)
    replace N0 := Fr.snoc X676 N0 big634
    replace hJ := own_Jwr hZ hJ W676 (own_farV f669 (by decide) (ow3 hw))
    clear f669
    replace O0 := own_oldWr O0 W676 big634
    replace K0 := K0.wr W676 (Or.inr sz635)
    replace K1 := K1.wr W676 (Or.inr sz636)
    replace hS := own_since hS (Nat.le_of_eq W676.size.symm)
    clear W676
    clear Ar675 q675 S675 M675 P675 G675 hin675
    refine own_goW (fun _ k => XS.iload X676.here hx rfl (hb hby at_140) rfl (XS.iconst X676.here hx rfl (hb hby at_142) (XS.icmpNo X676.here hx rfl (hb hby at_143) rfl (tlt (by decide : (5 : Int32) < (9 : Int32))).2.2.2 (XS.aload X676.here hx rfl (hb hby at_146) rfl rfl k)))) ?_
    show own_GoW p e below s _ _ _ _ (T676.setTop (mkF m 148 #[iv p1, iv p2, .val (.long q3), .second, iv p4, iv (9 : Int32), iv um, rv b633, .unset, .unset, .unset] [(.ref b633)]))
    refine own_goW (fun _ k => XS.iconst X676.here hx rfl (hb hby at_148) (XS.iconst X676.here hx rfl (hb hby at_149) (XS.bipush X676.here hx rfl (hb hby at_150) (XS.iload X676.here hx rfl (hb hby at_152) rfl (XS.lloadN X676.here hx rfl (hb hby at_154) rfl k))))) ?_
    obtain ⟨v678, T678, L678, X678, hQ678, st678⟩ := own_callS (y := own_y4) X676 hx hZ hown (ow55 hw) (ow56 hw) (ow57 hw) (ow58 hw) (rm_pick l Z a0 hw hO [] (5 : Int32) (100 : Int32) um q3 h676 O0 (⟨by decide, by decide⟩ : own_C8 (100 : Int32))) 2 0 0 (by show _ ≤ 16; omega) (by show _ ≤ 1152; omega) e676 (g := (mkF m 155 #[iv p1, iv p2, .val (.long q3), .second, iv p4, iv (9 : Int32), iv um, rv b633, .unset, .unset, .unset] [(.long q3), (.int um), (.int (100 : Int32)), (.int (5 : Int32)), (.int (5 : Int32)), (.ref b633)])) rfl (by rw [hml]; rfl) [(.int (5 : Int32)), (.int (100 : Int32)), (.int um), (.long q3)] [(.int (5 : Int32)), (.ref b633)] (lenOf own_pd_8 rfl) rfl rfl (hb hby at_155)
    obtain ⟨w679, rfl, Nc682, hp680, Kc681⟩ := hQ678
    refine own_goW st678 ?_
    clear st678 X676 e676
    replace N0 := Fr.app N0 Nc682
    clear Nc682
    show own_GoW p e below s _ _ _ _ (T678.setTop (mkF m 158 #[iv p1, iv p2, .val (.long q3), .second, iv p4, iv (9 : Int32), iv um, rv b633, .unset, .unset, .unset] [(.int w679), (.int (5 : Int32)), (.ref b633)]))
    obtain ⟨cl683, Ar683, q683, S683, M683, P683, G683⟩ := id f677
    have hin683 : ¬ ((5 : Int32) < 0 ∨ cl683.slots.size ≤ ((5 : Int32)).toNatClampNeg) := inb_of S683 ⟨by decide, by decide⟩
    obtain ⟨T684, h684, X684, e684, W684, st684⟩ := stC X678 hx hZ Kc681 Ar683 (j := (5 : Int32)) hin683 (g := (mkF m 158 #[iv p1, iv p2, .val (.long q3), .second, iv p4, iv (9 : Int32), iv um, rv b633, .unset, .unset, .unset] [(.int w679), (.int (5 : Int32)), (.ref b633)])) rfl rfl (hb hby at_158)
    refine own_goW st684 ?_
    clear st684 X678 Kc681
    rw [own_nar8 hp680] at W684
    have f685 : Arv Z h684 b633 k633 .char (9 : Int32) [(.int w639), (.int w647), (.int w655), (.int w663), (.int w671), (.int w679), (.int (0 : Int32)), (.int (0 : Int32)), (.int (0 : Int32))] (.int (0 : Int32)) := Arv.set Ar683 q683 S683 M683 P683 G683 (by have q := fits_nar_char w679; rw [own_nar8 hp680] at q; exact q) W684 5 rfl (Nat.le_of_ble_eq_true rfl)
    replace N0 := Fr.snoc X684 N0 big634
    replace hJ := own_Jwr hZ hJ W684 (own_farV f677 (by decide) (ow3 hw))
    clear f677
    replace O0 := own_oldWr O0 W684 big634
    replace K0 := K0.wr W684 (Or.inr sz635)
    replace K1 := K1.wr W684 (Or.inr sz636)
    replace hS := own_since hS (Nat.le_of_eq W684.size.symm)
    clear W684
    clear Ar683 q683 S683 M683 P683 G683 hin683
    refine own_goW (fun _ k => XS.iload X684.here hx rfl (hb hby at_159) rfl (XS.bipush X684.here hx rfl (hb hby at_161) (XS.icmpNo X684.here hx rfl (hb hby at_163) rfl (tlt (by decide : (6 : Int32) < (9 : Int32))).2.2.2 (XS.aload X684.here hx rfl (hb hby at_166) rfl rfl (XS.bipush X684.here hx rfl (hb hby at_168) k))))) ?_
    show own_GoW p e below s _ _ _ _ (T684.setTop (mkF m 170 #[iv p1, iv p2, .val (.long q3), .second, iv p4, iv (9 : Int32), iv um, rv b633, .unset, .unset, .unset] [(.int (6 : Int32)), (.ref b633)]))
    refine own_goW (fun _ k => XS.bipush X684.here hx rfl (hb hby at_170) (XS.bipush X684.here hx rfl (hb hby at_172) (XS.iload X684.here hx rfl (hb hby at_174) rfl (XS.lloadN X684.here hx rfl (hb hby at_176) rfl k)))) ?_
    obtain ⟨v686, T686, L686, X686, hQ686, st686⟩ := own_callS (y := own_y4) X684 hx hZ hown (ow55 hw) (ow56 hw) (ow57 hw) (ow58 hw) (rm_pick l Z a0 hw hO [] (6 : Int32) (45 : Int32) um q3 h684 O0 (⟨by decide, by decide⟩ : own_C8 (45 : Int32))) 2 0 0 (by show _ ≤ 16; omega) (by show _ ≤ 1152; omega) e684 (g := (mkF m 177 #[iv p1, iv p2, .val (.long q3), .second, iv p4, iv (9 : Int32), iv um, rv b633, .unset, .unset, .unset] [(.long q3), (.int um), (.int (45 : Int32)), (.int (6 : Int32)), (.int (6 : Int32)), (.ref b633)])) rfl (by rw [hml]; rfl) [(.int (6 : Int32)), (.int (45 : Int32)), (.int um), (.long q3)] [(.int (6 : Int32)), (.ref b633)] (lenOf own_pd_8 rfl) rfl rfl (hb hby at_177)
    obtain ⟨w687, rfl, Nc690, hp688, Kc689⟩ := hQ686
    refine own_goW st686 ?_
    clear st686 X684 e684
    replace N0 := Fr.app N0 Nc690
    clear Nc690
    obtain ⟨cl691, Ar691, q691, S691, M691, P691, G691⟩ := id f685
    have hin691 : ¬ ((6 : Int32) < 0 ∨ cl691.slots.size ≤ ((6 : Int32)).toNatClampNeg) := inb_of S691 ⟨by decide, by decide⟩
    obtain ⟨T692, h692, X692, e692, W692, st692⟩ := stC X686 hx hZ Kc689 Ar691 (j := (6 : Int32)) hin691 (g := (mkF m 180 #[iv p1, iv p2, .val (.long q3), .second, iv p4, iv (9 : Int32), iv um, rv b633, .unset, .unset, .unset] [(.int w687), (.int (6 : Int32)), (.ref b633)])) rfl rfl (hb hby at_180)
    refine own_goW st692 ?_
    clear st692 X686 Kc689
    rw [own_nar8 hp688] at W692
    have f693 : Arv Z h692 b633 k633 .char (9 : Int32) [(.int w639), (.int w647), (.int w655), (.int w663), (.int w671), (.int w679), (.int w687), (.int (0 : Int32)), (.int (0 : Int32))] (.int (0 : Int32)) := Arv.set Ar691 q691 S691 M691 P691 G691 (by have q := fits_nar_char w687; rw [own_nar8 hp688] at q; exact q) W692 6 rfl (Nat.le_of_ble_eq_true rfl)
    replace N0 := Fr.snoc X692 N0 big634
    replace hJ := own_Jwr hZ hJ W692 (own_farV f685 (by decide) (ow3 hw))
    clear f685
    replace O0 := own_oldWr O0 W692 big634
    replace K0 := K0.wr W692 (Or.inr sz635)
    replace K1 := K1.wr W692 (Or.inr sz636)
    replace hS := own_since hS (Nat.le_of_eq W692.size.symm)
    clear W692
    clear Ar691 q691 S691 M691 P691 G691 hin691
    show own_GoW p e below s _ _ _ _ (T692.setTop (mkF m 181 #[iv p1, iv p2, .val (.long q3), .second, iv p4, iv (9 : Int32), iv um, rv b633, .unset, .unset, .unset] []))
    refine own_goW (fun _ k => XS.iload X692.here hx rfl (hb hby at_181) rfl (XS.bipush X692.here hx rfl (hb hby at_183) (XS.icmpNo X692.here hx rfl (hb hby at_185) rfl (tlt (by decide : (7 : Int32) < (9 : Int32))).2.2.2 (XS.aload X692.here hx rfl (hb hby at_188) rfl rfl (XS.bipush X692.here hx rfl (hb hby at_190) (XS.lloadN X692.here hx rfl (hb hby at_192) rfl k)))))) ?_
    show own_GoW p e below s _ _ _ _ (T692.setTop (mkF m 193 #[iv p1, iv p2, .val (.long q3), .second, iv p4, iv (9 : Int32), iv um, rv b633, .unset, .unset, .unset] [(.long q3), (.int (7 : Int32)), (.ref b633)]))
    refine own_goW (fun _ k => XS.bipush X692.here hx rfl (hb hby at_193) (XS.lushr X692.here hx rfl (hb hby at_195) rfl k)) ?_
    refine own_goW (X692.ldc2Long hx hown (mvT hZ (ow59 hw)) (g := (mkF m 196 #[iv p1, iv p2, .val (.long q3), .second, iv p4, iv (9 : Int32), iv um, rv b633, .unset, .unset, .unset] [(.long ((q3.toUInt64 >>> ((56 : Int32) &&& 0x3f).toInt64.toUInt64).toInt64)), (.int (7 : Int32)), (.ref b633)])) rfl (hb hby at_196)) ?_
    refine own_goW (fun _ k => XS.land X692.here hx rfl (hb hby at_199) rfl (XS.l2i X692.here hx rfl (hb hby at_200) rfl (XS.i2c X692.here hx rfl (hb hby at_201) rfl k))) ?_
    show own_GoW p e below s _ _ _ _ (T692.setTop (mkF m 202 #[iv p1, iv p2, .val (.long q3), .second, iv p4, iv (9 : Int32), iv um, rv b633, .unset, .unset, .unset] [(.int (((((q3.toUInt64 >>> ((56 : Int32) &&& 0x3f).toInt64.toUInt64).toInt64) &&& (255 : Int64)).toInt32).toUInt32.toUInt16.toUInt32.toInt32)), (.int (7 : Int32)), (.ref b633)]))
    obtain ⟨cl694, Ar694, q694, S694, M694, P694, G694⟩ := id f693
    have hin694 : ¬ ((7 : Int32) < 0 ∨ cl694.slots.size ≤ ((7 : Int32)).toNatClampNeg) := inb_of S694 ⟨by decide, by decide⟩
    obtain ⟨T695, h695, X695, e695, W695, st695⟩ := stC X692 hx hZ e692 Ar694 (j := (7 : Int32)) hin694 (g := (mkF m 202 #[iv p1, iv p2, .val (.long q3), .second, iv p4, iv (9 : Int32), iv um, rv b633, .unset, .unset, .unset] [(.int (((((q3.toUInt64 >>> ((56 : Int32) &&& 0x3f).toInt64.toUInt64).toInt64) &&& (255 : Int64)).toInt32).toUInt32.toUInt16.toUInt32.toInt32)), (.int (7 : Int32)), (.ref b633)])) rfl rfl (hb hby at_202)
    refine own_goW st695 ?_
    clear st695 X692 e692
    rw [own_nar8 (own_c8l ((q3.toUInt64 >>> ((56 : Int32) &&& 0x3f).toInt64.toUInt64).toInt64))] at W695
    have f696 : Arv Z h695 b633 k633 .char (9 : Int32) [(.int w639), (.int w647), (.int w655), (.int w663), (.int w671), (.int w679), (.int w687), (.int (((((q3.toUInt64 >>> ((56 : Int32) &&& 0x3f).toInt64.toUInt64).toInt64) &&& (255 : Int64)).toInt32).toUInt32.toUInt16.toUInt32.toInt32)), (.int (0 : Int32))] (.int (0 : Int32)) := Arv.set Ar694 q694 S694 M694 P694 G694 (by have q := fits_nar_char (((((q3.toUInt64 >>> ((56 : Int32) &&& 0x3f).toInt64.toUInt64).toInt64) &&& (255 : Int64)).toInt32).toUInt32.toUInt16.toUInt32.toInt32); rw [own_nar8 (own_c8l ((q3.toUInt64 >>> ((56 : Int32) &&& 0x3f).toInt64.toUInt64).toInt64))] at q; exact q) W695 7 rfl (Nat.le_of_ble_eq_true rfl)
    replace N0 := Fr.snoc X695 N0 big634
    replace hJ := own_Jwr hZ hJ W695 (own_farV f693 (by decide) (ow3 hw))
    clear f693
    replace O0 := own_oldWr O0 W695 big634
    replace K0 := K0.wr W695 (Or.inr sz635)
    replace K1 := K1.wr W695 (Or.inr sz636)
    replace hS := own_since hS (Nat.le_of_eq W695.size.symm)
    clear W695
    clear Ar694 q694 S694 M694 P694 G694 hin694
    refine own_goW (fun _ k => XS.iload X695.here hx rfl (hb hby at_203) rfl (XS.bipush X695.here hx rfl (hb hby at_205) (XS.icmpNo X695.here hx rfl (hb hby at_207) rfl (tlt (by decide : (8 : Int32) < (9 : Int32))).2.2.2 (XS.aload X695.here hx rfl (hb hby at_210) rfl rfl (XS.bipush X695.here hx rfl (hb hby at_212) k))))) ?_
    show own_GoW p e below s _ _ _ _ (T695.setTop (mkF m 214 #[iv p1, iv p2, .val (.long q3), .second, iv p4, iv (9 : Int32), iv um, rv b633, .unset, .unset, .unset] [(.int (8 : Int32)), (.ref b633)]))
    refine own_goW (fun _ k => XS.iload X695.here hx rfl (hb hby at_214) rfl (XS.sipush X695.here hx rfl (hb hby at_216) (XS.iand X695.here hx rfl (hb hby at_219) rfl (XS.i2c X695.here hx rfl (hb hby at_220) rfl k)))) ?_
    show own_GoW p e below s _ _ _ _ (T695.setTop (mkF m 221 #[iv p1, iv p2, .val (.long q3), .second, iv p4, iv (9 : Int32), iv um, rv b633, .unset, .unset, .unset] [(.int ((p4 &&& (255 : Int32)).toUInt32.toUInt16.toUInt32.toInt32)), (.int (8 : Int32)), (.ref b633)]))
    rw [i2c_mask p4]
    obtain ⟨cl697, Ar697, q697, S697, M697, P697, G697⟩ := id f696
    have hin697 : ¬ ((8 : Int32) < 0 ∨ cl697.slots.size ≤ ((8 : Int32)).toNatClampNeg) := inb_of S697 ⟨by decide, by decide⟩
    obtain ⟨T698, h698, X698, e698, W698, st698⟩ := stC X695 hx hZ e695 Ar697 (j := (8 : Int32)) hin697 (g := (mkF m 221 #[iv p1, iv p2, .val (.long q3), .second, iv p4, iv (9 : Int32), iv um, rv b633, .unset, .unset, .unset] [(.int (p4 &&& (255 : Int32))), (.int (8 : Int32)), (.ref b633)])) rfl rfl (hb hby at_221)
    refine own_goW st698 ?_
    clear st698 X695 e695
    rw [own_narM p4] at W698
    have f699 : Arv Z h698 b633 k633 .char (9 : Int32) [(.int w639), (.int w647), (.int w655), (.int w663), (.int w671), (.int w679), (.int w687), (.int (((((q3.toUInt64 >>> ((56 : Int32) &&& 0x3f).toInt64.toUInt64).toInt64) &&& (255 : Int64)).toInt32).toUInt32.toUInt16.toUInt32.toInt32)), (.int (p4 &&& (255 : Int32)))] (.int (0 : Int32)) := Arv.set Ar697 q697 S697 M697 P697 G697 (by have q := fits_nar_char (p4 &&& (255 : Int32)); rw [own_narM p4] at q; exact q) W698 8 rfl (Nat.le_of_ble_eq_true rfl)
    replace N0 := Fr.snoc X698 N0 big634
    replace hJ := own_Jwr hZ hJ W698 (own_farV f696 (by decide) (ow3 hw))
    clear f696
    replace O0 := own_oldWr O0 W698 big634
    replace K0 := K0.wr W698 (Or.inr sz635)
    replace K1 := K1.wr W698 (Or.inr sz636)
    replace hS := own_since hS (Nat.le_of_eq W698.size.symm)
    clear W698
    clear Ar697 q697 S697 M697 P697 G697 hin697
    obtain ⟨T700, h700, X700, e700, E700, A700, D700, -, st700⟩ := newO X698 hx hZ hown (ow2 hw) (ow3 hw) (ow4 hw) e698 (g := (mkF m 222 #[iv p1, iv p2, .val (.long q3), .second, iv p4, iv (9 : Int32), iv um, rv b633, .unset, .unset, .unset] [])) rfl (hb hby at_222) (by show _ ≤ 16; omega) (by show _ ≤ 1152; omega)
    obtain ⟨b700, g700⟩ : ∃ z, z = h698.size := ⟨_, rfl⟩
    rw [← g700] at A700 D700 st700
    refine own_goW st700 ?_
    clear st700 X698 e698
    have ge700 := Nat.le_of_eq g700.symm
    have ne701 : b633 ≠ b700 := Nat.ne_of_lt (Nat.lt_of_lt_of_le f699.lt ge700)
    have big702 : Z.heap.size ≤ b700 := Nat.le_trans O0.1 ge700
    have sz703 : h0.size ≤ b700 := Nat.le_trans K0.1 ge700
    have sz704 : hs1.size ≤ b700 := Nat.le_trans K1.1 ge700
    replace f699 := f699.ext E700
    replace O0 := own_oldExt O0 E700
    replace K0 := K0.ext E700
    replace K1 := K1.ext E700
    replace hS := own_since hS E700.1
    replace hJ := own_Jext hJ E700
    clear E700
    have f705 : Fld Z h700 b700 "java/lang/String" "value" "[B" .null := D700 (Or.inr (ow17 hw)) (ty := (.array .byte)) own_fd0
    have f706 : Fld Z h700 b700 "java/lang/String" "coder" "B" (.int (0 : Int32)) := D700 (Or.inr (ow18 hw)) (ty := .byte) own_fd1
    show own_GoW p e below s _ _ _ _ (T700.setTop (mkF m 225 #[iv p1, iv p2, .val (.long q3), .second, iv p4, iv (9 : Int32), iv um, rv b633, .unset, .unset, .unset] [(.ref b700)]))
    refine own_goW (fun _ k => XS.dup X700.here hx rfl (hb hby at_225) rfl rfl (XS.aload X700.here hx rfl (hb hby at_226) rfl rfl k)) ?_
    obtain ⟨v707, T707, L707, X707, hQ707, st707⟩ := own_callIB (y := own_y1) X700 hx hZ hown (ow5 hw) (ow6 hw) (ow4 hw) (ow7 hw) 1 1 9 (StrChars.Road.backV (W := 1) hZ (own_sw1 hw) (kI := 4) (ow3 hw) (cs := ([w639, w647, w655, w663, w671, w679, w687, (((((q3.toUInt64 >>> ((56 : Int32) &&& 0x3f).toInt64.toUInt64).toInt64) &&& (255 : Int64)).toInt32).toUInt32.toUInt16.toUInt32.toInt32), (p4 &&& (255 : Int32))] : List Int32)) (bs := ([w639, w647, w655, w663, w671, w679, w687, (((((q3.toUInt64 >>> ((56 : Int32) &&& 0x3f).toInt64.toUInt64).toInt64) &&& (255 : Int64)).toInt32).toUInt32.toUInt16.toUInt32.toInt32), (p4 &&& (255 : Int32))] : List Int32).map (fun c => c.toInt8.toInt32)) (n := 9) (n0 := Z.heap.size) big702 (Nat.le_trans O0.1 (Nat.le_refl _)) A700 f705 f706 f699 (oCS.ext O0) oCz rfl rfl (by decide) (by decide) (own_cC hp640 (own_cC hp648 (own_cC hp656 (own_cC hp664 (own_cC hp672 (own_cC hp680 (own_cC hp688 (own_cC (own_c8l ((q3.toUInt64 >>> ((56 : Int32) &&& 0x3f).toInt64.toUInt64).toInt64)) (own_cC (own_c8m p4) own_cN))))))))) rfl (by decide) (by decide)) rfl (by show _ ≤ 16; omega) (by show _ ≤ 1152; omega) e700 (g := (mkF m 228 #[iv p1, iv p2, .val (.long q3), .second, iv p4, iv (9 : Int32), iv um, rv b633, .unset, .unset, .unset] [(.ref b633), (.ref b700), (.ref b700)])) rfl (by rw [hml]; rfl) b700 [(.ref b633)] [(.ref b700)] (lenOf own_pd_6 rfl) rfl rfl (hb hby at_228)
    obtain ⟨rfl, Nc707, Kc707, f1707, f2707, t707, kb707, tb707, ts707, tn707, f3707, f4707⟩ := hQ707
    refine own_goW st707 ?_
    clear st707 X700 e700
    replace N0 := Fr.app N0 Nc707
    clear Nc707
    replace hS := own_since hS Kc707.1
    have ne708 : b633 ≠ t707 := Nat.ne_of_lt (Nat.lt_of_lt_of_le f699.lt ts707)
    have ne709 : b700 ≠ t707 := Nat.ne_of_lt (Nat.lt_of_lt_of_le A700.lt ts707)
    have big710 : Z.heap.size ≤ t707 := Nat.le_trans O0.1 ts707
    have sz711 : h0.size ≤ t707 := Nat.le_trans K0.1 ts707
    have sz712 : hs1.size ≤ t707 := Nat.le_trans K1.1 ts707
    have hAp_b700 := own_apart hZ hJ f705
    replace hJ := own_JkeepS hZ hJ Kc707 hAp_b700 A700 (ow3 hw)
    replace f699 := f699.keep Kc707 (ninS ne701 nin0)
    replace A700 := A700.keep Kc707
    clear f705
    clear f706
    replace O0 := own_oldKeep O0 Kc707 (allS big702 all0)
    replace K0 := K0.trans Kc707 (allS (Or.inr sz703) all0)
    replace K1 := K1.trans Kc707 (allS (Or.inr sz704) all0)
    clear Kc707
    replace f4707 : Arv Z T707.heap t707 kb707 .byte (9 : Int32) [(.int (w639.toInt8.toInt32)), (.int (w647.toInt8.toInt32)), (.int (w655.toInt8.toInt32)), (.int (w663.toInt8.toInt32)), (.int (w671.toInt8.toInt32)), (.int (w679.toInt8.toInt32)), (.int (w687.toInt8.toInt32)), (.int ((((((q3.toUInt64 >>> ((56 : Int32) &&& 0x3f).toInt64.toUInt64).toInt64) &&& (255 : Int64)).toInt32).toUInt32.toUInt16.toUInt32.toInt32).toInt8.toInt32)), (.int ((p4 &&& (255 : Int32)).toInt8.toInt32))] (.int (0 : Int32)) := f4707
    refine own_goW (fun _ k => XS.astore X707.here hx rfl (hb hby at_231) rfl rfl (l' := #[iv p1, iv p2, .val (.long q3), .second, iv p4, iv (9 : Int32), iv um, rv b633, rv b700, .unset, .unset]) rfl (XS.iload X707.here hx rfl (hb hby at_233) rfl (XS.bipush X707.here hx rfl (hb hby at_235) k))) ?_
    show own_GoW p e below s _ _ _ _ (T707.setTop (mkF m 237 #[iv p1, iv p2, .val (.long q3), .second, iv p4, iv (9 : Int32), iv um, rv b633, rv b700, .unset, .unset] [(.int (7 : Int32)), (.int (9 : Int32))]))
    refine own_goW (fun _ k => XS.icmpNo X707.here hx rfl (hb hby at_237) rfl (flt (by decide : ¬ ((9 : Int32) < (7 : Int32)))).1 (XS.aload X707.here hx rfl (hb hby at_240) rfl rfl (XS.iconst X707.here hx rfl (hb hby at_242) k))) ?_
    obtain ⟨cl713, Ar713, -, S713, -, P713, -⟩ := id f699
    have hin713 : ¬ ((0 : Int32) < 0 ∨ cl713.slots.size ≤ ((0 : Int32)).toNatClampNeg) := inb_of S713 ⟨by decide, by decide⟩
    refine own_goW (X707.caload hx (j := (0 : Int32)) (v := (.int w639)) (by rw [(rfl : T707.heap = T707.heap)]; exact Ar713.1) (State.isArrayOf_alike hZ.alike Ar713.2.1) Ar713.2.2 hin713 (P713.at hin713 rfl) (g := (mkF m 243 #[iv p1, iv p2, .val (.long q3), .second, iv p4, iv (9 : Int32), iv um, rv b633, rv b700, .unset, .unset] [(.int (0 : Int32)), (.ref b633)])) rfl rfl (hb hby at_243)) ?_
    refine own_goW (fun _ k => XS.bipush X707.here hx rfl (hb hby at_244) k) ?_
    by_cases hc714 : w639 = (115 : Int32)
    · refine own_goW (fun _ k => XS.icmpNo X707.here hx rfl (hb hby at_246) rfl (teq hc714).2 k) ?_
      show own_GoW p e below s _ _ _ _ (T707.setTop (mkF m 249 #[iv p1, iv p2, .val (.long q3), .second, iv p4, iv (9 : Int32), iv um, rv b633, rv b700, .unset, .unset] []))
      refine own_goW (fun _ k => XS.aload X707.here hx rfl (hb hby at_249) rfl rfl (XS.iconst X707.here hx rfl (hb hby at_251) k)) ?_
      obtain ⟨cl715, Ar715, -, S715, -, P715, -⟩ := id f699
      have hin715 : ¬ ((1 : Int32) < 0 ∨ cl715.slots.size ≤ ((1 : Int32)).toNatClampNeg) := inb_of S715 ⟨by decide, by decide⟩
      refine own_goW (X707.caload hx (j := (1 : Int32)) (v := (.int w647)) (by rw [(rfl : T707.heap = T707.heap)]; exact Ar715.1) (State.isArrayOf_alike hZ.alike Ar715.2.1) Ar715.2.2 hin715 (P715.at hin715 rfl) (g := (mkF m 252 #[iv p1, iv p2, .val (.long q3), .second, iv p4, iv (9 : Int32), iv um, rv b633, rv b700, .unset, .unset] [(.int (1 : Int32)), (.ref b633)])) rfl rfl (hb hby at_252)) ?_
      refine own_goW (fun _ k => XS.bipush X707.here hx rfl (hb hby at_253) k) ?_
      by_cases hc716 : w647 = (104 : Int32)
      · refine own_goW (fun _ k => XS.icmpNo X707.here hx rfl (hb hby at_255) rfl (teq hc716).2 k) ?_
        show own_GoW p e below s _ _ _ _ (T707.setTop (mkF m 258 #[iv p1, iv p2, .val (.long q3), .second, iv p4, iv (9 : Int32), iv um, rv b633, rv b700, .unset, .unset] []))
        refine own_goW (fun _ k => XS.aload X707.here hx rfl (hb hby at_258) rfl rfl (XS.iconst X707.here hx rfl (hb hby at_260) k)) ?_
        obtain ⟨cl717, Ar717, -, S717, -, P717, -⟩ := id f699
        have hin717 : ¬ ((2 : Int32) < 0 ∨ cl717.slots.size ≤ ((2 : Int32)).toNatClampNeg) := inb_of S717 ⟨by decide, by decide⟩
        refine own_goW (X707.caload hx (j := (2 : Int32)) (v := (.int w655)) (by rw [(rfl : T707.heap = T707.heap)]; exact Ar717.1) (State.isArrayOf_alike hZ.alike Ar717.2.1) Ar717.2.2 hin717 (P717.at hin717 rfl) (g := (mkF m 261 #[iv p1, iv p2, .val (.long q3), .second, iv p4, iv (9 : Int32), iv um, rv b633, rv b700, .unset, .unset] [(.int (2 : Int32)), (.ref b633)])) rfl rfl (hb hby at_261)) ?_
        refine own_goW (fun _ k => XS.bipush X707.here hx rfl (hb hby at_262) k) ?_
        by_cases hc718 : w655 = (97 : Int32)
        · refine own_goW (fun _ k => XS.icmpNo X707.here hx rfl (hb hby at_264) rfl (teq hc718).2 k) ?_
          show own_GoW p e below s _ _ _ _ (T707.setTop (mkF m 267 #[iv p1, iv p2, .val (.long q3), .second, iv p4, iv (9 : Int32), iv um, rv b633, rv b700, .unset, .unset] []))
          refine own_goW (fun _ k => XS.aload X707.here hx rfl (hb hby at_267) rfl rfl (XS.iconst X707.here hx rfl (hb hby at_269) k)) ?_
          obtain ⟨cl719, Ar719, -, S719, -, P719, -⟩ := id f699
          have hin719 : ¬ ((3 : Int32) < 0 ∨ cl719.slots.size ≤ ((3 : Int32)).toNatClampNeg) := inb_of S719 ⟨by decide, by decide⟩
          refine own_goW (X707.caload hx (j := (3 : Int32)) (v := (.int w663)) (by rw [(rfl : T707.heap = T707.heap)]; exact Ar719.1) (State.isArrayOf_alike hZ.alike Ar719.2.1) Ar719.2.2 hin719 (P719.at hin719 rfl) (g := (mkF m 270 #[iv p1, iv p2, .val (.long q3), .second, iv p4, iv (9 : Int32), iv um, rv b633, rv b700, .unset, .unset] [(.int (3 : Int32)), (.ref b633)])) rfl rfl (hb hby at_270)) ?_
          refine own_goW (fun _ k => XS.bipush X707.here hx rfl (hb hby at_271) k) ?_
          by_cases hc720 : w663 = (114 : Int32)
          · refine own_goW (fun _ k => XS.icmpNo X707.here hx rfl (hb hby at_273) rfl (teq hc720).2 k) ?_
            show own_GoW p e below s _ _ _ _ (T707.setTop (mkF m 276 #[iv p1, iv p2, .val (.long q3), .second, iv p4, iv (9 : Int32), iv um, rv b633, rv b700, .unset, .unset] []))
            refine own_goW (fun _ k => XS.aload X707.here hx rfl (hb hby at_276) rfl rfl (XS.iconst X707.here hx rfl (hb hby at_278) k)) ?_
            obtain ⟨cl721, Ar721, -, S721, -, P721, -⟩ := id f699
            have hin721 : ¬ ((4 : Int32) < 0 ∨ cl721.slots.size ≤ ((4 : Int32)).toNatClampNeg) := inb_of S721 ⟨by decide, by decide⟩
            refine own_goW (X707.caload hx (j := (4 : Int32)) (v := (.int w671)) (by rw [(rfl : T707.heap = T707.heap)]; exact Ar721.1) (State.isArrayOf_alike hZ.alike Ar721.2.1) Ar721.2.2 hin721 (P721.at hin721 rfl) (g := (mkF m 279 #[iv p1, iv p2, .val (.long q3), .second, iv p4, iv (9 : Int32), iv um, rv b633, rv b700, .unset, .unset] [(.int (4 : Int32)), (.ref b633)])) rfl rfl (hb hby at_279)) ?_
            refine own_goW (fun _ k => XS.bipush X707.here hx rfl (hb hby at_280) k) ?_
            by_cases hc722 : w671 = (101 : Int32)
            · refine own_goW (fun _ k => XS.icmpNo X707.here hx rfl (hb hby at_282) rfl (teq hc722).2 k) ?_
              show own_GoW p e below s _ _ _ _ (T707.setTop (mkF m 285 #[iv p1, iv p2, .val (.long q3), .second, iv p4, iv (9 : Int32), iv um, rv b633, rv b700, .unset, .unset] []))
              refine own_goW (fun _ k => XS.aload X707.here hx rfl (hb hby at_285) rfl rfl (XS.iconst X707.here hx rfl (hb hby at_287) k)) ?_
              obtain ⟨cl723, Ar723, -, S723, -, P723, -⟩ := id f699
              have hin723 : ¬ ((5 : Int32) < 0 ∨ cl723.slots.size ≤ ((5 : Int32)).toNatClampNeg) := inb_of S723 ⟨by decide, by decide⟩
              refine own_goW (X707.caload hx (j := (5 : Int32)) (v := (.int w679)) (by rw [(rfl : T707.heap = T707.heap)]; exact Ar723.1) (State.isArrayOf_alike hZ.alike Ar723.2.1) Ar723.2.2 hin723 (P723.at hin723 rfl) (g := (mkF m 288 #[iv p1, iv p2, .val (.long q3), .second, iv p4, iv (9 : Int32), iv um, rv b633, rv b700, .unset, .unset] [(.int (5 : Int32)), (.ref b633)])) rfl rfl (hb hby at_288)) ?_
              refine own_goW (fun _ k => XS.bipush X707.here hx rfl (hb hby at_289) k) ?_
              by_cases hc724 : w679 = (100 : Int32)
              · refine own_goW (fun _ k => XS.icmpNo X707.here hx rfl (hb hby at_291) rfl (teq hc724).2 k) ?_
                show own_GoW p e below s _ _ _ _ (T707.setTop (mkF m 294 #[iv p1, iv p2, .val (.long q3), .second, iv p4, iv (9 : Int32), iv um, rv b633, rv b700, .unset, .unset] []))
                refine own_goW (fun _ k => XS.aload X707.here hx rfl (hb hby at_294) rfl rfl (XS.bipush X707.here hx rfl (hb hby at_296) k)) ?_
                obtain ⟨cl725, Ar725, -, S725, -, P725, -⟩ := id f699
                have hin725 : ¬ ((6 : Int32) < 0 ∨ cl725.slots.size ≤ ((6 : Int32)).toNatClampNeg) := inb_of S725 ⟨by decide, by decide⟩
                refine own_goW (X707.caload hx (j := (6 : Int32)) (v := (.int w687)) (by rw [(rfl : T707.heap = T707.heap)]; exact Ar725.1) (State.isArrayOf_alike hZ.alike Ar725.2.1) Ar725.2.2 hin725 (P725.at hin725 rfl) (g := (mkF m 298 #[iv p1, iv p2, .val (.long q3), .second, iv p4, iv (9 : Int32), iv um, rv b633, rv b700, .unset, .unset] [(.int (6 : Int32)), (.ref b633)])) rfl rfl (hb hby at_298)) ?_
                refine own_goW (fun _ k => XS.bipush X707.here hx rfl (hb hby at_299) k) ?_
                by_cases hc726 : w687 = (45 : Int32)
                · refine own_goW (fun _ k => XS.icmpNo X707.here hx rfl (hb hby at_301) rfl (teq hc726).2 k) ?_
                  show own_GoW p e below s _ _ _ _ (T707.setTop (mkF m 304 #[iv p1, iv p2, .val (.long q3), .second, iv p4, iv (9 : Int32), iv um, rv b633, rv b700, .unset, .unset] []))
                  refine own_goW (fun _ k => XS.iconst X707.here hx rfl (hb hby at_304) (XS.goto X707.here hx rfl (pc0 := 305) (pc' := 309) rfl (hb hby at_305) (by decide) (by decide) (XS.istore X707.here hx rfl (hb hby at_309) rfl (l' := #[iv p1, iv p2, .val (.long q3), .second, iv p4, iv (9 : Int32), iv um, rv b633, rv b700, iv (1 : Int32), .unset]) rfl (XS.aload X707.here hx rfl (hb hby at_311) rfl rfl k)))) ?_
                  obtain ⟨v727, T727, L727, X727, hQ727, st727⟩ := own_callS (y := own_y7) X707 hx hZ hown (ow23 hw) (ow24 hw) (ow25 hw) (ow26 hw) (rm_ofn9 l Z a0 hw hO [] b700 t707 kb707 (w639.toInt8.toInt32) (w647.toInt8.toInt32) (w655.toInt8.toInt32) (w663.toInt8.toInt32) (w671.toInt8.toInt32) (w679.toInt8.toInt32) (w687.toInt8.toInt32) ((((((q3.toUInt64 >>> ((56 : Int32) &&& 0x3f).toInt64.toUInt64).toInt64) &&& (255 : Int64)).toInt32).toUInt32.toUInt16.toUInt32.toInt32).toInt8.toInt32) ((p4 &&& (255 : Int32)).toInt8.toInt32) T707.heap O0 f1707 f3707 f2707 f4707) 0 0 0 (by show _ ≤ 16; omega) (by show _ ≤ 1152; omega) (rfl : T707.heap = T707.heap) (g := (mkF m 313 #[iv p1, iv p2, .val (.long q3), .second, iv p4, iv (9 : Int32), iv um, rv b633, rv b700, iv (1 : Int32), .unset] [(.ref b700)])) rfl (by rw [hml]; rfl) [(.ref b700)] [] (lenOf own_pd_7 rfl) rfl rfl (hb hby at_313)
                  rcases hQ727 with hQ727 | hQ727
                  · obtain ⟨rfl, Nc730, hp728, Kc729⟩ := hQ727
                    refine own_goW st727 ?_
                    clear st727 X707
                    replace N0 := Fr.app N0 Nc730
                    clear Nc730
                    show own_GoW p e below s _ _ _ _ (T727.setTop (mkF m 316 #[iv p1, iv p2, .val (.long q3), .second, iv p4, iv (9 : Int32), iv um, rv b633, rv b700, iv (1 : Int32), .unset] [(.ref wy)]))
                    refine own_goW (fun _ k => XS.astore X727.here hx rfl (hb hby at_316) rfl rfl (l' := #[iv p1, iv p2, .val (.long q3), .second, iv p4, iv (9 : Int32), iv um, rv b633, rv b700, iv (1 : Int32), rv wy]) rfl (XS.iload X727.here hx rfl (hb hby at_318) rfl (XS.ifNo X727.here hx rfl (hb hby at_320) rfl ((if0 _ _).trans (feq (by decide : ¬ ((1 : Int32) = (0 : Int32)))).1) (XS.aload X727.here hx rfl (hb hby at_323) rfl rfl k)))) ?_
                    obtain ⟨T731, X731, e731, st731⟩ := getS2 X727 hx hZ hown (host := "") (Or.inl (ow74 hw)) Via.refl Kc729 (oSh.ext O0) (g := (mkF m 325 #[iv p1, iv p2, .val (.long q3), .second, iv p4, iv (9 : Int32), iv um, rv b633, rv b700, iv (1 : Int32), rv wy] [(.ref wy)])) rfl (hb hby at_325)
                    refine own_goW st731 ?_
                    clear st731 X727 Kc729
                    refine own_goW (fun _ k => Jvm.RoadKit.acmp (g := (mkF m 328 #[iv p1, iv p2, .val (.long q3), .second, iv p4, iv (9 : Int32), iv um, rv b633, rv b700, iv (1 : Int32), rv wy] [(.ref wy), (.ref wy)])) X731 hx rfl rfl rfl (pc0 := 328) (pc' := 331) (same := true) rfl (hb hby at_328) rfl (decide_eq_true rfl) (by decide) (by decide) k) ?_
                    show own_GoW p e below s _ _ _ _ (T731.setTop (mkF m 331 #[iv p1, iv p2, .val (.long q3), .second, iv p4, iv (9 : Int32), iv um, rv b633, rv b700, iv (1 : Int32), rv wy] []))
                    refine own_goW (fun _ k => XS.iconst X731.here hx rfl (hb hby at_331) (XS.goto X731.here hx rfl (pc0 := 332) (pc' := 336) rfl (hb hby at_332) (by decide) (by decide) k)) ?_
                    show own_GoW p e below s _ _ _ _ (T731.setTop (mkF m 336 #[iv p1, iv p2, .val (.long q3), .second, iv p4, iv (9 : Int32), iv um, rv b633, rv b700, iv (1 : Int32), rv wy] [(.int (1 : Int32))]))
                    refine own_retNW X731 hS hL hZ hJ hx hlk e731 (t := .boolean) hret (by simp) (hb hby at_336) (by show _ ≤ 16; omega) (by show _ ≤ 1152; omega) ?_
                    exact ⟨rfl, N0, K0⟩
                  · obtain ⟨rfl, Nc734, hp732, Kc733⟩ := hQ727
                    refine own_goW st727 ?_
                    clear st727 X707
                    replace N0 := Fr.app N0 Nc734
                    clear Nc734
                    exact absurd ⟨((own_b8 hp640 (by decide) (by decide)).mpr hc714), ((own_b8 hp648 (by decide) (by decide)).mpr hc716), ((own_b8 hp656 (by decide) (by decide)).mpr hc718), ((own_b8 hp664 (by decide) (by decide)).mpr hc720), ((own_b8 hp672 (by decide) (by decide)).mpr hc722), ((own_b8 hp680 (by decide) (by decide)).mpr hc724), ((own_b8 hp688 (by decide) (by decide)).mpr hc726)⟩ hp732
                · refine own_goW (fun _ k => XS.icmpYes X707.here hx rfl (pc0 := 301) (pc' := 308) rfl (hb hby at_301) rfl (feq hc726).2 (by decide) (by decide) k) ?_
                  show own_GoW p e below s _ _ _ _ (T707.setTop (mkF m 308 #[iv p1, iv p2, .val (.long q3), .second, iv p4, iv (9 : Int32), iv um, rv b633, rv b700, .unset, .unset] []))
                  refine own_goW (fun _ k => XS.iconst X707.here hx rfl (hb hby at_308) (XS.istore X707.here hx rfl (hb hby at_309) rfl (l' := #[iv p1, iv p2, .val (.long q3), .second, iv p4, iv (9 : Int32), iv um, rv b633, rv b700, iv (0 : Int32), .unset]) rfl (XS.aload X707.here hx rfl (hb hby at_311) rfl rfl k))) ?_
                  obtain ⟨v735, T735, L735, X735, hQ735, st735⟩ := own_callS (y := own_y7) X707 hx hZ hown (ow23 hw) (ow24 hw) (ow25 hw) (ow26 hw) (rm_ofn9 l Z a0 hw hO [] b700 t707 kb707 (w639.toInt8.toInt32) (w647.toInt8.toInt32) (w655.toInt8.toInt32) (w663.toInt8.toInt32) (w671.toInt8.toInt32) (w679.toInt8.toInt32) (w687.toInt8.toInt32) ((((((q3.toUInt64 >>> ((56 : Int32) &&& 0x3f).toInt64.toUInt64).toInt64) &&& (255 : Int64)).toInt32).toUInt32.toUInt16.toUInt32.toInt32).toInt8.toInt32) ((p4 &&& (255 : Int32)).toInt8.toInt32) T707.heap O0 f1707 f3707 f2707 f4707) 0 0 0 (by show _ ≤ 16; omega) (by show _ ≤ 1152; omega) (rfl : T707.heap = T707.heap) (g := (mkF m 313 #[iv p1, iv p2, .val (.long q3), .second, iv p4, iv (9 : Int32), iv um, rv b633, rv b700, iv (0 : Int32), .unset] [(.ref b700)])) rfl (by rw [hml]; rfl) [(.ref b700)] [] (lenOf own_pd_7 rfl) rfl rfl (hb hby at_313)
                  rcases hQ735 with hQ735 | hQ735
                  · obtain ⟨rfl, Nc738, hp736, Kc737⟩ := hQ735
                    refine own_goW st735 ?_
                    clear st735 X707
                    replace N0 := Fr.app N0 Nc738
                    clear Nc738
                    exact absurd hp736 (fun h7 => (mt (own_b8 hp688 (by decide) (by decide)).mp hc726) h7.2.2.2.2.2.2)
                  · obtain ⟨rfl, Nc741, hp739, Kc740⟩ := hQ735
                    refine own_goW st735 ?_
                    clear st735 X707
                    replace N0 := Fr.app N0 Nc741
                    clear Nc741
                    show own_GoW p e below s _ _ _ _ (T735.setTop (mkF m 316 #[iv p1, iv p2, .val (.long q3), .second, iv p4, iv (9 : Int32), iv um, rv b633, rv b700, iv (0 : Int32), .unset] [(.ref wx)]))
                    refine own_goW (fun _ k => XS.astore X735.here hx rfl (hb hby at_316) rfl rfl (l' := #[iv p1, iv p2, .val (.long q3), .second, iv p4, iv (9 : Int32), iv um, rv b633, rv b700, iv (0 : Int32), rv wx]) rfl (XS.iload X735.here hx rfl (hb hby at_318) rfl (XS.ifYes X735.here hx rfl (pc0 := 320) (pc' := 337) rfl (hb hby at_320) rfl ((if0 _ _).trans (teq (by decide : (0 : Int32) = (0 : Int32))).1) (by decide) (by decide) (XS.aload X735.here hx rfl (hb hby at_337) rfl rfl k)))) ?_
                    obtain ⟨T742, X742, e742, st742⟩ := getS2 X735 hx hZ hown (host := "") (Or.inl (ow54 hw)) Via.refl Kc740 (oEx.ext O0) (g := (mkF m 339 #[iv p1, iv p2, .val (.long q3), .second, iv p4, iv (9 : Int32), iv um, rv b633, rv b700, iv (0 : Int32), rv wx] [(.ref wx)])) rfl (hb hby at_339)
                    refine own_goW st742 ?_
                    clear st742 X735 Kc740
                    refine own_goW (fun _ k => Jvm.RoadKit.acmp (g := (mkF m 342 #[iv p1, iv p2, .val (.long q3), .second, iv p4, iv (9 : Int32), iv um, rv b633, rv b700, iv (0 : Int32), rv wx] [(.ref wx), (.ref wx)])) X742 hx rfl rfl rfl (pc0 := 342) (pc' := 345) (same := true) rfl (hb hby at_342) rfl (decide_eq_true rfl) (by decide) (by decide) k) ?_
                    show own_GoW p e below s _ _ _ _ (T742.setTop (mkF m 345 #[iv p1, iv p2, .val (.long q3), .second, iv p4, iv (9 : Int32), iv um, rv b633, rv b700, iv (0 : Int32), rv wx] []))
                    refine own_goW (fun _ k => XS.iconst X742.here hx rfl (hb hby at_345) (XS.goto X742.here hx rfl (pc0 := 346) (pc' := 350) rfl (hb hby at_346) (by decide) (by decide) k)) ?_
                    show own_GoW p e below s _ _ _ _ (T742.setTop (mkF m 350 #[iv p1, iv p2, .val (.long q3), .second, iv p4, iv (9 : Int32), iv um, rv b633, rv b700, iv (0 : Int32), rv wx] [(.int (1 : Int32))]))
                    refine own_retNW X742 hS hL hZ hJ hx hlk e742 (t := .boolean) hret (by simp) (hb hby at_350) (by show _ ≤ 16; omega) (by show _ ≤ 1152; omega) ?_
                    exact ⟨rfl, N0, K0⟩
              · refine own_goW (fun _ k => XS.icmpYes X707.here hx rfl (pc0 := 291) (pc' := 308) rfl (hb hby at_291) rfl (feq hc724).2 (by decide) (by decide) k) ?_
                show own_GoW p e below s _ _ _ _ (T707.setTop (mkF m 308 #[iv p1, iv p2, .val (.long q3), .second, iv p4, iv (9 : Int32), iv um, rv b633, rv b700, .unset, .unset] []))
                refine own_goW (fun _ k => XS.iconst X707.here hx rfl (hb hby at_308) (XS.istore X707.here hx rfl (hb hby at_309) rfl (l' := #[iv p1, iv p2, .val (.long q3), .second, iv p4, iv (9 : Int32), iv um, rv b633, rv b700, iv (0 : Int32), .unset]) rfl (XS.aload X707.here hx rfl (hb hby at_311) rfl rfl k))) ?_
                obtain ⟨v743, T743, L743, X743, hQ743, st743⟩ := own_callS (y := own_y7) X707 hx hZ hown (ow23 hw) (ow24 hw) (ow25 hw) (ow26 hw) (rm_ofn9 l Z a0 hw hO [] b700 t707 kb707 (w639.toInt8.toInt32) (w647.toInt8.toInt32) (w655.toInt8.toInt32) (w663.toInt8.toInt32) (w671.toInt8.toInt32) (w679.toInt8.toInt32) (w687.toInt8.toInt32) ((((((q3.toUInt64 >>> ((56 : Int32) &&& 0x3f).toInt64.toUInt64).toInt64) &&& (255 : Int64)).toInt32).toUInt32.toUInt16.toUInt32.toInt32).toInt8.toInt32) ((p4 &&& (255 : Int32)).toInt8.toInt32) T707.heap O0 f1707 f3707 f2707 f4707) 0 0 0 (by show _ ≤ 16; omega) (by show _ ≤ 1152; omega) (rfl : T707.heap = T707.heap) (g := (mkF m 313 #[iv p1, iv p2, .val (.long q3), .second, iv p4, iv (9 : Int32), iv um, rv b633, rv b700, iv (0 : Int32), .unset] [(.ref b700)])) rfl (by rw [hml]; rfl) [(.ref b700)] [] (lenOf own_pd_7 rfl) rfl rfl (hb hby at_313)
                rcases hQ743 with hQ743 | hQ743
                · obtain ⟨rfl, Nc746, hp744, Kc745⟩ := hQ743
                  refine own_goW st743 ?_
                  clear st743 X707
                  replace N0 := Fr.app N0 Nc746
                  clear Nc746
                  exact absurd hp744 (fun h7 => (mt (own_b8 hp680 (by decide) (by decide)).mp hc724) h7.2.2.2.2.2.1)
                · obtain ⟨rfl, Nc749, hp747, Kc748⟩ := hQ743
                  refine own_goW st743 ?_
                  clear st743 X707
                  replace N0 := Fr.app N0 Nc749
                  clear Nc749
                  show own_GoW p e below s _ _ _ _ (T743.setTop (mkF m 316 #[iv p1, iv p2, .val (.long q3), .second, iv p4, iv (9 : Int32), iv um, rv b633, rv b700, iv (0 : Int32), .unset] [(.ref wx)]))
                  refine own_goW (fun _ k => XS.astore X743.here hx rfl (hb hby at_316) rfl rfl (l' := #[iv p1, iv p2, .val (.long q3), .second, iv p4, iv (9 : Int32), iv um, rv b633, rv b700, iv (0 : Int32), rv wx]) rfl (XS.iload X743.here hx rfl (hb hby at_318) rfl (XS.ifYes X743.here hx rfl (pc0 := 320) (pc' := 337) rfl (hb hby at_320) rfl ((if0 _ _).trans (teq (by decide : (0 : Int32) = (0 : Int32))).1) (by decide) (by decide) (XS.aload X743.here hx rfl (hb hby at_337) rfl rfl k)))) ?_
                  obtain ⟨T750, X750, e750, st750⟩ := getS2 X743 hx hZ hown (host := "") (Or.inl (ow54 hw)) Via.refl Kc748 (oEx.ext O0) (g := (mkF m 339 #[iv p1, iv p2, .val (.long q3), .second, iv p4, iv (9 : Int32), iv um, rv b633, rv b700, iv (0 : Int32), rv wx] [(.ref wx)])) rfl (hb hby at_339)
                  refine own_goW st750 ?_
                  clear st750 X743 Kc748
                  refine own_goW (fun _ k => Jvm.RoadKit.acmp (g := (mkF m 342 #[iv p1, iv p2, .val (.long q3), .second, iv p4, iv (9 : Int32), iv um, rv b633, rv b700, iv (0 : Int32), rv wx] [(.ref wx), (.ref wx)])) X750 hx rfl rfl rfl (pc0 := 342) (pc' := 345) (same := true) rfl (hb hby at_342) rfl (decide_eq_true rfl) (by decide) (by decide) k) ?_
                  show own_GoW p e below s _ _ _ _ (T750.setTop (mkF m 345 #[iv p1, iv p2, .val (.long q3), .second, iv p4, iv (9 : Int32), iv um, rv b633, rv b700, iv (0 : Int32), rv wx] []))
                  refine own_goW (fun _ k => XS.iconst X750.here hx rfl (hb hby at_345) (XS.goto X750.here hx rfl (pc0 := 346) (pc' := 350) rfl (hb hby at_346) (by decide) (by decide) k)) ?_
                  show own_GoW p e below s _ _ _ _ (T750.setTop (mkF m 350 #[iv p1, iv p2, .val (.long q3), .second, iv p4, iv (9 : Int32), iv um, rv b633, rv b700, iv (0 : Int32), rv wx] [(.int (1 : Int32))]))
                  refine own_retNW X750 hS hL hZ hJ hx hlk e750 (t := .boolean) hret (by simp) (hb hby at_350) (by show _ ≤ 16; omega) (by show _ ≤ 1152; omega) ?_
                  exact ⟨rfl, N0, K0⟩
            · refine own_goW (fun _ k => XS.icmpYes X707.here hx rfl (pc0 := 282) (pc' := 308) rfl (hb hby at_282) rfl (feq hc722).2 (by decide) (by decide) k) ?_
              show own_GoW p e below s _ _ _ _ (T707.setTop (mkF m 308 #[iv p1, iv p2, .val (.long q3), .second, iv p4, iv (9 : Int32), iv um, rv b633, rv b700, .unset, .unset] []))
              refine own_goW (fun _ k => XS.iconst X707.here hx rfl (hb hby at_308) (XS.istore X707.here hx rfl (hb hby at_309) rfl (l' := #[iv p1, iv p2, .val (.long q3), .second, iv p4, iv (9 : Int32), iv um, rv b633, rv b700, iv (0 : Int32), .unset]) rfl (XS.aload X707.here hx rfl (hb hby at_311) rfl rfl k))) ?_
              obtain ⟨v751, T751, L751, X751, hQ751, st751⟩ := own_callS (y := own_y7) X707 hx hZ hown (ow23 hw) (ow24 hw) (ow25 hw) (ow26 hw) (rm_ofn9 l Z a0 hw hO [] b700 t707 kb707 (w639.toInt8.toInt32) (w647.toInt8.toInt32) (w655.toInt8.toInt32) (w663.toInt8.toInt32) (w671.toInt8.toInt32) (w679.toInt8.toInt32) (w687.toInt8.toInt32) ((((((q3.toUInt64 >>> ((56 : Int32) &&& 0x3f).toInt64.toUInt64).toInt64) &&& (255 : Int64)).toInt32).toUInt32.toUInt16.toUInt32.toInt32).toInt8.toInt32) ((p4 &&& (255 : Int32)).toInt8.toInt32) T707.heap O0 f1707 f3707 f2707 f4707) 0 0 0 (by show _ ≤ 16; omega) (by show _ ≤ 1152; omega) (rfl : T707.heap = T707.heap) (g := (mkF m 313 #[iv p1, iv p2, .val (.long q3), .second, iv p4, iv (9 : Int32), iv um, rv b633, rv b700, iv (0 : Int32), .unset] [(.ref b700)])) rfl (by rw [hml]; rfl) [(.ref b700)] [] (lenOf own_pd_7 rfl) rfl rfl (hb hby at_313)
              rcases hQ751 with hQ751 | hQ751
              · obtain ⟨rfl, Nc754, hp752, Kc753⟩ := hQ751
                refine own_goW st751 ?_
                clear st751 X707
                replace N0 := Fr.app N0 Nc754
                clear Nc754
                exact absurd hp752 (fun h7 => (mt (own_b8 hp672 (by decide) (by decide)).mp hc722) h7.2.2.2.2.1)
              · obtain ⟨rfl, Nc757, hp755, Kc756⟩ := hQ751
                refine own_goW st751 ?_
                clear st751 X707
                replace N0 := Fr.app N0 Nc757
                clear Nc757
                show own_GoW p e below s _ _ _ _ (T751.setTop (mkF m 316 #[iv p1, iv p2, .val (.long q3), .second, iv p4, iv (9 : Int32), iv um, rv b633, rv b700, iv (0 : Int32), .unset] [(.ref wx)]))
                refine own_goW (fun _ k => XS.astore X751.here hx rfl (hb hby at_316) rfl rfl (l' := #[iv p1, iv p2, .val (.long q3), .second, iv p4, iv (9 : Int32), iv um, rv b633, rv b700, iv (0 : Int32), rv wx]) rfl (XS.iload X751.here hx rfl (hb hby at_318) rfl (XS.ifYes X751.here hx rfl (pc0 := 320) (pc' := 337) rfl (hb hby at_320) rfl ((if0 _ _).trans (teq (by decide : (0 : Int32) = (0 : Int32))).1) (by decide) (by decide) (XS.aload X751.here hx rfl (hb hby at_337) rfl rfl k)))) ?_
                obtain ⟨T758, X758, e758, st758⟩ := getS2 X751 hx hZ hown (host := "") (Or.inl (ow54 hw)) Via.refl Kc756 (oEx.ext O0) (g := (mkF m 339 #[iv p1, iv p2, .val (.long q3), .second, iv p4, iv (9 : Int32), iv um, rv b633, rv b700, iv (0 : Int32), rv wx] [(.ref wx)])) rfl (hb hby at_339)
                refine own_goW st758 ?_
                clear st758 X751 Kc756
                refine own_goW (fun _ k => Jvm.RoadKit.acmp (g := (mkF m 342 #[iv p1, iv p2, .val (.long q3), .second, iv p4, iv (9 : Int32), iv um, rv b633, rv b700, iv (0 : Int32), rv wx] [(.ref wx), (.ref wx)])) X758 hx rfl rfl rfl (pc0 := 342) (pc' := 345) (same := true) rfl (hb hby at_342) rfl (decide_eq_true rfl) (by decide) (by decide) k) ?_
                show own_GoW p e below s _ _ _ _ (T758.setTop (mkF m 345 #[iv p1, iv p2, .val (.long q3), .second, iv p4, iv (9 : Int32), iv um, rv b633, rv b700, iv (0 : Int32), rv wx] []))
                refine own_goW (fun _ k => XS.iconst X758.here hx rfl (hb hby at_345) (XS.goto X758.here hx rfl (pc0 := 346) (pc' := 350) rfl (hb hby at_346) (by decide) (by decide) k)) ?_
                show own_GoW p e below s _ _ _ _ (T758.setTop (mkF m 350 #[iv p1, iv p2, .val (.long q3), .second, iv p4, iv (9 : Int32), iv um, rv b633, rv b700, iv (0 : Int32), rv wx] [(.int (1 : Int32))]))
                refine own_retNW X758 hS hL hZ hJ hx hlk e758 (t := .boolean) hret (by simp) (hb hby at_350) (by show _ ≤ 16; omega) (by show _ ≤ 1152; omega) ?_
                exact ⟨rfl, N0, K0⟩
          · refine own_goW (fun _ k => XS.icmpYes X707.here hx rfl (pc0 := 273) (pc' := 308) rfl (hb hby at_273) rfl (feq hc720).2 (by decide) (by decide) k) ?_
            show own_GoW p e below s _ _ _ _ (T707.setTop (mkF m 308 #[iv p1, iv p2, .val (.long q3), .second, iv p4, iv (9 : Int32), iv um, rv b633, rv b700, .unset, .unset] []))
            refine own_goW (fun _ k => XS.iconst X707.here hx rfl (hb hby at_308) (XS.istore X707.here hx rfl (hb hby at_309) rfl (l' := #[iv p1, iv p2, .val (.long q3), .second, iv p4, iv (9 : Int32), iv um, rv b633, rv b700, iv (0 : Int32), .unset]) rfl (XS.aload X707.here hx rfl (hb hby at_311) rfl rfl k))) ?_
            obtain ⟨v759, T759, L759, X759, hQ759, st759⟩ := own_callS (y := own_y7) X707 hx hZ hown (ow23 hw) (ow24 hw) (ow25 hw) (ow26 hw) (rm_ofn9 l Z a0 hw hO [] b700 t707 kb707 (w639.toInt8.toInt32) (w647.toInt8.toInt32) (w655.toInt8.toInt32) (w663.toInt8.toInt32) (w671.toInt8.toInt32) (w679.toInt8.toInt32) (w687.toInt8.toInt32) ((((((q3.toUInt64 >>> ((56 : Int32) &&& 0x3f).toInt64.toUInt64).toInt64) &&& (255 : Int64)).toInt32).toUInt32.toUInt16.toUInt32.toInt32).toInt8.toInt32) ((p4 &&& (255 : Int32)).toInt8.toInt32) T707.heap O0 f1707 f3707 f2707 f4707) 0 0 0 (by show _ ≤ 16; omega) (by show _ ≤ 1152; omega) (rfl : T707.heap = T707.heap) (g := (mkF m 313 #[iv p1, iv p2, .val (.long q3), .second, iv p4, iv (9 : Int32), iv um, rv b633, rv b700, iv (0 : Int32), .unset] [(.ref b700)])) rfl (by rw [hml]; rfl) [(.ref b700)] [] (lenOf own_pd_7 rfl) rfl rfl (hb hby at_313)
            rcases hQ759 with hQ759 | hQ759
            · obtain ⟨rfl, Nc762, hp760, Kc761⟩ := hQ759
              refine own_goW st759 ?_
              clear st759 X707
              replace N0 := Fr.app N0 Nc762
              clear Nc762
              exact absurd hp760 (fun h7 => (mt (own_b8 hp664 (by decide) (by decide)).mp hc720) h7.2.2.2.1)
            · obtain ⟨rfl, Nc765, hp763, Kc764⟩ := hQ759
              refine own_goW st759 ?_
              clear st759 X707
              replace N0 := Fr.app N0 Nc765
              clear Nc765
              show own_GoW p e below s _ _ _ _ (T759.setTop (mkF m 316 #[iv p1, iv p2, .val (.long q3), .second, iv p4, iv (9 : Int32), iv um, rv b633, rv b700, iv (0 : Int32), .unset] [(.ref wx)]))
              refine own_goW (fun _ k => XS.astore X759.here hx rfl (hb hby at_316) rfl rfl (l' := #[iv p1, iv p2, .val (.long q3), .second, iv p4, iv (9 : Int32), iv um, rv b633, rv b700, iv (0 : Int32), rv wx]) rfl (XS.iload X759.here hx rfl (hb hby at_318) rfl (XS.ifYes X759.here hx rfl (pc0 := 320) (pc' := 337) rfl (hb hby at_320) rfl ((if0 _ _).trans (teq (by decide : (0 : Int32) = (0 : Int32))).1) (by decide) (by decide) (XS.aload X759.here hx rfl (hb hby at_337) rfl rfl k)))) ?_
              obtain ⟨T766, X766, e766, st766⟩ := getS2 X759 hx hZ hown (host := "") (Or.inl (ow54 hw)) Via.refl Kc764 (oEx.ext O0) (g := (mkF m 339 #[iv p1, iv p2, .val (.long q3), .second, iv p4, iv (9 : Int32), iv um, rv b633, rv b700, iv (0 : Int32), rv wx] [(.ref wx)])) rfl (hb hby at_339)
              refine own_goW st766 ?_
              clear st766 X759 Kc764
              refine own_goW (fun _ k => Jvm.RoadKit.acmp (g := (mkF m 342 #[iv p1, iv p2, .val (.long q3), .second, iv p4, iv (9 : Int32), iv um, rv b633, rv b700, iv (0 : Int32), rv wx] [(.ref wx), (.ref wx)])) X766 hx rfl rfl rfl (pc0 := 342) (pc' := 345) (same := true) rfl (hb hby at_342) rfl (decide_eq_true rfl) (by decide) (by decide) k) ?_
              show own_GoW p e below s _ _ _ _ (T766.setTop (mkF m 345 #[iv p1, iv p2, .val (.long q3), .second, iv p4, iv (9 : Int32), iv um, rv b633, rv b700, iv (0 : Int32), rv wx] []))
              refine own_goW (fun _ k => XS.iconst X766.here hx rfl (hb hby at_345) (XS.goto X766.here hx rfl (pc0 := 346) (pc' := 350) rfl (hb hby at_346) (by decide) (by decide) k)) ?_
              show own_GoW p e below s _ _ _ _ (T766.setTop (mkF m 350 #[iv p1, iv p2, .val (.long q3), .second, iv p4, iv (9 : Int32), iv um, rv b633, rv b700, iv (0 : Int32), rv wx] [(.int (1 : Int32))]))
              refine own_retNW X766 hS hL hZ hJ hx hlk e766 (t := .boolean) hret (by simp) (hb hby at_350) (by show _ ≤ 16; omega) (by show _ ≤ 1152; omega) ?_
              exact ⟨rfl, N0, K0⟩
        · refine own_goW (fun _ k => XS.icmpYes X707.here hx rfl (pc0 := 264) (pc' := 308) rfl (hb hby at_264) rfl (feq hc718).2 (by decide) (by decide) k) ?_
          show own_GoW p e below s _ _ _ _ (T707.setTop (mkF m 308 #[iv p1, iv p2, .val (.long q3), .second, iv p4, iv (9 : Int32), iv um, rv b633, rv b700, .unset, .unset] []))
          refine own_goW (fun _ k => XS.iconst X707.here hx rfl (hb hby at_308) (XS.istore X707.here hx rfl (hb hby at_309) rfl (l' := #[iv p1, iv p2, .val (.long q3), .second, iv p4, iv (9 : Int32), iv um, rv b633, rv b700, iv (0 : Int32), .unset]) rfl (XS.aload X707.here hx rfl (hb hby at_311) rfl rfl k))) ?_
          obtain ⟨v767, T767, L767, X767, hQ767, st767⟩ := own_callS (y := own_y7) X707 hx hZ hown (ow23 hw) (ow24 hw) (ow25 hw) (ow26 hw) (rm_ofn9 l Z a0 hw hO [] b700 t707 kb707 (w639.toInt8.toInt32) (w647.toInt8.toInt32) (w655.toInt8.toInt32) (w663.toInt8.toInt32) (w671.toInt8.toInt32) (w679.toInt8.toInt32) (w687.toInt8.toInt32) ((((((q3.toUInt64 >>> ((56 : Int32) &&& 0x3f).toInt64.toUInt64).toInt64) &&& (255 : Int64)).toInt32).toUInt32.toUInt16.toUInt32.toInt32).toInt8.toInt32) ((p4 &&& (255 : Int32)).toInt8.toInt32) T707.heap O0 f1707 f3707 f2707 f4707) 0 0 0 (by show _ ≤ 16; omega) (by show _ ≤ 1152; omega) (rfl : T707.heap = T707.heap) (g := (mkF m 313 #[iv p1, iv p2, .val (.long q3), .second, iv p4, iv (9 : Int32), iv um, rv b633, rv b700, iv (0 : Int32), .unset] [(.ref b700)])) rfl (by rw [hml]; rfl) [(.ref b700)] [] (lenOf own_pd_7 rfl) rfl rfl (hb hby at_313)
          rcases hQ767 with hQ767 | hQ767
          · obtain ⟨rfl, Nc770, hp768, Kc769⟩ := hQ767
            refine own_goW st767 ?_
            clear st767 X707
            replace N0 := Fr.app N0 Nc770
            clear Nc770
            exact absurd hp768 (fun h7 => (mt (own_b8 hp656 (by decide) (by decide)).mp hc718) h7.2.2.1)
          · obtain ⟨rfl, Nc773, hp771, Kc772⟩ := hQ767
            refine own_goW st767 ?_
            clear st767 X707
            replace N0 := Fr.app N0 Nc773
            clear Nc773
            show own_GoW p e below s _ _ _ _ (T767.setTop (mkF m 316 #[iv p1, iv p2, .val (.long q3), .second, iv p4, iv (9 : Int32), iv um, rv b633, rv b700, iv (0 : Int32), .unset] [(.ref wx)]))
            refine own_goW (fun _ k => XS.astore X767.here hx rfl (hb hby at_316) rfl rfl (l' := #[iv p1, iv p2, .val (.long q3), .second, iv p4, iv (9 : Int32), iv um, rv b633, rv b700, iv (0 : Int32), rv wx]) rfl (XS.iload X767.here hx rfl (hb hby at_318) rfl (XS.ifYes X767.here hx rfl (pc0 := 320) (pc' := 337) rfl (hb hby at_320) rfl ((if0 _ _).trans (teq (by decide : (0 : Int32) = (0 : Int32))).1) (by decide) (by decide) (XS.aload X767.here hx rfl (hb hby at_337) rfl rfl k)))) ?_
            obtain ⟨T774, X774, e774, st774⟩ := getS2 X767 hx hZ hown (host := "") (Or.inl (ow54 hw)) Via.refl Kc772 (oEx.ext O0) (g := (mkF m 339 #[iv p1, iv p2, .val (.long q3), .second, iv p4, iv (9 : Int32), iv um, rv b633, rv b700, iv (0 : Int32), rv wx] [(.ref wx)])) rfl (hb hby at_339)
            refine own_goW st774 ?_
            clear st774 X767 Kc772
            refine own_goW (fun _ k => Jvm.RoadKit.acmp (g := (mkF m 342 #[iv p1, iv p2, .val (.long q3), .second, iv p4, iv (9 : Int32), iv um, rv b633, rv b700, iv (0 : Int32), rv wx] [(.ref wx), (.ref wx)])) X774 hx rfl rfl rfl (pc0 := 342) (pc' := 345) (same := true) rfl (hb hby at_342) rfl (decide_eq_true rfl) (by decide) (by decide) k) ?_
            show own_GoW p e below s _ _ _ _ (T774.setTop (mkF m 345 #[iv p1, iv p2, .val (.long q3), .second, iv p4, iv (9 : Int32), iv um, rv b633, rv b700, iv (0 : Int32), rv wx] []))
            refine own_goW (fun _ k => XS.iconst X774.here hx rfl (hb hby at_345) (XS.goto X774.here hx rfl (pc0 := 346) (pc' := 350) rfl (hb hby at_346) (by decide) (by decide) k)) ?_
            show own_GoW p e below s _ _ _ _ (T774.setTop (mkF m 350 #[iv p1, iv p2, .val (.long q3), .second, iv p4, iv (9 : Int32), iv um, rv b633, rv b700, iv (0 : Int32), rv wx] [(.int (1 : Int32))]))
            refine own_retNW X774 hS hL hZ hJ hx hlk e774 (t := .boolean) hret (by simp) (hb hby at_350) (by show _ ≤ 16; omega) (by show _ ≤ 1152; omega) ?_
            exact ⟨rfl, N0, K0⟩
      · refine own_goW (fun _ k => XS.icmpYes X707.here hx rfl (pc0 := 255) (pc' := 308) rfl (hb hby at_255) rfl (feq hc716).2 (by decide) (by decide) k) ?_
        show own_GoW p e below s _ _ _ _ (T707.setTop (mkF m 308 #[iv p1, iv p2, .val (.long q3), .second, iv p4, iv (9 : Int32), iv um, rv b633, rv b700, .unset, .unset] []))
        refine own_goW (fun _ k => XS.iconst X707.here hx rfl (hb hby at_308) (XS.istore X707.here hx rfl (hb hby at_309) rfl (l' := #[iv p1, iv p2, .val (.long q3), .second, iv p4, iv (9 : Int32), iv um, rv b633, rv b700, iv (0 : Int32), .unset]) rfl (XS.aload X707.here hx rfl (hb hby at_311) rfl rfl k))) ?_
        obtain ⟨v775, T775, L775, X775, hQ775, st775⟩ := own_callS (y := own_y7) X707 hx hZ hown (ow23 hw) (ow24 hw) (ow25 hw) (ow26 hw) (rm_ofn9 l Z a0 hw hO [] b700 t707 kb707 (w639.toInt8.toInt32) (w647.toInt8.toInt32) (w655.toInt8.toInt32) (w663.toInt8.toInt32) (w671.toInt8.toInt32) (w679.toInt8.toInt32) (w687.toInt8.toInt32) ((((((q3.toUInt64 >>> ((56 : Int32) &&& 0x3f).toInt64.toUInt64).toInt64) &&& (255 : Int64)).toInt32).toUInt32.toUInt16.toUInt32.toInt32).toInt8.toInt32) ((p4 &&& (255 : Int32)).toInt8.toInt32) T707.heap O0 f1707 f3707 f2707 f4707) 0 0 0 (by show _ ≤ 16; omega) (by show _ ≤ 1152; omega) (rfl : T707.heap = T707.heap) (g := (mkF m 313 #[iv p1, iv p2, .val (.long q3), .second, iv p4, iv (9 : Int32), iv um, rv b633, rv b700, iv (0 : Int32), .unset] [(.ref b700)])) rfl (by rw [hml]; rfl) [(.ref b700)] [] (lenOf own_pd_7 rfl) rfl rfl (hb hby at_313)
        rcases hQ775 with hQ775 | hQ775
        · obtain ⟨rfl, Nc778, hp776, Kc777⟩ := hQ775
          refine own_goW st775 ?_
          clear st775 X707
          replace N0 := Fr.app N0 Nc778
          clear Nc778
          exact absurd hp776 (fun h7 => (mt (own_b8 hp648 (by decide) (by decide)).mp hc716) h7.2.1)
        · obtain ⟨rfl, Nc781, hp779, Kc780⟩ := hQ775
          refine own_goW st775 ?_
          clear st775 X707
          replace N0 := Fr.app N0 Nc781
          clear Nc781
          show own_GoW p e below s _ _ _ _ (T775.setTop (mkF m 316 #[iv p1, iv p2, .val (.long q3), .second, iv p4, iv (9 : Int32), iv um, rv b633, rv b700, iv (0 : Int32), .unset] [(.ref wx)]))
          refine own_goW (fun _ k => XS.astore X775.here hx rfl (hb hby at_316) rfl rfl (l' := #[iv p1, iv p2, .val (.long q3), .second, iv p4, iv (9 : Int32), iv um, rv b633, rv b700, iv (0 : Int32), rv wx]) rfl (XS.iload X775.here hx rfl (hb hby at_318) rfl (XS.ifYes X775.here hx rfl (pc0 := 320) (pc' := 337) rfl (hb hby at_320) rfl ((if0 _ _).trans (teq (by decide : (0 : Int32) = (0 : Int32))).1) (by decide) (by decide) (XS.aload X775.here hx rfl (hb hby at_337) rfl rfl k)))) ?_
          obtain ⟨T782, X782, e782, st782⟩ := getS2 X775 hx hZ hown (host := "") (Or.inl (ow54 hw)) Via.refl Kc780 (oEx.ext O0) (g := (mkF m 339 #[iv p1, iv p2, .val (.long q3), .second, iv p4, iv (9 : Int32), iv um, rv b633, rv b700, iv (0 : Int32), rv wx] [(.ref wx)])) rfl (hb hby at_339)
          refine own_goW st782 ?_
          clear st782 X775 Kc780
          refine own_goW (fun _ k => Jvm.RoadKit.acmp (g := (mkF m 342 #[iv p1, iv p2, .val (.long q3), .second, iv p4, iv (9 : Int32), iv um, rv b633, rv b700, iv (0 : Int32), rv wx] [(.ref wx), (.ref wx)])) X782 hx rfl rfl rfl (pc0 := 342) (pc' := 345) (same := true) rfl (hb hby at_342) rfl (decide_eq_true rfl) (by decide) (by decide) k) ?_
          show own_GoW p e below s _ _ _ _ (T782.setTop (mkF m 345 #[iv p1, iv p2, .val (.long q3), .second, iv p4, iv (9 : Int32), iv um, rv b633, rv b700, iv (0 : Int32), rv wx] []))
          refine own_goW (fun _ k => XS.iconst X782.here hx rfl (hb hby at_345) (XS.goto X782.here hx rfl (pc0 := 346) (pc' := 350) rfl (hb hby at_346) (by decide) (by decide) k)) ?_
          show own_GoW p e below s _ _ _ _ (T782.setTop (mkF m 350 #[iv p1, iv p2, .val (.long q3), .second, iv p4, iv (9 : Int32), iv um, rv b633, rv b700, iv (0 : Int32), rv wx] [(.int (1 : Int32))]))
          refine own_retNW X782 hS hL hZ hJ hx hlk e782 (t := .boolean) hret (by simp) (hb hby at_350) (by show _ ≤ 16; omega) (by show _ ≤ 1152; omega) ?_
          exact ⟨rfl, N0, K0⟩
    · refine own_goW (fun _ k => XS.icmpYes X707.here hx rfl (pc0 := 246) (pc' := 308) rfl (hb hby at_246) rfl (feq hc714).2 (by decide) (by decide) k) ?_
      show own_GoW p e below s _ _ _ _ (T707.setTop (mkF m 308 #[iv p1, iv p2, .val (.long q3), .second, iv p4, iv (9 : Int32), iv um, rv b633, rv b700, .unset, .unset] []))
      refine own_goW (fun _ k => XS.iconst X707.here hx rfl (hb hby at_308) (XS.istore X707.here hx rfl (hb hby at_309) rfl (l' := #[iv p1, iv p2, .val (.long q3), .second, iv p4, iv (9 : Int32), iv um, rv b633, rv b700, iv (0 : Int32), .unset]) rfl (XS.aload X707.here hx rfl (hb hby at_311) rfl rfl k))) ?_
      obtain ⟨v783, T783, L783, X783, hQ783, st783⟩ := own_callS (y := own_y7) X707 hx hZ hown (ow23 hw) (ow24 hw) (ow25 hw) (ow26 hw) (rm_ofn9 l Z a0 hw hO [] b700 t707 kb707 (w639.toInt8.toInt32) (w647.toInt8.toInt32) (w655.toInt8.toInt32) (w663.toInt8.toInt32) (w671.toInt8.toInt32) (w679.toInt8.toInt32) (w687.toInt8.toInt32) ((((((q3.toUInt64 >>> ((56 : Int32) &&& 0x3f).toInt64.toUInt64).toInt64) &&& (255 : Int64)).toInt32).toUInt32.toUInt16.toUInt32.toInt32).toInt8.toInt32) ((p4 &&& (255 : Int32)).toInt8.toInt32) T707.heap O0 f1707 f3707 f2707 f4707) 0 0 0 (by show _ ≤ 16; omega) (by show _ ≤ 1152; omega) (rfl : T707.heap = T707.heap) (g := (mkF m 313 #[iv p1, iv p2, .val (.long q3), .second, iv p4, iv (9 : Int32), iv um, rv b633, rv b700, iv (0 : Int32), .unset] [(.ref b700)])) rfl (by rw [hml]; rfl) [(.ref b700)] [] (lenOf own_pd_7 rfl) rfl rfl (hb hby at_313)
      rcases hQ783 with hQ783 | hQ783
      · obtain ⟨rfl, Nc786, hp784, Kc785⟩ := hQ783
        refine own_goW st783 ?_
        clear st783 X707
        replace N0 := Fr.app N0 Nc786
        clear Nc786
        exact absurd hp784 (fun h7 => (mt (own_b8 hp640 (by decide) (by decide)).mp hc714) h7.1)
      · obtain ⟨rfl, Nc789, hp787, Kc788⟩ := hQ783
        refine own_goW st783 ?_
        clear st783 X707
        replace N0 := Fr.app N0 Nc789
        clear Nc789
        show own_GoW p e below s _ _ _ _ (T783.setTop (mkF m 316 #[iv p1, iv p2, .val (.long q3), .second, iv p4, iv (9 : Int32), iv um, rv b633, rv b700, iv (0 : Int32), .unset] [(.ref wx)]))
        refine own_goW (fun _ k => XS.astore X783.here hx rfl (hb hby at_316) rfl rfl (l' := #[iv p1, iv p2, .val (.long q3), .second, iv p4, iv (9 : Int32), iv um, rv b633, rv b700, iv (0 : Int32), rv wx]) rfl (XS.iload X783.here hx rfl (hb hby at_318) rfl (XS.ifYes X783.here hx rfl (pc0 := 320) (pc' := 337) rfl (hb hby at_320) rfl ((if0 _ _).trans (teq (by decide : (0 : Int32) = (0 : Int32))).1) (by decide) (by decide) (XS.aload X783.here hx rfl (hb hby at_337) rfl rfl k)))) ?_
        obtain ⟨T790, X790, e790, st790⟩ := getS2 X783 hx hZ hown (host := "") (Or.inl (ow54 hw)) Via.refl Kc788 (oEx.ext O0) (g := (mkF m 339 #[iv p1, iv p2, .val (.long q3), .second, iv p4, iv (9 : Int32), iv um, rv b633, rv b700, iv (0 : Int32), rv wx] [(.ref wx)])) rfl (hb hby at_339)
        refine own_goW st790 ?_
        clear st790 X783 Kc788
        refine own_goW (fun _ k => Jvm.RoadKit.acmp (g := (mkF m 342 #[iv p1, iv p2, .val (.long q3), .second, iv p4, iv (9 : Int32), iv um, rv b633, rv b700, iv (0 : Int32), rv wx] [(.ref wx), (.ref wx)])) X790 hx rfl rfl rfl (pc0 := 342) (pc' := 345) (same := true) rfl (hb hby at_342) rfl (decide_eq_true rfl) (by decide) (by decide) k) ?_
        show own_GoW p e below s _ _ _ _ (T790.setTop (mkF m 345 #[iv p1, iv p2, .val (.long q3), .second, iv p4, iv (9 : Int32), iv um, rv b633, rv b700, iv (0 : Int32), rv wx] []))
        refine own_goW (fun _ k => XS.iconst X790.here hx rfl (hb hby at_345) (XS.goto X790.here hx rfl (pc0 := 346) (pc' := 350) rfl (hb hby at_346) (by decide) (by decide) k)) ?_
        show own_GoW p e below s _ _ _ _ (T790.setTop (mkF m 350 #[iv p1, iv p2, .val (.long q3), .second, iv p4, iv (9 : Int32), iv um, rv b633, rv b700, iv (0 : Int32), rv wx] [(.int (1 : Int32))]))
        refine own_retNW X790 hS hL hZ hJ hx hlk e790 (t := .boolean) hret (by simp) (hb hby at_350) (by show _ ≤ 16; omega) (by show _ ≤ 1152; omega) ?_
        exact ⟨rfl, N0, K0⟩
theorem ef_law (m : MethodId) (x0 : Int32) (x1 : Int32) (x2 : Int64) (x3 : Int32) : entryFrame m #[(.int x0), (.int x1), (.long x2), (.int x3)] maxLocals = mkF m 0 #[iv x0, iv x1, .val (.long x2), .second, iv x3, .unset, .unset, .unset, .unset, .unset, .unset] [] := by first | (simp [entryFrame, mkF, argsToLocals, Value.category, maxLocals]; done) | rfl
set_option maxRecDepth 65536 in
set_option maxHeartbeats 40000000 in
theorem rm_law (l : Launch) (Z : State) (a0 : Array Value) (hw : own_W Z a0) {zc : Int32} {wx : Addr} {wy : Addr} {wsp : Addr} {wspv : Addr} {wspk : ClassId} (hO : own_Olds Z zc wx wy wsp wspv wspk) (ws : List Jvm.Cond) (p1 : Int32) (p2 : Int32) (q3 : Int64) (p4 : Int32) (h0 : Heap) (O0 : Ext Z.heap h0) :
    MetFree l x (head1 (Jvm.Cond.code x code maxLocals ret :: ws) room_1) (fun a U => a = #[(.int p1), (.int p2), (.long q3), (.int p4)] ∧ Z.Warmed39 U.vm ∧ U.heap = h0 ∧ own_J Z U.vm U.heap) (fun _ _ _ _ _ => True) (fun _ U o U' => ∃ v L, o = .returned v ∧ ((Q_law Z zc wx wy wsp wspv wspk p1 p2 q3 p4 h0) v U'.heap L ∧ own_J Z U'.vm U'.heap) ∧ ReturnedEndW U o U' L room_1.cells room_1.slots) := by
  refine own_metW (Q := (Q_law Z zc wx wy wsp wspv wspk p1 p2 q3 p4 h0)) _ _ (plainFor_of_name own_pn_1) ?_
  intro p e s vm0 m below meth c T X0 hS hJ hJ0 hZ0 hI hs0 hx hby hml hret hlk hZ hown hnm e0
  replace hown : (s.setVm vm0).vm.findClass "com/example/padlock/padlock/lock/AccessOfNodePinLaw" = some m.cls := hown
  replace hnm : meth.name = "law" := hnm
  have hml : c.maxLocals = 11 := hml
  obtain ⟨oCS, oCz, oEx, oSh, oPF, oSPE, oSPC, oSPF, oSPV⟩ := id hO
  have N0 := Fr.nil Z.heap.size
  have hL := own_Lhw hw
  have K0 := Keep.refl h0 []
  refine own_goW (fun _ k => castTop (ef_law m p1 p2 q3 p4) k) ?_
  show own_GoW p e below s _ _ _ _ (T.setTop (mkF m 0 #[iv p1, iv p2, .val (.long q3), .second, iv p4, .unset, .unset, .unset, .unset, .unset, .unset] []))
  refine own_goW (fun _ k => XS.iloadN X0.here hx rfl (hb hby at_0) rfl k) ?_
  refine own_goW (X0.ldcInt hx hown (mvT hZ (ow0 hw)) (g := (mkF m 1 #[iv p1, iv p2, .val (.long q3), .second, iv p4, .unset, .unset, .unset, .unset, .unset, .unset] [(.int p1)])) rfl (hb hby at_1)) ?_
  refine own_goW (fun _ k => XS.iand X0.here hx rfl (hb hby at_3) rfl (XS.bipush X0.here hx rfl (hb hby at_4) (iremM X0 hx rfl (hb hby at_6) rfl (by decide : ¬ ((10 : Int32) = (0 : Int32))) (XS.istore X0.here hx rfl (hb hby at_7) rfl (l' := #[iv p1, iv p2, .val (.long q3), .second, iv p4, iv ((p1 &&& (2147483647 : Int32)) % (10 : Int32)), .unset, .unset, .unset, .unset, .unset]) rfl k)))) ?_
  show own_GoW p e below s _ _ _ _ (T.setTop (mkF m 9 #[iv p1, iv p2, .val (.long q3), .second, iv p4, iv ((p1 &&& (2147483647 : Int32)) % (10 : Int32)), .unset, .unset, .unset, .unset, .unset] []))
  refine own_goW (fun _ k => XS.iloadN X0.here hx rfl (hb hby at_9) rfl (XS.bipush X0.here hx rfl (hb hby at_10) (XS.iand X0.here hx rfl (hb hby at_12) rfl (XS.istore X0.here hx rfl (hb hby at_13) rfl (l' := #[iv p1, iv p2, .val (.long q3), .second, iv p4, iv ((p1 &&& (2147483647 : Int32)) % (10 : Int32)), iv (p2 &&& (127 : Int32)), .unset, .unset, .unset, .unset]) rfl (XS.iloadN X0.here hx rfl (hb hby at_15) rfl (XS.bipush X0.here hx rfl (hb hby at_16) k)))))) ?_
  show own_GoW p e below s _ _ _ _ (T.setTop (mkF m 18 #[iv p1, iv p2, .val (.long q3), .second, iv p4, iv ((p1 &&& (2147483647 : Int32)) % (10 : Int32)), iv (p2 &&& (127 : Int32)), .unset, .unset, .unset, .unset] [(.int (7 : Int32)), (.int p2)]))
  refine own_goW (fun _ k => XS.iushr X0.here hx rfl (hb hby at_18) rfl (XS.iconst X0.here hx rfl (hb hby at_19) (XS.iand X0.here hx rfl (hb hby at_20) rfl k))) ?_
  by_cases hc791 : (((p2.toUInt32 >>> ((7 : Int32) &&& 31).toUInt32).toInt32) &&& (1 : Int32)) = (0 : Int32)
  · refine own_goW (fun _ k => XS.ifYes X0.here hx rfl (pc0 := 21) (pc' := 40) rfl (hb hby at_21) rfl ((if0 _ _).trans (teq hc791).1) (by decide) (by decide) k) ?_
    show own_GoW p e below s _ _ _ _ (T.setTop (mkF m 40 #[iv p1, iv p2, .val (.long q3), .second, iv p4, iv ((p1 &&& (2147483647 : Int32)) % (10 : Int32)), iv (p2 &&& (127 : Int32)), .unset, .unset, .unset, .unset] []))
    exact sg_s40 hw hO p1 p2 q3 p4 (p2 &&& (127 : Int32)) h0 h0 X0 hS hL hJ hx hby hml hret hlk hZ hown hnm e0 N0 O0 K0 (by omega) (by omega)
  · refine own_goW (fun _ k => XS.ifNo X0.here hx rfl (hb hby at_21) rfl ((if0 _ _).trans (feq hc791).1) k) ?_
    show own_GoW p e below s _ _ _ _ (T.setTop (mkF m 24 #[iv p1, iv p2, .val (.long q3), .second, iv p4, iv ((p1 &&& (2147483647 : Int32)) % (10 : Int32)), iv (p2 &&& (127 : Int32)), .unset, .unset, .unset, .unset] []))
    refine own_goW (fun _ k => XS.bipush X0.here hx rfl (hb hby at_24) (XS.iconst X0.here hx rfl (hb hby at_26) (XS.iloadN X0.here hx rfl (hb hby at_27) rfl (XS.bipush X0.here hx rfl (hb hby at_28) (XS.iushr X0.here hx rfl (hb hby at_30) rfl (XS.bipush X0.here hx rfl (hb hby at_31) k)))))) ?_
    show own_GoW p e below s _ _ _ _ (T.setTop (mkF m 33 #[iv p1, iv p2, .val (.long q3), .second, iv p4, iv ((p1 &&& (2147483647 : Int32)) % (10 : Int32)), iv (p2 &&& (127 : Int32)), .unset, .unset, .unset, .unset] [(.int (7 : Int32)), (.int ((p2.toUInt32 >>> ((8 : Int32) &&& 31).toUInt32).toInt32)), (.int (1 : Int32)), (.int (127 : Int32))]))
    refine own_goW (fun _ k => XS.iand X0.here hx rfl (hb hby at_33) rfl (XS.ishl X0.here hx rfl (hb hby at_34) rfl (XS.iconst X0.here hx rfl (hb hby at_35) (XS.ixor X0.here hx rfl (hb hby at_36) rfl (XS.iand X0.here hx rfl (hb hby at_37) rfl (XS.istore X0.here hx rfl (hb hby at_38) rfl (l' := #[iv p1, iv p2, .val (.long q3), .second, iv p4, iv ((p1 &&& (2147483647 : Int32)) % (10 : Int32)), iv ((127 : Int32) &&& (((1 : Int32) <<< ((((p2.toUInt32 >>> ((8 : Int32) &&& 31).toUInt32).toInt32) &&& (7 : Int32)) &&& 31)) ^^^ (-1 : Int32))), .unset, .unset, .unset, .unset]) rfl k)))))) ?_
    show own_GoW p e below s _ _ _ _ (T.setTop (mkF m 40 #[iv p1, iv p2, .val (.long q3), .second, iv p4, iv ((p1 &&& (2147483647 : Int32)) % (10 : Int32)), iv ((127 : Int32) &&& (((1 : Int32) <<< ((((p2.toUInt32 >>> ((8 : Int32) &&& 31).toUInt32).toInt32) &&& (7 : Int32)) &&& 31)) ^^^ (-1 : Int32))), .unset, .unset, .unset, .unset] []))
    exact sg_s40 hw hO p1 p2 q3 p4 ((127 : Int32) &&& (((1 : Int32) <<< ((((p2.toUInt32 >>> ((8 : Int32) &&& 31).toUInt32).toInt32) &&& (7 : Int32)) &&& 31)) ^^^ (-1 : Int32))) h0 h0 X0 hS hL hJ hx hby hml hret hlk hZ hown hnm e0 N0 O0 K0 (by omega) (by omega)
set_option maxRecDepth 65536 in
set_option maxHeartbeats 40000000 in
theorem comes_1 {Post : Tables → Env → Array Value → State → Outcome → State → Prop} (hpost : ∀ tb e args s v u, (limb_1_1.after args s (.returned v) u = true ∧ limb_1_2.after args s (.returned v) u = true ∧ True) → ReturnedEndW s (.returned v) u (Jvm.fieldLocs frame_1_writes args s ++ Jvm.arrayLocs frame_1_arrays args s ++ Jvm.staticLocs frame_1_statics s) 16 1152 → Post tb e args s (.returned v) u) :
    ArmFor flags0 classFile x code maxLocals ret World_1 tables_1 room_1 Calls_1 rest_1 Pre_1 Post := by
  intro l hfl _ _ p e ha hc hk s m args below hf hA hF happ hP
  obtain ⟨hcalls, hrest, hpre⟩ := hP
  obtain ⟨-, -, -, hnamed, -, -, -, hat⟩ := (Spec.applies_iff hf).mp happ
  obtain ⟨hg, hn⟩ := and_e (Cond.before_iff.mp (show (Jvm.Cond.and given_1 narrow_1).before args s = true from hpre))
  obtain ⟨gA0, gB0⟩ := and_e hg
  obtain ⟨gA1, gB1⟩ := and_e gB0
  obtain ⟨gA2, gB2⟩ := and_e gB1
  obtain ⟨gA3, gB3⟩ := and_e gB2
  obtain ⟨w0, w1, w2, w3, rfl⟩ : ∃ w0 w1 w2 w3 : Value, args = #[w0, w1, w2, w3] := by
    have hs : args.size = 4 := by simpa [Cond.value, given_1] using gA0
    obtain ⟨L⟩ := args
    match L, hs with
    | [w0, w1, w2, w3], _ => exact ⟨w0, w1, w2, w3, rfl⟩
  have hw := fun d (hd : d ∈ tables_1) => atoms_spec (ws := Jvm.Cond.code x code maxLocals ret :: tables_1) hat d (List.mem_cons_of_mem _ hd)
  have hfit : Fit s := fun {y c} hc i hi => by
    obtain ⟨ha, rfl⟩ := Array.getElem?_eq_some_iff.mp hc
    have q := List.all_eq_true.mp ((Array.all_eq_true_iff_forall_mem.mp hF) _ (Array.getElem_mem ha)) i (List.mem_range.mpr hi)
    simpa [Array.getElem?_eq_getElem hi] using q
  obtain ⟨hsets, hown0⟩ := atoms_of _ (rest_1_c_eq ▸ (show rest_1_c.before _ s = true from hrest))
  have hr0 := Cond.before_iff.mp hown0
  obtain ⟨i0, ei0⟩ := is_v gA1
  obtain rfl : w0 = (.int i0) := Option.some.inj ei0
  obtain ⟨i1, ei1⟩ := is_v gA2
  obtain rfl : w1 = (.int i1) := Option.some.inj ei1
  obtain ⟨i2, ei2⟩ := isL_v gA3
  obtain rfl : w2 = (.long i2) := Option.some.inj ei2
  obtain ⟨i3, ei3⟩ := is_v gB3
  obtain rfl : w3 = (.int i3) := Option.some.inj ei3
  obtain ⟨zc, cse⟩ := is_v (Cond.before_iff.mp (hsets _ (List.mem_of_getElem? (i := 1) rfl)))
  have oCS := Sta.start cse (Or.inl (hsets _ (List.mem_of_getElem? (i := 0) rfl)))
  have csn := Cond.before_iff.mp (hsets _ (List.mem_of_getElem? (i := 2) rfl))
  have oCz : ¬ zc = (0 : Int32) := gotF (Cond.eq_ints cse (Term.int_eval 0)) (by have q := not_v csn; simpa using q)
  have hJst : own_J s s.vm s.heap := own_Jstart hw (hsets _ (List.mem_of_getElem? (i := 2) rfl)) hcalls
  obtain ⟨nw0, hn⟩ := and_e hn
  obtain ⟨nw1, hn⟩ := and_e hn
  obtain ⟨nw2, hn⟩ := and_e hn
  obtain ⟨nw3, hn⟩ := and_e hn
  obtain ⟨nw4, hn⟩ := and_e hn
  obtain ⟨nw5, hn⟩ := and_e hn
  obtain ⟨nw6, hn⟩ := and_e hn
  obtain ⟨nw7, hn⟩ := and_e hn
  obtain ⟨nw8, hn⟩ := and_e hn
  obtain ⟨nw9, hn⟩ := and_e hn
  obtain ⟨nw10, hn⟩ := and_e hn
  obtain ⟨nw11, hn⟩ := and_e hn
  obtain ⟨nw12, hn⟩ := and_e hn
  obtain ⟨nw13, hn⟩ := and_e hn
  obtain ⟨nw14, hn⟩ := and_e hn
  obtain ⟨nw15, hn⟩ := and_e hn
  obtain ⟨nw16, hn⟩ := and_e hn
  obtain ⟨nw17, hn⟩ := and_e hn
  obtain ⟨nw18, hn⟩ := and_e hn
  obtain ⟨nw19, hn⟩ := and_e hn
  obtain ⟨nw20, hn⟩ := and_e hn
  obtain ⟨nw21, hn⟩ := and_e hn
  obtain ⟨nw22, hn⟩ := and_e hn
  obtain ⟨nw23, hn⟩ := and_e hn
  obtain ⟨nw24, hn⟩ := and_e hn
  obtain ⟨nw25, hn⟩ := and_e hn
  have nw26 := hn
  obtain ⟨wx, e1⟩ := exa_v nw5
  obtain ⟨wy, e2⟩ := exa_v nw0
  have oEx := Sta.start e1 (Or.inr ⟨(ow25 hw), (ow53 hw)⟩)
  have oSh := Sta.start e2 (Or.inr ⟨(ow25 hw), (ow28 hw)⟩)
  obtain ⟨wsp, xSPe⟩ := exa_v nw1
  have oSPE := Exa.start xSPe nw1
  have oSPC := Fld.start (own_ordFld nw4 xSPe)
  obtain ⟨wspv, xSPf⟩ := arr_v nw2
  have oSPF := Fld.start ((fld_at xSPe).symm.trans xSPf)
  obtain ⟨xSPc, xSPA⟩ := Arr.start xSPf nw2
  have xSPn := own_lenOf xSPf (xSPA.fin (Vm.Alike.refl _)) nw3
  have oSPV : Arv s s.heap wspv xSPc.cls .byte (7 : Int32) [.int (115 : Int32), .int (104 : Int32), .int (97 : Int32), .int (114 : Int32), .int (101 : Int32), .int (100 : Int32), .int (45 : Int32)] (.int (0 : Int32)) := Arv.start hfit xSPA xSPn.1 xSPn.2 (by decide) rfl ⟨own_elemI xSPf (xSPA.fin (Vm.Alike.refl _)) (by decide) nw10, own_elemI xSPf (xSPA.fin (Vm.Alike.refl _)) (by decide) nw11, own_elemI xSPf (xSPA.fin (Vm.Alike.refl _)) (by decide) nw12, own_elemI xSPf (xSPA.fin (Vm.Alike.refl _)) (by decide) nw13, own_elemI xSPf (xSPA.fin (Vm.Alike.refl _)) (by decide) nw14, own_elemI xSPf (xSPA.fin (Vm.Alike.refl _)) (by decide) nw15, own_elemI xSPf (xSPA.fin (Vm.Alike.refl _)) (by decide) nw16, trivial⟩
  have oPF := Fld.start ((fld_at e2).symm.trans xSPe)
  have hO : own_Olds s _ _ _ _ _ _ := ⟨oCS, oCz, oEx, oSh, oPF, oSPE, oSPC, oSPF, oSPV⟩
  obtain ⟨n, o, h1, h2, h3, _, L, rfl, ⟨⟨rfl, N, -⟩, -⟩, hq⟩ := rm_law l s _ hw hO tables_1 i0 i1 i2 i3  s.heap ⟨Nat.le_refl _, fun _ _ q => q⟩  p e ha hc hk s m _ below hf ((Spec.applies_iff_loose hf).mp happ).1 ⟨rfl, State.Warmed39.refl s, rfl, hJst⟩ trivial
  refine ⟨n, _, h1, h2, h3, hpost _ _ _ _ _ _ ⟨Cond.after_iff.mpr rfl, Cond.after_iff.mpr (eq_i res_at (Term.int_eval (1)) rfl), trivial⟩ ⟨hq.1, hq.2.1, hq.2.2.1, (hq.2.2.2.sift fun y hy => Or.inr (N y hy)).mono (by decide) (by decide)⟩⟩
theorem main_1_1 : Claimed_1_1 := comes_1 fun _ _ _ _ _ _ h hF => ⟨h.1, hF⟩
theorem main_1_2 : Claimed_1_2 := comes_1 fun _ _ _ _ _ _ h hF => ⟨h.2.1, hF⟩
end Jvm.Pilot.@@N@@
namespace Jvm.Pilot.@@N@@
open Jvm Jvm.ClassFile Sem Op Lib Jvm.Free Jvm.Stand Jvm.Pilot.@@N@@.Jvm.D
/-! MADE BY PROGRAM (witnessworld.py) out of the Statement's table words and the real class files: 22 classes; the members and pool entries that the words name. The judged class is class 1, her method 1. -/
namespace start1
open Jvm.ClassFile
def u (s : String) : CpInfo := .utf8 (stringToUtf16 s)
/-- a pool by its gaps: so many unusable entries, then the entry; so many at the end -/
def gap : Nat → List CpInfo → List CpInfo
  | 0, r => r
  | n + 1, r => .unusable :: gap n r
def poolList (es : List (Nat × CpInfo)) (last : Nat) : List CpInfo := es.foldr (fun e r => gap e.1 (e.2 :: r)) (gap last [])
def pool (es : List (Nat × CpInfo)) (last : Nat) : Array CpInfo := ⟨poolList es last⟩
def fileOf (pool : Array CpInfo) (this : Nat) (attrs : Array Attribute := #[]) (ms : Array MethodInfo := #[]) (fl : Nat := 33) (sup : Nat := 0) (ifs : Array Nat := #[]) (fds : Array FieldInfo := #[]) : ClassFile where
  minorVersion := 0
  majorVersion := 65
  constantPool := pool
  accessFlags := fl
  thisClass := this
  superClass := sup
  interfaces := ifs
  fields := fds
  methods := ms
  attributes := attrs
def plain (name : String) (sup : Option ClassId) : Class where
  name := name
  kind := .ordinary
  loader := none
  accessFlags := 33
  super := sup
  interfaces := #[]
  cf := none
  fields := #[]
  methods := #[]
  instanceTypes := #[]
  staticTypes := #[]
  resolved := #[]
  callSites := []
  init := .initialized
  statics := none
  mirror := none

def pool0 : Array CpInfo := pool [(5, u "<init>"), (0, u "()V"), (1, .class_ 10), (1, u "java/lang/Object")] 113

def k0c0 : Code := { maxStack := 0, maxLocals := 1, code := object_method_1_code, exceptionTable := #[], attributes := #[] }
def k0m0 : Method := { name := "<init>", desc := "()V", sig := { parameters := [], returnType := none }, accessFlags := 1, code := some k0c0 }
/-- java/lang/Object -/
def k0 : Class := { plain "java/lang/Object" none with
  accessFlags := 33
  interfaces := #[]
  cf := some (fileOf pool0 8 #[] #[{ accessFlags := 1, nameIndex := 5, descriptorIndex := 6, attributes := #[] }] 33 0 #[] #[])
  fields := #[]
  methods := #[k0m0]
  instanceTypes := #[]
  staticTypes := #[]
  resolved := Array.replicate 124 none
  statics := none }

def pool1 : Array CpInfo := pool [(2, .class_ 4), (1, u "java/lang/Object"), (0, u "<init>"), (0, u "()V"), (0, .integer 2147483647), (0, .methodref 9 10), (0, .class_ 11), (0, .nameAndType 12 13), (0, u "com/example/padlock/padlock/lock/AccessOfNodePinLaw"), (0, u "pick"), (0, u "(ICIJ)C"), (0, .long 255), (1, .class_ 17), (0, u "java/lang/String"), (0, .methodref 16 19), (0, .nameAndType 5 20), (0, u "([C)V"), (0, .methodref 22 23), (0, .class_ 24), (0, .nameAndType 25 26), (0, u "com/example/padlock/padlock/lock/Access"), (0, u "ofNode"), (0, u "(Ljava/lang/String;)Lcom/example/padlock/padlock/lock/Access;"), (0, .fieldref 22 28), (0, .nameAndType 29 30), (0, u "SHARED"), (0, u "Lcom/example/padlock/padlock/lock/Access;"), (0, .fieldref 22 32), (0, .nameAndType 33 30), (0, u "EXCLUSIVE"), (2, u "law"), (0, u "(IIJI)Z")] 5

def k1m0 : Method := { name := "<init>", desc := "()V", sig := { parameters := [], returnType := none }, accessFlags := 1, code := none }
def k1c1 : Code := { maxStack := 7, maxLocals := 11, code := code, exceptionTable := #[], attributes := #[] }
def k1m1 : Method := { name := "law", desc := "(IIJI)Z", sig := { parameters := [.int, .int, .long, .int], returnType := some .boolean }, accessFlags := 9, code := some k1c1 }
def k1c2 : Code := { maxStack := 4, maxLocals := 5, code := method_3_code, exceptionTable := #[], attributes := #[] }
def k1m2 : Method := { name := "pick", desc := "(ICIJ)C", sig := { parameters := [.int, .char, .int, .long], returnType := some .char }, accessFlags := 10, code := some k1c2 }
/-- com/example/padlock/padlock/lock/AccessOfNodePinLaw -/
def k1 : Class := { plain "com/example/padlock/padlock/lock/AccessOfNodePinLaw" (some 0) with
  accessFlags := 49
  interfaces := #[]
  cf := some (fileOf pool1 9 #[] #[{ accessFlags := 1, nameIndex := 5, descriptorIndex := 6, attributes := #[] }, { accessFlags := 9, nameIndex := 36, descriptorIndex := 37, attributes := #[] }, { accessFlags := 10, nameIndex := 12, descriptorIndex := 13, attributes := #[] }] 49 2 #[] #[])
  fields := #[]
  methods := #[k1m0, k1m1, k1m2]
  instanceTypes := #[]
  staticTypes := #[]
  resolved := Array.replicate 43 none
  statics := none }

def pool2 : Array CpInfo := pool [(1, .class_ 2), (0, u "java/io/Serializable"), (0, .class_ 4), (0, u "java/lang/Object")] 2

/-- java/io/Serializable -/
def k2 : Class := { plain "java/io/Serializable" (some 0) with
  accessFlags := 1537
  interfaces := #[]
  cf := some (fileOf pool2 1 #[] #[] 1537 3 #[] #[])
  fields := #[]
  methods := #[]
  instanceTypes := #[]
  staticTypes := #[]
  resolved := Array.replicate 7 none
  statics := none }

def pool3 : Array CpInfo := pool [(1, .class_ 2), (0, u "java/lang/Comparable"), (0, .class_ 4), (0, u "java/lang/Object")] 7

/-- java/lang/Comparable -/
def k3 : Class := { plain "java/lang/Comparable" (some 0) with
  accessFlags := 1537
  interfaces := #[]
  cf := some (fileOf pool3 1 #[] #[] 1537 3 #[] #[])
  fields := #[]
  methods := #[]
  instanceTypes := #[]
  staticTypes := #[]
  resolved := Array.replicate 12 none
  statics := none }

def pool4 : Array CpInfo := pool [(2, .class_ 4), (1, u "java/lang/CharSequence"), (42, .class_ 48), (0, u "java/lang/CharSequence$1CodePointIterator"), (10, .class_ 60), (0, u "java/lang/CharSequence$1CharIterator"), (5, .class_ 67), (0, u "java/lang/Object")] 63

/-- java/lang/CharSequence -/
def k4 : Class := { plain "java/lang/CharSequence" (some 0) with
  accessFlags := 1537
  interfaces := #[]
  cf := some (fileOf pool4 2 #[.nestMembers #[47, 59]] #[] 1537 66 #[] #[])
  fields := #[]
  methods := #[]
  instanceTypes := #[]
  staticTypes := #[]
  resolved := Array.replicate 131 none
  statics := none }

def pool5 : Array CpInfo := pool [(1, .class_ 2), (0, u "java/lang/constant/Constable"), (0, .class_ 4), (0, u "java/lang/Object")] 6

/-- java/lang/constant/Constable -/
def k5 : Class := { plain "java/lang/constant/Constable" (some 0) with
  accessFlags := 1537
  interfaces := #[]
  cf := some (fileOf pool5 1 #[] #[] 1537 3 #[] #[])
  fields := #[]
  methods := #[]
  instanceTypes := #[]
  staticTypes := #[]
  resolved := Array.replicate 11 none
  statics := none }

def pool6 : Array CpInfo := pool [(1, .class_ 2), (0, u "java/lang/constant/ConstantDesc"), (0, .class_ 4), (0, u "java/lang/Object")] 32

/-- java/lang/constant/ConstantDesc -/
def k6 : Class := { plain "java/lang/constant/ConstantDesc" (some 0) with
  accessFlags := 1537
  interfaces := #[]
  cf := some (fileOf pool6 1 #[] #[] 1537 3 #[] #[])
  fields := #[]
  methods := #[]
  instanceTypes := #[]
  staticTypes := #[]
  resolved := Array.replicate 37 none
  statics := none }

def pool7 : Array CpInfo := pool [(1, .methodref 2 3), (0, .class_ 4), (0, .nameAndType 5 6), (0, u "java/lang/Object"), (0, u "<init>"), (0, u "()V"), (0, .string 8), (0, u ""), (0, .fieldref 10 11), (0, .class_ 12), (0, .nameAndType 13 14), (0, u "java/lang/String"), (0, u "value"), (0, u "[B"), (0, .fieldref 10 16), (0, .nameAndType 17 18), (0, u "coder"), (0, u "B"), (2, u "hash"), (0, u "I"), (2, u "hashIsZero"), (0, u "Z"), (0, .methodref 10 28), (0, .nameAndType 5 29), (0, u "([CIILjava/lang/Void;)V"), (8, .fieldref 10 39), (0, .nameAndType 40 26), (0, u "COMPACT_STRINGS"), (1, .class_ 44), (1, u "java/lang/StringUTF16"), (0, u "compress"), (1, .methodref 42 48), (0, .nameAndType 49 50), (0, u "coderFromArrayLen"), (0, u "([BI)B"), (126, .methodref 42 178), (0, .nameAndType 45 179), (0, u "([CII)[B"), (154, u "()I"), (0, .methodref 10 336), (0, .nameAndType 17 337), (0, u "()B"), (38, u "([BI[BII)I"), (128, .methodref 10 506), (0, .nameAndType 507 334), (0, u "length"), (51, .class_ 561), (1, u "jdk/internal/util/ArraysSupport"), (0, u "mismatch"), (12, .class_ 576), (0, u "java/lang/CharSequence"), (22, u "CASE_INSENSITIVE_ORDER"), (0, u "Ljava/util/Comparator;"), (6, .methodref 559 608), (0, .nameAndType 562 376), (15, .methodref 10 625), (0, .nameAndType 626 627), (0, u "startsWith"), (0, u "(Ljava/lang/String;I)Z"), (382, u "([C)V"), (90, u "serialPersistentFields"), (0, u "[Ljava/io/ObjectStreamField;"), (0, .class_ 1104), (0, u "java/lang/String$CaseInsensitiveComparator"), (1, .class_ 1107), (0, u "java/io/Serializable"), (0, .class_ 1109), (0, u "java/lang/Comparable"), (0, .class_ 1111), (0, u "java/lang/constant/Constable"), (0, .class_ 1113), (0, u "java/lang/constant/ConstantDesc"), (2, u "serialVersionUID"), (0, u "J"), (3, u "REPL"), (0, u "C"), (2, u "LATIN1"), (1, u "UTF16"), (129, u "(Ljava/lang/String;)Z")] 193

def k7m0 : Method := { name := "<init>", desc := "()V", sig := { parameters := [], returnType := none }, accessFlags := 1, code := none }
def k7c1 : Code := { maxStack := 5, maxLocals := 2, code := jdk_42_method_3_code, exceptionTable := #[], attributes := #[] }
def k7m1 : Method := { name := "<init>", desc := "([C)V", sig := { parameters := [(.array .char)], returnType := none }, accessFlags := 1, code := some k7c1 }
def k7c2 : Code := { maxStack := 2, maxLocals := 1, code := jdk_42_method_54_code, exceptionTable := #[], attributes := #[] }
def k7m2 : Method := { name := "length", desc := "()I", sig := { parameters := [], returnType := some .int }, accessFlags := 1, code := some k7c2 }
def k7c3 : Code := { maxStack := 5, maxLocals := 8, code := jdk_42_method_75_code, exceptionTable := #[], attributes := #[] }
def k7m3 : Method := { name := "startsWith", desc := "(Ljava/lang/String;I)Z", sig := { parameters := [(.object "java/lang/String"), .int], returnType := some .boolean }, accessFlags := 1, code := some k7c3 }
def k7c4 : Code := { maxStack := 3, maxLocals := 2, code := jdk_42_method_76_code, exceptionTable := #[], attributes := #[] }
def k7m4 : Method := { name := "startsWith", desc := "(Ljava/lang/String;)Z", sig := { parameters := [(.object "java/lang/String")], returnType := some .boolean }, accessFlags := 1, code := some k7c4 }
def k7c5 : Code := { maxStack := 4, maxLocals := 6, code := jdk_42_method_149_code, exceptionTable := #[], attributes := #[] }
def k7m5 : Method := { name := "<init>", desc := "([CIILjava/lang/Void;)V", sig := { parameters := [(.array .char), .int, .int, (.object "java/lang/Void")], returnType := none }, accessFlags := 2, code := some k7c5 }
def k7c6 : Code := { maxStack := 1, maxLocals := 1, code := jdk_42_method_152_code, exceptionTable := #[], attributes := #[] }
def k7m6 : Method := { name := "coder", desc := "()B", sig := { parameters := [], returnType := some .byte }, accessFlags := 0, code := some k7c6 }
/-- java/lang/String -/
def k7 : Class := { plain "java/lang/String" (some 0) with
  accessFlags := 49
  interfaces := #[2, 3, 4, 5, 6]
  cf := some (fileOf pool7 10 #[.nestMembers #[1103]] #[{ accessFlags := 1, nameIndex := 5, descriptorIndex := 6, attributes := #[] }, { accessFlags := 1, nameIndex := 5, descriptorIndex := 1010, attributes := #[] }, { accessFlags := 1, nameIndex := 507, descriptorIndex := 334, attributes := #[] }, { accessFlags := 1, nameIndex := 626, descriptorIndex := 627, attributes := #[] }, { accessFlags := 1, nameIndex := 626, descriptorIndex := 1257, attributes := #[] }, { accessFlags := 2, nameIndex := 5, descriptorIndex := 29, attributes := #[] }, { accessFlags := 0, nameIndex := 17, descriptorIndex := 337, attributes := #[] }] 49 2 #[1106, 1108, 575, 1110, 1112] #[{ accessFlags := 18, nameIndex := 13, descriptorIndex := 14, attributes := #[] }, { accessFlags := 18, nameIndex := 17, descriptorIndex := 18, attributes := #[] }, { accessFlags := 2, nameIndex := 21, descriptorIndex := 22, attributes := #[] }, { accessFlags := 2, nameIndex := 25, descriptorIndex := 26, attributes := #[] }, { accessFlags := 26, nameIndex := 1116, descriptorIndex := 1117, attributes := #[] }, { accessFlags := 24, nameIndex := 40, descriptorIndex := 26, attributes := #[] }, { accessFlags := 26, nameIndex := 1101, descriptorIndex := 1102, attributes := #[] }, { accessFlags := 26, nameIndex := 1121, descriptorIndex := 1122, attributes := #[] }, { accessFlags := 25, nameIndex := 599, descriptorIndex := 600, attributes := #[] }, { accessFlags := 24, nameIndex := 1125, descriptorIndex := 18, attributes := #[] }, { accessFlags := 24, nameIndex := 1127, descriptorIndex := 18, attributes := #[] }])
  fields := #[{ name := "value", type := (.array .byte), accessFlags := 18, slot := 0, constantValue := 0 }, { name := "coder", type := .byte, accessFlags := 18, slot := 1, constantValue := 0 }, { name := "hash", type := .int, accessFlags := 2, slot := 2, constantValue := 0 }, { name := "hashIsZero", type := .boolean, accessFlags := 2, slot := 3, constantValue := 0 }, { name := "serialVersionUID", type := .long, accessFlags := 26, slot := 0, constantValue := 0 }, { name := "COMPACT_STRINGS", type := .boolean, accessFlags := 24, slot := 1, constantValue := 0 }, { name := "serialPersistentFields", type := (.array (.object "java/io/ObjectStreamField")), accessFlags := 26, slot := 2, constantValue := 0 }, { name := "REPL", type := .char, accessFlags := 26, slot := 3, constantValue := 0 }, { name := "CASE_INSENSITIVE_ORDER", type := (.object "java/util/Comparator"), accessFlags := 25, slot := 4, constantValue := 0 }, { name := "LATIN1", type := .byte, accessFlags := 24, slot := 5, constantValue := 0 }, { name := "UTF16", type := .byte, accessFlags := 24, slot := 6, constantValue := 0 }]
  methods := #[k7m0, k7m1, k7m2, k7m3, k7m4, k7m5, k7m6]
  instanceTypes := #[(.array .byte), .byte, .int, .boolean]
  staticTypes := #[.long, .boolean, (.array (.object "java/io/ObjectStreamField")), .char, (.object "java/util/Comparator"), .byte, .byte]
  resolved := Array.replicate 1451 none
  statics := some 0 }

def pool8 : Array CpInfo := pool [(2, .class_ 4), (1, u "java/lang/Enum"), (0, u "name"), (0, u "Ljava/lang/String;"), (2, u "ordinal"), (0, u "I"), (1, .class_ 14), (1, u "java/lang/Object"), (4, u "hash"), (86, .class_ 108), (1, u "java/lang/Enum$EnumDesc"), (2, .class_ 112), (0, u "java/lang/constant/Constable"), (0, .class_ 114), (0, u "java/lang/Comparable"), (0, .class_ 116), (0, u "java/io/Serializable")] 87

/-- java/lang/Enum -/
def k8 : Class := { plain "java/lang/Enum" (some 0) with
  accessFlags := 1057
  interfaces := #[5, 3, 2]
  cf := some (fileOf pool8 2 #[.nestMembers #[106]] #[] 1057 12 #[111, 113, 115] #[{ accessFlags := 18, nameIndex := 5, descriptorIndex := 6, attributes := #[] }, { accessFlags := 18, nameIndex := 9, descriptorIndex := 10, attributes := #[] }, { accessFlags := 2, nameIndex := 19, descriptorIndex := 10, attributes := #[] }])
  fields := #[{ name := "name", type := (.object "java/lang/String"), accessFlags := 18, slot := 0, constantValue := 0 }, { name := "ordinal", type := .int, accessFlags := 18, slot := 1, constantValue := 0 }, { name := "hash", type := .int, accessFlags := 2, slot := 2, constantValue := 0 }]
  methods := #[]
  instanceTypes := #[(.object "java/lang/String"), .int, .int]
  staticTypes := #[]
  resolved := Array.replicate 204 none
  statics := none }

def pool9 : Array CpInfo := pool [(7, .class_ 8), (0, u "com/example/padlock/padlock/line/GrantRule"), (0, .class_ 10), (0, u "java/lang/Object")] 11

/-- com/example/padlock/padlock/line/GrantRule -/
def k9 : Class := { plain "com/example/padlock/padlock/line/GrantRule" (some 0) with
  accessFlags := 1537
  interfaces := #[]
  cf := some (fileOf pool9 7 #[] #[] 1537 9 #[] #[])
  fields := #[]
  methods := #[]
  instanceTypes := #[]
  staticTypes := #[]
  resolved := Array.replicate 22 none
  statics := none }

def pool10 : Array CpInfo := pool [(1, .class_ 2), (0, u "com/example/padlock/padlock/lock/Access"), (0, .fieldref 1 4), (0, .nameAndType 5 6), (0, u "EXCLUSIVE"), (0, u "Lcom/example/padlock/padlock/lock/Access;"), (0, .fieldref 1 8), (0, .nameAndType 9 6), (0, u "SHARED"), (2, u "$VALUES"), (0, u "[Lcom/example/padlock/padlock/lock/Access;"), (6, .class_ 22), (1, u "java/lang/Enum"), (6, .fieldref 1 30), (0, .nameAndType 31 32), (0, u "nodePrefix"), (0, u "Ljava/lang/String;"), (2, u "title"), (0, .methodref 37 38), (0, .class_ 39), (0, .nameAndType 40 41), (0, u "java/lang/String"), (0, u "startsWith"), (0, u "(Ljava/lang/String;)Z"), (40, u "ofNode"), (0, u "(Ljava/lang/String;)Lcom/example/padlock/padlock/lock/Access;"), (33, .class_ 118), (0, u "com/example/padlock/padlock/line/GrantRule")] 36

def k10c0 : Code := { maxStack := 2, maxLocals := 1, code := prog_5_method_4_code, exceptionTable := #[], attributes := #[] }
def k10m0 : Method := { name := "ofNode", desc := "(Ljava/lang/String;)Lcom/example/padlock/padlock/lock/Access;", sig := { parameters := [(.object "java/lang/String")], returnType := some (.object "com/example/padlock/padlock/lock/Access") }, accessFlags := 8, code := some k10c0 }
/-- com/example/padlock/padlock/lock/Access -/
def k10 : Class := { plain "com/example/padlock/padlock/lock/Access" (some 8) with
  accessFlags := 16433
  interfaces := #[9]
  cf := some (fileOf pool10 1 #[] #[{ accessFlags := 8, nameIndex := 82, descriptorIndex := 83, attributes := #[] }] 16433 20 #[117] #[{ accessFlags := 16409, nameIndex := 5, descriptorIndex := 6, attributes := #[] }, { accessFlags := 16409, nameIndex := 9, descriptorIndex := 6, attributes := #[] }, { accessFlags := 18, nameIndex := 31, descriptorIndex := 32, attributes := #[] }, { accessFlags := 18, nameIndex := 35, descriptorIndex := 32, attributes := #[] }, { accessFlags := 4122, nameIndex := 12, descriptorIndex := 13, attributes := #[] }])
  fields := #[{ name := "EXCLUSIVE", type := (.object "com/example/padlock/padlock/lock/Access"), accessFlags := 16409, slot := 0, constantValue := 0 }, { name := "SHARED", type := (.object "com/example/padlock/padlock/lock/Access"), accessFlags := 16409, slot := 1, constantValue := 0 }, { name := "nodePrefix", type := (.object "java/lang/String"), accessFlags := 18, slot := 3, constantValue := 0 }, { name := "title", type := (.object "java/lang/String"), accessFlags := 18, slot := 4, constantValue := 0 }, { name := "$VALUES", type := (.array (.object "com/example/padlock/padlock/lock/Access")), accessFlags := 4122, slot := 2, constantValue := 0 }]
  methods := #[k10m0]
  instanceTypes := #[(.object "java/lang/String"), .int, .int, (.object "java/lang/String"), (.object "java/lang/String")]
  staticTypes := #[(.object "com/example/padlock/padlock/lock/Access"), (.object "com/example/padlock/padlock/lock/Access"), (.array (.object "com/example/padlock/padlock/lock/Access"))]
  resolved := Array.replicate 155 none
  statics := some 1 }

def pool11 : Array CpInfo := pool [(6, .class_ 8), (1, u "java/lang/Object"), (0, u "<init>"), (0, u "()V"), (1, .class_ 14), (1, u "java/lang/StringUTF16"), (31, u "$assertionsDisabled"), (0, u "Z"), (13, u "HI_BYTE_SHIFT"), (0, u "I"), (2, u "LO_BYTE_SHIFT"), (49, .methodref 12 116), (0, .nameAndType 117 118), (0, u "compress"), (0, u "([CI[BII)I"), (3, u "([CII)[B"), (138, u "coderFromArrayLen"), (0, u "([BI)B"), (106, .class_ 371), (1, u "java/lang/StringUTF16$LinesSpliterator"), (58, u "MAX_LENGTH"), (196, .class_ 628), (0, u "java/lang/StringUTF16$CodePointsSpliterator"), (0, .class_ 630), (0, u "java/lang/StringUTF16$CharsSpliterator")] 4

def k11m0 : Method := { name := "<init>", desc := "()V", sig := { parameters := [], returnType := none }, accessFlags := 0, code := none }
def k11c1 : Code := { maxStack := 2, maxLocals := 2, code := jdk_52_method_15_code, exceptionTable := #[], attributes := #[] }
def k11m1 : Method := { name := "coderFromArrayLen", desc := "([BI)B", sig := { parameters := [(.array .byte), .int], returnType := some .byte }, accessFlags := 8, code := some k11c1 }
def k11c2 : Code := { maxStack := 5, maxLocals := 6, code := jdk_52_method_16_code, exceptionTable := #[], attributes := #[] }
def k11m2 : Method := { name := "compress", desc := "([CII)[B", sig := { parameters := [(.array .char), .int, .int], returnType := some (.array .byte) }, accessFlags := 9, code := some k11c2 }
def k11c3 : Code := { maxStack := 3, maxLocals := 7, code := jdk_52_method_21_code, exceptionTable := #[], attributes := #[] }
def k11m3 : Method := { name := "compress", desc := "([CI[BII)I", sig := { parameters := [(.array .char), .int, (.array .byte), .int, .int], returnType := some .int }, accessFlags := 9, code := some k11c3 }
/-- java/lang/StringUTF16 -/
def k11 : Class := { plain "java/lang/StringUTF16" (some 0) with
  accessFlags := 48
  interfaces := #[]
  cf := some (fileOf pool11 12 #[.nestMembers #[627, 629, 369]] #[{ accessFlags := 0, nameIndex := 9, descriptorIndex := 10, attributes := #[] }, { accessFlags := 8, nameIndex := 261, descriptorIndex := 262, attributes := #[] }, { accessFlags := 9, nameIndex := 117, descriptorIndex := 122, attributes := #[] }, { accessFlags := 9, nameIndex := 117, descriptorIndex := 118, attributes := #[] }] 48 6 #[] #[{ accessFlags := 26, nameIndex := 61, descriptorIndex := 62, attributes := #[] }, { accessFlags := 26, nameIndex := 65, descriptorIndex := 62, attributes := #[] }, { accessFlags := 24, nameIndex := 430, descriptorIndex := 62, attributes := #[] }, { accessFlags := 4120, nameIndex := 46, descriptorIndex := 47, attributes := #[] }])
  fields := #[{ name := "HI_BYTE_SHIFT", type := .int, accessFlags := 26, slot := 0, constantValue := 0 }, { name := "LO_BYTE_SHIFT", type := .int, accessFlags := 26, slot := 1, constantValue := 0 }, { name := "MAX_LENGTH", type := .int, accessFlags := 24, slot := 2, constantValue := 0 }, { name := "$assertionsDisabled", type := .boolean, accessFlags := 4120, slot := 3, constantValue := 0 }]
  methods := #[k11m0, k11m1, k11m2, k11m3]
  instanceTypes := #[]
  staticTypes := #[.int, .int, .int, .boolean]
  resolved := Array.replicate 635 none
  statics := none }

def pool12 : Array CpInfo := pool [(9, u "<init>"), (6, .class_ 18), (1, u "java/lang/Object"), (0, u "()V"), (1, .class_ 23), (1, u "jdk/internal/util/ArraysSupport"), (0, u "LOG2_ARRAY_LONG_INDEX_SCALE"), (0, u "I"), (2, u "U"), (0, u "Ljdk/internal/misc/Unsafe;"), (8, u "BIG_ENDIAN"), (0, u "Z"), (8, u "LOG2_BYTE_BIT_SIZE"), (4, u "LOG2_ARRAY_INT_INDEX_SCALE"), (54, u "JLA"), (0, u "Ljdk/internal/access/JavaLangAccess;"), (11, u "LOG2_ARRAY_BOOLEAN_INDEX_SCALE"), (9, u "LOG2_ARRAY_BYTE_INDEX_SCALE"), (5, u "LOG2_ARRAY_CHAR_INDEX_SCALE"), (5, u "LOG2_ARRAY_SHORT_INDEX_SCALE"), (5, u "mismatch"), (12, u "LOG2_ARRAY_FLOAT_INDEX_SCALE"), (24, u "LOG2_ARRAY_DOUBLE_INDEX_SCALE"), (89, u "T_BOOLEAN"), (2, u "T_CHAR"), (1, u "T_FLOAT"), (1, u "T_DOUBLE"), (1, u "T_BYTE"), (1, u "T_SHORT"), (1, u "T_INT"), (1, u "T_LONG"), (1, u "SOFT_MAX_ARRAY_LENGTH"), (42, u "([BI[BII)I")] 40

def k12m0 : Method := { name := "<init>", desc := "()V", sig := { parameters := [], returnType := none }, accessFlags := 2, code := none }
def k12c1 : Code := { maxStack := 8, maxLocals := 8, code := jdk_48_method_14_code, exceptionTable := #[], attributes := #[] }
def k12m1 : Method := { name := "mismatch", desc := "([BI[BII)I", sig := { parameters := [(.array .byte), .int, (.array .byte), .int, .int], returnType := some .int }, accessFlags := 9, code := some k12c1 }
/-- jdk/internal/util/ArraysSupport -/
def k12 : Class := { plain "jdk/internal/util/ArraysSupport" (some 0) with
  accessFlags := 33
  interfaces := #[]
  cf := some (fileOf pool12 21 #[] #[{ accessFlags := 2, nameIndex := 9, descriptorIndex := 19, attributes := #[] }, { accessFlags := 9, nameIndex := 149, descriptorIndex := 337, attributes := #[] }] 33 16 #[] #[{ accessFlags := 24, nameIndex := 28, descriptorIndex := 29, attributes := #[] }, { accessFlags := 26, nameIndex := 38, descriptorIndex := 39, attributes := #[] }, { accessFlags := 25, nameIndex := 121, descriptorIndex := 25, attributes := #[] }, { accessFlags := 25, nameIndex := 131, descriptorIndex := 25, attributes := #[] }, { accessFlags := 25, nameIndex := 137, descriptorIndex := 25, attributes := #[] }, { accessFlags := 25, nameIndex := 143, descriptorIndex := 25, attributes := #[] }, { accessFlags := 25, nameIndex := 53, descriptorIndex := 25, attributes := #[] }, { accessFlags := 25, nameIndex := 24, descriptorIndex := 25, attributes := #[] }, { accessFlags := 25, nameIndex := 162, descriptorIndex := 25, attributes := #[] }, { accessFlags := 25, nameIndex := 187, descriptorIndex := 25, attributes := #[] }, { accessFlags := 26, nameIndex := 48, descriptorIndex := 25, attributes := #[] }, { accessFlags := 25, nameIndex := 277, descriptorIndex := 25, attributes := #[] }, { accessFlags := 25, nameIndex := 280, descriptorIndex := 25, attributes := #[] }, { accessFlags := 25, nameIndex := 282, descriptorIndex := 25, attributes := #[] }, { accessFlags := 25, nameIndex := 284, descriptorIndex := 25, attributes := #[] }, { accessFlags := 25, nameIndex := 286, descriptorIndex := 25, attributes := #[] }, { accessFlags := 25, nameIndex := 288, descriptorIndex := 25, attributes := #[] }, { accessFlags := 25, nameIndex := 290, descriptorIndex := 25, attributes := #[] }, { accessFlags := 25, nameIndex := 292, descriptorIndex := 25, attributes := #[] }, { accessFlags := 26, nameIndex := 108, descriptorIndex := 109, attributes := #[] }, { accessFlags := 25, nameIndex := 294, descriptorIndex := 25, attributes := #[] }])
  fields := #[{ name := "U", type := (.object "jdk/internal/misc/Unsafe"), accessFlags := 24, slot := 0, constantValue := 0 }, { name := "BIG_ENDIAN", type := .boolean, accessFlags := 26, slot := 1, constantValue := 0 }, { name := "LOG2_ARRAY_BOOLEAN_INDEX_SCALE", type := .int, accessFlags := 25, slot := 2, constantValue := 0 }, { name := "LOG2_ARRAY_BYTE_INDEX_SCALE", type := .int, accessFlags := 25, slot := 3, constantValue := 0 }, { name := "LOG2_ARRAY_CHAR_INDEX_SCALE", type := .int, accessFlags := 25, slot := 4, constantValue := 0 }, { name := "LOG2_ARRAY_SHORT_INDEX_SCALE", type := .int, accessFlags := 25, slot := 5, constantValue := 0 }, { name := "LOG2_ARRAY_INT_INDEX_SCALE", type := .int, accessFlags := 25, slot := 6, constantValue := 0 }, { name := "LOG2_ARRAY_LONG_INDEX_SCALE", type := .int, accessFlags := 25, slot := 7, constantValue := 0 }, { name := "LOG2_ARRAY_FLOAT_INDEX_SCALE", type := .int, accessFlags := 25, slot := 8, constantValue := 0 }, { name := "LOG2_ARRAY_DOUBLE_INDEX_SCALE", type := .int, accessFlags := 25, slot := 9, constantValue := 0 }, { name := "LOG2_BYTE_BIT_SIZE", type := .int, accessFlags := 26, slot := 10, constantValue := 0 }, { name := "T_BOOLEAN", type := .int, accessFlags := 25, slot := 11, constantValue := 0 }, { name := "T_CHAR", type := .int, accessFlags := 25, slot := 12, constantValue := 0 }, { name := "T_FLOAT", type := .int, accessFlags := 25, slot := 13, constantValue := 0 }, { name := "T_DOUBLE", type := .int, accessFlags := 25, slot := 14, constantValue := 0 }, { name := "T_BYTE", type := .int, accessFlags := 25, slot := 15, constantValue := 0 }, { name := "T_SHORT", type := .int, accessFlags := 25, slot := 16, constantValue := 0 }, { name := "T_INT", type := .int, accessFlags := 25, slot := 17, constantValue := 0 }, { name := "T_LONG", type := .int, accessFlags := 25, slot := 18, constantValue := 0 }, { name := "JLA", type := (.object "jdk/internal/access/JavaLangAccess"), accessFlags := 26, slot := 19, constantValue := 0 }, { name := "SOFT_MAX_ARRAY_LENGTH", type := .int, accessFlags := 25, slot := 20, constantValue := 0 }]
  methods := #[k12m0, k12m1]
  instanceTypes := #[]
  staticTypes := #[(.object "jdk/internal/misc/Unsafe"), .boolean, .int, .int, .int, .int, .int, .int, .int, .int, .int, .int, .int, .int, .int, .int, .int, .int, .int, (.object "jdk/internal/access/JavaLangAccess"), .int]
  resolved := Array.replicate 378 none
  statics := none }

def pool13 : Array CpInfo := pool [(4, .class_ 6), (1, u "java/lang/Object"), (0, u "<init>"), (0, u "()V"), (5, .class_ 16), (1, u "java/lang/StringLatin1"), (104, u "$assertionsDisabled"), (0, u "Z"), (98, .class_ 223), (1, u "java/lang/StringLatin1$LinesSpliterator"), (166, .class_ 391), (0, u "java/lang/StringLatin1$CharsSpliterator")] 3

def k13m0 : Method := { name := "<init>", desc := "()V", sig := { parameters := [], returnType := none }, accessFlags := 0, code := none }
/-- java/lang/StringLatin1 -/
def k13 : Class := { plain "java/lang/StringLatin1" (some 0) with
  accessFlags := 48
  interfaces := #[]
  cf := some (fileOf pool13 14 #[.nestMembers #[390, 221]] #[{ accessFlags := 0, nameIndex := 7, descriptorIndex := 8, attributes := #[] }] 48 4 #[] #[{ accessFlags := 4120, nameIndex := 121, descriptorIndex := 122, attributes := #[] }])
  fields := #[{ name := "$assertionsDisabled", type := .boolean, accessFlags := 4120, slot := 0, constantValue := 0 }]
  methods := #[k13m0]
  instanceTypes := #[]
  staticTypes := #[.boolean]
  resolved := Array.replicate 395 none
  statics := none }

def pool14 : Array CpInfo := pool [(2, .class_ 4), (1, u "java/lang/Object"), (0, u "<init>"), (0, u "()V"), (17, .class_ 26), (1, u "jdk/internal/util/Preconditions"), (28, .class_ 56), (0, u "jdk/internal/util/Preconditions$4"), (57, .class_ 115), (0, u "jdk/internal/util/Preconditions$1"), (7, u "SIOOBE_FORMATTER"), (0, u "Ljava/util/function/BiFunction;"), (0, .class_ 126), (0, u "jdk/internal/util/Preconditions$2"), (3, u "AIOOBE_FORMATTER"), (0, .class_ 132), (0, u "jdk/internal/util/Preconditions$3"), (3, u "IOOBE_FORMATTER")] 57

def k14m0 : Method := { name := "<init>", desc := "()V", sig := { parameters := [], returnType := none }, accessFlags := 1, code := none }
/-- jdk/internal/util/Preconditions -/
def k14 : Class := { plain "jdk/internal/util/Preconditions" (some 0) with
  accessFlags := 33
  interfaces := #[]
  cf := some (fileOf pool14 24 #[.nestMembers #[55, 131, 125, 114]] #[{ accessFlags := 1, nameIndex := 5, descriptorIndex := 6, attributes := #[] }] 33 2 #[] #[{ accessFlags := 25, nameIndex := 123, descriptorIndex := 124, attributes := #[] }, { accessFlags := 25, nameIndex := 130, descriptorIndex := 124, attributes := #[] }, { accessFlags := 25, nameIndex := 136, descriptorIndex := 124, attributes := #[] }])
  fields := #[{ name := "SIOOBE_FORMATTER", type := (.object "java/util/function/BiFunction"), accessFlags := 25, slot := 0, constantValue := 0 }, { name := "AIOOBE_FORMATTER", type := (.object "java/util/function/BiFunction"), accessFlags := 25, slot := 1, constantValue := 0 }, { name := "IOOBE_FORMATTER", type := (.object "java/util/function/BiFunction"), accessFlags := 25, slot := 2, constantValue := 0 }]
  methods := #[k14m0]
  instanceTypes := #[]
  staticTypes := #[(.object "java/util/function/BiFunction"), (.object "java/util/function/BiFunction"), (.object "java/util/function/BiFunction")]
  resolved := Array.replicate 194 none
  statics := some 2 }

def pool15 : Array CpInfo := pool [(1, u "java/lang/Cloneable"), (0, .class_ 1), (0, u "java/lang/Object"), (0, .class_ 3)] 3

/-- java/lang/Cloneable -/
def k15 : Class := { plain "java/lang/Cloneable" (some 0) with
  accessFlags := 1537
  interfaces := #[]
  cf := some (fileOf pool15 2 #[] #[] 1537 4 #[] #[])
  fields := #[]
  methods := #[]
  instanceTypes := #[]
  staticTypes := #[]
  resolved := Array.replicate 8 none
  statics := none }

/-- the primitive byte -/
def k16 : Class := { plain "byte" none with kind := .primitive 'B', accessFlags := 0x411 }
/-- [B -/
def k17 : Class := { plain "[B" (some 0) with kind := .array 16 .byte, interfaces := #[15, 2], accessFlags := 1041 }

/-- the primitive char -/
def k18 : Class := { plain "char" none with kind := .primitive 'C', accessFlags := 0x411 }
/-- [C -/
def k19 : Class := { plain "[C" (some 0) with kind := .array 18 .char, interfaces := #[15, 2], accessFlags := 1041 }

/-- the primitive int -/
def k20 : Class := { plain "int" none with kind := .primitive 'I', accessFlags := 0x411 }
/-- [I -/
def k21 : Class := { plain "[I" (some 0) with kind := .array 20 .int, interfaces := #[15, 2], accessFlags := 1041 }

def heap : Heap := #[{ cls := 7, slots := #[.long 0, .int 1, .null, .int 0, .null, .int 0, .int 0], vm := .statics 7 },
  { cls := 10, slots := #[.ref 7, .ref 8, .null], vm := .statics 10 },
  { cls := 14, slots := #[.null, .null, .null], vm := .statics 14 },
  { cls := 17, slots := #[.int 115, .int 104, .int 97, .int 114, .int 101, .int 100, .int 45], vm := .none },
  { cls := 17, slots := #[.int 101, .int 120, .int 99, .int 108, .int 117, .int 115, .int 105, .int 118, .int 101, .int 45], vm := .none },
  { cls := 7, slots := #[.ref 3, .int 0, .int 0, .int 0], vm := .none },
  { cls := 7, slots := #[.ref 4, .int 0, .int 0, .int 0], vm := .none },
  { cls := 10, slots := #[.null, .int 0, .int 0, .ref 6, .null], vm := .none },
  { cls := 10, slots := #[.null, .int 1, .int 0, .ref 5, .null], vm := .none }]
def classes : Array Class := #[k0, k1, k2, k3, k4, k5, k6, k7, k8, k9, k10, k11, k12, k13, k14, k15, k16, k17, k18, k19, k20, k21]
def interned : List (Array UInt16 × Addr) := []
def slotsUsed : Nat := 48
def theMethod : MethodId := ⟨1, 1⟩
def args0 : Array Value := #[.int 3, .int 4, .long 7, .int 5]
def aboutOver (below : List Frame) : State where
  vm := { classes := classes, interned := interned.toArray }
  heap := heap
  slotsUsed := slotsUsed
  threads := #[{ frames := .invoking theMethod args0 :: below }]
def below0 : List Frame := [.native { method := ⟨0, 0⟩, args := #[] }]
def about1 : State := aboutOver below0
def p0 : Program := .bare "" "" ""
def e0 : Env := launch0.env 0 0 0
theorem w_frames : about1.frames = Frame.invoking theMethod args0 :: below0 := rfl
set_option maxRecDepth 65536 in
theorem w_args : argsFit about1.vm theMethod args0 = true := by decide +kernel
set_option maxRecDepth 65536 in
theorem w_heap : heapFits about1 = true := by decide +kernel
set_option maxRecDepth 65536 in
theorem w_runnable : about1.curStatus? = some .runnable := by decide +kernel
set_option maxRecDepth 65536 in
theorem w_alone : about1.alone = true := by decide +kernel
set_option maxRecDepth 65536 in
theorem w_named : about1.methodNamed? x = some theMethod := by decide +kernel
set_option maxRecDepth 65536 in
theorem w_hears : about1.hears theMethod below0 = true := by decide +kernel
set_option maxRecDepth 65536 in
theorem w_ripe : about1.ripe theMethod args0 below0 = true := by decide +kernel
theorem w_running : about1.status = .running := rfl
set_option maxRecDepth 65536 in
theorem w_room : about1.hasRoom e0.platform room_1 = true :=
  launch0.hasRoom_least _ room_1 (by decide +kernel) (by decide +kernel) (by decide +kernel) (by decide +kernel) (by decide +kernel) (by decide +kernel)
theorem allAtoms_all (ts : List Jvm.Cond) (a : Array Jvm.Value) (st : Jvm.State) : (allAtoms ts).before a st = ts.all (fun c => c.before a st) := by
  induction ts with
  | nil => rfl
  | cons c t ih =>
    show (Jvm.Cond.and c (allAtoms t)).before a st = _
    rw [Jvm.Cond.before_and, ih, List.all_cons]
def words1 : List Jvm.Cond := Jvm.Cond.code x code maxLocals ret :: tables_1
/-- a 'code' word, met by the world's own term for the bytes: nothing is compared byte by byte -/
theorem code_word {y : MethodName} {bytes : ByteArray} {mx : Nat} {rt : Option FieldType} {a : Array Value} {s : State} {m : MethodId} {meth : Method} {c : Code} (h1 : s.methodNamed? y = some m) (h2 : s.vm.method? m = some meth) (h3 : meth.code = some c) (h4 : c.code = bytes)
    (h5 : (c.maxLocals == mx && c.exceptionTable.isEmpty && decide (c.maxStack ≤ mostOperands) && decide (meth.sig.returnType = rt) && !meth.locks && decide (parseMethodDescriptor y.desc = some meth.sig)) = true) : (Jvm.Cond.code y bytes mx rt).before a s = true := by
  simp only [Bool.and_eq_true, beq_iff_eq, Bool.not_eq_true', decide_eq_true_eq] at h5
  obtain ⟨⟨⟨⟨⟨g1, g2⟩, g3⟩, g4⟩, g5⟩, g6⟩ := h5
  simp [Cond.before, Cond.holds, Cond.value, h1, h2, h3, h4, g1, g2, g3, g4, g5, g6]
def isCode : Jvm.Cond → Bool
  | .code _ _ _ _ => true
  | _ => false
theorem all_split {L : List Jvm.Cond} {P : Jvm.Cond → Bool} (h1 : L.all (fun c => isCode c || P c) = true) (h2 : ∀ c ∈ L.filter isCode, P c = true) : L.all P = true := by
  refine List.all_eq_true.mpr fun c hc => ?_
  have h := List.all_eq_true.mp h1 c hc
  rcases Bool.eq_false_or_eq_true (isCode c) with hi | hi
  · exact h2 c (List.mem_filter.mpr ⟨hc, hi⟩)
  · simpa [hi] using h
set_option maxRecDepth 65536 in
theorem w_c0 : (Jvm.Cond.code x code maxLocals ret).before args0 about1 = true := code_word (m := ⟨1, 1⟩) (meth := k1m1) (c := k1c1) (by decide +kernel) rfl rfl rfl (by decide +kernel)
set_option maxRecDepth 65536 in
theorem w_c1 : (Jvm.Cond.code ({ cls := "java/lang/String", name := "<init>", desc := "([C)V" } : Jvm.MethodName) jdk_42_method_3_code (2 : Nat) (Option.none : Option Jvm.ClassFile.FieldType)).before args0 about1 = true := code_word (m := ⟨7, 1⟩) (meth := k7m1) (c := k7c1) (by decide +kernel) rfl rfl rfl (by decide +kernel)
set_option maxRecDepth 65536 in
theorem w_c2 : (Jvm.Cond.code ({ cls := "java/lang/String", name := "<init>", desc := "([CIILjava/lang/Void;)V" } : Jvm.MethodName) jdk_42_method_149_code (6 : Nat) (Option.none : Option Jvm.ClassFile.FieldType)).before args0 about1 = true := code_word (m := ⟨7, 5⟩) (meth := k7m5) (c := k7c5) (by decide +kernel) rfl rfl rfl (by decide +kernel)
set_option maxRecDepth 65536 in
theorem w_c3 : (Jvm.Cond.code ({ cls := "java/lang/Object", name := "<init>", desc := "()V" } : Jvm.MethodName) object_method_1_code (1 : Nat) (Option.none : Option Jvm.ClassFile.FieldType)).before args0 about1 = true := code_word (m := ⟨0, 0⟩) (meth := k0m0) (c := k0c0) (by decide +kernel) rfl rfl rfl (by decide +kernel)
set_option maxRecDepth 65536 in
theorem w_c4 : (Jvm.Cond.code ({ cls := "com/example/padlock/padlock/lock/Access", name := "ofNode", desc := "(Ljava/lang/String;)Lcom/example/padlock/padlock/lock/Access;" } : Jvm.MethodName) prog_5_method_4_code (1 : Nat) (Option.some (Jvm.ClassFile.FieldType.object "com/example/padlock/padlock/lock/Access"))).before args0 about1 = true := code_word (m := ⟨10, 0⟩) (meth := k10m0) (c := k10c0) (by decide +kernel) rfl rfl rfl (by decide +kernel)
set_option maxRecDepth 65536 in
theorem w_c5 : (Jvm.Cond.code ({ cls := "java/lang/String", name := "startsWith", desc := "(Ljava/lang/String;)Z" } : Jvm.MethodName) jdk_42_method_76_code (2 : Nat) (Option.some Jvm.ClassFile.FieldType.boolean)).before args0 about1 = true := code_word (m := ⟨7, 4⟩) (meth := k7m4) (c := k7c4) (by decide +kernel) rfl rfl rfl (by decide +kernel)
set_option maxRecDepth 65536 in
theorem w_c6 : (Jvm.Cond.code ({ cls := "java/lang/String", name := "startsWith", desc := "(Ljava/lang/String;I)Z" } : Jvm.MethodName) jdk_42_method_75_code (8 : Nat) (Option.some Jvm.ClassFile.FieldType.boolean)).before args0 about1 = true := code_word (m := ⟨7, 3⟩) (meth := k7m3) (c := k7c3) (by decide +kernel) rfl rfl rfl (by decide +kernel)
set_option maxRecDepth 65536 in
theorem w_c7 : (Jvm.Cond.code ({ cls := "java/lang/String", name := "length", desc := "()I" } : Jvm.MethodName) jdk_42_method_54_code (1 : Nat) (Option.some Jvm.ClassFile.FieldType.int)).before args0 about1 = true := code_word (m := ⟨7, 2⟩) (meth := k7m2) (c := k7c2) (by decide +kernel) rfl rfl rfl (by decide +kernel)
set_option maxRecDepth 65536 in
theorem w_c8 : (Jvm.Cond.code ({ cls := "java/lang/String", name := "coder", desc := "()B" } : Jvm.MethodName) jdk_42_method_152_code (1 : Nat) (Option.some Jvm.ClassFile.FieldType.byte)).before args0 about1 = true := code_word (m := ⟨7, 6⟩) (meth := k7m6) (c := k7c6) (by decide +kernel) rfl rfl rfl (by decide +kernel)
set_option maxRecDepth 65536 in
theorem w_c9 : (Jvm.Cond.code ({ cls := "com/example/padlock/padlock/lock/AccessOfNodePinLaw", name := "pick", desc := "(ICIJ)C" } : Jvm.MethodName) method_3_code (5 : Nat) (Option.some Jvm.ClassFile.FieldType.char)).before args0 about1 = true := code_word (m := ⟨1, 2⟩) (meth := k1m2) (c := k1c2) (by decide +kernel) rfl rfl rfl (by decide +kernel)
set_option maxRecDepth 65536 in
theorem w_c10 : (Jvm.Cond.code ({ cls := "java/lang/StringUTF16", name := "compress", desc := "([CII)[B" } : Jvm.MethodName) jdk_52_method_16_code (6 : Nat) (Option.some (Jvm.ClassFile.FieldType.array Jvm.ClassFile.FieldType.byte))).before args0 about1 = true := code_word (m := ⟨11, 2⟩) (meth := k11m2) (c := k11c2) (by decide +kernel) rfl rfl rfl (by decide +kernel)
set_option maxRecDepth 65536 in
theorem w_c11 : (Jvm.Cond.code ({ cls := "java/lang/StringUTF16", name := "compress", desc := "([CI[BII)I" } : Jvm.MethodName) jdk_52_method_21_code (7 : Nat) (Option.some Jvm.ClassFile.FieldType.int)).before args0 about1 = true := code_word (m := ⟨11, 3⟩) (meth := k11m3) (c := k11c3) (by decide +kernel) rfl rfl rfl (by decide +kernel)
set_option maxRecDepth 65536 in
theorem w_c12 : (Jvm.Cond.code ({ cls := "java/lang/StringUTF16", name := "coderFromArrayLen", desc := "([BI)B" } : Jvm.MethodName) jdk_52_method_15_code (2 : Nat) (Option.some Jvm.ClassFile.FieldType.byte)).before args0 about1 = true := code_word (m := ⟨11, 1⟩) (meth := k11m1) (c := k11c1) (by decide +kernel) rfl rfl rfl (by decide +kernel)
set_option maxRecDepth 65536 in
theorem w_c13 : (Jvm.Cond.code ({ cls := "jdk/internal/util/ArraysSupport", name := "mismatch", desc := "([BI[BII)I" } : Jvm.MethodName) jdk_48_method_14_code (8 : Nat) (Option.some Jvm.ClassFile.FieldType.int)).before args0 about1 = true := code_word (m := ⟨12, 1⟩) (meth := k12m1) (c := k12c1) (by decide +kernel) rfl rfl rfl (by decide +kernel)
def codes1 : List Jvm.Cond := [Jvm.Cond.code x code maxLocals ret, Jvm.Cond.code ({ cls := "java/lang/String", name := "<init>", desc := "([C)V" } : Jvm.MethodName) jdk_42_method_3_code (2 : Nat) (Option.none : Option Jvm.ClassFile.FieldType), Jvm.Cond.code ({ cls := "java/lang/String", name := "<init>", desc := "([CIILjava/lang/Void;)V" } : Jvm.MethodName) jdk_42_method_149_code (6 : Nat) (Option.none : Option Jvm.ClassFile.FieldType), Jvm.Cond.code ({ cls := "java/lang/Object", name := "<init>", desc := "()V" } : Jvm.MethodName) object_method_1_code (1 : Nat) (Option.none : Option Jvm.ClassFile.FieldType), Jvm.Cond.code ({ cls := "com/example/padlock/padlock/lock/Access", name := "ofNode", desc := "(Ljava/lang/String;)Lcom/example/padlock/padlock/lock/Access;" } : Jvm.MethodName) prog_5_method_4_code (1 : Nat) (Option.some (Jvm.ClassFile.FieldType.object "com/example/padlock/padlock/lock/Access")), Jvm.Cond.code ({ cls := "java/lang/String", name := "startsWith", desc := "(Ljava/lang/String;)Z" } : Jvm.MethodName) jdk_42_method_76_code (2 : Nat) (Option.some Jvm.ClassFile.FieldType.boolean), Jvm.Cond.code ({ cls := "java/lang/String", name := "startsWith", desc := "(Ljava/lang/String;I)Z" } : Jvm.MethodName) jdk_42_method_75_code (8 : Nat) (Option.some Jvm.ClassFile.FieldType.boolean), Jvm.Cond.code ({ cls := "java/lang/String", name := "length", desc := "()I" } : Jvm.MethodName) jdk_42_method_54_code (1 : Nat) (Option.some Jvm.ClassFile.FieldType.int), Jvm.Cond.code ({ cls := "java/lang/String", name := "coder", desc := "()B" } : Jvm.MethodName) jdk_42_method_152_code (1 : Nat) (Option.some Jvm.ClassFile.FieldType.byte), Jvm.Cond.code ({ cls := "com/example/padlock/padlock/lock/AccessOfNodePinLaw", name := "pick", desc := "(ICIJ)C" } : Jvm.MethodName) method_3_code (5 : Nat) (Option.some Jvm.ClassFile.FieldType.char), Jvm.Cond.code ({ cls := "java/lang/StringUTF16", name := "compress", desc := "([CII)[B" } : Jvm.MethodName) jdk_52_method_16_code (6 : Nat) (Option.some (Jvm.ClassFile.FieldType.array Jvm.ClassFile.FieldType.byte)), Jvm.Cond.code ({ cls := "java/lang/StringUTF16", name := "compress", desc := "([CI[BII)I" } : Jvm.MethodName) jdk_52_method_21_code (7 : Nat) (Option.some Jvm.ClassFile.FieldType.int), Jvm.Cond.code ({ cls := "java/lang/StringUTF16", name := "coderFromArrayLen", desc := "([BI)B" } : Jvm.MethodName) jdk_52_method_15_code (2 : Nat) (Option.some Jvm.ClassFile.FieldType.byte), Jvm.Cond.code ({ cls := "jdk/internal/util/ArraysSupport", name := "mismatch", desc := "([BI[BII)I" } : Jvm.MethodName) jdk_48_method_14_code (8 : Nat) (Option.some Jvm.ClassFile.FieldType.int)]
set_option maxRecDepth 65536 in
theorem codes_eq : words1.filter isCode = codes1 := rfl
theorem w_codes : ∀ c ∈ words1.filter isCode, c.before args0 about1 = true := by
  rw [codes_eq]
  intro c hc
  simp only [codes1, List.mem_cons, List.not_mem_nil, or_false] at hc
  rcases hc with rfl | rfl | rfl | rfl | rfl | rfl | rfl | rfl | rfl | rfl | rfl | rfl | rfl | rfl
  · exact w_c0
  · exact w_c1
  · exact w_c2
  · exact w_c3
  · exact w_c4
  · exact w_c5
  · exact w_c6
  · exact w_c7
  · exact w_c8
  · exact w_c9
  · exact w_c10
  · exact w_c11
  · exact w_c12
  · exact w_c13
set_option maxRecDepth 65536 in
theorem w_t1 : (words1.take 24).all (fun c => isCode c || c.before args0 about1) = true := by decide +kernel
set_option maxRecDepth 65536 in
theorem w_t2 : ((words1.drop 24).take 24).all (fun c => isCode c || c.before args0 about1) = true := by decide +kernel
set_option maxRecDepth 65536 in
theorem w_t3 : (((words1.drop 24).drop 24).take 24).all (fun c => isCode c || c.before args0 about1) = true := by decide +kernel
set_option maxRecDepth 65536 in
theorem w_t4 : (((words1.drop 24).drop 24).drop 24).all (fun c => isCode c || c.before args0 about1) = true := by decide +kernel
theorem w_tables : (allAtoms (Jvm.Cond.code x code maxLocals ret :: tables_1)).before args0 about1 = true := by
  rw [allAtoms_all]
  show words1.all (fun c => c.before args0 about1) = true
  refine all_split ?_ w_codes
  rw [← List.take_append_drop 24 words1, List.all_append, w_t1, ← List.take_append_drop 24 (words1.drop 24), List.all_append, w_t2, ← List.take_append_drop 24 ((words1.drop 24).drop 24), List.all_append, w_t3, w_t4]
  rfl
set_option maxRecDepth 65536 in
theorem w_rest : rest_1_c.before args0 about1 = true := by decide +kernel
set_option maxRecDepth 65536 in
theorem w_case : (Jvm.Cond.and given_1 narrow_1).before args0 about1 = true := by decide +kernel
set_option maxRecDepth 65536 in
theorem w_consts : constsHeld consts_1 about1 := Jvm.Lit.constsHeldB_iff.mp (by decide +kernel)
theorem w_applies : (headSpec (Jvm.Cond.code x code maxLocals ret :: tables_1) room_1).applies x e0.platform about1 = true :=
  (Spec.applies_iff w_frames).mpr ⟨w_running, w_runnable, w_alone, w_named, w_hears, w_ripe, w_room, w_tables⟩
theorem atStart : AtStart classFile x code maxLocals ret World_1 tables_1 room_1 Calls_1 rest_1 Pre_1 launch0 p0 e0 about1 theMethod args0 below0 :=
  ⟨lists_1, trivial, launch0.admits_env _ _ _, launch0.least_env, fairChoices_fair.cas, fairChoices_fair.clock, w_frames, w_args, w_heap, w_applies, ⟨w_consts, trivial⟩, w_rest, w_case⟩
end start1
theorem witness_1 : WitnessClaimed_1 := ⟨start1.p0, start1.e0, start1.about1, start1.theMethod, start1.args0, start1.below0, start1.atStart⟩
end Jvm.Pilot.@@N@@
