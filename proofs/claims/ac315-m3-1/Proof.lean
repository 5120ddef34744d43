import JvmDerived
import JvmDerived.Pilot.@@N@@Statement
import JvmDerived.Pilot.@@N@@Code
set_option linter.unusedVariables false
set_option linter.unusedSimpArgs false
/- laws to paste: Road.backV (cut by pick.py; bodies as the Statement names them) -/
namespace Jvm.Pilot.@@N@@
namespace StrChars
open Jvm Sem ClassFile Op Lib Jvm.Stand Jvm.Free.XT Jvm.Free.ALB Jvm.Free.JM Jvm.Free
open Jvm.Lib.Cold (StaticIs)
/-- a char array whose places are chars -/
def Ch (a : Addr) (A : Cell) (U : State) : Prop := Arr .char a A U ∧ Typed .char A
theorem Ch.mv {a : Addr} {A : Cell} {U U' : State} (h : Ch a A U) (hal : U.vm.Alike U'.vm) (hh : U'.heap = U.heap) : Ch a A U' := ⟨h.1.mv hal hh, h.2⟩
theorem Ch.keep {a : Addr} {A : Cell} {U U' : State} (h : Ch a A U) (hal : U.vm.Alike U'.vm) (hk : U'.heap[a]? = some A) : Ch a A U' := ⟨h.1.keep hal hk, h.2⟩
/-- what place i of a char[]'s cell holds -/
def cv (A : Cell) (i : Nat) : Int32 := match A.slots[i]? with | some (.int x) => x | _ => 0
theorem Ch.get {a : Addr} {A : Cell} {U : State} (h : Ch a A U) {i : Nat} (hi : i < A.slots.size) : A.slots[i]? = some (.int (cv A i)) := by
  have e := Array.getElem?_eq_getElem hi
  have f := h.2 i _ e
  unfold cv; rw [e]
  generalize A.slots[i] = v at f
  cases v <;> simp [fits] at f ⊢
/-- the byte that i2b leaves of a char -/
def lo8 (x : Int32) : Int32 := x.toInt8.toInt32
theorem fits_lo8 (y : Int32) : fits .byte (.int (lo8 y)) = true := by
  have h1 := y.toInt8.le_toInt
  have h2 := y.toInt8.toInt_lt
  simp only [lo8, fits, Bool.and_eq_true, decide_eq_true_eq, Int32.le_iff_toInt_le, Int8.toInt_toInt32, show (-128 : Int32).toInt = -128 from by decide, show (127 : Int32).toInt = 127 from by decide]
  omega
/-- A' is A but that each place j of lo .. hi - 1 holds f j -/
def Laid (A A' : Cell) (lo hi : Nat) (f : Nat → Value) : Prop := A'.cls = A.cls ∧ A'.vm = A.vm ∧ A'.slots.size = A.slots.size ∧ ∀ i, A'.slots[i]? = if lo ≤ i ∧ i < hi then some (f i) else A.slots[i]?
theorem Laid.zero (A : Cell) (lo : Nat) (f : Nat → Value) : Laid A A lo (lo + 0) f := ⟨rfl, rfl, rfl, fun i => by rw [if_neg (by omega)]⟩
theorem Laid.step {A Ak : Cell} {lo k : Nat} {f : Nat → Value} {v : Value} (h : Laid A Ak lo k f) (hlo : lo ≤ k) (hk : k < Ak.slots.size) (hv : v = f k) : Laid A (Ak.setSlot k v) lo (k + 1) f := by
  refine ⟨h.1, h.2.1, by simpa [Cell.setSlot] using h.2.2.1, fun i => ?_⟩
  by_cases e : k = i
  · subst e; rw [Cell.slots_setSlot_self v hk, if_pos (by omega), hv]
  · rw [Cell.slots_setSlot_ne v e, h.2.2.2 i]
    by_cases q : lo ≤ i ∧ i < k
    · rw [if_pos q, if_pos (by omega)]
    · rw [if_neg q, if_neg (by omega)]
def U16 : String := "java/lang/StringUTF16"
namespace Cmp5
def yN : MethodName := ⟨"java/lang/StringUTF16", "compress", "([CI[BII)I"⟩
abbrev yB : ByteArray := jdk_52_method_21_code
theorem d0 : decode yB 0 = .ok (.iconst 0, 1) := by decide +kernel
theorem d1 : decode yB 1 = .ok (.istore 5, 2) := by decide +kernel
theorem d3 : decode yB 3 = .ok (.iload 5, 2) := by decide +kernel
theorem d5 : decode yB 5 = .ok (.iload 4, 2) := by decide +kernel
theorem d7 : decode yB 7 = .ok (.if_icmp (.ge) 37, 3) := by decide +kernel
theorem d10 : decode yB 10 = .ok (.aload_n 0, 1) := by decide +kernel
theorem d11 : decode yB 11 = .ok (.iload_n 1, 1) := by decide +kernel
theorem d12 : decode yB 12 = .ok (.caload, 1) := by decide +kernel
theorem d13 : decode yB 13 = .ok (.istore 6, 2) := by decide +kernel
theorem d15 : decode yB 15 = .ok (.iload 6, 2) := by decide +kernel
theorem d17 : decode yB 17 = .ok (.sipush 255, 3) := by decide +kernel
theorem d20 : decode yB 20 = .ok (.if_icmp (.le) 6, 3) := by decide +kernel
theorem d26 : decode yB 26 = .ok (.aload_n 2, 1) := by decide +kernel
theorem d27 : decode yB 27 = .ok (.iload_n 3, 1) := by decide +kernel
theorem d28 : decode yB 28 = .ok (.iload 6, 2) := by decide +kernel
theorem d30 : decode yB 30 = .ok (.i2b, 1) := by decide +kernel
theorem d31 : decode yB 31 = .ok (.bastore, 1) := by decide +kernel
theorem d32 : decode yB 32 = .ok (.iinc 1 1, 3) := by decide +kernel
theorem d35 : decode yB 35 = .ok (.iinc 3 1, 3) := by decide +kernel
theorem d38 : decode yB 38 = .ok (.iinc 5 1, 3) := by decide +kernel
theorem d41 : decode yB 41 = .ok (.goto (-38), 3) := by decide +kernel
theorem d44 : decode yB 44 = .ok (.iload 4, 2) := by decide +kernel
theorem d46 : decode yB 46 = .ok (.ireturn, 1) := by decide +kernel
def site : List Cond := []
def tab : Cond := tabOf yN yB 7 (some .int) site
def P (b : Addr) (A : Cell) (d : Addr) (B : Cell) (o q len : Nat) (args : Array Value) (s : State) : Prop := args = #[.ref b, .int (Int32.ofNat o), .ref d, .int (Int32.ofNat q), .int (Int32.ofNat len)] ∧ Ch b A s ∧ Arr .byte d B s ∧ b ≠ d ∧ o + len ≤ A.slots.size ∧ q + len ≤ B.slots.size ∧ ∀ i, i < len → ¬ 255 < cv A (o + i)
def E (b : Addr) (A : Cell) (d : Addr) (B : Cell) (o q len : Nat) (r : Option Value) (s u : State) : Prop := r = some (.int (Int32.ofNat len)) ∧ ∃ B', Put d B' s u ∧ Laid B B' q (q + len) (fun j => Value.int (lo8 (cv A (o + (j - q)))))
/-- no char of the range above 255: len; the places written hold each char's low byte -/
theorem law (l : Launch) (b : Addr) (A : Cell) (d : Addr) (B : Cell) (o q len : Nat) : Law l yN 5 5 0 0 yB 7 (some .int) site (P b A d B o q len) (E b A d B o q len) (copyLocs d q len) 0 0 := by
  refine Law.of_walk (plainFor_of_name (by decide +kernel)) (by decide +kernel) (by decide +kernel) (by decide) (fun _ _ h => by rw [h.1]; rfl) (fun _ U U' hal hh h => ⟨h.1, h.2.1.mv hal hh, h.2.2.1.mv hal hh, h.2.2.2⟩) (fun r U U' V V' h1 hal h2 h => ⟨h.1, h.2.elim fun B' q => ⟨B', q.1.mv h1 h2, q.2⟩⟩) ?_
  intro p e s m args below meth c s₁ X0 hexec hbytes hml hret hlk hnm hown hh0 W hP
  obtain ⟨rfl, hA, hB, hne, l1, l2, hp⟩ := hP
  have c1 : Steps p.tables e below (s₁.setTop (entryFrame m #[.ref b, .int (Int32.ofNat o), .ref d, .int (Int32.ofNat q), .int (Int32.ofNat len)] 7)) (s₁.setTop (mkF m 0 #[.val (.ref b), .val (.int (Int32.ofNat o)), .val (.ref d), .val (.int (Int32.ofNat q)), .val (.int (Int32.ofNat len)), .unset, .unset] [])) := entry rfl
  have hA0 := hA.1.mv X0.warmed.alike hh0
  have hB0 := hB.mv X0.warmed.alike hh0
  have a31 := hA.1.2.2.2
  have c2 : Steps p.tables e below (s₁.setTop (entryFrame m #[.ref b, .int (Int32.ofNat o), .ref d, .int (Int32.ofNat q), .int (Int32.ofNat len)] 7)) (s₁.setTop (mkF m 3 #[.val (.ref b), .val (.int (Int32.ofNat o)), .val (.ref d), .val (.int (Int32.ofNat q)), .val (.int (Int32.ofNat len)), .val (.int 0), .unset] [])) := c1.trans (by
    refine iconstV X0.here hexec rfl 0 (hb hbytes d0) (by decide) ?_
    refine XS.istore X0.here hexec rfl (hb hbytes d1) rfl rfl ?_
    exact Steps.refl _)
  have loop : ∀ (r i : Nat), i + r = len → ∀ (z : Slot), (z = .unset ∨ ∃ w, z = .val w ∧ w.category = 1) → ∀ (Tl : State) (Bk : Cell), Stand p l e { frames := 0, locals := 0, cells := 0, slots := 0 } s m #[.ref b, .int (Int32.ofNat o), .ref d, .int (Int32.ofNat q), .int (Int32.ofNat len)] below meth c Tl ([] ++ copyLocs d q i) 0 0 → Put d Bk s₁ Tl → Laid B Bk q (q + i) (fun j => Value.int (lo8 (cv A (o + (j - q))))) →
      Steps p.tables e below (s₁.setTop (entryFrame m #[.ref b, .int (Int32.ofNat o), .ref d, .int (Int32.ofNat q), .int (Int32.ofNat len)] 7)) (Tl.setTop (mkF m 3 #[.val (.ref b), .val (.int (Int32.ofNat (o + i))), .val (.ref d), .val (.int (Int32.ofNat (q + i))), .val (.int (Int32.ofNat len)), .val (.int (Int32.ofNat i)), z] [])) → ∃ (T' : State) (B' : Cell) (z' : Slot), Stand p l e { frames := 0, locals := 0, cells := 0, slots := 0 } s m #[.ref b, .int (Int32.ofNat o), .ref d, .int (Int32.ofNat q), .int (Int32.ofNat len)] below meth c T' ([] ++ copyLocs d q len) 0 0 ∧ Put d B' s₁ T' ∧ Laid B B' q (q + len) (fun j => Value.int (lo8 (cv A (o + (j - q))))) ∧
      Steps p.tables e below (s₁.setTop (entryFrame m #[.ref b, .int (Int32.ofNat o), .ref d, .int (Int32.ofNat q), .int (Int32.ofNat len)] 7)) (T'.setTop (mkF m 3 #[.val (.ref b), .val (.int (Int32.ofNat (o + len))), .val (.ref d), .val (.int (Int32.ofNat (q + len))), .val (.int (Int32.ofNat len)), .val (.int (Int32.ofNat len)), z'] [])) := by
    intro r
    induction r with
    | zero =>
      intro i hi z hz Tl Bk Xl pl fl cl
      have hil : i = len := by omega
      rw [hil] at Xl fl cl
      exact ⟨Tl, Bk, z, Xl, pl, fl, cl⟩
    | succ r ih =>
      intro i hi z hz Tl Bk Xl pl fl cl
      have all := X0.warmed.alike.symm.trans Xl.warmed.alike
      have hAl := hA0.keep all (pl.other hne hA0.1)
      have hBk := hB0.like all pl.1 fl.1 fl.2.1 fl.2.2.1
      have hlt : q + i < Bk.slots.size := by rw [fl.2.2.1]; omega
      have c3 : Steps p.tables e below (s₁.setTop (entryFrame m #[.ref b, .int (Int32.ofNat o), .ref d, .int (Int32.ofNat q), .int (Int32.ofNat len)] 7)) (Tl.setTop (mkF m 12 #[.val (.ref b), .val (.int (Int32.ofNat (o + i))), .val (.ref d), .val (.int (Int32.ofNat (q + i))), .val (.int (Int32.ofNat len)), .val (.int (Int32.ofNat i)), z] [.int (Int32.ofNat (o + i)), .ref b])) := cl.trans (by
        refine XS.iload Xl.here hexec rfl (hb hbytes d3) rfl ?_
        refine XS.iload Xl.here hexec rfl (hb hbytes d5) rfl ?_
        refine XS.icmpNo Xl.here hexec rfl (hb hbytes d7) rfl (ii_ge_f (lt32 (by omega) (by omega))) ?_
        refine XS.aloadN Xl.here hexec rfl (hb hbytes d10) rfl rfl ?_
        refine XS.iloadN Xl.here hexec rfl (hb hbytes d11) rfl ?_
        exact Steps.refl _)
      have c4 : Steps p.tables e below (s₁.setTop (entryFrame m #[.ref b, .int (Int32.ofNat o), .ref d, .int (Int32.ofNat q), .int (Int32.ofNat len)] 7)) (Tl.setTop (mkF m 13 #[.val (.ref b), .val (.int (Int32.ofNat (o + i))), .val (.ref d), .val (.int (Int32.ofNat (q + i))), .val (.int (Int32.ofNat len)), .val (.int (Int32.ofNat i)), z] [.int (cv A (o + i))])) := c3.trans (by
        refine Xl.aget hexec hAl rfl (hA.get (i := o + i) (by omega)) rfl rfl (hb hbytes d12) ?_
        exact Steps.refl _)
      have c5 : Steps p.tables e below (s₁.setTop (entryFrame m #[.ref b, .int (Int32.ofNat o), .ref d, .int (Int32.ofNat q), .int (Int32.ofNat len)] 7)) (Tl.setTop (mkF m 15 #[.val (.ref b), .val (.int (Int32.ofNat (o + i))), .val (.ref d), .val (.int (Int32.ofNat (q + i))), .val (.int (Int32.ofNat len)), .val (.int (Int32.ofNat i)), .val (.int (cv A (o + i)))] [])) := c4.trans (by
        refine XS.istoreS Xl.here hexec rfl (hb hbytes d13) rfl rfl hz ?_
        exact Steps.refl _)
      have c6 : Steps p.tables e below (s₁.setTop (entryFrame m #[.ref b, .int (Int32.ofNat o), .ref d, .int (Int32.ofNat q), .int (Int32.ofNat len)] 7)) (Tl.setTop (mkF m 31 #[.val (.ref b), .val (.int (Int32.ofNat (o + i))), .val (.ref d), .val (.int (Int32.ofNat (q + i))), .val (.int (Int32.ofNat len)), .val (.int (Int32.ofNat i)), .val (.int (cv A (o + i)))] [.int (lo8 (cv A (o + i))), .int (Int32.ofNat (q + i)), .ref d])) := c5.trans (by
        refine XS.iload Xl.here hexec rfl (hb hbytes d15) rfl ?_
        refine sipushV Xl.here hexec rfl 255 (hb hbytes d17) (by decide) ?_
        refine XS.icmpYes Xl.here hexec rfl (pc0 := 20) rfl (hb hbytes d20) rfl (ii_le_t (hp i (by omega))) (by decide) rfl ?_
        refine XS.aloadN Xl.here hexec rfl (hb hbytes d26) rfl rfl ?_
        refine XS.iloadN Xl.here hexec rfl (hb hbytes d27) rfl ?_
        refine XS.iload Xl.here hexec rfl (hb hbytes d28) rfl ?_
        refine i2b Xl.here hexec rfl (hb hbytes d30) rfl ?_
        exact Steps.refl _)
      obtain ⟨T7, X7, p7, st7⟩ := Xl.aput hexec hBk rfl hlt rfl (fits_lo8 (cv A (o + i))) (g := (mkF m 31 #[.val (.ref b), .val (.int (Int32.ofNat (o + i))), .val (.ref d), .val (.int (Int32.ofNat (q + i))), .val (.int (Int32.ofNat len)), .val (.int (Int32.ofNat i)), .val (.int (cv A (o + i)))] [.int (lo8 (cv A (o + i))), .int (Int32.ofNat (q + i)), .ref d])) rfl (rest := []) rfl (hb hbytes d31)
      have c8 : Steps p.tables e below (s₁.setTop (entryFrame m #[.ref b, .int (Int32.ofNat o), .ref d, .int (Int32.ofNat q), .int (Int32.ofNat len)] 7)) (T7.setTop (mkF m 32 #[.val (.ref b), .val (.int (Int32.ofNat (o + i))), .val (.ref d), .val (.int (Int32.ofNat (q + i))), .val (.int (Int32.ofNat len)), .val (.int (Int32.ofNat i)), .val (.int (cv A (o + i)))] [])) := c6.trans (st7 _ (Steps.refl _))
      have c9 : Steps p.tables e below (s₁.setTop (entryFrame m #[.ref b, .int (Int32.ofNat o), .ref d, .int (Int32.ofNat q), .int (Int32.ofNat len)] 7)) (T7.setTop (mkF m 3 #[.val (.ref b), .val (.int (Int32.ofNat (o + i) + 1)), .val (.ref d), .val (.int (Int32.ofNat (q + i) + 1)), .val (.int (Int32.ofNat len)), .val (.int (Int32.ofNat i + 1)), .val (.int (cv A (o + i)))] [])) := c8.trans (by
        refine iincV X7.here hexec rfl 1 (hb hbytes d32) (by decide) rfl rfl ?_
        refine iincV X7.here hexec rfl 1 (hb hbytes d35) (by decide) rfl rfl ?_
        refine iincV X7.here hexec rfl 1 (hb hbytes d38) (by decide) rfl rfl ?_
        refine XS.goto X7.here hexec rfl (pc0 := 41) rfl (hb hbytes d41) (by decide) rfl ?_
        exact Steps.refl _)
      have c10 : Steps p.tables e below (s₁.setTop (entryFrame m #[.ref b, .int (Int32.ofNat o), .ref d, .int (Int32.ofNat q), .int (Int32.ofNat len)] 7)) (T7.setTop (mkF m 3 #[.val (.ref b), .val (.int (Int32.ofNat (o + (i + 1)))), .val (.ref d), .val (.int (Int32.ofNat (q + (i + 1)))), .val (.int (Int32.ofNat len)), .val (.int (Int32.ofNat (i + 1))), .val (.int (cv A (o + i)))] [])) := by
        have := c9
        rw [succ32, succ32, succ32] at this
        exact this
      exact ih (i + 1) (by omega) _ (Or.inr ⟨_, rfl, rfl⟩) T7 _ (by rw [copyLocs_step, ← List.append_assoc]; exact X7) (pl.trans p7) (fl.step (by omega) hlt (by simp)) c10
  obtain ⟨T9, B9, z9, X9, p9, f9, g9⟩ := loop len 0 (by omega) .unset (Or.inl rfl) s₁ B (by simpa [copyLocs] using X0) ⟨hB0.1, fun _ _ => rfl, rfl⟩ (Laid.zero _ _ _) c2
  have c11 : Steps p.tables e below (s₁.setTop (entryFrame m #[.ref b, .int (Int32.ofNat o), .ref d, .int (Int32.ofNat q), .int (Int32.ofNat len)] 7)) (T9.setTop (mkF m 46 #[.val (.ref b), .val (.int (Int32.ofNat (o + len))), .val (.ref d), .val (.int (Int32.ofNat (q + len))), .val (.int (Int32.ofNat len)), .val (.int (Int32.ofNat len)), z9] [.int (Int32.ofNat len)])) := g9.trans (by
    refine XS.iload X9.here hexec rfl (hb hbytes d3) rfl ?_
    refine XS.iload X9.here hexec rfl (hb hbytes d5) rfl ?_
    refine XS.icmpYes X9.here hexec rfl (pc0 := 7) rfl (hb hbytes d7) rfl (ii_ge_t (nlt32 (by omega) (Nat.le_refl _))) (by decide) rfl ?_
    refine XS.iload X9.here hexec rfl (hb hbytes d44) rfl ?_
    exact Steps.refl _)
  exact ⟨T9, some (.int (Int32.ofNat len)), _, _, _, X9, by simp, rfl, rfl, (fun h => by cases h), ⟨rfl, B9, p9.from hh0, f9⟩, fun fs hl => c11.trans (X9.ireturnOut hexec hret rfl (Or.inl rfl) (hb hbytes d46) hl)⟩
end Cmp5
namespace Cmp3
def yN : MethodName := ⟨"java/lang/StringUTF16", "compress", "([CII)[B"⟩
abbrev yB : ByteArray := jdk_52_method_16_code
theorem d0 : decode yB 0 = .ok (.iload_n 2, 1) := by decide +kernel
theorem d1 : decode yB 1 = .ok (.newarray .byte, 2) := by decide +kernel
theorem d3 : decode yB 3 = .ok (.astore_n 3, 1) := by decide +kernel
theorem d4 : decode yB 4 = .ok (.aload_n 0, 1) := by decide +kernel
theorem d5 : decode yB 5 = .ok (.iload_n 1, 1) := by decide +kernel
theorem d6 : decode yB 6 = .ok (.aload_n 3, 1) := by decide +kernel
theorem d7 : decode yB 7 = .ok (.iconst 0, 1) := by decide +kernel
theorem d8 : decode yB 8 = .ok (.iload_n 2, 1) := by decide +kernel
theorem d9 : decode yB 9 = .ok (.invokestatic 115, 3) := by decide +kernel
theorem d12 : decode yB 12 = .ok (.istore 4, 2) := by decide +kernel
theorem d14 : decode yB 14 = .ok (.iload 4, 2) := by decide +kernel
theorem d16 : decode yB 16 = .ok (.iload_n 2, 1) := by decide +kernel
theorem d17 : decode yB 17 = .ok (.if_icmp (.eq) 40, 3) := by decide +kernel
theorem d57 : decode yB 57 = .ok (.aload_n 3, 1) := by decide +kernel
theorem d58 : decode yB 58 = .ok (.areturn, 1) := by decide +kernel
def site : List Cond := [.arrayClass .byte, Cmp5.tab] ++ staticW U16 115 Cmp5.yN
def tab : Cond := tabOf yN yB 6 (some (.array .byte)) site
def P (b : Addr) (A : Cell) (o len : Nat) (args : Array Value) (s : State) : Prop := args = #[.ref b, .int (Int32.ofNat o), .int (Int32.ofNat len)] ∧ Ch b A s ∧ o + len ≤ A.slots.size ∧ len ≤ 536870912 ∧ ∀ i, i < len → ¬ 255 < cv A (o + i)
def E (b : Addr) (A : Cell) (o len : Nat) (r : Option Value) (s u : State) : Prop := NewArr .byte "[B" len (fun j => .int (lo8 (cv A (o + j)))) r s u ∧ u.heap.size = s.heap.size + 1
/-- no char of the range above 255: a new byte[] of their low bytes -/
theorem law (l : Launch) (b : Addr) (A : Cell) (o len : Nat) : Law l yN 3 3 1 18 yB 6 (some (.array .byte)) site (P b A o len) (E b A o len) [] 1 len := by
  refine Law.of_walk (plainFor_of_name (by decide +kernel)) (by decide +kernel) (by decide +kernel) (by decide) (fun _ _ h => by rw [h.1]; rfl) (fun _ U U' hal hh h => ⟨h.1, h.2.1.mv hal hh, h.2.2⟩) (fun r U U' V V' h1 hal h2 h => ⟨NewArr.mv r U U' V V' h1 hal h2 h.1, by rw [h1, h2]; exact h.2⟩) ?_
  intro p e s m args below meth c s₁ X0 hexec hbytes hml hret hlk hnm hown hh0 W hP
  obtain ⟨rfl, hA, l1, l2, hp⟩ := hP
  have a31 := hA.1.2.2.2
  have c1 : Steps p.tables e below (s₁.setTop (entryFrame m #[.ref b, .int (Int32.ofNat o), .int (Int32.ofNat len)] 6)) (s₁.setTop (mkF m 0 #[.val (.ref b), .val (.int (Int32.ofNat o)), .val (.int (Int32.ofNat len)), .unset, .unset, .unset] [])) := entry rfl
  have c2 : Steps p.tables e below (s₁.setTop (entryFrame m #[.ref b, .int (Int32.ofNat o), .int (Int32.ofNat len)] 6)) (s₁.setTop (mkF m 1 #[.val (.ref b), .val (.int (Int32.ofNat o)), .val (.int (Int32.ofNat len)), .unset, .unset, .unset] [.int (Int32.ofNat len)])) := c1.trans (by
    refine XS.iloadN X0.here hexec rfl (hb hbytes d0) rfl ?_
    exact Steps.refl _)
  obtain ⟨T3, B3, X3, ba3, bs3, bv3, bh3, bf3, st3⟩ := X0.anew hexec (atype := .byte) (wk W (.arrayClass .byte)) rfl (by show len * 1 ≤ _; omega) (by omega) (g := (mkF m 1 #[.val (.ref b), .val (.int (Int32.ofNat o)), .val (.int (Int32.ofNat len)), .unset, .unset, .unset] [.int (Int32.ofNat len)])) rfl (hb hbytes d1) (rest := []) rfl (Nat.le_refl _) (by show 0 + len ≤ len; omega)
  rw [hh0] at ba3 st3
  have kp3 : XT.Kept s T3 := (XT.Kept.of_eq hh0).push bh3
  have hA3 := hA.keep X3.warmed.alike (kp3 _ _ hA.1.1)
  have hne : b ≠ s.heap.size := hA.1.ne
  have c4 : Steps p.tables e below (s₁.setTop (entryFrame m #[.ref b, .int (Int32.ofNat o), .int (Int32.ofNat len)] 6)) (T3.setTop (mkF m 3 #[.val (.ref b), .val (.int (Int32.ofNat o)), .val (.int (Int32.ofNat len)), .unset, .unset, .unset] [.ref s.heap.size])) := c2.trans (st3 _ (Steps.refl _))
  have c5 : Steps p.tables e below (s₁.setTop (entryFrame m #[.ref b, .int (Int32.ofNat o), .int (Int32.ofNat len)] 6)) (T3.setTop (mkF m 9 #[.val (.ref b), .val (.int (Int32.ofNat o)), .val (.int (Int32.ofNat len)), .val (.ref s.heap.size), .unset, .unset] [.int (Int32.ofNat len), .int 0, .ref s.heap.size, .int (Int32.ofNat o), .ref b])) := c4.trans (by
    refine XS.astoreN X3.here hexec rfl (hb hbytes d3) rfl rfl rfl ?_
    refine XS.aloadN X3.here hexec rfl (hb hbytes d4) rfl rfl ?_
    refine XS.iloadN X3.here hexec rfl (hb hbytes d5) rfl ?_
    refine XS.aloadN X3.here hexec rfl (hb hbytes d6) rfl rfl ?_
    refine iconstV X3.here hexec rfl 0 (hb hbytes d7) (by decide) ?_
    refine XS.iloadN X3.here hexec rfl (hb hbytes d8) rfl ?_
    exact Steps.refl _)
  obtain ⟨v6, T6, X6, E6, g6⟩ := X3.callS hexec (Cmp5.law l b A s.heap.size B3 o 0 len) hown (wks W (staticW U16 115 Cmp5.yN)) (wk W Cmp5.tab) (W := 0) (Nat.le_of_ble_eq_true rfl) (Nat.le_of_ble_eq_true rfl) (Nat.le_refl _) (by show 0 + len + 0 ≤ len; omega) (g := (mkF m 9 #[.val (.ref b), .val (.int (Int32.ofNat o)), .val (.int (Int32.ofNat len)), .val (.ref s.heap.size), .unset, .unset] [.int (Int32.ofNat len), .int (Int32.ofNat 0), .ref s.heap.size, .int (Int32.ofNat o), .ref b])) rfl (by rw [hml]; rfl) c5 (argsL := [.ref b, .int (Int32.ofNat o), .ref s.heap.size, .int (Int32.ofNat 0), .int (Int32.ofNat len)]) (rest := []) rfl rfl (by show 2 * 0 + 0 ≤ _; decide) (hb hbytes d9) (⟨rfl, hA3, ba3, hne, l1, by rw [bs3]; simp, hp⟩)
  obtain ⟨rfl, B6, p6, f6⟩ := E6
  have c7 : Steps p.tables e below (s₁.setTop (entryFrame m #[.ref b, .int (Int32.ofNat o), .int (Int32.ofNat len)] 6)) (T6.setTop (mkF m 12 #[.val (.ref b), .val (.int (Int32.ofNat o)), .val (.int (Int32.ofNat len)), .val (.ref s.heap.size), .unset, .unset] [.int (Int32.ofNat len)])) := g6
  have c8 : Steps p.tables e below (s₁.setTop (entryFrame m #[.ref b, .int (Int32.ofNat o), .int (Int32.ofNat len)] 6)) (T6.setTop (mkF m 58 #[.val (.ref b), .val (.int (Int32.ofNat o)), .val (.int (Int32.ofNat len)), .val (.ref s.heap.size), .val (.int (Int32.ofNat len)), .unset] [.ref s.heap.size])) := c7.trans (by
    refine XS.istore X6.here hexec rfl (hb hbytes d12) rfl rfl ?_
    refine XS.iload X6.here hexec rfl (hb hbytes d14) rfl ?_
    refine XS.iloadN X6.here hexec rfl (hb hbytes d16) rfl ?_
    refine XS.icmpYes X6.here hexec rfl (pc0 := 17) rfl (hb hbytes d17) rfl (ii_eq_t rfl) (by decide) rfl ?_
    refine XS.aloadN X6.here hexec rfl (hb hbytes d57) rfl rfl ?_
    exact Steps.refl _)
  have X8 := X6.wide (L' := []) (cells' := 1) (slots' := len) (fun x hx hlt => by
    simp only [List.nil_append, copyLocs, List.mem_map, List.mem_range] at hx
    obtain ⟨i, -, rfl⟩ := hx
    exact absurd hlt (Nat.lt_irrefl _)) (Nat.le_refl _) (by omega)
  exact ⟨T6, some (.ref s.heap.size), _, _, _, X8, rfl, rfl, rfl, (fun h => by cases h), ⟨⟨rfl, B6, ba3.like (X3.warmed.alike.symm.trans X6.warmed.alike) p6.1 f6.1 f6.2.1 f6.2.2.1, f6.2.1.trans bv3, by rw [X6.warmed.alike.findClass, f6.1]; exact bf3, by rw [f6.2.2.1, bs3]; simp, fun j hj => by rw [f6.2.2.2 j, if_pos (by omega)]; rfl, kp3.put p6 (Nat.le_refl _)⟩, by rw [p6.2.2, bh3, hh0]; simp⟩, fun fs hl => c8.trans (X8.areturnOut hexec rfl hret rfl (hb hbytes d58) hl)⟩
end Cmp3
namespace CodL
def yN : MethodName := ⟨"java/lang/StringUTF16", "coderFromArrayLen", "([BI)B"⟩
abbrev yB : ByteArray := jdk_52_method_15_code
theorem d0 : decode yB 0 = .ok (.iload_n 1, 1) := by decide +kernel
theorem d1 : decode yB 1 = .ok (.aload_n 0, 1) := by decide +kernel
theorem d2 : decode yB 2 = .ok (.arraylength, 1) := by decide +kernel
theorem d3 : decode yB 3 = .ok (.isub, 1) := by decide +kernel
theorem d4 : decode yB 4 = .ok (.bipush 31, 2) := by decide +kernel
theorem d6 : decode yB 6 = .ok (.iushr, 1) := by decide +kernel
theorem d7 : decode yB 7 = .ok (.i2b, 1) := by decide +kernel
theorem d8 : decode yB 8 = .ok (.ireturn, 1) := by decide +kernel
def site : List Cond := []
def tab : Cond := tabOf yN yB 2 (some .byte) site
def P (d : Addr) (B : Cell) (args : Array Value) (s : State) : Prop := args = #[.ref d, .int (Int32.ofNat B.slots.size)] ∧ Arr .byte d B s
def E (r : Option Value) (s u : State) : Prop := XT.PureE (some (.int 0)) r s u
/-- an array as long as the number of chars: LATIN1 -/
theorem law (l : Launch) (d : Addr) (B : Cell) : Law l yN 2 2 0 0 yB 2 (some .byte) site (P d B) E [] 0 0 := by
  refine Law.of_walk (plainFor_of_name (by decide +kernel)) (by decide +kernel) (by decide +kernel) (by decide) (fun _ _ h => by rw [h.1]; rfl) (fun _ U U' hal hh h => ⟨h.1, h.2.mv hal hh⟩) (fun r U U' V V' h1 hal h2 h => XT.PureE.mv r U U' V V' h1 hal h2 h) ?_
  intro p e s m args below meth c s₁ X0 hexec hbytes hml hret hlk hnm hown hh0 W hP
  obtain ⟨rfl, hB⟩ := hP
  have hB0 := hB.mv X0.warmed.alike hh0
  have c1 : Steps p.tables e below (s₁.setTop (entryFrame m #[.ref d, .int (Int32.ofNat B.slots.size)] 2)) (s₁.setTop (mkF m 0 #[.val (.ref d), .val (.int (Int32.ofNat B.slots.size))] [])) := entry rfl
  have c2 : Steps p.tables e below (s₁.setTop (entryFrame m #[.ref d, .int (Int32.ofNat B.slots.size)] 2)) (s₁.setTop (mkF m 2 #[.val (.ref d), .val (.int (Int32.ofNat B.slots.size))] [.ref d, .int (Int32.ofNat B.slots.size)])) := c1.trans (by
    refine XS.iloadN X0.here hexec rfl (hb hbytes d0) rfl ?_
    refine XS.aloadN X0.here hexec rfl (hb hbytes d1) rfl rfl ?_
    exact Steps.refl _)
  have c3 : Steps p.tables e below (s₁.setTop (entryFrame m #[.ref d, .int (Int32.ofNat B.slots.size)] 2)) (s₁.setTop (mkF m 8 #[.val (.ref d), .val (.int (Int32.ofNat B.slots.size))] [.int (lo8 (ushr (Int32.ofNat B.slots.size - Int32.ofNat B.slots.size) 31))])) := c2.trans (by
    refine X0.alen hexec hB0 rfl rfl (hb hbytes d2) ?_
    refine XS.isub X0.here hexec rfl (hb hbytes d3) rfl ?_
    refine bipushV X0.here hexec rfl 31 (hb hbytes d4) (by decide) ?_
    refine iushr X0.here hexec rfl (hb hbytes d6) rfl ?_
    refine i2b X0.here hexec rfl (hb hbytes d7) rfl ?_
    exact Steps.refl _)
  have e0 : lo8 (ushr (Int32.ofNat B.slots.size - Int32.ofNat B.slots.size) 31) = 0 := by rw [Int32.sub_self]; decide
  rw [e0] at c3
  exact ⟨s₁, some (.int 0), _, _, _, X0, rfl, rfl, rfl, (fun h => by cases h), ⟨rfl, hh0⟩, fun fs hl => c3.trans (X0.ireturnOut hexec hret rfl (Or.inr (Or.inr (Or.inl rfl))) (hb hbytes d8) hl)⟩
end CodL
/-- the String at a is Latin-1 over a new byte[] (the heap's one new cell): the low bytes of the len chars of A from o on; every cell but a is kept -/
def Got (a : Addr) (D : Cell) (fV fC : Field) (A : Cell) (o len : Nat) (r : Option Value) (s u : State) : Prop := r = none ∧ ∃ D' V : Cell, Blank "java/lang/String" a D' u ∧ Same D D' [fV.slot, fC.slot] ∧ D'.slots[fV.slot]? = some (.ref s.heap.size) ∧ D'.slots[fC.slot]? = some (.int 0) ∧ Arr .byte s.heap.size V u ∧ V.vm = .none ∧ u.vm.findClass "[B" = some V.cls ∧ V.slots.size = len ∧ (∀ j, j < len → V.slots[j]? = some (.int (lo8 (cv A (o + j))))) ∧ (∀ (y : Addr) (c : Cell), y ≠ a → s.heap[y]? = some c → u.heap[y]? = some c) ∧ u.heap.size = s.heap.size + 1
theorem Got.mv {a : Addr} {D A : Cell} {fV fC : Field} {o len : Nat} : ∀ r (U U' V V' : State), U'.heap = U.heap → V.vm.Alike V'.vm → V'.heap = V.heap → Got a D fV fC A o len r U V → Got a D fV fC A o len r U' V' :=
  fun r U U' V V' h1 hal h2 ⟨e0, D', X, a1, a2, a3, a4, a5, a6, a7, a8, a9, a10, a11⟩ => ⟨e0, D', X, a1.mv hal h2, a2, by rw [h1]; exact a3, a4, by rw [h1]; exact a5.mv hal h2, a6, by rw [hal.findClass]; exact a7, a8, a9, by rw [h1, h2]; exact a10, by rw [h1, h2]; exact a11⟩
namespace New4
def yN : MethodName := ⟨"java/lang/String", "<init>", "([CIILjava/lang/Void;)V"⟩
abbrev yB : ByteArray := jdk_42_method_149_code
theorem d0 : decode yB 0 = .ok (.aload_n 0, 1) := by decide +kernel
theorem d1 : decode yB 1 = .ok (.invokespecial 1, 3) := by decide +kernel
theorem d4 : decode yB 4 = .ok (.iload_n 3, 1) := by decide +kernel
theorem d5 : decode yB 5 = .ok (.ifCond (.ne) 22, 3) := by decide +kernel
theorem d27 : decode yB 27 = .ok (.getstatic 38, 3) := by decide +kernel
theorem d30 : decode yB 30 = .ok (.ifCond (.eq) 28, 3) := by decide +kernel
theorem d33 : decode yB 33 = .ok (.aload_n 1, 1) := by decide +kernel
theorem d34 : decode yB 34 = .ok (.iload_n 2, 1) := by decide +kernel
theorem d35 : decode yB 35 = .ok (.iload_n 3, 1) := by decide +kernel
theorem d36 : decode yB 36 = .ok (.invokestatic 177, 3) := by decide +kernel
theorem d39 : decode yB 39 = .ok (.astore 5, 2) := by decide +kernel
theorem d41 : decode yB 41 = .ok (.aload_n 0, 1) := by decide +kernel
theorem d42 : decode yB 42 = .ok (.aload 5, 2) := by decide +kernel
theorem d44 : decode yB 44 = .ok (.iload_n 3, 1) := by decide +kernel
theorem d45 : decode yB 45 = .ok (.invokestatic 47, 3) := by decide +kernel
theorem d48 : decode yB 48 = .ok (.putfield 15, 3) := by decide +kernel
theorem d51 : decode yB 51 = .ok (.aload_n 0, 1) := by decide +kernel
theorem d52 : decode yB 52 = .ok (.aload 5, 2) := by decide +kernel
theorem d54 : decode yB 54 = .ok (.putfield 9, 3) := by decide +kernel
theorem d57 : decode yB 57 = .ok (.return_, 1) := by decide +kernel
def site : List Cond := [.fieldLink "java/lang/String" 38 "java/lang/String" "COMPACT_STRINGS" "Z", Cmp3.tab, CodL.tab, .laysFinal "java/lang/String" "java/lang/String" "value" "[B", .fieldLink "java/lang/String" 9 "java/lang/String" "value" "[B", .laysFinal "java/lang/String" "java/lang/String" "coder" "B", .fieldLink "java/lang/String" 15 "java/lang/String" "coder" "B"] ++ objW "java/lang/String" 1 ++ staticW "java/lang/String" 177 Cmp3.yN ++ staticW "java/lang/String" 47 CodL.yN
def tab : Cond := tabOf yN yB 6 none site
def P (a : Addr) (D : Cell) (fV fC : Field) (b : Addr) (A : Cell) (z : Int32) (o len : Nat) (args : Array Value) (s : State) : Prop := args = #[.ref a, .ref b, .int (Int32.ofNat o), .int (Int32.ofNat len), .null] ∧ Blank "java/lang/String" a D s ∧ Found "java/lang/String" "value" "[B" fV s ∧ Found "java/lang/String" "coder" "B" fC s ∧ Ch b A s ∧ StaticIs s "java/lang/String" "COMPACT_STRINGS" "Z" (.int z) ∧ ¬ z = 0 ∧ 0 < len ∧ o + len ≤ A.slots.size ∧ len ≤ 536870912 ∧ ∀ i, i < len → ¬ 255 < cv A (o + i)
def E (a : Addr) (D : Cell) (fV fC : Field) (A : Cell) (o len : Nat) (r : Option Value) (s u : State) : Prop := Got a D fV fC A o len r s u
/-- len > 0, no char of the range above 255: a Latin-1 String of their low bytes -/
theorem law (l : Launch) (a : Addr) (D : Cell) (fV fC : Field) (b : Addr) (A : Cell) (z : Int32) (o len : Nat) : Law l yN 5 4 2 35 yB 6 none site (P a D fV fC b A z o len) (E a D fV fC A o len) [⟨a, fC.slot⟩, ⟨a, fV.slot⟩] 1 len := by
  refine Law.of_walk (plainFor_of_name (by decide +kernel)) (by decide +kernel) (by decide +kernel) (by decide) (fun _ _ h => by rw [h.1]; rfl) (fun _ U U' hal hh h => ⟨h.1, h.2.1.mv hal hh, h.2.2.1.al hal, h.2.2.2.1.al hal, h.2.2.2.2.1.mv hal hh, h.2.2.2.2.2.1.there hal hh, h.2.2.2.2.2.2⟩) (fun r U U' V V' h1 hal h2 h => Got.mv r U U' V V' h1 hal h2 h) ?_
  intro p e s m args below meth c s₁ X0 hexec hbytes hml hret hlk hnm hown hh0 W hP
  obtain ⟨rfl, hB, f1, f2, hA, s1, hz, l0, l1, l2, hp⟩ := hP
  have a31 := hA.1.2.2.2
  have c1 : Steps p.tables e below (s₁.setTop (entryFrame m #[.ref a, .ref b, .int (Int32.ofNat o), .int (Int32.ofNat len), .null] 6)) (s₁.setTop (mkF m 0 #[.val (.ref a), .val (.ref b), .val (.int (Int32.ofNat o)), .val (.int (Int32.ofNat len)), .val .null, .unset] [])) := entry rfl
  have c2 : Steps p.tables e below (s₁.setTop (entryFrame m #[.ref a, .ref b, .int (Int32.ofNat o), .int (Int32.ofNat len), .null] 6)) (s₁.setTop (mkF m 1 #[.val (.ref a), .val (.ref b), .val (.int (Int32.ofNat o)), .val (.int (Int32.ofNat len)), .val .null, .unset] [.ref a])) := c1.trans (by
    refine XS.aloadN X0.here hexec rfl (hb hbytes d0) rfl rfl ?_
    exact Steps.refl _)
  obtain ⟨T3, X3, q3, st3⟩ := X0.oinit hexec hown (wks W (objW "java/lang/String" 1)) (g := (mkF m 1 #[.val (.ref a), .val (.ref b), .val (.int (Int32.ofNat o)), .val (.int (Int32.ofNat len)), .val .null, .unset] [.ref a])) rfl (by rw [hml]; rfl) (rest := []) rfl (hb hbytes d1) (W := 0) (by show 2 * 0 + 0 ≤ _; decide) (Nat.le_of_ble_eq_true rfl) (Nat.le_of_ble_eq_true rfl)
  have hh3 := q3.trans hh0
  have c4 : Steps p.tables e below (s₁.setTop (entryFrame m #[.ref a, .ref b, .int (Int32.ofNat o), .int (Int32.ofNat len), .null] 6)) (T3.setTop (mkF m 27 #[.val (.ref a), .val (.ref b), .val (.int (Int32.ofNat o)), .val (.int (Int32.ofNat len)), .val .null, .unset] [])) := (c2.trans (st3 _ (Steps.refl _))).trans (by
    refine XS.iloadN X3.here hexec rfl (hb hbytes d4) rfl ?_
    refine XS.ifYes X3.here hexec rfl (pc0 := 5) rfl (hb hbytes d5) rfl (i0_ne_t (nz32 (by omega) l0)) (by decide) rfl ?_
    exact Steps.refl _)
  obtain ⟨T5, X5, q5, st5⟩ := X3.sget hexec hown (wk W (.fieldLink "java/lang/String" 38 "java/lang/String" "COMPACT_STRINGS" "Z")) s1 (fun _ _ h => by rw [hh3]; exact h) (g := (mkF m 27 #[.val (.ref a), .val (.ref b), .val (.int (Int32.ofNat o)), .val (.int (Int32.ofNat len)), .val .null, .unset] [])) rfl (hb hbytes d27)
  have hh5 := q5.trans hh3
  have c6 : Steps p.tables e below (s₁.setTop (entryFrame m #[.ref a, .ref b, .int (Int32.ofNat o), .int (Int32.ofNat len), .null] 6)) (T5.setTop (mkF m 30 #[.val (.ref a), .val (.ref b), .val (.int (Int32.ofNat o)), .val (.int (Int32.ofNat len)), .val .null, .unset] [.int z])) := c4.trans (st5 _ (Steps.refl _))
  have c7 : Steps p.tables e below (s₁.setTop (entryFrame m #[.ref a, .ref b, .int (Int32.ofNat o), .int (Int32.ofNat len), .null] 6)) (T5.setTop (mkF m 36 #[.val (.ref a), .val (.ref b), .val (.int (Int32.ofNat o)), .val (.int (Int32.ofNat len)), .val .null, .unset] [.int (Int32.ofNat len), .int (Int32.ofNat o), .ref b])) := c6.trans (by
    refine XS.ifNo X5.here hexec rfl (hb hbytes d30) rfl (i0_eq_f hz) ?_
    refine XS.aloadN X5.here hexec rfl (hb hbytes d33) rfl rfl ?_
    refine XS.iloadN X5.here hexec rfl (hb hbytes d34) rfl ?_
    refine XS.iloadN X5.here hexec rfl (hb hbytes d35) rfl ?_
    exact Steps.refl _)
  obtain ⟨v8, T8, X8, E8, g8⟩ := X5.callS hexec (Cmp3.law l b A o len) hown (wks W (staticW "java/lang/String" 177 Cmp3.yN)) (wk W Cmp3.tab) (W := 0) (Nat.le_of_ble_eq_true rfl) (Nat.le_of_ble_eq_true rfl) (Nat.le_refl _) (by show 0 + len ≤ len; omega) (g := (mkF m 36 #[.val (.ref a), .val (.ref b), .val (.int (Int32.ofNat o)), .val (.int (Int32.ofNat len)), .val .null, .unset] [.int (Int32.ofNat len), .int (Int32.ofNat o), .ref b])) rfl (by rw [hml]; rfl) c7 (argsL := [.ref b, .int (Int32.ofNat o), .int (Int32.ofNat len)]) (rest := []) rfl rfl (by show 2 * 0 + 0 ≤ _; decide) (hb hbytes d36) (⟨rfl, hA.mv X5.warmed.alike hh5, l1, l2, hp⟩)
  obtain ⟨e8, z8⟩ := E8
  obtain ⟨rfl, N, n1, n2, n3, n4, n5, n6⟩ := NewArr.mv _ T5 s _ _ hh5.symm (Vm.Alike.refl _) rfl e8
  rw [hh5] at z8
  have hB1 := hB.keep X8.warmed.alike (n6 _ _ hB.1)
  have hne : s.heap.size ≠ a := (Nat.ne_of_lt (Array.getElem?_eq_some_iff.mp hB.1).1).symm
  have c9 : Steps p.tables e below (s₁.setTop (entryFrame m #[.ref a, .ref b, .int (Int32.ofNat o), .int (Int32.ofNat len), .null] 6)) (T8.setTop (mkF m 39 #[.val (.ref a), .val (.ref b), .val (.int (Int32.ofNat o)), .val (.int (Int32.ofNat len)), .val .null, .unset] [.ref s.heap.size])) := g8
  have c10 : Steps p.tables e below (s₁.setTop (entryFrame m #[.ref a, .ref b, .int (Int32.ofNat o), .int (Int32.ofNat len), .null] 6)) (T8.setTop (mkF m 45 #[.val (.ref a), .val (.ref b), .val (.int (Int32.ofNat o)), .val (.int (Int32.ofNat len)), .val .null, .val (.ref s.heap.size)] [.int (Int32.ofNat N.slots.size), .ref s.heap.size, .ref a])) := by
    have hc : Steps p.tables e below (s₁.setTop (entryFrame m #[.ref a, .ref b, .int (Int32.ofNat o), .int (Int32.ofNat len), .null] 6)) (T8.setTop (mkF m 45 #[.val (.ref a), .val (.ref b), .val (.int (Int32.ofNat o)), .val (.int (Int32.ofNat len)), .val .null, .val (.ref s.heap.size)] [.int (Int32.ofNat len), .ref s.heap.size, .ref a])) := c9.trans (by
      refine XS.astore X8.here hexec rfl (hb hbytes d39) rfl rfl rfl ?_
      refine XS.aloadN X8.here hexec rfl (hb hbytes d41) rfl rfl ?_
      refine XS.aload X8.here hexec rfl (hb hbytes d42) rfl rfl ?_
      refine XS.iloadN X8.here hexec rfl (hb hbytes d44) rfl ?_
      exact Steps.refl _)
    rw [n4]; exact hc
  obtain ⟨v11, T11, X11, E11, g11⟩ := X8.callS hexec (CodL.law l s.heap.size N) hown (wks W (staticW "java/lang/String" 47 CodL.yN)) (wk W CodL.tab) (W := 1) (Nat.le_of_ble_eq_true rfl) (Nat.le_of_ble_eq_true rfl) (Nat.le_refl _) (by show 0 + len + 0 ≤ len; omega) (g := (mkF m 45 #[.val (.ref a), .val (.ref b), .val (.int (Int32.ofNat o)), .val (.int (Int32.ofNat len)), .val .null, .val (.ref s.heap.size)] [.int (Int32.ofNat N.slots.size), .ref s.heap.size, .ref a])) rfl (by rw [hml]; rfl) c10 (argsL := [.ref s.heap.size, .int (Int32.ofNat N.slots.size)]) (rest := [.ref a]) rfl rfl (by show 2 * 0 + (1 + 0) ≤ _; decide) (hb hbytes d45) (⟨rfl, n1⟩)
  obtain ⟨rfl, q11⟩ := E11
  have hB11 := hB1.mv (X8.warmed.alike.symm.trans X11.warmed.alike) q11
  have c12 : Steps p.tables e below (s₁.setTop (entryFrame m #[.ref a, .ref b, .int (Int32.ofNat o), .int (Int32.ofNat len), .null] 6)) (T11.setTop (mkF m 48 #[.val (.ref a), .val (.ref b), .val (.int (Int32.ofNat o)), .val (.int (Int32.ofNat len)), .val .null, .val (.ref s.heap.size)] [.int 0, .ref a])) := g11
  obtain ⟨T13, X13, p13, bl13, sl13, st13⟩ := X11.finit hexec hown (wk W (.fieldLink "java/lang/String" 15 "java/lang/String" "coder" "B")) (Or.inr ⟨_, (wk W (.laysFinal "java/lang/String" "java/lang/String" "coder" "B"))⟩) (Or.inl ⟨rfl, hnm⟩) f2 (Or.inl rfl) hB11 (t := .byte) (by decide +kernel) rfl (g := (mkF m 48 #[.val (.ref a), .val (.ref b), .val (.int (Int32.ofNat o)), .val (.int (Int32.ofNat len)), .val .null, .val (.ref s.heap.size)] [.int 0, .ref a])) rfl (rest := []) rfl (hb hbytes d48)
  have c14 : Steps p.tables e below (s₁.setTop (entryFrame m #[.ref a, .ref b, .int (Int32.ofNat o), .int (Int32.ofNat len), .null] 6)) (T13.setTop (mkF m 54 #[.val (.ref a), .val (.ref b), .val (.int (Int32.ofNat o)), .val (.int (Int32.ofNat len)), .val .null, .val (.ref s.heap.size)] [.ref s.heap.size, .ref a])) := (c12.trans (st13 _ (Steps.refl _))).trans (by
    refine XS.aloadN X13.here hexec rfl (hb hbytes d51) rfl rfl ?_
    refine XS.aload X13.here hexec rfl (hb hbytes d52) rfl rfl ?_
    exact Steps.refl _)
  obtain ⟨T15, X15, p15, bl15, sl15, st15⟩ := X13.finit hexec hown (wk W (.fieldLink "java/lang/String" 9 "java/lang/String" "value" "[B")) (Or.inr ⟨_, (wk W (.laysFinal "java/lang/String" "java/lang/String" "value" "[B"))⟩) (Or.inl ⟨rfl, hnm⟩) f1 (Or.inl rfl) bl13 (t := (.array .byte)) (by decide +kernel) rfl (g := (mkF m 54 #[.val (.ref a), .val (.ref b), .val (.int (Int32.ofNat o)), .val (.int (Int32.ofNat len)), .val .null, .val (.ref s.heap.size)] [.ref s.heap.size, .ref a])) rfl (rest := []) rfl (hb hbytes d54)
  have c16 : Steps p.tables e below (s₁.setTop (entryFrame m #[.ref a, .ref b, .int (Int32.ofNat o), .int (Int32.ofNat len), .null] 6)) (T15.setTop (mkF m 57 #[.val (.ref a), .val (.ref b), .val (.int (Int32.ofNat o)), .val (.int (Int32.ofNat len)), .val .null, .val (.ref s.heap.size)] [])) := c14.trans (st15 _ (Steps.refl _))
  have ap := apart (Or.inr ⟨_, (wk W (.laysFinal "java/lang/String" "java/lang/String" "value" "[B"))⟩) (Or.inr ⟨_, (wk W (.laysFinal "java/lang/String" "java/lang/String" "coder" "B"))⟩) f1 f2 (t₁ := .array .byte) (t₂ := .byte) (by decide +kernel) (by decide +kernel) (by decide)
  have al := X8.warmed.alike.symm.trans X15.warmed.alike
  have n7 : T11.heap[s.heap.size]? = some N := by rw [q11]; exact n1.1
  exact ⟨T15, none, _, _, _, X15, by simp, rfl, by omega, (fun _ => rfl), ⟨rfl, _, N, bl15, ((Same.refl D _).set _ (by simp)).set _ (by simp), sl15, (Cell.slots_setSlot_ne _ ap).trans sl13, n1.keep al (p15.other hne (p13.other hne n7)), n2, by rw [al.findClass]; exact n3, n4, n5, fun y c h1 h2 => p15.other h1 (p13.other h1 (by rw [q11]; exact n6 y c h2)), by rw [p15.2.2, p13.2.2, q11]; exact z8⟩, fun fs hl => c16.trans (X15.returnOut hexec hret (hb hbytes d57) hl)⟩
end New4
namespace New1
def yN : MethodName := ⟨"java/lang/String", "<init>", "([C)V"⟩
abbrev yB : ByteArray := jdk_42_method_3_code
theorem d0 : decode yB 0 = .ok (.aload_n 0, 1) := by decide +kernel
theorem d1 : decode yB 1 = .ok (.aload_n 1, 1) := by decide +kernel
theorem d2 : decode yB 2 = .ok (.iconst 0, 1) := by decide +kernel
theorem d3 : decode yB 3 = .ok (.aload_n 1, 1) := by decide +kernel
theorem d4 : decode yB 4 = .ok (.arraylength, 1) := by decide +kernel
theorem d5 : decode yB 5 = .ok (.aconst_null, 1) := by decide +kernel
theorem d6 : decode yB 6 = .ok (.invokespecial 27, 3) := by decide +kernel
theorem d9 : decode yB 9 = .ok (.return_, 1) := by decide +kernel
def site : List Cond := [New4.tab] ++ initW "java/lang/String" 27 New4.yN
def tab : Cond := tabOf yN yB 2 none site
def P (a : Addr) (D : Cell) (fV fC : Field) (b : Addr) (A : Cell) (z : Int32) (args : Array Value) (s : State) : Prop := args = #[.ref a, .ref b] ∧ Blank "java/lang/String" a D s ∧ Found "java/lang/String" "value" "[B" fV s ∧ Found "java/lang/String" "coder" "B" fC s ∧ Ch b A s ∧ StaticIs s "java/lang/String" "COMPACT_STRINGS" "Z" (.int z) ∧ ¬ z = 0 ∧ 0 < A.slots.size ∧ A.slots.size ≤ 536870912 ∧ ∀ i, i < A.slots.size → ¬ 255 < cv A i
def E (a : Addr) (D : Cell) (fV fC : Field) (A : Cell) (r : Option Value) (s u : State) : Prop := Got a D fV fC A 0 A.slots.size r s u
/-- new String(chars), not empty, no char above 255: a Latin-1 String of their low bytes -/
theorem law (l : Launch) (a : Addr) (D : Cell) (fV fC : Field) (b : Addr) (A : Cell) (z : Int32) : Law l yN 2 1 3 52 yB 2 none site (P a D fV fC b A z) (E a D fV fC A) [⟨a, fC.slot⟩, ⟨a, fV.slot⟩] 1 A.slots.size := by
  refine Law.of_walk (plainFor_of_name (by decide +kernel)) (by decide +kernel) (by decide +kernel) (by decide) (fun _ _ h => by rw [h.1]; rfl) (fun _ U U' hal hh h => ⟨h.1, h.2.1.mv hal hh, h.2.2.1.al hal, h.2.2.2.1.al hal, h.2.2.2.2.1.mv hal hh, h.2.2.2.2.2.1.there hal hh, h.2.2.2.2.2.2⟩) (fun r U U' V V' h1 hal h2 h => Got.mv r U U' V V' h1 hal h2 h) ?_
  intro p e s m args below meth c s₁ X0 hexec hbytes hml hret hlk hnm hown hh0 W hP
  obtain ⟨rfl, hB, f1, f2, hA, s1, hz, l0, l2, hp⟩ := hP
  have c1 : Steps p.tables e below (s₁.setTop (entryFrame m #[.ref a, .ref b] 2)) (s₁.setTop (mkF m 0 #[.val (.ref a), .val (.ref b)] [])) := entry rfl
  have c2 : Steps p.tables e below (s₁.setTop (entryFrame m #[.ref a, .ref b] 2)) (s₁.setTop (mkF m 6 #[.val (.ref a), .val (.ref b)] [.null, .int (Int32.ofNat A.slots.size), .int 0, .ref b, .ref a])) := c1.trans (by
    refine XS.aloadN X0.here hexec rfl (hb hbytes d0) rfl rfl ?_
    refine XS.aloadN X0.here hexec rfl (hb hbytes d1) rfl rfl ?_
    refine iconstV X0.here hexec rfl 0 (hb hbytes d2) (by decide) ?_
    refine XS.aloadN X0.here hexec rfl (hb hbytes d3) rfl rfl ?_
    refine X0.alen hexec (hA.1.mv X0.warmed.alike hh0) rfl rfl (hb hbytes d4) ?_
    refine XS.aconstNull X0.here hexec rfl (hb hbytes d5) ?_
    exact Steps.refl _)
  obtain ⟨v3, T3, X3, E3, g3⟩ := X0.callN hexec (New4.law l a D fV fC b A z 0 A.slots.size) rfl hown (wks W (initW "java/lang/String" 27 New4.yN)) (W New4.tab (by simp only [site, List.mem_cons, List.mem_append, true_or, or_true])) (W := 0) (Nat.le_of_ble_eq_true rfl) (Nat.le_of_ble_eq_true rfl) (Nat.le_refl _) (by show 0 + A.slots.size ≤ A.slots.size; omega) (g := (mkF m 6 #[.val (.ref a), .val (.ref b)] [.null, .int (Int32.ofNat A.slots.size), .int (Int32.ofNat 0), .ref b, .ref a])) rfl (by rw [hml]; rfl) c2 (argsL := [.ref b, .int (Int32.ofNat 0), .int (Int32.ofNat A.slots.size), .null]) (rest := []) rfl rfl (by show 2 * 0 + 0 ≤ _; decide) (hb hbytes d6) (⟨rfl, hB.mv X0.warmed.alike hh0, f1.al X0.warmed.alike, f2.al X0.warmed.alike, hA.mv X0.warmed.alike hh0, s1.there X0.warmed.alike hh0, hz, l0, by omega, l2, fun i hi => by rw [Nat.zero_add]; exact hp i hi⟩)
  have e0 := Got.mv _ s₁ s _ _ hh0.symm (Vm.Alike.refl _) rfl E3
  obtain rfl := e0.1
  have c4 : Steps p.tables e below (s₁.setTop (entryFrame m #[.ref a, .ref b] 2)) (T3.setTop (mkF m 9 #[.val (.ref a), .val (.ref b)] [])) := g3
  exact ⟨T3, none, _, _, _, X3, by simp, rfl, by omega, (fun _ => rfl), e0, fun fs hl => c4.trans (X3.returnOut hexec hret (hb hbytes d9) hl)⟩
theorem pays {l : Launch} {R : Room} {p : Program} {e : Env} {below : List Frame} {s : State} {sargs : Array Value} {len W : Nat} (a : Addr) (D : Cell) (fV fC : Field) (b : Addr) (A : Cell) (z : Int32) (htab : tab.before sargs s = true) (hfr : 4 ≤ R.frames) (hlo : W + 65 ≤ R.locals) :
    Back l R p e below s sargs yN len W (fun A₁ a₁ => A₁.cells + 1 ≤ R.cells ∧ A₁.slots + A.slots.size ≤ R.slots ∧ P a D fV fC b A z a₁ A₁.U) (fun A₁ _ v₁ B₁ => E a D fV fC A v₁ A₁.U B₁.U ∧ B₁.locs = A₁.locs ++ [⟨a, fC.slot⟩, ⟨a, fV.slot⟩] ∧ B₁.cells = A₁.cells + 1 ∧ B₁.slots = A₁.slots + A.slots.size) :=
  (law l a D fV fC b A z).pays htab hfr (by omega)
end New1
end StrChars
namespace StrChars.Road
open Jvm Sem ClassFile Op Lib Jvm.Stand Jvm.Free Jvm.Free.XT
open Jvm.Lib.Cold (StaticIs)
abbrev ST : String := "java/lang/String"
/-- every table word that New1's law asks, flat -/
abbrev words : List Jvm.Cond := [.code New1.yN New1.yB 2 none, .initialized ST, .methodLink ST 27 New4.yN, .instanceMethod New4.yN,
  .code New4.yN New4.yB 6 none, .fieldLink ST 38 ST "COMPACT_STRINGS" "Z", .laysFinal ST ST "value" "[B", .fieldLink ST 9 ST "value" "[B", .laysFinal ST ST "coder" "B", .fieldLink ST 15 ST "coder" "B",
  .methodLink ST 1 Lib.objectInit, .instanceMethod Lib.objectInit, .code Lib.objectInit ⟨#[0xb1]⟩ 1 none, .methodLink ST 177 Cmp3.yN, .static Cmp3.yN, .methodLink ST 47 CodL.yN, .static CodL.yN,
  .code Cmp3.yN Cmp3.yB 6 (some (.array .byte)), .initialized U16, .arrayClass .byte, .methodLink U16 115 Cmp5.yN, .static Cmp5.yN, .code Cmp5.yN Cmp5.yB 7 (some .int), .code CodL.yN CodL.yB 2 (some .byte)]
theorem tab_of {a : Array Value} {s : State} (h : ∀ w ∈ words, w.before a s = true) : New1.tab.before a s = true := by
  have h5 : Cmp5.tab.before a s = true := unparts (wk h (.code Cmp5.yN Cmp5.yB 7 (some .int))) (wks h (.initialized Cmp5.yN.cls :: Cmp5.site))
  have hc : CodL.tab.before a s = true := unparts (wk h (.code CodL.yN CodL.yB 2 (some .byte))) (wks h (.initialized CodL.yN.cls :: CodL.site))
  have q5 : ∀ w ∈ Cmp5.tab :: words, w.before a s = true := fun w hw => (List.mem_cons.mp hw).elim (fun e => e ▸ h5) (h w)
  have h3 : Cmp3.tab.before a s = true := unparts (wk q5 (.code Cmp3.yN Cmp3.yB 6 (some (.array .byte)))) (wks q5 (.initialized Cmp3.yN.cls :: Cmp3.site))
  have q3 : ∀ w ∈ Cmp3.tab :: CodL.tab :: words, w.before a s = true := fun w hw => (List.mem_cons.mp hw).elim (fun e => e ▸ h3) fun hw => (List.mem_cons.mp hw).elim (fun e => e ▸ hc) (h w)
  have h4 : New4.tab.before a s = true := unparts (wk q3 (.code New4.yN New4.yB 6 none)) (wks q3 (.initialized New4.yN.cls :: New4.site))
  have q4 : ∀ w ∈ New4.tab :: words, w.before a s = true := fun w hw => (List.mem_cons.mp hw).elim (fun e => e ▸ h4) (h w)
  exact unparts (wk q4 (.code New1.yN New1.yB 2 none)) (wks q4 (.initialized New1.yN.cls :: New1.site))
/-- the words ride from the start Z to the walk's own state -/
theorem moved {Z s : State} {a0 args : Array Value} (hZ : Z.Warmed39 s.vm) (hw : ∀ d ∈ words, d.before a0 Z = true) : ∀ d ∈ words, d.before args s = true := fun d hd => by
  have q := hw d hd
  have t : ∀ d ∈ words, d = .arrayClass .byte ∨ (d.onTables && d.keepsFace) = true := by decide +kernel
  rcases t d hd with rfl | t
  · exact RoadKit.mvA hZ q
  · exact RoadKit.mv hZ q t
/-- WHAT COMES BACK, over the tables of the start Z: h the heap at the call, h' behind it -/
def Q (Z : State) (x : Addr) (A : Cell) (h : Heap) (v : Option Value) (h' : Heap) (L : List Loc) : Prop := v = none ∧ (∀ y ∈ L, y.base = x) ∧ RoadKit.Keep h h' [x] ∧ h'.size = h.size + 1 ∧ RoadKit.Exa Z h' x ST ∧ RoadKit.Fld Z h' x ST "value" "[B" (.ref h.size) ∧ RoadKit.Fld Z h' x ST "coder" "B" (.int 0) ∧
  (∃ V : Cell, RoadKit.Arr Z h' h.size V .byte ∧ V.vm = .none ∧ Z.vm.findClass "[B" = some V.cls ∧ V.slots.size = A.slots.size ∧ ∀ j, j < A.slots.size → V.slots[j]? = some (.int (lo8 (cv A j)))) ∧
  ∀ (O n d : String) (w : Value), RoadKit.Fld Z h x O n d w → RoadKit.slotOf Z O n d ≠ RoadKit.slotOf Z ST "value" "[B" → RoadKit.slotOf Z O n d ≠ RoadKit.slotOf Z ST "coder" "B" → RoadKit.Fld Z h' x O n d w
/-- **new String(chars) AT A CALL, IN THE ROAD'S FORM**: for specialBack behind newO: x the fresh String, b the char[] with the cell A -/
theorem back {p : Program} {l : Launch} {e : Env} {R : Room} {s : State} {args : Array Value} {below : List Frame} {len W : Nat} {Z : State} {a0 : Array Value} {h : Heap} (hZ : Z.Warmed39 s.vm) (hw : ∀ d ∈ words, d.before a0 Z = true) {kI : Nat} (wi : (Jvm.Cond.instantiable ST kI).before a0 Z = true)
    {x b : Addr} {A : Cell} {z : Int32} {v0 c0 : Value} (E : RoadKit.Exa Z h x ST) (V : RoadKit.Fld Z h x ST "value" "[B" v0) (C : RoadKit.Fld Z h x ST "coder" "B" c0) (K : RoadKit.Arr Z h b A .char) (hty : Typed .char A) (S : RoadKit.Sta Z h ST "COMPACT_STRINGS" "Z" (.int z)) (hz : ¬ z = 0)
    (l0 : 0 < A.slots.size) (l2 : A.slots.size ≤ 536870912) (hp : ∀ i, i < A.slots.size → ¬ 255 < cv A i) (hfr : 4 ≤ R.frames) (hlo : W + 65 ≤ R.locals) :
    Back l R p e below s args New1.yN len W (fun P a => a = #[.ref x, .ref b] ∧ P.U.heap = h ∧ P.cells + 1 ≤ R.cells ∧ P.slots + A.slots.size ≤ R.slots)
      (fun P _ v B => ∃ L, Q Z x A h v B.U.heap L ∧ B.locs = P.locs ++ L ∧ B.cells = P.cells + 1 ∧ B.slots = P.slots + A.slots.size) := by
  intro m meth c P g ig mk a X hg hsize hdg hW hn hp'
  obtain ⟨rfl, rfl, r1, r2⟩ := hp'
  have al : Z.vm.Alike P.U.vm := hZ.alike.trans X.warmed.alike
  obtain ⟨D, cfV, kV, iV, fV, hD, gV, stV, knV, obV, asV, slV⟩ := id V
  obtain ⟨D', cfC, kC, iC, fC, hD', gC, stC, -, -, asC, slC⟩ := id C
  cases hD.symm.trans hD'
  obtain ⟨D2, kD, e1, e2, e3, e4, e5⟩ := id E
  cases hD.symm.trans e1
  obtain ⟨c2, k2, i1, i2, i3, -⟩ := Cond.instantiable_spec wi
  cases e2.symm.trans i1
  cases e3.symm.trans i2
  obtain ⟨kU, u1, u2⟩ := al.2.2 _ _ e3
  have hB : Blank ST x D P.U := ⟨hD, ⟨knV, fun q hq => by rw [hq] at obV; cases obV⟩, by rw [al.findClass]; exact e2, kU, u1, by rw [u2]; exact i3, by rw [u2]; exact e5 i3⟩
  have F1 : Found ST "value" "[B" fV P.U := ⟨SBG.found_only al ⟨cfV, kV, iV, gV⟩, stV⟩
  have F2 : Found ST "coder" "B" fC P.U := ⟨SBG.found_only al ⟨cfC, kC, iC, gC⟩, stC⟩
  have hA : Ch b A P.U := ⟨⟨K.1, State.isArrayOf_alike al K.2.1, K.2.2, by omega⟩, hty⟩
  have hS : StaticIs P.U ST "COMPACT_STRINGS" "Z" (.int z) := by
    obtain ⟨cfS, iS, kS, fS, st, cS, t1, t2, t3, t4, t5, t6, t7⟩ := S
    exact StaticIs.there (s := { Z with heap := P.U.heap }) ⟨cfS, iS, kS, fS, st, cS, t1, t2, t3, t4, t5, (fun q => by rw [q] at t6; cases t6), t7⟩ al rfl
  obtain ⟨v, B, X', ⟨⟨hv, E', V', q1, q2, q3, q4, q5, q6, q7, q8, q9, q10, q11⟩, hl, hc, hs⟩, st⟩ := New1.pays x D fV fC b A z (tab_of (moved hZ hw)) hfr hlo m meth c P g ig mk _ X hg hsize hdg hW hn ⟨r1, r2, rfl, hB, F1, F2, hA, hS, hz, l0, l2, hp⟩
  have al' : Z.vm.Alike B.U.vm := hZ.alike.trans X'.warmed.alike
  have hsz : E'.slots.size = D.slots.size := by
    obtain ⟨-, -, -, kB, w1, w2, w3⟩ := q1
    obtain ⟨kB', y1, y2⟩ := al'.2.2 _ _ e3
    rw [q2.2.1] at w1
    cases w1.symm.trans y1
    rw [w3, e5 i3, y2]
  refine ⟨v, B, X', ⟨_, ⟨hv, ?_, ⟨by omega, fun y cy hy hn' => q10 y cy (by simpa using hn') hy, fun y cy hy => ?_⟩, q11, ⟨E', _, q1.1, by rw [q2.2.1]; exact e2, by rw [q2.2.1]; exact e3, by rw [q2.1]; exact obV, fun _ => by rw [hsz]; exact e5 i3⟩,
    ⟨E', cfV, kV, iV, fV, q1.1, gV, stV, by rw [q2.1]; exact knV, by rw [q2.1]; exact obV, by rw [q2.2.1]; exact asV, q3⟩, ⟨E', cfC, kC, iC, fC, q1.1, gC, stC, by rw [q2.1]; exact knV, by rw [q2.1]; exact obV, by rw [q2.2.1]; exact asC, q4⟩,
    ⟨V', ⟨q5.1, State.isArrayOf_alike al'.symm q5.2.1, q5.2.2.1⟩, q6, by rw [← al'.findClass]; exact q7, q8, fun j hj => by have := q9 j hj; rwa [Nat.zero_add] at this⟩, fun O n d w F n1 n2 => ?_⟩, hl, hc, hs⟩, st⟩
  · intro y hy
    simp only [List.mem_cons, List.not_mem_nil, or_false] at hy
    rcases hy with rfl | rfl <;> rfl
  · by_cases q : y = x
    · subst q
      cases hD.symm.trans hy
      exact ⟨E', q1.1, q2.2.1, q2.1, hsz⟩
    · exact ⟨cy, q10 y cy q hy, rfl, rfl, rfl⟩
  · obtain ⟨D3, cf, k, i, f, g1, g2, g3, g4, g5, g6, g7⟩ := F
    cases hD.symm.trans g1
    simp only [RoadKit.slotOf, g2, gV, gC, Option.map_some, Option.getD_some] at n1 n2
    exact ⟨E', cf, k, i, f, q1.1, g2, g3, by rw [q2.1]; exact g4, by rw [q2.1]; exact g5, by rw [q2.2.1]; exact g6, by rw [q2.2.2 f.slot (by simp [n1, n2])]; exact g7⟩
end StrChars.Road
namespace StrChars.Road
open Jvm Sem ClassFile Op Lib Jvm.Stand Jvm.Free Jvm.Free.XT
/-- WHAT COMES BACK, the byte[] as a list of values -/
def QA (Z : State) (x : Addr) (zn : Int32) (cs : List Int32) (h : Heap) (v : Option Value) (h' : Heap) (L : List Loc) : Prop := v = none ∧ (∀ y ∈ L, y.base = x) ∧ RoadKit.Keep h h' [x] ∧ h'.size = h.size + 1 ∧ RoadKit.Exa Z h' x ST ∧ RoadKit.Fld Z h' x ST "value" "[B" (.ref h.size) ∧ RoadKit.Fld Z h' x ST "coder" "B" (.int 0) ∧
  (∃ kb, Z.vm.findClass "[B" = some kb ∧ RoadKit.Arv Z h' h.size kb .byte zn (cs.map fun c => .int (lo8 c)) (.int 0)) ∧
  ∀ (O n d : String) (w : Value), RoadKit.Fld Z h x O n d w → RoadKit.slotOf Z O n d ≠ RoadKit.slotOf Z ST "value" "[B" → RoadKit.slotOf Z O n d ≠ RoadKit.slotOf Z ST "coder" "B" → RoadKit.Fld Z h' x O n d w
/-- **new String(chars) AT A CALL, THE ARRAYS AS LISTS**: the char[] at b holds cs, not empty, no char above 255 -/
theorem backArv {p : Program} {l : Launch} {e : Env} {R : Room} {s : State} {args : Array Value} {below : List Frame} {len W : Nat} {Z : State} {a0 : Array Value} {h : Heap} (hZ : Z.Warmed39 s.vm) (hw : ∀ d ∈ words, d.before a0 Z = true) {kI : Nat} (wi : (Jvm.Cond.instantiable ST kI).before a0 Z = true)
    {x b : Addr} {k : ClassId} {zn z : Int32} {cs : List Int32} {dv v0 c0 : Value} (E : RoadKit.Exa Z h x ST) (V : RoadKit.Fld Z h x ST "value" "[B" v0) (C : RoadKit.Fld Z h x ST "coder" "B" c0) (K : RoadKit.Arv Z h b k .char zn (cs.map Value.int) dv) (S : RoadKit.Sta Z h ST "COMPACT_STRINGS" "Z" (.int z)) (hz : ¬ z = 0)
    (hlen : zn.toNatClampNeg = cs.length) (h0 : 0 < cs.length) (hbig : cs.length ≤ 536870912) (hall : ∀ c ∈ cs, ¬ 255 < c) (hfr : 4 ≤ R.frames) (hlo : W + 65 ≤ R.locals) :
    Back l R p e below s args New1.yN len W (fun P a => a = #[.ref x, .ref b] ∧ P.U.heap = h ∧ P.cells + 1 ≤ R.cells ∧ P.slots + cs.length ≤ R.slots)
      (fun P _ v B => ∃ L, QA Z x zn cs h v B.U.heap L ∧ B.locs = P.locs ++ L ∧ B.cells = P.cells + 1 ∧ B.slots = P.slots + cs.length) := by
  obtain ⟨A, K1, K2, K3, K4, K5, K6⟩ := K
  have e : A.slots.size = cs.length := K3.trans hlen
  have hat : ∀ (i : Nat) (hi : i < cs.length), A.slots[i]? = some (.int cs[i]) := fun i hi => by rw [K5 i (by omega)]; simp [List.getD_eq_getElem?_getD, hi]
  have hcv : ∀ (i : Nat) (hi : i < cs.length), cv A i = cs[i] := fun i hi => by unfold cv; rw [hat i hi]
  have hty : Typed .char A := fun i v hv => by
    have hi : i < A.slots.size := (Array.getElem?_eq_some_iff.mp hv).1
    have q := K5 i hi
    rw [hv] at q
    rw [Option.some.inj q]
    exact K6 i hi
  refine Back.mono (back hZ hw wi E V C K1 hty S hz (by omega) (by omega) (fun i hi => by rw [hcv i (by omega)]; exact hall _ (List.getElem_mem _)) hfr hlo) (fun P a hp => ⟨hp.1, hp.2.1, hp.2.2.1, by rw [e]; exact hp.2.2.2⟩) (fun P a v B hp hq => ?_)
  obtain ⟨L, ⟨q1, q2, q3, q4, q5, q6, q7, ⟨V', v1, v2, v3, v4, v5⟩, q9⟩, hl, hc, hs⟩ := hq
  refine ⟨L, ⟨q1, q2, q3, q4, q5, q6, q7, ⟨V'.cls, v3, V', v1, rfl, by rw [v4, e, hlen], K4, fun i hi => ?_, fun i hi => ?_⟩, q9⟩, hl, hc, by rw [hs, e]⟩
  · have hi' : i < cs.length := by omega
    rw [v5 i (by omega), hcv i hi']; simp [List.getD_eq_getElem?_getD, hi']
  · have hi' : i < cs.length := by omega
    simp only [List.getD_eq_getElem?_getD, List.getElem?_map, List.getElem?_eq_getElem hi', Option.map_some, Option.getD_some]
    exact fits_lo8 _
end StrChars.Road
namespace StrChars.Road
open Jvm Sem ClassFile Op Lib Jvm.Stand Jvm.Free Jvm.Free.XT
/-- WHAT COMES BACK, in the writer's own shape -/
def QV (Z : State) (x : Addr) (N : Int32) (bs : List Int32) (h : Heap) (n0 : Nat) (v : Option Value) (h' : Heap) (L : List Loc) : Prop := v = none ∧ RoadKit.Fr n0 L ∧ RoadKit.Keep h h' [x] ∧ RoadKit.Exa Z h' x ST ∧ RoadKit.Fld Z h' x ST "coder" "B" (.int 0) ∧
  ∃ (t : Addr) (kb : ClassId), n0 ≤ t ∧ h.size ≤ t ∧ ¬ t = x ∧ RoadKit.Fld Z h' x ST "value" "[B" (.ref t) ∧ RoadKit.Arv Z h' t kb .byte N (bs.map Value.int) (.int 0)
/-- **new String(chars) AT A CALL, FOR THE WRITER**: a char[] of n known ints, each 0 to 255 -/
theorem backV {p : Program} {l : Launch} {e : Env} {R : Room} {s : State} {args : Array Value} {below : List Frame} {len W : Nat} {Z : State} {a0 : Array Value} {h : Heap} (hZ : Z.Warmed39 s.vm) (hw : ∀ d ∈ words, d.before a0 Z = true) {kI : Nat} (wi : (Jvm.Cond.instantiable ST kI).before a0 Z = true)
    {x b : Addr} {kC : ClassId} {cs bs : List Int32} {d v0 c0 : Value} {z N : Int32} {n n0 : Nat} (hx0 : n0 ≤ x) (hh0 : n0 ≤ h.size) (E : RoadKit.Exa Z h x ST) (V : RoadKit.Fld Z h x ST "value" "[B" v0) (C : RoadKit.Fld Z h x ST "coder" "B" c0) (K : RoadKit.Arv Z h b kC .char N (cs.map Value.int) d) (S : RoadKit.Sta Z h ST "COMPACT_STRINGS" "Z" (.int z)) (hz : ¬ z = 0)
    (hn : cs.length = n) (hN : N = Int32.ofNat n) (l0 : 0 < n) (l2 : n ≤ 4000) (hp : ∀ c ∈ cs, ¬ c < 0 ∧ ¬ (255 : Int32) < c) (hb : bs = cs.map (fun c => c.toInt8.toInt32)) (hfr : 4 ≤ R.frames) (hlo : W + 65 ≤ R.locals) :
    Back l R p e below s args (⟨"java/lang/String", "<init>", "([C)V"⟩ : MethodName) len W (fun P a => a = #[.ref x, .ref b] ∧ P.U.heap = h ∧ P.cells + 1 ≤ R.cells ∧ P.slots + n ≤ R.slots)
      (fun P _ v B => ∃ L, QV Z x N bs h n0 v B.U.heap L ∧ B.locs = P.locs ++ L ∧ B.cells = P.cells + 1 ∧ B.slots = P.slots + n) := by
  subst hn hN hb
  refine Back.mono (backArv hZ hw wi E V C K S hz (n32 (by omega)) l0 (by omega) (fun c hc => (hp c hc).2) hfr hlo) (fun P a hp => hp) (fun P a v B hp hq => ?_)
  obtain ⟨L, ⟨q1, q2, q3, q4, q5, q6, q7, ⟨kb, v1, v2⟩, q9⟩, hl, hc, hs⟩ := hq
  exact ⟨L, ⟨q1, fun y hy => by rw [q2 y hy]; exact hx0, q3, q5, q7, h.size, kb, hh0, Nat.le_refl _, Nat.ne_of_gt E.lt, q6, by rw [List.map_map]; exact v2⟩, hl, hc, hs⟩
end StrChars.Road
end Jvm.Pilot.@@N@@

namespace Jvm.Pilot.@@N@@
open Jvm Jvm.ClassFile Sem Op Lib Jvm.Free Jvm.Stand Jvm.LawKit Jvm.RoadKit Bundle Jvm.Pilot.@@N@@.Jvm.D
/-- the run from U comes to a return whose value, heap and written places Q takes; it has made at most kc cells of ks slots -/
def own_Go (p : Program) (e : Env) (below : List Frame) (s : State) (Q : Option Value → Heap → List Loc → Prop) (kc ks : Nat) (U : State) : Prop :=
  ∃ t o, Steps p.tables e below U t ∧ t.status = .running ∧ Ended t below o ∧ ∃ v L, o = .returned v ∧ Q v t.heap L ∧ FrameEnd s o t L kc ks
section OwnKit
variable {p : Program} {l : Launch} {e : Env} {R : Room} {s : State} {m : MethodId} {args : Array Value} {below : List Frame} {meth : Method} {c : Code} {T : State} {locs : List Loc} {cells slots kc ks : Nat} {Z : State} {a0 : Array Value} {h : Heap} {Q : Option Value → Heap → List Loc → Prop}
theorem own_go {U U' : State} (f : ∀ t, Steps p.tables e below U' t → Steps p.tables e below U t) (g : own_Go p e below s Q kc ks U') : own_Go p e below s Q kc ks U := by
  obtain ⟨t, o, a, r⟩ := g
  exact ⟨t, o, f t a, r⟩
theorem own_end (X : Stand p l e R s m args below meth c T locs cells slots) (hlk : meth.locks = false) (eT : T.heap = h) {v : Option Value} (hv : meth.sig.returnType = none → v = none) (hc : cells ≤ kc) (hs : slots ≤ ks) (hq : Q v h locs) {U : State}
    (hst : ∀ fs, (∀ (f : JFrame) (acts : List Action), f.method = m → f.locked = none → f.entered = [] → (doReturn e (T.setTop f) acts v).1 = T.setFrames fs) → Steps p.tables e below U (T.setFrames fs)) : own_Go p e below s Q kc ks U := by
  obtain ⟨fs, hr, hrun, hended, hW, hsame⟩ := X.leave (v := v) hv hlk
  refine ⟨_, _, hst fs hr, hrun, hended, v, locs, rfl, ?_, ⟨v, rfl⟩, hW, hsame.mono hc hs⟩
  show Q v T.heap locs
  rw [eT]; exact hq
theorem own_retN (X : Stand p l e R s m args below meth c T locs cells slots) (hx : p.tables.exec = Jvm.exec) (hlk : meth.locks = false) (eT : T.heap = h) {pc : Nat} {Ls : Array Slot} {z : Int32} {t : FieldType} {rest : List Value} (hret : meth.sig.returnType = some t) (ht : t = .boolean ∨ t = .byte ∨ t = .char ∨ t = .short)
    (hd : decode c.code pc = .ok (.ireturn, 1)) (hc : cells ≤ kc) (hs : slots ≤ ks) (hq : Q (some (.int (nar t z))) h locs) : own_Go p e below s Q kc ks (T.setTop (mkF m pc Ls (.int z :: rest))) :=
  own_end X hlk eT (fun q => by rw [hret] at q; cases q) hc hs hq fun fs hr => retN X hx hret ht hd hr
theorem own_retI (X : Stand p l e R s m args below meth c T locs cells slots) (hx : p.tables.exec = Jvm.exec) (hlk : meth.locks = false) (eT : T.heap = h) {pc : Nat} {Ls : Array Slot} {z : Int32} {rest : List Value} (hret : meth.sig.returnType = some .int)
    (hd : decode c.code pc = .ok (.ireturn, 1)) (hc : cells ≤ kc) (hs : slots ≤ ks) (hq : Q (some (.int z)) h locs) : own_Go p e below s Q kc ks (T.setTop (mkF m pc Ls (.int z :: rest))) :=
  own_end X hlk eT (fun q => by rw [hret] at q; cases q) hc hs hq fun fs hr => retOut X hx hret rfl (Or.inl ⟨rfl, Or.inl rfl, z, rfl⟩) hd hr
theorem own_retJ (X : Stand p l e R s m args below meth c T locs cells slots) (hx : p.tables.exec = Jvm.exec) (hlk : meth.locks = false) (eT : T.heap = h) {pc : Nat} {Ls : Array Slot} {z : Int64} {rest : List Value} (hret : meth.sig.returnType = some .long)
    (hd : decode c.code pc = .ok (.lreturn, 1)) (hc : cells ≤ kc) (hs : slots ≤ ks) (hq : Q (some (.long z)) h locs) : own_Go p e below s Q kc ks (T.setTop (mkF m pc Ls (.long z :: rest))) :=
  own_end X hlk eT (fun q => by rw [hret] at q; cases q) hc hs hq fun fs hr => retOut X hx hret rfl (Or.inr (Or.inl ⟨rfl, rfl, z, rfl⟩)) hd hr
theorem own_retA (X : Stand p l e R s m args below meth c T locs cells slots) (hx : p.tables.exec = Jvm.exec) (hlk : meth.locks = false) (eT : T.heap = h) {pc : Nat} {Ls : Array Slot} {v : Value} {t : FieldType} {rest : List Value} (hret : meth.sig.returnType = some t) (ht : t.isReference = true) (hv : v.isRef = true)
    (hd : decode c.code pc = .ok (.areturn, 1)) (hc : cells ≤ kc) (hs : slots ≤ ks) (hq : Q (some v) h locs) : own_Go p e below s Q kc ks (T.setTop (mkF m pc Ls (v :: rest))) :=
  own_end X hlk eT (fun q => by rw [hret] at q; cases q) hc hs hq fun fs hr => retOut X hx hret (by cases t <;> first | (cases ht; done) | (rcases ref_cases hv with rfl | ⟨_, rfl⟩ <;> rfl)) (Or.inr (Or.inr (Or.inr (Or.inr ⟨rfl, ht, hv⟩)))) hd hr
theorem own_retV (X : Stand p l e R s m args below meth c T locs cells slots) (hx : p.tables.exec = Jvm.exec) (hlk : meth.locks = false) (eT : T.heap = h) {pc : Nat} {Ls : Array Slot} (hret : meth.sig.returnType = none)
    (hd : decode c.code pc = .ok (.return_, 1)) (hc : cells ≤ kc) (hs : slots ≤ ks) (hq : Q none h locs) : own_Go p e below s Q kc ks (T.setTop (mkF m pc Ls [])) :=
  own_end X hlk eT (fun _ => rfl) hc hs hq fun fs hr => X.returnOut hx hret hd hr
/-- a body's contract out of its walk -/
theorem own_met {y : MethodName} {bytes : ByteArray} {maxL : Nat} {ret : Option FieldType} {ws : List Jvm.Cond} {rm : Room} {as' : Array Value} (kc ks : Nat) (hpl : plainFor y = true)
    (body : ∀ (p : Program) (e : Env) (s : State) (m : MethodId) (below : List Frame) (meth : Method) (c : Code) (T : State), Stand p l e rm s m as' below meth c T [] 0 0 → p.tables.exec = Jvm.exec → c.code = bytes → c.maxLocals = maxL → meth.sig.returnType = ret → meth.locks = false → Z.Warmed39 s.vm → s.vm.findClass y.cls = some m.cls → meth.name = y.name → T.heap = h →
      own_Go p e below s Q kc ks (T.setTop (entryFrame m as' maxL))) :
    MetFree l y (head1 (Jvm.Cond.code y bytes maxL ret :: ws) rm) (fun a U => a = as' ∧ Z.Warmed39 U.vm ∧ U.heap = h) (fun _ _ _ _ _ => True) (fun _ U o U' => ∃ v L, o = .returned v ∧ Q v U'.heap L ∧ FrameEnd U o U' L kc ks) := by
  refine MetFree.of_bodySF hpl hisR ?_
  intro p e s m args below meth c s₁ Bd hml hP hK
  obtain ⟨rfl, hZ, hh⟩ := hP
  obtain ⟨t, o, h1, h2, h3, h4⟩ := body p e s m below meth c s₁ (Stand.of_body Bd) Bd.exec Bd.bytes hml Bd.returns Bd.notSynchronized hZ (findClass_of_methodNamed Bd.named) (name_of_methodNamed Bd.named Bd.method).1 (by rw [← hh, Bd.state]; rfl)
  exact ⟨t, o, h1, h2, h3, h4⟩
abbrev own_Met (l : Launch) (Z : State) (h : Heap) (y : MethodName) (bytes : ByteArray) (maxL : Nat) (ret : Option FieldType) (rm : Room) (as' : Array Value) (Q : Option Value → Heap → List Loc → Prop) : Prop :=
  MetFree l y (head1 [Jvm.Cond.code y bytes maxL ret] rm) (fun a U => a = as' ∧ Z.Warmed39 U.vm ∧ U.heap = h) (fun _ _ _ _ _ => True) (fun _ U o U' => ∃ v L, o = .returned v ∧ Q v U'.heap L ∧ FrameEnd U o U' L rm.cells rm.slots)
abbrev own_MF (l : Launch) (Z : State) (h : Heap) (y : MethodName) (bytes : ByteArray) (maxL : Nat) (ret : Option FieldType) (rm : Room) (as' : Array Value) (Q : Option Value → Heap → List Loc → Prop) (ws : List Jvm.Cond) : Prop :=
  MetFree l y (head1 (Jvm.Cond.code y bytes maxL ret :: ws) rm) (fun a U => a = as' ∧ Z.Warmed39 U.vm ∧ U.heap = h) (fun _ _ _ _ _ => True) (fun _ U o U' => ∃ v L, o = .returned v ∧ Q v U'.heap L ∧ FrameEnd U o U' L rm.cells rm.slots)
theorem own_callS {y : MethodName} {bytes : ByteArray} {maxL : Nat} {ret : Option FieldType} {rm : Room} {as' : Array Value} {own : String} {index : Nat} (X : Stand p l e R s m args below meth c T locs cells slots) (hx : p.tables.exec = Jvm.exec) (hZ : Z.Warmed39 s.vm) (hown : s.vm.findClass own = some m.cls)
    (w1 : (Jvm.Cond.methodLink own index y).before a0 Z = true) (w2 : (Jvm.Cond.static y).before a0 Z = true) (w3 : (Jvm.Cond.initialized y.cls).before a0 Z = true) (w4 : (Jvm.Cond.code y bytes maxL ret).before a0 Z = true) (hM : own_Met l Z h y bytes maxL ret rm as' Q) (W : Nat) (nc ns : Nat) 
    (hc : cells + nc ≤ R.cells) (hs : slots + ns ≤ R.slots) (eT : T.heap = h) {g : JFrame} (hg : g.method = m) (hsize : g.locals.size = c.maxLocals)
    (argsL rest : List Value) (hlen : ∀ sig, parseMethodDescriptor y.desc = some sig → argsL.length = sig.parameters.length) (hstack : g.stack = argsL.reverse ++ rest) (has : argsL.toArray = as') (hdg : decode c.code g.pc = .ok (.invokestatic index, 3))
    (hy : y.cls ≠ "java/lang/invoke/MethodHandle" ∧ y.cls ≠ "java/lang/invoke/VarHandle" := by decide) (hf : rm.frames + 1 ≤ R.frames := by decide) (hl : W + (maxL + 11) + rm.locals ≤ R.locals := by decide) (hW : 2 * g.monitorRoom + (rest.map fun v => v.category).sum ≤ W := by exact Nat.le_of_eq rfl) (hnc : rm.cells = nc := by rfl) (hns : rm.slots = ns := by rfl) :
    ∃ v T' L, Stand p l e R s m args below meth c T' (locs ++ L) (cells + nc) (slots + ns) ∧ Q v T'.heap L ∧ ∀ target, Steps p.tables e below (T'.setTop { g with pc := g.pc + 3, stack := v.toList ++ rest }) target → Steps p.tables e below (T.setTop g) target := by
  subst hnc hns
  obtain ⟨v, _, ⟨T', L', k', n'⟩, -, X', ⟨L, hQ, h1, h2, h3⟩, st⟩ := Jvm.LawKit.callS X hx hown (mvT hZ w1) (mvT hZ w2) (mvT hZ w3) (mvT hZ w4) hy (backOf (W := W) hM hZ w4 w3 hf hl) hg hsize hlen hstack hW hdg (fun _ _ => ⟨has, eT, hc, hs⟩)
  dsimp only [Pt.U, Pt.locs, Pt.cells, Pt.slots] at X' hQ h1 h2 h3 st
  subst h1 h2 h3
  exact ⟨v, T', L, X', hQ, st⟩
theorem own_callI {y : MethodName} {bytes : ByteArray} {maxL : Nat} {rm : Room} {as' : Array Value} {own : String} {index : Nat} (X : Stand p l e R s m args below meth c T locs cells slots) (hx : p.tables.exec = Jvm.exec) (hZ : Z.Warmed39 s.vm) (hown : s.vm.findClass own = some m.cls)
    (w1 : (Jvm.Cond.methodLink own index y).before a0 Z = true) (w2 : (Jvm.Cond.instanceMethod y).before a0 Z = true) (w3 : (Jvm.Cond.initialized y.cls).before a0 Z = true) (w4 : (Jvm.Cond.code y bytes maxL none).before a0 Z = true) (hM : own_Met l Z h y bytes maxL none rm as' Q) (W : Nat) (nc ns : Nat) (hy1 : y.name = "<init>")
    (hc : cells + nc ≤ R.cells) (hs : slots + ns ≤ R.slots) (eT : T.heap = h) {g : JFrame} (hg : g.method = m) (hsize : g.locals.size = c.maxLocals)
    (a : Addr) (argsL rest : List Value) (hlen : ∀ sig, parseMethodDescriptor y.desc = some sig → argsL.length = sig.parameters.length) (hstack : g.stack = argsL.reverse ++ .ref a :: rest) (has : (Value.ref a :: argsL).toArray = as') (hdg : decode c.code g.pc = .ok (.invokespecial index, 3))
    (hy : y.cls ≠ "java/lang/invoke/MethodHandle" ∧ y.cls ≠ "java/lang/invoke/VarHandle" := by decide) (hf : rm.frames + 1 ≤ R.frames := by decide) (hl : W + (maxL + 11) + rm.locals ≤ R.locals := by decide) (hW : 2 * g.monitorRoom + (rest.map fun v => v.category).sum ≤ W := by exact Nat.le_of_eq rfl) (hnc : rm.cells = nc := by rfl) (hns : rm.slots = ns := by rfl) :
    ∃ v T' L, Stand p l e R s m args below meth c T' (locs ++ L) (cells + nc) (slots + ns) ∧ Q v T'.heap L ∧ ∀ target, Steps p.tables e below (T'.setTop { g with pc := g.pc + 3, stack := v.toList ++ rest }) target → Steps p.tables e below (T.setTop g) target := by
  subst hnc hns
  obtain ⟨v, _, ⟨T', L', k', n'⟩, -, X', ⟨L, hQ, h1, h2, h3⟩, st⟩ := X.specialBack hx hy1 hown (mvT hZ w1) (mvT hZ w2) (mvT hZ w4) hy (backOf (W := W) hM hZ w4 w3 hf hl) hg hsize (Steps.refl _) (a := a) (argsL := argsL) (rest := rest) hlen hstack hW hdg (fun _ _ => ⟨has, eT, hc, hs⟩)
  dsimp only [Pt.U, Pt.locs, Pt.cells, Pt.slots] at X' hQ h1 h2 h3 st
  subst h1 h2 h3
  exact ⟨v, T', L, X', hQ, fun _ k => st.trans k⟩
theorem own_callV {y z : MethodName} {bytes : ByteArray} {maxL : Nat} {ret : Option FieldType} {rm : Room} {as' : Array Value} {own C : String} {index : Nat} (X : Stand p l e R s m args below meth c T locs cells slots) (hx : p.tables.exec = Jvm.exec) (hZ : Z.Warmed39 s.vm) (hown : s.vm.findClass own = some m.cls)
    (w1 : (Jvm.Cond.methodLink own index y).before a0 Z = true) (wd : (Jvm.Cond.declares y).before a0 Z = true) (nf : NotFace s y) (wsel : (Jvm.Cond.selects C y z).before a0 Z = true) (w2 : (Jvm.Cond.instanceMethod z).before a0 Z = true) (w3 : (Jvm.Cond.initialized z.cls).before a0 Z = true) (w4 : (Jvm.Cond.code z bytes maxL ret).before a0 Z = true) (hM : own_Met l Z h z bytes maxL ret rm as' Q) (W : Nat) (nc ns : Nat) 
    (hc : cells + nc ≤ R.cells) (hs : slots + ns ≤ R.slots) (eT : T.heap = h) {a : Addr} (E : Exa Z h a C) {g : JFrame} (hg : g.method = m) (hsize : g.locals.size = c.maxLocals)
    (argsL rest : List Value) (hlen : ∀ sig, parseMethodDescriptor y.desc = some sig → argsL.length = sig.parameters.length) (hstack : g.stack = argsL.reverse ++ .ref a :: rest) (has : (Value.ref a :: argsL).toArray = as') (hdg : decode c.code g.pc = .ok (.invokevirtual index, 3))
    (hy : y.cls ≠ "java/lang/invoke/MethodHandle" ∧ y.cls ≠ "java/lang/invoke/VarHandle" := by decide) (hf : rm.frames + 1 ≤ R.frames := by decide) (hl : W + (maxL + 11) + rm.locals ≤ R.locals := by decide) (hW : 2 * g.monitorRoom + (rest.map fun v => v.category).sum ≤ W := by exact Nat.le_of_eq rfl) (hnc : rm.cells = nc := by rfl) (hns : rm.slots = ns := by rfl) :
    ∃ v T' L, Stand p l e R s m args below meth c T' (locs ++ L) (cells + nc) (slots + ns) ∧ Q v T'.heap L ∧ ∀ target, Steps p.tables e below (T'.setTop { g with pc := g.pc + 3, stack := v.toList ++ rest }) target → Steps p.tables e below (T.setTop g) target := by
  subst hnc hns
  obtain ⟨cq, kq, qa, qb, qc⟩ := isOf hZ eT E
  obtain ⟨v, _, ⟨T', L', k', n'⟩, -, X', ⟨L, hQ, h1, h2, h3⟩, st⟩ := X.virtualBack hx hown (mvT hZ w1) (mvT hZ wd) nf (mvT hZ wsel) (mvT hZ w2) hy (backOf (W := W) hM hZ w4 w3 hf hl) qa qc hg hsize (Steps.refl _) (argsL := argsL) (rest := rest) hlen hstack hW hdg (fun _ _ => ⟨has, eT, hc, hs⟩)
  dsimp only [Pt.U, Pt.locs, Pt.cells, Pt.slots] at X' hQ h1 h2 h3 st
  subst h1 h2 h3
  exact ⟨v, T', L, X', hQ, fun _ k => st.trans k⟩
theorem own_callP {y : MethodName} {bytes : ByteArray} {maxL : Nat} {ret : Option FieldType} {rm : Room} {as' : Array Value} {own C : String} {index : Nat} (X : Stand p l e R s m args below meth c T locs cells slots) (hx : p.tables.exec = Jvm.exec) (hZ : Z.Warmed39 s.vm) (hown : s.vm.findClass own = some m.cls)
    (w1 : (Jvm.Cond.methodLink own index y).before a0 Z = true) (w2 : (Jvm.Cond.instanceMethod y).before a0 Z = true) (wsel : (Jvm.Cond.selects y.cls y y).before a0 Z = true) (wp : (Jvm.Cond.privateMethod y).before a0 Z = true) (w3 : (Jvm.Cond.initialized y.cls).before a0 Z = true) (w4 : (Jvm.Cond.code y bytes maxL ret).before a0 Z = true) (hM : own_Met l Z h y bytes maxL ret rm as' Q) (W : Nat) (nc ns : Nat) 
    (hc : cells + nc ≤ R.cells) (hs : slots + ns ≤ R.slots) (eT : T.heap = h) {a : Addr} (E : Exa Z h a C) {g : JFrame} (hg : g.method = m) (hsize : g.locals.size = c.maxLocals)
    (argsL rest : List Value) (hlen : ∀ sig, parseMethodDescriptor y.desc = some sig → argsL.length = sig.parameters.length) (hstack : g.stack = argsL.reverse ++ .ref a :: rest) (has : (Value.ref a :: argsL).toArray = as') (hdg : decode c.code g.pc = .ok (.invokevirtual index, 3))
    (hy : y.cls ≠ "java/lang/invoke/MethodHandle" ∧ y.cls ≠ "java/lang/invoke/VarHandle" := by decide) (hf : rm.frames + 1 ≤ R.frames := by decide) (hl : W + (maxL + 11) + rm.locals ≤ R.locals := by decide) (hW : 2 * g.monitorRoom + (rest.map fun v => v.category).sum ≤ W := by exact Nat.le_of_eq rfl) (hnc : rm.cells = nc := by rfl) (hns : rm.slots = ns := by rfl) :
    ∃ v T' L, Stand p l e R s m args below meth c T' (locs ++ L) (cells + nc) (slots + ns) ∧ Q v T'.heap L ∧ ∀ target, Steps p.tables e below (T'.setTop { g with pc := g.pc + 3, stack := v.toList ++ rest }) target → Steps p.tables e below (T.setTop g) target := by
  subst hnc hns
  obtain ⟨cq, q1, q2⟩ := E.cell
  obtain ⟨v, _, ⟨T', L', k', n'⟩, -, X', ⟨L, hQ, h1, h2, h3⟩, st⟩ := X.privateBack hx hown (mvT hZ w1) (mvT hZ w2) (mvT hZ wsel) (Cond.privateMethod_at (mvP hZ wp (args := #[]))) (mvT hZ w4) hy (backOf (W := W) hM hZ w4 w3 hf hl) hg hsize (Steps.refl _) (a := a) (by rw [eT]; exact q1) q2 (argsL := argsL) (rest := rest) hlen hstack hW hdg (fun _ _ => ⟨has, eT, hc, hs⟩)
  dsimp only [Pt.U, Pt.locs, Pt.cells, Pt.slots] at X' hQ h1 h2 h3 st
  subst h1 h2 h3
  exact ⟨v, T', L, X', hQ, fun _ k => st.trans k⟩
theorem own_callF {xi y : MethodName} {bytes : ByteArray} {maxL : Nat} {ret : Option FieldType} {rm : Room} {as' : Array Value} {own C : String} {index count : Nat} (X : Stand p l e R s m args below meth c T locs cells slots) (hx : p.tables.exec = Jvm.exec) (hZ : Z.Warmed39 s.vm) (hown : s.vm.findClass own = some m.cls)
    (w1 : (Jvm.Cond.methodLink own index xi).before a0 Z = true) (wd : (Jvm.Cond.declares xi).before a0 Z = true) (wfa : (Jvm.Cond.interfaceMethod xi.cls xi.cls xi.name xi.desc).before a0 Z = true) (wsel : (Jvm.Cond.selects C xi y).before a0 Z = true) (w2 : (Jvm.Cond.instanceMethod y).before a0 Z = true) (wp : (Jvm.Cond.publicMethod y).before a0 Z = true) (wu : (Jvm.Cond.unhidden C xi.name xi.desc).before a0 Z = true) (wk : (Jvm.Cond.castable C xi.cls).before a0 Z = true) (w3 : (Jvm.Cond.initialized y.cls).before a0 Z = true) (w4 : (Jvm.Cond.code y bytes maxL ret).before a0 Z = true) (hfk : ((Jvm.Cond.interfaceMethod xi.cls xi.cls xi.name xi.desc).onTables && (Jvm.Cond.interfaceMethod xi.cls xi.cls xi.name xi.desc).keepsFace) = true) (hM : own_Met l Z h y bytes maxL ret rm as' Q) (W : Nat) (nc ns : Nat) 
    (hc : cells + nc ≤ R.cells) (hs : slots + ns ≤ R.slots) (eT : T.heap = h) {a : Addr} (E : Exa Z h a C) {g : JFrame} (hg : g.method = m) (hsize : g.locals.size = c.maxLocals)
    (argsL rest : List Value) (hlen : ∀ sig, parseMethodDescriptor xi.desc = some sig → argsL.length = sig.parameters.length) (hstack : g.stack = argsL.reverse ++ .ref a :: rest) (has : (Value.ref a :: argsL).toArray = as') (hdg : decode c.code g.pc = .ok (.invokeinterface index count, 5))
    (hy : xi.cls ≠ "java/lang/invoke/MethodHandle" ∧ xi.cls ≠ "java/lang/invoke/VarHandle" := by decide) (hf : rm.frames + 1 ≤ R.frames := by decide) (hl : W + (maxL + 11) + rm.locals ≤ R.locals := by decide) (hW : 2 * g.monitorRoom + (rest.map fun v => v.category).sum ≤ W := by exact Nat.le_of_eq rfl) (hnc : rm.cells = nc := by rfl) (hns : rm.slots = ns := by rfl) :
    ∃ v T' L, Stand p l e R s m args below meth c T' (locs ++ L) (cells + nc) (slots + ns) ∧ Q v T'.heap L ∧ ∀ target, Steps p.tables e below (T'.setTop { g with pc := g.pc + 5, stack := v.toList ++ rest }) target → Steps p.tables e below (T.setTop g) target := by
  subst hnc hns
  obtain ⟨cq, kq, qa, qb, qc⟩ := isOf hZ eT E
  obtain ⟨v, _, ⟨T', L', k', n'⟩, -, X', ⟨L, hQ, h1, h2, h3⟩, st⟩ := X.interfaceBack hx hown (mvT hZ w1) (mvT hZ wd) (mvT hZ wfa hfk) (mvT hZ wsel) (mvT hZ w2) (mvT hZ wp) (mvT hZ wu) (mvT hZ wk) hy (backOf (W := W) hM hZ w4 w3 hf hl) qa qb qc hg hsize (Steps.refl _) (argsL := argsL) (rest := rest) hlen hstack hW hdg (fun _ _ => ⟨has, eT, hc, hs⟩)
  dsimp only [Pt.U, Pt.locs, Pt.cells, Pt.slots] at X' hQ h1 h2 h3 st
  subst h1 h2 h3
  exact ⟨v, T', L, X', hQ, fun _ k => st.trans k⟩
theorem own_callU {y z : MethodName} {bytes : ByteArray} {maxL : Nat} {ret : Option FieldType} {rm : Room} {as' : Array Value} {own owner C : String} {index : Nat} (X : Stand p l e R s m args below meth c T locs cells slots) (hx : p.tables.exec = Jvm.exec) (hZ : Z.Warmed39 s.vm) (hown : s.vm.findClass own = some m.cls)
    (w1 : (Jvm.Cond.methodLink own index y).before a0 Z = true) (wsm : (Jvm.Cond.sameMethod y.cls owner y.name y.desc).before a0 Z = true) (wd : (Jvm.Cond.declares ⟨owner, y.name, y.desc⟩).before a0 Z = true) (wsel : (Jvm.Cond.selects C y z).before a0 Z = true) (w2 : (Jvm.Cond.instanceMethod z).before a0 Z = true) (w3 : (Jvm.Cond.initialized z.cls).before a0 Z = true) (w4 : (Jvm.Cond.code z bytes maxL ret).before a0 Z = true) (hM : own_Met l Z h z bytes maxL ret rm as' Q) (W : Nat) (nc ns : Nat) 
    (hc : cells + nc ≤ R.cells) (hs : slots + ns ≤ R.slots) (eT : T.heap = h) {a : Addr} (E : Exa Z h a C) {g : JFrame} (hg : g.method = m) (hsize : g.locals.size = c.maxLocals)
    (argsL rest : List Value) (hlen : ∀ sig, parseMethodDescriptor y.desc = some sig → argsL.length = sig.parameters.length) (hstack : g.stack = argsL.reverse ++ .ref a :: rest) (has : (Value.ref a :: argsL).toArray = as') (hdg : decode c.code g.pc = .ok (.invokevirtual index, 3))
    (howner : owner ≠ "java/lang/invoke/MethodHandle" ∧ owner ≠ "java/lang/invoke/VarHandle" := by decide) (hf : rm.frames + 1 ≤ R.frames := by decide) (hl : W + (maxL + 11) + rm.locals ≤ R.locals := by decide) (hW : 2 * g.monitorRoom + (rest.map fun v => v.category).sum ≤ W := by exact Nat.le_of_eq rfl) (hnc : rm.cells = nc := by rfl) (hns : rm.slots = ns := by rfl) :
    ∃ v T' L, Stand p l e R s m args below meth c T' (locs ++ L) (cells + nc) (slots + ns) ∧ Q v T'.heap L ∧ ∀ target, Steps p.tables e below (T'.setTop { g with pc := g.pc + 3, stack := v.toList ++ rest }) target → Steps p.tables e below (T.setTop g) target := by
  subst hnc hns
  obtain ⟨cq, kq, qa, qb, qc⟩ := isOf hZ eT E
  obtain ⟨v, _, ⟨T', L', k', n'⟩, -, X', ⟨L, hQ, h1, h2, h3⟩, st⟩ := X.virtualBackUp hx hown (mvT hZ w1) (mvT hZ wsm) (mvT hZ wd) howner (mvT hZ wsel) (mvT hZ w2) (backOf (W := W) hM hZ w4 w3 hf hl) qa qc hg hsize (Steps.refl _) (argsL := argsL) (rest := rest) hlen hstack hW hdg (fun _ _ => ⟨has, eT, hc, hs⟩)
  dsimp only [Pt.U, Pt.locs, Pt.cells, Pt.slots] at X' hQ h1 h2 h3 st
  subst h1 h2 h3
  exact ⟨v, T', L, X', hQ, fun _ k => st.trans k⟩
theorem own_callIB {y : MethodName} {bytes : ByteArray} {maxL : Nat} {as' : Array Value} {own : String} {index : Nat} (X : Stand p l e R s m args below meth c T locs cells slots) (hx : p.tables.exec = Jvm.exec) (hZ : Z.Warmed39 s.vm) (hown : s.vm.findClass own = some m.cls)
    (w1 : (Jvm.Cond.methodLink own index y).before a0 Z = true) (w2 : (Jvm.Cond.instanceMethod y).before a0 Z = true) (w3 : (Jvm.Cond.initialized y.cls).before a0 Z = true) (w4 : (Jvm.Cond.code y bytes maxL none).before a0 Z = true) (W nc ns : Nat) (hB : Back l R p e below s args y 3 W (fun A a => a = as' ∧ A.U.heap = h ∧ A.cells + nc ≤ R.cells ∧ A.slots + ns ≤ R.slots) (fun A _ v B => ∃ L, Q v B.U.heap L ∧ B.locs = A.locs ++ L ∧ B.cells = A.cells + nc ∧ B.slots = A.slots + ns)) (hy1 : y.name = "<init>")
    (hc : cells + nc ≤ R.cells) (hs : slots + ns ≤ R.slots) (eT : T.heap = h) {g : JFrame} (hg : g.method = m) (hsize : g.locals.size = c.maxLocals)
    (a : Addr) (argsL rest : List Value) (hlen : ∀ sig, parseMethodDescriptor y.desc = some sig → argsL.length = sig.parameters.length) (hstack : g.stack = argsL.reverse ++ .ref a :: rest) (has : (Value.ref a :: argsL).toArray = as') (hdg : decode c.code g.pc = .ok (.invokespecial index, 3))
    (hy : y.cls ≠ "java/lang/invoke/MethodHandle" ∧ y.cls ≠ "java/lang/invoke/VarHandle" := by decide) (hW : 2 * g.monitorRoom + (rest.map fun v => v.category).sum ≤ W := by exact Nat.le_of_eq rfl) :
    ∃ v T' L, Stand p l e R s m args below meth c T' (locs ++ L) (cells + nc) (slots + ns) ∧ Q v T'.heap L ∧ ∀ target, Steps p.tables e below (T'.setTop { g with pc := g.pc + 3, stack := v.toList ++ rest }) target → Steps p.tables e below (T.setTop g) target := by
  obtain ⟨v, _, ⟨T', L', k', n'⟩, -, X', ⟨L, hQ, h1, h2, h3⟩, st⟩ := X.specialBack hx hy1 hown (mvT hZ w1) (mvT hZ w2) (mvT hZ w4) hy hB hg hsize (Steps.refl _) (a := a) (argsL := argsL) (rest := rest) hlen hstack hW hdg (fun _ _ => ⟨has, eT, hc, hs⟩)
  dsimp only [Pt.U, Pt.locs, Pt.cells, Pt.slots] at X' hQ h1 h2 h3 st
  subst h1 h2 h3
  exact ⟨v, T', L, X', hQ, fun _ k => st.trans k⟩
theorem own_callVB {y z : MethodName} {bytes : ByteArray} {maxL : Nat} {ret : Option FieldType} {as' : Array Value} {own C : String} {index : Nat} (X : Stand p l e R s m args below meth c T locs cells slots) (hx : p.tables.exec = Jvm.exec) (hZ : Z.Warmed39 s.vm) (hown : s.vm.findClass own = some m.cls)
    (w1 : (Jvm.Cond.methodLink own index y).before a0 Z = true) (wd : (Jvm.Cond.declares y).before a0 Z = true) (nf : NotFace s y) (wsel : (Jvm.Cond.selects C y z).before a0 Z = true) (w2 : (Jvm.Cond.instanceMethod z).before a0 Z = true) (w3 : (Jvm.Cond.initialized z.cls).before a0 Z = true) (w4 : (Jvm.Cond.code z bytes maxL ret).before a0 Z = true) (W nc ns : Nat) (hB : Back l R p e below s args z 3 W (fun A a => a = as' ∧ A.U.heap = h ∧ A.cells + nc ≤ R.cells ∧ A.slots + ns ≤ R.slots) (fun A _ v B => ∃ L, Q v B.U.heap L ∧ B.locs = A.locs ++ L ∧ B.cells = A.cells + nc ∧ B.slots = A.slots + ns)) 
    (hc : cells + nc ≤ R.cells) (hs : slots + ns ≤ R.slots) (eT : T.heap = h) {a : Addr} (E : Exa Z h a C) {g : JFrame} (hg : g.method = m) (hsize : g.locals.size = c.maxLocals)
    (argsL rest : List Value) (hlen : ∀ sig, parseMethodDescriptor y.desc = some sig → argsL.length = sig.parameters.length) (hstack : g.stack = argsL.reverse ++ .ref a :: rest) (has : (Value.ref a :: argsL).toArray = as') (hdg : decode c.code g.pc = .ok (.invokevirtual index, 3))
    (hy : y.cls ≠ "java/lang/invoke/MethodHandle" ∧ y.cls ≠ "java/lang/invoke/VarHandle" := by decide) (hW : 2 * g.monitorRoom + (rest.map fun v => v.category).sum ≤ W := by exact Nat.le_of_eq rfl) :
    ∃ v T' L, Stand p l e R s m args below meth c T' (locs ++ L) (cells + nc) (slots + ns) ∧ Q v T'.heap L ∧ ∀ target, Steps p.tables e below (T'.setTop { g with pc := g.pc + 3, stack := v.toList ++ rest }) target → Steps p.tables e below (T.setTop g) target := by
  obtain ⟨cq, kq, qa, qb, qc⟩ := isOf hZ eT E
  obtain ⟨v, _, ⟨T', L', k', n'⟩, -, X', ⟨L, hQ, h1, h2, h3⟩, st⟩ := X.virtualBack hx hown (mvT hZ w1) (mvT hZ wd) nf (mvT hZ wsel) (mvT hZ w2) hy hB qa qc hg hsize (Steps.refl _) (argsL := argsL) (rest := rest) hlen hstack hW hdg (fun _ _ => ⟨has, eT, hc, hs⟩)
  dsimp only [Pt.U, Pt.locs, Pt.cells, Pt.slots] at X' hQ h1 h2 h3 st
  subst h1 h2 h3
  exact ⟨v, T', L, X', hQ, fun _ k => st.trans k⟩
/-- the start's heap stands in h unchanged -/
theorem own_oldExt {h' : Heap} (O : Ext Z.heap h) (E : Ext h h') : Ext Z.heap h' := ⟨Nat.le_trans O.1 E.1, fun x c q => E.2 x c (O.2 x c q)⟩
theorem own_oldKeep {h' : Heap} {ws : List Addr} (O : Ext Z.heap h) (K : Keep h h' ws) (q : ∀ x ∈ ws, Z.heap.size ≤ x) : Ext Z.heap h' :=
  ⟨Nat.le_trans O.1 K.1, fun x c r => K.2.1 x c (O.2 x c r) fun z => absurd (Array.getElem?_eq_some_iff.mp r).1 (Nat.not_lt.mpr (q x z))⟩
theorem own_oldWr {h' : Heap} {a : Addr} {sl : Nat} {v : Value} (O : Ext Z.heap h) (W : Wr h h' a sl v) (q : Z.heap.size ≤ a) : Ext Z.heap h' := own_oldKeep O (Keep.of_wr W) (allS q all0)
theorem own_keepTrans {h0 h' : Heap} {ws : List Addr} (K : Keep h0 h ws) (K' : Keep h h' []) : Keep h0 h' ws := K.trans K' fun x q => nomatch q
theorem own_insKeep {h' : Heap} {ws : List Addr} {a : Addr} {C : String} {b : Bool} (F : Ins Z h a C b) (K : Keep h h' ws) : Ins Z h' a C b := by
  obtain ⟨cell, cT, h1, h2, h3⟩ := F
  obtain ⟨c', q1, q2, q3, -⟩ := K.2.2 a cell h1
  exact ⟨c', cT, q1, h2, by rw [q2, q3]; exact h3⟩
theorem own_cat1 {v : Value} (r : v.isRef = true) : v.category = 1 := by cases v <;> simp [Value.isRef, Value.category] at r ⊢
theorem own_fitsRef {v : Value} (t : FieldType) (r : v.isRef = true) (ht : t.isReference = true) : fits t v = true := by
  cases t <;> first | (cases ht; done) | (rcases ref_cases r with rfl | ⟨_, rfl⟩ <;> rfl)
theorem own_narRef {v : Value} (t : FieldType) (r : v.isRef = true) (ht : t.isReference = true) : narrow t v = v := by
  cases t <;> first | (cases ht; done) | (rcases ref_cases r with rfl | ⟨_, rfl⟩ <;> rfl)
theorem own_keepSub {h0 : Heap} {ws ws' : List Addr} (K : Keep h0 h ws) (q : ∀ x ∈ ws, x ∈ ws') : Keep h0 h ws' := ⟨K.1, fun x c r z => K.2.1 x c r fun u => z (q x u), K.2.2⟩
theorem own_neTy {a b : Addr} {k k' : ClassId} {ty ty' : FieldType} {z z' : Int32} {vs vs' : List Value} {d d' : Value} (F : Arv Z h a k ty z vs d) (G : Arv Z h b k' ty' z' vs' d') (hn : ty ≠ ty') : a ≠ b := by
  rintro rfl
  obtain ⟨c, A, -⟩ := F
  obtain ⟨c', A', -⟩ := G
  cases A.1.symm.trans A'.1
  obtain ⟨-, k1, q1, cm1, r1⟩ := A.2.1
  obtain ⟨-, k2, q2, cm2, r2⟩ := A'.2.1
  cases q1.symm.trans q2
  rw [r1] at r2
  cases r2
  exact hn rfl
theorem own_catR (a : Addr) : (Value.ref a).category = 1 := rfl
theorem own_catN : Value.null.category = 1 := rfl
theorem own_catI (a : Int32) : (Value.int a).category = 1 := rfl
theorem own_catJ (a : Int64) : (Value.long a).category = 2 := rfl
end OwnKit
theorem own_fd0 : parseFieldDescriptor "I" = some .int := by decide +kernel
theorem own_fd1 : parseFieldDescriptor "[Ljava/lang/Object;" = some (.array (.object "java/lang/Object")) := by decide +kernel
theorem own_fd2 : parseFieldDescriptor "B" = some .byte := by decide +kernel
theorem own_fd3 : parseFieldDescriptor "[B" = some (.array .byte) := by decide +kernel
abbrev own_W (Z : State) (a0 : Array Value) : Prop := ∀ d ∈ tables_1, d.before a0 Z = true
abbrev own_y0 : MethodName := ⟨"java/util/AbstractCollection", "<init>", "()V"⟩
abbrev own_y1 : MethodName := ⟨"java/util/AbstractList", "<init>", "()V"⟩
abbrev own_y2 : MethodName := ⟨"java/util/ArrayList", "<init>", "()V"⟩
abbrev own_y3 : MethodName := ⟨"java/lang/Math", "max", "(II)I"⟩
abbrev own_y4 : MethodName := ⟨"java/util/ArrayList", "grow", "(I)[Ljava/lang/Object;"⟩
abbrev own_y5 : MethodName := ⟨"java/util/ArrayList", "grow", "()[Ljava/lang/Object;"⟩
abbrev own_y6 : MethodName := ⟨"java/util/ArrayList", "add", "(Ljava/lang/Object;[Ljava/lang/Object;I)V"⟩
abbrev own_y7 : MethodName := ⟨"java/util/ArrayList", "add", "(Ljava/lang/Object;)Z"⟩
abbrev own_y8 : MethodName := ⟨"java/util/ArrayList", "size", "()I"⟩
abbrev own_y9 : MethodName := ⟨"jdk/internal/util/Preconditions", "checkIndex", "(IILjava/util/function/BiFunction;)I"⟩
abbrev own_y10 : MethodName := ⟨"java/util/Objects", "checkIndex", "(II)I"⟩
abbrev own_y11 : MethodName := ⟨"java/util/ArrayList", "elementData", "(I)Ljava/lang/Object;"⟩
abbrev own_y12 : MethodName := ⟨"java/util/ArrayList", "get", "(I)Ljava/lang/Object;"⟩
abbrev own_y13 : MethodName := ⟨"java/lang/String", "coder", "()B"⟩
abbrev own_y14 : MethodName := ⟨"java/lang/String", "length", "()I"⟩
abbrev own_y15 : MethodName := ⟨"jdk/internal/util/ArraysSupport", "mismatch", "([BI[BII)I"⟩
abbrev own_y16 : MethodName := ⟨"java/lang/String", "startsWith", "(Ljava/lang/String;I)Z"⟩
abbrev own_y17 : MethodName := ⟨"java/lang/String", "startsWith", "(Ljava/lang/String;)Z"⟩
abbrev own_y18 : MethodName := ⟨"com/example/padlock/padlock/lock/Access", "ofNode", "(Ljava/lang/String;)Lcom/example/padlock/padlock/lock/Access;"⟩
abbrev own_y19 : MethodName := ⟨"com/example/padlock/padlock/lock/Access", "conflictsWith", "(Lcom/example/padlock/padlock/lock/Access;)Z"⟩
abbrev own_y20 : MethodName := ⟨"com/example/padlock/padlock/lock/AccessAnnouncedPinLaw", "shared", "(I)Z"⟩
abbrev own_y21 : MethodName := ⟨"java/lang/String", "<init>", "([C)V"⟩
abbrev own_y22 : MethodName := ⟨"com/example/padlock/padlock/lock/AccessAnnouncedPinLaw", "node", "(I)Ljava/lang/String;"⟩
abbrev own_y23 : MethodName := ⟨"java/util/List", "size", "()I"⟩
abbrev own_y24 : MethodName := ⟨"com/example/padlock/padlock/lock/Access", "announced", "(Ljava/util/List;)Ljava/util/List;"⟩
abbrev own_y25 : MethodName := ⟨"java/util/List", "get", "(I)Ljava/lang/Object;"⟩
abbrev own_y26 : MethodName := ⟨"java/util/List", "add", "(Ljava/lang/Object;)Z"⟩
abbrev own_y27 : MethodName := ⟨"java/lang/Object", "<init>", "()V"⟩
theorem ow0 {Z : State} {a0 : Array Value} (hw : own_W Z a0) : (Cond.constant "com/example/padlock/padlock/lock/AccessAnnouncedPinLaw" (12 : Nat) (2147483647 : Int32)).before a0 Z = true := hw _ (List.mem_of_getElem? (i := 0) rfl)
theorem ow1 {Z : State} {a0 : Array Value} (hw : own_W Z a0) : (Cond.fieldLink "com/example/padlock/padlock/lock/AccessAnnouncedPinLaw" (19 : Nat) "com/example/padlock/padlock/lock/Access" "EXCLUSIVE" "Lcom/example/padlock/padlock/lock/Access;").before a0 Z = true := hw _ (List.mem_of_getElem? (i := 1) rfl)
theorem ow2 {Z : State} {a0 : Array Value} (hw : own_W Z a0) : (Cond.initialized "com/example/padlock/padlock/lock/Access").before a0 Z = true := hw _ (List.mem_of_getElem? (i := 2) rfl)
theorem ow3 {Z : State} {a0 : Array Value} (hw : own_W Z a0) : (Cond.laysStatic "com/example/padlock/padlock/lock/Access" "EXCLUSIVE" "Lcom/example/padlock/padlock/lock/Access;").before a0 Z = true := hw _ (List.mem_of_getElem? (i := 3) rfl)
theorem ow4 {Z : State} {a0 : Array Value} (hw : own_W Z a0) : (Cond.methodLink "com/example/padlock/padlock/lock/AccessAnnouncedPinLaw" (22 : Nat) own_y22).before a0 Z = true := hw _ (List.mem_of_getElem? (i := 4) rfl)
theorem ow5 {Z : State} {a0 : Array Value} (hw : own_W Z a0) : (Cond.static own_y22).before a0 Z = true := hw _ (List.mem_of_getElem? (i := 5) rfl)
theorem ow6 {Z : State} {a0 : Array Value} (hw : own_W Z a0) : (Cond.initialized "com/example/padlock/padlock/lock/AccessAnnouncedPinLaw").before a0 Z = true := hw _ (List.mem_of_getElem? (i := 6) rfl)
theorem ow7 {Z : State} {a0 : Array Value} (hw : own_W Z a0) : (Cond.code own_y22 method_2_code (4 : Nat) (Option.some (Jvm.ClassFile.FieldType.object "java/lang/String"))).before a0 Z = true := hw _ (List.mem_of_getElem? (i := 7) rfl)
theorem ow8 {Z : State} {a0 : Array Value} (hw : own_W Z a0) : (Cond.arrayClass Jvm.ClassFile.FieldType.char).before a0 Z = true := hw _ (List.mem_of_getElem? (i := 8) rfl)
theorem ow9 {Z : State} {a0 : Array Value} (hw : own_W Z a0) : (Cond.classLink "com/example/padlock/padlock/lock/AccessAnnouncedPinLaw" (7 : Nat) "java/lang/String").before a0 Z = true := hw _ (List.mem_of_getElem? (i := 9) rfl)
theorem ow10 {Z : State} {a0 : Array Value} (hw : own_W Z a0) : (Cond.instantiable "java/lang/String" (4 : Nat)).before a0 Z = true := hw _ (List.mem_of_getElem? (i := 10) rfl)
theorem ow11 {Z : State} {a0 : Array Value} (hw : own_W Z a0) : (Cond.initialized "java/lang/String").before a0 Z = true := hw _ (List.mem_of_getElem? (i := 11) rfl)
theorem ow12 {Z : State} {a0 : Array Value} (hw : own_W Z a0) : (Cond.methodLink "com/example/padlock/padlock/lock/AccessAnnouncedPinLaw" (9 : Nat) own_y21).before a0 Z = true := hw _ (List.mem_of_getElem? (i := 12) rfl)
theorem ow13 {Z : State} {a0 : Array Value} (hw : own_W Z a0) : (Cond.instanceMethod own_y21).before a0 Z = true := hw _ (List.mem_of_getElem? (i := 13) rfl)
theorem ow14 {Z : State} {a0 : Array Value} (hw : own_W Z a0) : (Cond.code own_y21 jdk_42_method_3_code (2 : Nat) (Option.none : Option Jvm.ClassFile.FieldType)).before a0 Z = true := hw _ (List.mem_of_getElem? (i := 14) rfl)
theorem ow20 {Z : State} {a0 : Array Value} (hw : own_W Z a0) : (Cond.instanceMethod own_y27).before a0 Z = true := hw _ (List.mem_of_getElem? (i := 20) rfl)
theorem ow21 {Z : State} {a0 : Array Value} (hw : own_W Z a0) : (Cond.code own_y27 object_method_1_code (1 : Nat) (Option.none : Option Jvm.ClassFile.FieldType)).before a0 Z = true := hw _ (List.mem_of_getElem? (i := 21) rfl)
theorem ow22 {Z : State} {a0 : Array Value} (hw : own_W Z a0) : (Cond.fieldLink "java/lang/String" (38 : Nat) "java/lang/String" "COMPACT_STRINGS" "Z").before a0 Z = true := hw _ (List.mem_of_getElem? (i := 22) rfl)
theorem ow34 {Z : State} {a0 : Array Value} (hw : own_W Z a0) : (Cond.fieldLink "java/lang/String" (15 : Nat) "java/lang/String" "coder" "B").before a0 Z = true := hw _ (List.mem_of_getElem? (i := 34) rfl)
theorem ow35 {Z : State} {a0 : Array Value} (hw : own_W Z a0) : (Cond.laysFinal "java/lang/String" "java/lang/String" "coder" "B").before a0 Z = true := hw _ (List.mem_of_getElem? (i := 35) rfl)
theorem ow36 {Z : State} {a0 : Array Value} (hw : own_W Z a0) : (Cond.fieldLink "java/lang/String" (9 : Nat) "java/lang/String" "value" "[B").before a0 Z = true := hw _ (List.mem_of_getElem? (i := 36) rfl)
theorem ow37 {Z : State} {a0 : Array Value} (hw : own_W Z a0) : (Cond.laysFinal "java/lang/String" "java/lang/String" "value" "[B").before a0 Z = true := hw _ (List.mem_of_getElem? (i := 37) rfl)
theorem ow38 {Z : State} {a0 : Array Value} (hw : own_W Z a0) : (Cond.classLink "com/example/padlock/padlock/lock/AccessAnnouncedPinLaw" (28 : Nat) "java/util/ArrayList").before a0 Z = true := hw _ (List.mem_of_getElem? (i := 38) rfl)
theorem ow39 {Z : State} {a0 : Array Value} (hw : own_W Z a0) : (Cond.instantiable "java/util/ArrayList" (3 : Nat)).before a0 Z = true := hw _ (List.mem_of_getElem? (i := 39) rfl)
theorem ow40 {Z : State} {a0 : Array Value} (hw : own_W Z a0) : (Cond.initialized "java/util/ArrayList").before a0 Z = true := hw _ (List.mem_of_getElem? (i := 40) rfl)
theorem ow41 {Z : State} {a0 : Array Value} (hw : own_W Z a0) : (Cond.methodLink "com/example/padlock/padlock/lock/AccessAnnouncedPinLaw" (30 : Nat) own_y2).before a0 Z = true := hw _ (List.mem_of_getElem? (i := 41) rfl)
theorem ow42 {Z : State} {a0 : Array Value} (hw : own_W Z a0) : (Cond.instanceMethod own_y2).before a0 Z = true := hw _ (List.mem_of_getElem? (i := 42) rfl)
theorem ow43 {Z : State} {a0 : Array Value} (hw : own_W Z a0) : (Cond.code own_y2 jdk_38_method_2_code (1 : Nat) (Option.none : Option Jvm.ClassFile.FieldType)).before a0 Z = true := hw _ (List.mem_of_getElem? (i := 43) rfl)
theorem ow44 {Z : State} {a0 : Array Value} (hw : own_W Z a0) : (Cond.methodLink "java/util/ArrayList" (1 : Nat) own_y1).before a0 Z = true := hw _ (List.mem_of_getElem? (i := 44) rfl)
theorem ow45 {Z : State} {a0 : Array Value} (hw : own_W Z a0) : (Cond.instanceMethod own_y1).before a0 Z = true := hw _ (List.mem_of_getElem? (i := 45) rfl)
theorem ow48 {Z : State} {a0 : Array Value} (hw : own_W Z a0) : (Cond.initialized "java/util/AbstractList").before a0 Z = true := hw _ (List.mem_of_getElem? (i := 48) rfl)
theorem ow49 {Z : State} {a0 : Array Value} (hw : own_W Z a0) : (Cond.code own_y1 jdk_39_method_1_code (1 : Nat) (Option.none : Option Jvm.ClassFile.FieldType)).before a0 Z = true := hw _ (List.mem_of_getElem? (i := 49) rfl)
theorem ow50 {Z : State} {a0 : Array Value} (hw : own_W Z a0) : (Cond.methodLink "java/util/AbstractList" (1 : Nat) own_y0).before a0 Z = true := hw _ (List.mem_of_getElem? (i := 50) rfl)
theorem ow51 {Z : State} {a0 : Array Value} (hw : own_W Z a0) : (Cond.instanceMethod own_y0).before a0 Z = true := hw _ (List.mem_of_getElem? (i := 51) rfl)
theorem ow54 {Z : State} {a0 : Array Value} (hw : own_W Z a0) : (Cond.initialized "java/util/AbstractCollection").before a0 Z = true := hw _ (List.mem_of_getElem? (i := 54) rfl)
theorem ow55 {Z : State} {a0 : Array Value} (hw : own_W Z a0) : (Cond.code own_y0 jdk_22_method_1_code (1 : Nat) (Option.none : Option Jvm.ClassFile.FieldType)).before a0 Z = true := hw _ (List.mem_of_getElem? (i := 55) rfl)
theorem ow56 {Z : State} {a0 : Array Value} (hw : own_W Z a0) : (Cond.methodLink "java/util/AbstractCollection" (1 : Nat) own_y27).before a0 Z = true := hw _ (List.mem_of_getElem? (i := 56) rfl)
theorem ow57 {Z : State} {a0 : Array Value} (hw : own_W Z a0) : (Cond.fieldLink "java/util/AbstractList" (7 : Nat) "java/util/AbstractList" "modCount" "I").before a0 Z = true := hw _ (List.mem_of_getElem? (i := 57) rfl)
theorem ow58 {Z : State} {a0 : Array Value} (hw : own_W Z a0) : (Cond.lays "java/util/ArrayList" "java/util/AbstractList" "modCount" "I").before a0 Z = true := hw _ (List.mem_of_getElem? (i := 58) rfl)
theorem ow59 {Z : State} {a0 : Array Value} (hw : own_W Z a0) : (Cond.fieldLink "java/util/ArrayList" (39 : Nat) "java/util/ArrayList" "DEFAULTCAPACITY_EMPTY_ELEMENTDATA" "[Ljava/lang/Object;").before a0 Z = true := hw _ (List.mem_of_getElem? (i := 59) rfl)
theorem ow60 {Z : State} {a0 : Array Value} (hw : own_W Z a0) : (Cond.fieldLink "java/util/ArrayList" (9 : Nat) "java/util/ArrayList" "elementData" "[Ljava/lang/Object;").before a0 Z = true := hw _ (List.mem_of_getElem? (i := 60) rfl)
theorem ow61 {Z : State} {a0 : Array Value} (hw : own_W Z a0) : (Cond.lays "java/util/ArrayList" "java/util/ArrayList" "elementData" "[Ljava/lang/Object;").before a0 Z = true := hw _ (List.mem_of_getElem? (i := 61) rfl)
theorem ow62 {Z : State} {a0 : Array Value} (hw : own_W Z a0) : (Cond.methodLink "com/example/padlock/padlock/lock/AccessAnnouncedPinLaw" (47 : Nat) own_y24).before a0 Z = true := hw _ (List.mem_of_getElem? (i := 62) rfl)
theorem ow63 {Z : State} {a0 : Array Value} (hw : own_W Z a0) : (Cond.declares own_y24).before a0 Z = true := hw _ (List.mem_of_getElem? (i := 63) rfl)
theorem ow64 {Z : State} {a0 : Array Value} (hw : own_W Z a0) : (Cond.instanceMethod own_y24).before a0 Z = true := hw _ (List.mem_of_getElem? (i := 64) rfl)
theorem ow65 {Z : State} {a0 : Array Value} (hw : own_W Z a0) : (Cond.selects "com/example/padlock/padlock/lock/Access" own_y24 own_y24).before a0 Z = true := hw _ (List.mem_of_getElem? (i := 65) rfl)
theorem ow66 {Z : State} {a0 : Array Value} (hw : own_W Z a0) : (Cond.code own_y24 prog_5_method_10_code (4 : Nat) (Option.some (Jvm.ClassFile.FieldType.object "java/util/List"))).before a0 Z = true := hw _ (List.mem_of_getElem? (i := 66) rfl)
theorem ow67 {Z : State} {a0 : Array Value} (hw : own_W Z a0) : (Cond.classLink "com/example/padlock/padlock/lock/Access" (91 : Nat) "java/util/ArrayList").before a0 Z = true := hw _ (List.mem_of_getElem? (i := 67) rfl)
theorem ow68 {Z : State} {a0 : Array Value} (hw : own_W Z a0) : (Cond.methodLink "com/example/padlock/padlock/lock/Access" (93 : Nat) own_y2).before a0 Z = true := hw _ (List.mem_of_getElem? (i := 68) rfl)
theorem ow69 {Z : State} {a0 : Array Value} (hw : own_W Z a0) : (Cond.methodLink "com/example/padlock/padlock/lock/Access" (66 : Nat) own_y23).before a0 Z = true := hw _ (List.mem_of_getElem? (i := 69) rfl)
theorem ow70 {Z : State} {a0 : Array Value} (hw : own_W Z a0) : (Cond.declares own_y23).before a0 Z = true := hw _ (List.mem_of_getElem? (i := 70) rfl)
theorem ow71 {Z : State} {a0 : Array Value} (hw : own_W Z a0) : (Cond.interfaceMethod "java/util/List" "java/util/List" "size" "()I").before a0 Z = true := hw _ (List.mem_of_getElem? (i := 71) rfl)
theorem ow72 {Z : State} {a0 : Array Value} (hw : own_W Z a0) : (Cond.selects "java/util/ArrayList" own_y23 own_y8).before a0 Z = true := hw _ (List.mem_of_getElem? (i := 72) rfl)
theorem ow73 {Z : State} {a0 : Array Value} (hw : own_W Z a0) : (Cond.instanceMethod own_y8).before a0 Z = true := hw _ (List.mem_of_getElem? (i := 73) rfl)
theorem ow74 {Z : State} {a0 : Array Value} (hw : own_W Z a0) : (Cond.publicMethod own_y8).before a0 Z = true := hw _ (List.mem_of_getElem? (i := 74) rfl)
theorem ow75 {Z : State} {a0 : Array Value} (hw : own_W Z a0) : (Cond.unhidden "java/util/ArrayList" "size" "()I").before a0 Z = true := hw _ (List.mem_of_getElem? (i := 75) rfl)
theorem ow76 {Z : State} {a0 : Array Value} (hw : own_W Z a0) : (Cond.castable "java/util/ArrayList" "java/util/List").before a0 Z = true := hw _ (List.mem_of_getElem? (i := 76) rfl)
theorem ow77 {Z : State} {a0 : Array Value} (hw : own_W Z a0) : (Cond.code own_y8 jdk_38_method_8_code (1 : Nat) (Option.some Jvm.ClassFile.FieldType.int)).before a0 Z = true := hw _ (List.mem_of_getElem? (i := 77) rfl)
theorem ow78 {Z : State} {a0 : Array Value} (hw : own_W Z a0) : (Cond.fieldLink "java/util/ArrayList" (48 : Nat) "java/util/ArrayList" "size" "I").before a0 Z = true := hw _ (List.mem_of_getElem? (i := 78) rfl)
theorem ow79 {Z : State} {a0 : Array Value} (hw : own_W Z a0) : (Cond.lays "java/util/ArrayList" "java/util/ArrayList" "size" "I").before a0 Z = true := hw _ (List.mem_of_getElem? (i := 79) rfl)
theorem ow80 {Z : State} {a0 : Array Value} (hw : own_W Z a0) : (Cond.methodLink "com/example/padlock/padlock/lock/AccessAnnouncedPinLaw" (51 : Nat) own_y23).before a0 Z = true := hw _ (List.mem_of_getElem? (i := 80) rfl)
theorem ow81 {Z : State} {a0 : Array Value} (hw : own_W Z a0) : (Cond.methodLink "com/example/padlock/padlock/lock/AccessAnnouncedPinLaw" (31 : Nat) own_y26).before a0 Z = true := hw _ (List.mem_of_getElem? (i := 81) rfl)
theorem ow82 {Z : State} {a0 : Array Value} (hw : own_W Z a0) : (Cond.declares own_y26).before a0 Z = true := hw _ (List.mem_of_getElem? (i := 82) rfl)
theorem ow83 {Z : State} {a0 : Array Value} (hw : own_W Z a0) : (Cond.interfaceMethod "java/util/List" "java/util/List" "add" "(Ljava/lang/Object;)Z").before a0 Z = true := hw _ (List.mem_of_getElem? (i := 83) rfl)
theorem ow84 {Z : State} {a0 : Array Value} (hw : own_W Z a0) : (Cond.selects "java/util/ArrayList" own_y26 own_y7).before a0 Z = true := hw _ (List.mem_of_getElem? (i := 84) rfl)
theorem ow85 {Z : State} {a0 : Array Value} (hw : own_W Z a0) : (Cond.instanceMethod own_y7).before a0 Z = true := hw _ (List.mem_of_getElem? (i := 85) rfl)
theorem ow86 {Z : State} {a0 : Array Value} (hw : own_W Z a0) : (Cond.publicMethod own_y7).before a0 Z = true := hw _ (List.mem_of_getElem? (i := 86) rfl)
theorem ow87 {Z : State} {a0 : Array Value} (hw : own_W Z a0) : (Cond.unhidden "java/util/ArrayList" "add" "(Ljava/lang/Object;)Z").before a0 Z = true := hw _ (List.mem_of_getElem? (i := 87) rfl)
theorem ow88 {Z : State} {a0 : Array Value} (hw : own_W Z a0) : (Cond.code own_y7 jdk_38_method_25_code (2 : Nat) (Option.some Jvm.ClassFile.FieldType.boolean)).before a0 Z = true := hw _ (List.mem_of_getElem? (i := 88) rfl)
theorem ow89 {Z : State} {a0 : Array Value} (hw : own_W Z a0) : (Cond.fieldLink "java/util/ArrayList" (63 : Nat) "java/util/ArrayList" "modCount" "I").before a0 Z = true := hw _ (List.mem_of_getElem? (i := 89) rfl)
theorem ow90 {Z : State} {a0 : Array Value} (hw : own_W Z a0) : (Cond.sameField "java/util/ArrayList" "java/util/AbstractList" "modCount" "I").before a0 Z = true := hw _ (List.mem_of_getElem? (i := 90) rfl)
theorem ow91 {Z : State} {a0 : Array Value} (hw : own_W Z a0) : (Cond.methodLink "java/util/ArrayList" (131 : Nat) own_y6).before a0 Z = true := hw _ (List.mem_of_getElem? (i := 91) rfl)
theorem ow92 {Z : State} {a0 : Array Value} (hw : own_W Z a0) : (Cond.instanceMethod own_y6).before a0 Z = true := hw _ (List.mem_of_getElem? (i := 92) rfl)
theorem ow93 {Z : State} {a0 : Array Value} (hw : own_W Z a0) : (Cond.privateMethod own_y6).before a0 Z = true := hw _ (List.mem_of_getElem? (i := 93) rfl)
theorem ow94 {Z : State} {a0 : Array Value} (hw : own_W Z a0) : (Cond.selects "java/util/ArrayList" own_y6 own_y6).before a0 Z = true := hw _ (List.mem_of_getElem? (i := 94) rfl)
theorem ow95 {Z : State} {a0 : Array Value} (hw : own_W Z a0) : (Cond.code own_y6 jdk_38_method_24_code (4 : Nat) (Option.none : Option Jvm.ClassFile.FieldType)).before a0 Z = true := hw _ (List.mem_of_getElem? (i := 95) rfl)
theorem ow96 {Z : State} {a0 : Array Value} (hw : own_W Z a0) : (Cond.methodLink "java/util/ArrayList" (129 : Nat) own_y5).before a0 Z = true := hw _ (List.mem_of_getElem? (i := 96) rfl)
theorem ow97 {Z : State} {a0 : Array Value} (hw : own_W Z a0) : (Cond.instanceMethod own_y5).before a0 Z = true := hw _ (List.mem_of_getElem? (i := 97) rfl)
theorem ow98 {Z : State} {a0 : Array Value} (hw : own_W Z a0) : (Cond.privateMethod own_y5).before a0 Z = true := hw _ (List.mem_of_getElem? (i := 98) rfl)
theorem ow99 {Z : State} {a0 : Array Value} (hw : own_W Z a0) : (Cond.selects "java/util/ArrayList" own_y5 own_y5).before a0 Z = true := hw _ (List.mem_of_getElem? (i := 99) rfl)
theorem ow100 {Z : State} {a0 : Array Value} (hw : own_W Z a0) : (Cond.code own_y5 jdk_38_method_7_code (1 : Nat) (Option.some (Jvm.ClassFile.FieldType.array (Jvm.ClassFile.FieldType.object "java/lang/Object")))).before a0 Z = true := hw _ (List.mem_of_getElem? (i := 100) rfl)
theorem ow101 {Z : State} {a0 : Array Value} (hw : own_W Z a0) : (Cond.methodLink "java/util/ArrayList" (69 : Nat) own_y4).before a0 Z = true := hw _ (List.mem_of_getElem? (i := 101) rfl)
theorem ow102 {Z : State} {a0 : Array Value} (hw : own_W Z a0) : (Cond.instanceMethod own_y4).before a0 Z = true := hw _ (List.mem_of_getElem? (i := 102) rfl)
theorem ow103 {Z : State} {a0 : Array Value} (hw : own_W Z a0) : (Cond.privateMethod own_y4).before a0 Z = true := hw _ (List.mem_of_getElem? (i := 103) rfl)
theorem ow104 {Z : State} {a0 : Array Value} (hw : own_W Z a0) : (Cond.selects "java/util/ArrayList" own_y4 own_y4).before a0 Z = true := hw _ (List.mem_of_getElem? (i := 104) rfl)
theorem ow105 {Z : State} {a0 : Array Value} (hw : own_W Z a0) : (Cond.code own_y4 jdk_38_method_6_code (4 : Nat) (Option.some (Jvm.ClassFile.FieldType.array (Jvm.ClassFile.FieldType.object "java/lang/Object")))).before a0 Z = true := hw _ (List.mem_of_getElem? (i := 105) rfl)
theorem ow106 {Z : State} {a0 : Array Value} (hw : own_W Z a0) : (Cond.methodLink "java/util/ArrayList" (79 : Nat) own_y3).before a0 Z = true := hw _ (List.mem_of_getElem? (i := 106) rfl)
theorem ow107 {Z : State} {a0 : Array Value} (hw : own_W Z a0) : (Cond.static own_y3).before a0 Z = true := hw _ (List.mem_of_getElem? (i := 107) rfl)
theorem ow108 {Z : State} {a0 : Array Value} (hw : own_W Z a0) : (Cond.initialized "java/lang/Math").before a0 Z = true := hw _ (List.mem_of_getElem? (i := 108) rfl)
theorem ow109 {Z : State} {a0 : Array Value} (hw : own_W Z a0) : (Cond.code own_y3 jdk_29_method_65_code (2 : Nat) (Option.some Jvm.ClassFile.FieldType.int)).before a0 Z = true := hw _ (List.mem_of_getElem? (i := 109) rfl)
theorem ow110 {Z : State} {a0 : Array Value} (hw : own_W Z a0) : (Cond.classLink "java/util/ArrayList" (7 : Nat) "java/lang/Object").before a0 Z = true := hw _ (List.mem_of_getElem? (i := 110) rfl)
theorem ow111 {Z : State} {a0 : Array Value} (hw : own_W Z a0) : (Cond.arrayOver (Jvm.ClassFile.FieldType.object "java/lang/Object")).before a0 Z = true := hw _ (List.mem_of_getElem? (i := 111) rfl)
theorem ow112 {Z : State} {a0 : Array Value} (hw : own_W Z a0) : (Cond.castable "java/lang/String" "java/lang/Object").before a0 Z = true := hw _ (List.mem_of_getElem? (i := 112) rfl)
theorem ow113 {Z : State} {a0 : Array Value} (hw : own_W Z a0) : (Cond.methodLink "com/example/padlock/padlock/lock/AccessAnnouncedPinLaw" (37 : Nat) own_y20).before a0 Z = true := hw _ (List.mem_of_getElem? (i := 113) rfl)
theorem ow114 {Z : State} {a0 : Array Value} (hw : own_W Z a0) : (Cond.static own_y20).before a0 Z = true := hw _ (List.mem_of_getElem? (i := 114) rfl)
theorem ow115 {Z : State} {a0 : Array Value} (hw : own_W Z a0) : (Cond.code own_y20 method_3_code (3 : Nat) (Option.some Jvm.ClassFile.FieldType.boolean)).before a0 Z = true := hw _ (List.mem_of_getElem? (i := 115) rfl)
theorem ow116 {Z : State} {a0 : Array Value} (hw : own_W Z a0) : (Cond.methodLink "com/example/padlock/padlock/lock/Access" (70 : Nat) own_y25).before a0 Z = true := hw _ (List.mem_of_getElem? (i := 116) rfl)
theorem ow117 {Z : State} {a0 : Array Value} (hw : own_W Z a0) : (Cond.declares own_y25).before a0 Z = true := hw _ (List.mem_of_getElem? (i := 117) rfl)
theorem ow118 {Z : State} {a0 : Array Value} (hw : own_W Z a0) : (Cond.interfaceMethod "java/util/List" "java/util/List" "get" "(I)Ljava/lang/Object;").before a0 Z = true := hw _ (List.mem_of_getElem? (i := 118) rfl)
theorem ow119 {Z : State} {a0 : Array Value} (hw : own_W Z a0) : (Cond.selects "java/util/ArrayList" own_y25 own_y12).before a0 Z = true := hw _ (List.mem_of_getElem? (i := 119) rfl)
theorem ow120 {Z : State} {a0 : Array Value} (hw : own_W Z a0) : (Cond.instanceMethod own_y12).before a0 Z = true := hw _ (List.mem_of_getElem? (i := 120) rfl)
theorem ow121 {Z : State} {a0 : Array Value} (hw : own_W Z a0) : (Cond.publicMethod own_y12).before a0 Z = true := hw _ (List.mem_of_getElem? (i := 121) rfl)
theorem ow122 {Z : State} {a0 : Array Value} (hw : own_W Z a0) : (Cond.unhidden "java/util/ArrayList" "get" "(I)Ljava/lang/Object;").before a0 Z = true := hw _ (List.mem_of_getElem? (i := 122) rfl)
theorem ow123 {Z : State} {a0 : Array Value} (hw : own_W Z a0) : (Cond.code own_y12 jdk_38_method_20_code (2 : Nat) (Option.some (Jvm.ClassFile.FieldType.object "java/lang/Object"))).before a0 Z = true := hw _ (List.mem_of_getElem? (i := 123) rfl)
theorem ow124 {Z : State} {a0 : Array Value} (hw : own_W Z a0) : (Cond.methodLink "java/util/ArrayList" (118 : Nat) own_y10).before a0 Z = true := hw _ (List.mem_of_getElem? (i := 124) rfl)
theorem ow125 {Z : State} {a0 : Array Value} (hw : own_W Z a0) : (Cond.static own_y10).before a0 Z = true := hw _ (List.mem_of_getElem? (i := 125) rfl)
theorem ow126 {Z : State} {a0 : Array Value} (hw : own_W Z a0) : (Cond.initialized "java/util/Objects").before a0 Z = true := hw _ (List.mem_of_getElem? (i := 126) rfl)
theorem ow127 {Z : State} {a0 : Array Value} (hw : own_W Z a0) : (Cond.code own_y10 jdk_31_method_17_code (2 : Nat) (Option.some Jvm.ClassFile.FieldType.int)).before a0 Z = true := hw _ (List.mem_of_getElem? (i := 127) rfl)
theorem ow128 {Z : State} {a0 : Array Value} (hw : own_W Z a0) : (Cond.methodLink "java/util/Objects" (105 : Nat) own_y9).before a0 Z = true := hw _ (List.mem_of_getElem? (i := 128) rfl)
theorem ow129 {Z : State} {a0 : Array Value} (hw : own_W Z a0) : (Cond.static own_y9).before a0 Z = true := hw _ (List.mem_of_getElem? (i := 129) rfl)
theorem ow130 {Z : State} {a0 : Array Value} (hw : own_W Z a0) : (Cond.initialized "jdk/internal/util/Preconditions").before a0 Z = true := hw _ (List.mem_of_getElem? (i := 130) rfl)
theorem ow131 {Z : State} {a0 : Array Value} (hw : own_W Z a0) : (Cond.code own_y9 jdk_41_method_11_code (3 : Nat) (Option.some Jvm.ClassFile.FieldType.int)).before a0 Z = true := hw _ (List.mem_of_getElem? (i := 131) rfl)
theorem ow132 {Z : State} {a0 : Array Value} (hw : own_W Z a0) : (Cond.methodLink "java/util/ArrayList" (123 : Nat) own_y11).before a0 Z = true := hw _ (List.mem_of_getElem? (i := 132) rfl)
theorem ow133 {Z : State} {a0 : Array Value} (hw : own_W Z a0) : (Cond.declares own_y11).before a0 Z = true := hw _ (List.mem_of_getElem? (i := 133) rfl)
theorem ow134 {Z : State} {a0 : Array Value} (hw : own_W Z a0) : (Cond.instanceMethod own_y11).before a0 Z = true := hw _ (List.mem_of_getElem? (i := 134) rfl)
theorem ow135 {Z : State} {a0 : Array Value} (hw : own_W Z a0) : (Cond.selects "java/util/ArrayList" own_y11 own_y11).before a0 Z = true := hw _ (List.mem_of_getElem? (i := 135) rfl)
theorem ow136 {Z : State} {a0 : Array Value} (hw : own_W Z a0) : (Cond.code own_y11 jdk_38_method_18_code (2 : Nat) (Option.some (Jvm.ClassFile.FieldType.object "java/lang/Object"))).before a0 Z = true := hw _ (List.mem_of_getElem? (i := 136) rfl)
theorem ow137 {Z : State} {a0 : Array Value} (hw : own_W Z a0) : (Cond.classLink "com/example/padlock/padlock/lock/Access" (37 : Nat) "java/lang/String").before a0 Z = true := hw _ (List.mem_of_getElem? (i := 137) rfl)
theorem ow138 {Z : State} {a0 : Array Value} (hw : own_W Z a0) : (Cond.methodLink "com/example/padlock/padlock/lock/Access" (80 : Nat) own_y18).before a0 Z = true := hw _ (List.mem_of_getElem? (i := 138) rfl)
theorem ow139 {Z : State} {a0 : Array Value} (hw : own_W Z a0) : (Cond.static own_y18).before a0 Z = true := hw _ (List.mem_of_getElem? (i := 139) rfl)
theorem ow140 {Z : State} {a0 : Array Value} (hw : own_W Z a0) : (Cond.code own_y18 prog_5_method_4_code (1 : Nat) (Option.some (Jvm.ClassFile.FieldType.object "com/example/padlock/padlock/lock/Access"))).before a0 Z = true := hw _ (List.mem_of_getElem? (i := 140) rfl)
theorem ow141 {Z : State} {a0 : Array Value} (hw : own_W Z a0) : (Cond.fieldLink "com/example/padlock/padlock/lock/Access" (7 : Nat) "com/example/padlock/padlock/lock/Access" "SHARED" "Lcom/example/padlock/padlock/lock/Access;").before a0 Z = true := hw _ (List.mem_of_getElem? (i := 141) rfl)
theorem ow142 {Z : State} {a0 : Array Value} (hw : own_W Z a0) : (Cond.laysStatic "com/example/padlock/padlock/lock/Access" "SHARED" "Lcom/example/padlock/padlock/lock/Access;").before a0 Z = true := hw _ (List.mem_of_getElem? (i := 142) rfl)
theorem ow143 {Z : State} {a0 : Array Value} (hw : own_W Z a0) : (Cond.fieldLink "com/example/padlock/padlock/lock/Access" (29 : Nat) "com/example/padlock/padlock/lock/Access" "nodePrefix" "Ljava/lang/String;").before a0 Z = true := hw _ (List.mem_of_getElem? (i := 143) rfl)
theorem ow145 {Z : State} {a0 : Array Value} (hw : own_W Z a0) : (Cond.methodLink "com/example/padlock/padlock/lock/Access" (36 : Nat) own_y17).before a0 Z = true := hw _ (List.mem_of_getElem? (i := 145) rfl)
theorem ow146 {Z : State} {a0 : Array Value} (hw : own_W Z a0) : (Cond.declares own_y17).before a0 Z = true := hw _ (List.mem_of_getElem? (i := 146) rfl)
theorem ow147 {Z : State} {a0 : Array Value} (hw : own_W Z a0) : (Cond.instanceMethod own_y17).before a0 Z = true := hw _ (List.mem_of_getElem? (i := 147) rfl)
theorem ow148 {Z : State} {a0 : Array Value} (hw : own_W Z a0) : (Cond.selects "java/lang/String" own_y17 own_y17).before a0 Z = true := hw _ (List.mem_of_getElem? (i := 148) rfl)
theorem ow149 {Z : State} {a0 : Array Value} (hw : own_W Z a0) : (Cond.code own_y17 jdk_42_method_76_code (2 : Nat) (Option.some Jvm.ClassFile.FieldType.boolean)).before a0 Z = true := hw _ (List.mem_of_getElem? (i := 149) rfl)
theorem ow150 {Z : State} {a0 : Array Value} (hw : own_W Z a0) : (Cond.methodLink "java/lang/String" (624 : Nat) own_y16).before a0 Z = true := hw _ (List.mem_of_getElem? (i := 150) rfl)
theorem ow151 {Z : State} {a0 : Array Value} (hw : own_W Z a0) : (Cond.declares own_y16).before a0 Z = true := hw _ (List.mem_of_getElem? (i := 151) rfl)
theorem ow152 {Z : State} {a0 : Array Value} (hw : own_W Z a0) : (Cond.instanceMethod own_y16).before a0 Z = true := hw _ (List.mem_of_getElem? (i := 152) rfl)
theorem ow153 {Z : State} {a0 : Array Value} (hw : own_W Z a0) : (Cond.selects "java/lang/String" own_y16 own_y16).before a0 Z = true := hw _ (List.mem_of_getElem? (i := 153) rfl)
theorem ow154 {Z : State} {a0 : Array Value} (hw : own_W Z a0) : (Cond.code own_y16 jdk_42_method_75_code (8 : Nat) (Option.some Jvm.ClassFile.FieldType.boolean)).before a0 Z = true := hw _ (List.mem_of_getElem? (i := 154) rfl)
theorem ow155 {Z : State} {a0 : Array Value} (hw : own_W Z a0) : (Cond.methodLink "java/lang/String" (505 : Nat) own_y14).before a0 Z = true := hw _ (List.mem_of_getElem? (i := 155) rfl)
theorem ow156 {Z : State} {a0 : Array Value} (hw : own_W Z a0) : (Cond.declares own_y14).before a0 Z = true := hw _ (List.mem_of_getElem? (i := 156) rfl)
theorem ow157 {Z : State} {a0 : Array Value} (hw : own_W Z a0) : (Cond.instanceMethod own_y14).before a0 Z = true := hw _ (List.mem_of_getElem? (i := 157) rfl)
theorem ow158 {Z : State} {a0 : Array Value} (hw : own_W Z a0) : (Cond.selects "java/lang/String" own_y14 own_y14).before a0 Z = true := hw _ (List.mem_of_getElem? (i := 158) rfl)
theorem ow159 {Z : State} {a0 : Array Value} (hw : own_W Z a0) : (Cond.code own_y14 jdk_42_method_54_code (1 : Nat) (Option.some Jvm.ClassFile.FieldType.int)).before a0 Z = true := hw _ (List.mem_of_getElem? (i := 159) rfl)
theorem ow160 {Z : State} {a0 : Array Value} (hw : own_W Z a0) : (Cond.methodLink "java/lang/String" (335 : Nat) own_y13).before a0 Z = true := hw _ (List.mem_of_getElem? (i := 160) rfl)
theorem ow161 {Z : State} {a0 : Array Value} (hw : own_W Z a0) : (Cond.declares own_y13).before a0 Z = true := hw _ (List.mem_of_getElem? (i := 161) rfl)
theorem ow162 {Z : State} {a0 : Array Value} (hw : own_W Z a0) : (Cond.instanceMethod own_y13).before a0 Z = true := hw _ (List.mem_of_getElem? (i := 162) rfl)
theorem ow163 {Z : State} {a0 : Array Value} (hw : own_W Z a0) : (Cond.selects "java/lang/String" own_y13 own_y13).before a0 Z = true := hw _ (List.mem_of_getElem? (i := 163) rfl)
theorem ow164 {Z : State} {a0 : Array Value} (hw : own_W Z a0) : (Cond.code own_y13 jdk_42_method_152_code (1 : Nat) (Option.some Jvm.ClassFile.FieldType.byte)).before a0 Z = true := hw _ (List.mem_of_getElem? (i := 164) rfl)
theorem ow165 {Z : State} {a0 : Array Value} (hw : own_W Z a0) : (Cond.fieldLink "com/example/padlock/padlock/lock/Access" (3 : Nat) "com/example/padlock/padlock/lock/Access" "EXCLUSIVE" "Lcom/example/padlock/padlock/lock/Access;").before a0 Z = true := hw _ (List.mem_of_getElem? (i := 165) rfl)
theorem ow166 {Z : State} {a0 : Array Value} (hw : own_W Z a0) : (Cond.methodLink "com/example/padlock/padlock/lock/Access" (84 : Nat) own_y19).before a0 Z = true := hw _ (List.mem_of_getElem? (i := 166) rfl)
theorem ow167 {Z : State} {a0 : Array Value} (hw : own_W Z a0) : (Cond.declares own_y19).before a0 Z = true := hw _ (List.mem_of_getElem? (i := 167) rfl)
theorem ow168 {Z : State} {a0 : Array Value} (hw : own_W Z a0) : (Cond.instanceMethod own_y19).before a0 Z = true := hw _ (List.mem_of_getElem? (i := 168) rfl)
theorem ow169 {Z : State} {a0 : Array Value} (hw : own_W Z a0) : (Cond.selects "com/example/padlock/padlock/lock/Access" own_y19 own_y19).before a0 Z = true := hw _ (List.mem_of_getElem? (i := 169) rfl)
theorem ow170 {Z : State} {a0 : Array Value} (hw : own_W Z a0) : (Cond.code own_y19 prog_5_method_7_code (2 : Nat) (Option.some Jvm.ClassFile.FieldType.boolean)).before a0 Z = true := hw _ (List.mem_of_getElem? (i := 170) rfl)
theorem ow171 {Z : State} {a0 : Array Value} (hw : own_W Z a0) : (Cond.fieldLink "com/example/padlock/padlock/lock/AccessAnnouncedPinLaw" (13 : Nat) "com/example/padlock/padlock/lock/Access" "SHARED" "Lcom/example/padlock/padlock/lock/Access;").before a0 Z = true := hw _ (List.mem_of_getElem? (i := 171) rfl)
theorem ow172 {Z : State} {a0 : Array Value} (hw : own_W Z a0) : (Cond.methodLink "com/example/padlock/padlock/lock/AccessAnnouncedPinLaw" (41 : Nat) own_y3).before a0 Z = true := hw _ (List.mem_of_getElem? (i := 172) rfl)
theorem ow173 {Z : State} {a0 : Array Value} (hw : own_W Z a0) : (Cond.methodLink "java/lang/String" (607 : Nat) own_y15).before a0 Z = true := hw _ (List.mem_of_getElem? (i := 173) rfl)
theorem ow174 {Z : State} {a0 : Array Value} (hw : own_W Z a0) : (Cond.static own_y15).before a0 Z = true := hw _ (List.mem_of_getElem? (i := 174) rfl)
theorem ow175 {Z : State} {a0 : Array Value} (hw : own_W Z a0) : (Cond.initialized "jdk/internal/util/ArraysSupport").before a0 Z = true := hw _ (List.mem_of_getElem? (i := 175) rfl)
theorem ow176 {Z : State} {a0 : Array Value} (hw : own_W Z a0) : (Cond.code own_y15 jdk_48_method_14_code (8 : Nat) (Option.some Jvm.ClassFile.FieldType.int)).before a0 Z = true := hw _ (List.mem_of_getElem? (i := 176) rfl)
theorem ow177 {Z : State} {a0 : Array Value} (hw : own_W Z a0) : (Cond.methodLink "com/example/padlock/padlock/lock/Access" (96 : Nat) own_y26).before a0 Z = true := hw _ (List.mem_of_getElem? (i := 177) rfl)
theorem ow178 {Z : State} {a0 : Array Value} (hw : own_W Z a0) : (Cond.methodLink "com/example/padlock/padlock/lock/AccessAnnouncedPinLaw" (55 : Nat) own_y25).before a0 Z = true := hw _ (List.mem_of_getElem? (i := 178) rfl)
theorem own_sn0 {Z : State} {a0 : Array Value} (hw : own_W Z a0) : Jvm.RoadKit.slotOf Z "java/util/ArrayList" "size" "I" ≠ Jvm.RoadKit.slotOf Z "java/util/AbstractList" "modCount" "I" := slot_ne (Or.inl (ow79 hw)) (Or.inl (ow58 hw)) (by decide +kernel) (t := .int) (t' := .int) own_fd0 own_fd0
theorem own_sn1 {Z : State} {a0 : Array Value} (hw : own_W Z a0) : Jvm.RoadKit.slotOf Z "java/util/ArrayList" "elementData" "[Ljava/lang/Object;" ≠ Jvm.RoadKit.slotOf Z "java/util/AbstractList" "modCount" "I" := slot_ne (Or.inl (ow61 hw)) (Or.inl (ow58 hw)) (by decide +kernel) (t := (.array (.object "java/lang/Object"))) (t' := .int) own_fd1 own_fd0
theorem own_sn2 {Z : State} {a0 : Array Value} (hw : own_W Z a0) : Jvm.RoadKit.slotOf Z "java/util/ArrayList" "size" "I" ≠ Jvm.RoadKit.slotOf Z "java/util/ArrayList" "elementData" "[Ljava/lang/Object;" := slot_ne (Or.inl (ow79 hw)) (Or.inl (ow61 hw)) (by decide +kernel) (t := .int) (t' := (.array (.object "java/lang/Object"))) own_fd0 own_fd1
theorem own_pd_0 : parseMethodDescriptor "()V" = some ⟨[], none⟩ := by decide +kernel
theorem own_pd_1 : parseMethodDescriptor "(II)I" = some ⟨[.int, .int], some .int⟩ := by decide +kernel
theorem own_pd_2 : parseMethodDescriptor "(I)[Ljava/lang/Object;" = some ⟨[.int], some (.array (.object "java/lang/Object"))⟩ := by decide +kernel
theorem own_pd_3 : parseMethodDescriptor "()[Ljava/lang/Object;" = some ⟨[], some (.array (.object "java/lang/Object"))⟩ := by decide +kernel
theorem own_pd_4 : parseMethodDescriptor "(Ljava/lang/Object;[Ljava/lang/Object;I)V" = some ⟨[(.object "java/lang/Object"), (.array (.object "java/lang/Object")), .int], none⟩ := by decide +kernel
theorem own_pd_5 : parseMethodDescriptor "(IILjava/util/function/BiFunction;)I" = some ⟨[.int, .int, (.object "java/util/function/BiFunction")], some .int⟩ := by decide +kernel
theorem own_pd_6 : parseMethodDescriptor "(I)Ljava/lang/Object;" = some ⟨[.int], some (.object "java/lang/Object")⟩ := by decide +kernel
theorem own_pd_7 : parseMethodDescriptor "()B" = some ⟨[], some .byte⟩ := by decide +kernel
theorem own_pd_8 : parseMethodDescriptor "()I" = some ⟨[], some .int⟩ := by decide +kernel
theorem own_pd_9 : parseMethodDescriptor "(Ljava/lang/String;I)Z" = some ⟨[(.object "java/lang/String"), .int], some .boolean⟩ := by decide +kernel
theorem own_pd_10 : parseMethodDescriptor "([BI[BII)I" = some ⟨[(.array .byte), .int, (.array .byte), .int, .int], some .int⟩ := by decide +kernel
theorem own_pd_11 : parseMethodDescriptor "(Ljava/lang/String;)Z" = some ⟨[(.object "java/lang/String")], some .boolean⟩ := by decide +kernel
theorem own_pd_12 : parseMethodDescriptor "([C)V" = some ⟨[(.array .char)], none⟩ := by decide +kernel
theorem own_pd_13 : parseMethodDescriptor "(Ljava/lang/String;)Lcom/example/padlock/padlock/lock/Access;" = some ⟨[(.object "java/lang/String")], some (.object "com/example/padlock/padlock/lock/Access")⟩ := by decide +kernel
theorem own_pd_14 : parseMethodDescriptor "(Lcom/example/padlock/padlock/lock/Access;)Z" = some ⟨[(.object "com/example/padlock/padlock/lock/Access")], some .boolean⟩ := by decide +kernel
theorem own_pd_15 : parseMethodDescriptor "(Ljava/lang/Object;)Z" = some ⟨[(.object "java/lang/Object")], some .boolean⟩ := by decide +kernel
theorem own_pd_16 : parseMethodDescriptor "(Ljava/util/List;)Ljava/util/List;" = some ⟨[(.object "java/util/List")], some (.object "java/util/List")⟩ := by decide +kernel
theorem own_pd_17 : parseMethodDescriptor "(I)Z" = some ⟨[.int], some .boolean⟩ := by decide +kernel
theorem own_pd_18 : parseMethodDescriptor "(I)Ljava/lang/String;" = some ⟨[.int], some (.object "java/lang/String")⟩ := by decide +kernel
theorem own_pn_0 : plainName "java/util/AbstractCollection" = true := by first | (simp [plainName, overriddenIn]; done) | decide +kernel
theorem own_pn_1 : plainName "java/util/AbstractList" = true := by first | (simp [plainName, overriddenIn]; done) | decide +kernel
theorem own_pn_2 : plainName "java/util/ArrayList" = true := by first | (simp [plainName, overriddenIn]; done) | decide +kernel
theorem own_pn_3 : plainName "jdk/internal/util/Preconditions" = true := by first | (simp [plainName, overriddenIn]; done) | decide +kernel
theorem own_pn_4 : plainName "java/util/Objects" = true := by first | (simp [plainName, overriddenIn]; done) | decide +kernel
theorem own_pn_5 : plainName "java/lang/String" = true := by first | (simp [plainName, overriddenIn]; done) | decide +kernel
theorem own_pn_6 : plainName "jdk/internal/util/ArraysSupport" = true := by first | (simp [plainName, overriddenIn]; done) | decide +kernel
theorem own_pn_7 : plainName "com/example/padlock/padlock/lock/Access" = true := by first | (simp [plainName, overriddenIn]; done) | decide +kernel
theorem own_pn_8 : plainName "com/example/padlock/padlock/lock/AccessAnnouncedPinLaw" = true := by first | (simp [plainName, overriddenIn]; done) | decide +kernel
def own_C8 (c : Int32) : Prop := ¬ c < 0 ∧ ¬ (255 : Int32) < c
theorem own_c8m (x : Int32) : own_C8 (x &&& (255 : Int32)) := by
  have a1 := c_and x 255 (by decide)
  have a2 : (255 : Int32).toInt = 255 := by decide
  have a3 : (0 : Int32).toInt = 0 := by decide
  exact ⟨by rw [Int32.lt_iff_toInt_lt]; omega, by rw [Int32.lt_iff_toInt_lt]; omega⟩
theorem own_narM (x : Int32) : nar .char (x &&& (255 : Int32)) = (x &&& (255 : Int32)) := i2c_mask x
theorem own_nar8 {c : Int32} (h : own_C8 c) : nar .char c = c := by
  have a1 := c_i2c c
  have a2 : (255 : Int32).toInt = 255 := by decide
  have a3 : (0 : Int32).toInt = 0 := by decide
  have a4 := mt Int32.lt_iff_toInt_lt.mpr h.1
  have a5 := mt Int32.lt_iff_toInt_lt.mpr h.2
  exact Int32.toInt_inj.mp (by show c.toUInt32.toUInt16.toUInt32.toInt32.toInt = c.toInt; omega)
theorem own_shr0 (x : Int32) : x >>> ((0 : Int32) &&& 31) = x := by
  have a := c_ishr x 0 0 (by decide)
  exact Int32.toInt_inj.mp (by rw [a]; simp)
theorem own_shl0 (x : Int32) : x <<< ((0 : Int32) &&& 31) = x := by
  have a := c_ishl x 0 0 (by decide)
  have b := rng32 x
  have c := rng32 (x <<< ((0 : Int32) &&& 31))
  have e : ((2 ^ 0 : Nat) : Int) = 1 := rfl
  rw [e, Int.mul_one] at a
  exact Int32.toInt_inj.mp (by omega)
theorem own_narB (x : Int32) : nar .byte x.toInt8.toInt32 = x.toInt8.toInt32 := by
  have a1 := c_i2b x
  have a2 := c_i2b x.toInt8.toInt32
  exact Int32.toInt_inj.mp (by show x.toInt8.toInt32.toInt8.toInt32.toInt = x.toInt8.toInt32.toInt; omega)
theorem own_c8n {c : Int32} (h : own_C8 c) : own_C8 (nar .char c) := by rw [own_nar8 h]; exact h
theorem own_c8l (x : Int64) : own_C8 (((x &&& (255 : Int64)).toInt32).toUInt32.toUInt16.toUInt32.toInt32) := by
  have a1 := c_i2c ((x &&& (255 : Int64)).toInt32)
  have a2 : (255 : Int32).toInt = 255 := by decide
  have a3 : (0 : Int32).toInt = 0 := by decide
  have a4 := c_maskL x 255 8 (by decide) (by decide)
  have a5 := c_l2i (x &&& (255 : Int64))
  have a6 := rng32 ((x &&& (255 : Int64)).toInt32)
  exact ⟨by rw [Int32.lt_iff_toInt_lt]; omega, by rw [Int32.lt_iff_toInt_lt]; omega⟩
theorem own_b8 {c k : Int32} (h : own_C8 c) (k0 : 0 ≤ k.toInt) (k1 : k.toInt < 128) : c.toInt8.toInt32 = k ↔ c = k := by
  have a1 := c_i2b c
  have a2 : (255 : Int32).toInt = 255 := by decide
  have a3 : (0 : Int32).toInt = 0 := by decide
  have a4 := mt Int32.lt_iff_toInt_lt.mpr h.1
  have a5 := mt Int32.lt_iff_toInt_lt.mpr h.2
  constructor
  · intro q; have q' := congrArg Int32.toInt q; exact Int32.toInt_inj.mp (by omega)
  · intro q; have q' := congrArg Int32.toInt q; exact Int32.toInt_inj.mp (by omega)
theorem own_cN : ∀ c ∈ ([] : List Int32), own_C8 c := fun _ q => nomatch q
theorem own_cC {a : Int32} {l : List Int32} (h : own_C8 a) (t : ∀ c ∈ l, own_C8 c) : ∀ c ∈ a :: l, own_C8 c := fun c q => (List.mem_cons.mp q).elim (fun e => e ▸ h) (t c)
theorem own_sw1 {Z : State} {a0 : Array Value} (hw : ∀ d ∈ tables_1, d.before a0 Z = true) : ∀ d ∈ StrChars.Road.words, d.before a0 Z = true := fun d hd => hw d ((by decide +kernel : ∀ d ∈ StrChars.Road.words, d ∈ tables_1) d hd)
theorem own_lenOf {args : Array Value} {s : State} {t : Term} {a : Addr} {c : Cell} {k : Int32} (et : t.eval args s none [] s = some (.ref a)) (A : s.arrayAt? a = some c) (h : (Jvm.Cond.eq (Term.length t) (Term.int k)).value args s none s [] = some true) : c.slots.size < 2 ^ 31 ∧ c.slots.size.toInt32 = k := by
  by_cases q : c.slots.size < 2 ^ 31
  · refine ⟨q, ?_⟩
    have e := len_f (o := none) (first := s) (idx := []) et A q
    exact gotT (Cond.eq_ints e (Term.int_eval k)) h
  · exfalso
    simp [Cond.value, Term.eval, et, A, q] at h
theorem own_subIdx {args : Array Value} {s : State} {j : Int32} (hj : ¬ j < 0) : (Term.sub (.index 0) (.int 128)).eval args s none [j.toNatClampNeg] s = some (.int (j - 128)) := by
  simp [Term.eval, (back32 hj).1]
theorem own_ordFld {args : Array Value} {s : State} {t : Term} {w : Addr} {C f d : String} {k : Int32} (n3 : (Jvm.Cond.eq (Term.field t C f d) (Term.int k)).value args s none s [] = some true)
    (e1 : t.eval args s none [] s = some (.ref w)) : s.fieldOf? w C f d = some (.int k) := (fld_at e1).symm.trans (eqv_i (Term.int_eval k) n3)
theorem own_elemI {args : Array Value} {s : State} {t : Term} {a : Addr} {c : Cell} {j k : Int32} (et : t.eval args s none [] s = some (.ref a)) (A : s.arrayAt? a = some c) (hj : ¬ j < 0) (h : (Jvm.Cond.eq (Term.elem t (Term.int j)) (Term.int k)).value args s none s [] = some true) : c.slots[j.toNatClampNeg]? = some (.int k) :=
  (elem_f et (Term.int_eval j) A hj).symm.trans (eqv_i (Term.int_eval k) h)
theorem own_neOrd {args : Array Value} {s : State} {t1 t2 : Term} {wx wy : Addr} {C f : String} (n3 : (Jvm.Cond.eq (Term.field t1 C f "I") (Term.int 0)).value args s none s [] = some true) (n4 : (Jvm.Cond.eq (Term.field t2 C f "I") (Term.int 1)).value args s none s [] = some true)
    (e1 : t1.eval args s none [] s = some (.ref wx)) (e2 : t2.eval args s none [] s = some (.ref wy)) : wx ≠ wy := by
  rintro rfl
  have h1 := (fld_at e1).symm.trans (eqv_i (Term.int_eval 0) n3)
  have h2 := (fld_at e2).symm.trans (eqv_i (Term.int_eval 1) n4)
  rw [h1] at h2
  revert h2; decide
def own_Afar (Z : State) (h : Heap) (w : Addr) : Prop := (∀ a, Exa Z h a "java/lang/String" → a ≠ w) ∧ (∀ t k n vs d, Arv Z h t k .byte n vs d → t ≠ w)
theorem own_afE {Z : State} {h : Heap} {w : Addr} {C : String} {n : Nat} {a0 : Array Value} (E : Exa Z h w C) (hC : C ≠ "java/lang/String") (wi : (Jvm.Cond.instantiable C n).before a0 Z = true) : own_Afar Z h w := ⟨fun a F => ne_exa F E hC.symm, fun t k n vs d V => (Exa.neArv E V wi).symm⟩
theorem own_afV {Z : State} {h : Heap} {w : Addr} {k : ClassId} {ty : FieldType} {z : Int32} {vs : List Value} {d : Value} {n : Nat} {a0 : Array Value} (V : Arv Z h w k ty z vs d) (hty : ty ≠ .byte) (wi : (Jvm.Cond.instantiable "java/lang/String" n).before a0 Z = true) : own_Afar Z h w := ⟨fun a F => Exa.neArv F V wi, fun t k n vs d W => own_neTy W V hty.symm⟩
def own_Acc (uz : Int32) (wa wx wy : Addr) : Prop := (uz = (0 : Int32) ∧ wa = wx) ∨ (¬ uz = (0 : Int32) ∧ wa = wy)
def own_B (v : Int32) (P : Prop) : Prop := (v = (1 : Int32) ∧ P) ∨ (v = (0 : Int32) ∧ ¬ P)
theorem own_BT {v : Int32} {P : Prop} (h : own_B v P) (q : ¬ v = (0 : Int32)) : P := h.elim (fun z => z.2) (fun z => absurd z.1 q)
theorem own_BF {v : Int32} {P : Prop} (h : own_B v P) (q : v = (0 : Int32)) : ¬ P := h.elim (fun z => absurd (z.1.symm.trans q) (by decide)) (fun z => z.2)
def own_P7 (x0 x1 x2 x3 x4 x5 x6 : Int32) : Prop := x0 = (115 : Int32) ∧ x1 = (104 : Int32) ∧ x2 = (97 : Int32) ∧ x3 = (114 : Int32) ∧ x4 = (101 : Int32) ∧ x5 = (100 : Int32) ∧ x6 = (45 : Int32)
def own_o (k : Int32) : Int32 := if k = (0 : Int32) then (115 : Int32) else if k = (1 : Int32) then (104 : Int32) else if k = (2 : Int32) then (97 : Int32) else if k = (3 : Int32) then (114 : Int32) else if k = (4 : Int32) then (101 : Int32) else if k = (5 : Int32) then (100 : Int32) else (45 : Int32)
def own_Ko (p : Int32) : Prop := (p &&& (15 : Int32)) < (7 : Int32) → (((p.toUInt32 >>> ((16 : Int32) &&& 31).toUInt32).toInt32) &&& (255 : Int32)) = own_o (p &&& (15 : Int32))
def own_Sp (p : Int32) : Prop := ¬ (((p.toUInt32 >>> ((24 : Int32) &&& 31).toUInt32).toInt32) &&& (3 : Int32)) = (0 : Int32) ∧ own_Ko p
def own_C7 (p x0 x1 x2 x3 x4 x5 x6 : Int32) : Prop := own_P7 x0 x1 x2 x3 x4 x5 x6 ↔ own_Ko p
def own_NS (Z : State) (h : Heap) (a : Addr) (P : Prop) : Prop := (∃ (t : Addr) (kt : ClassId) (x0 x1 x2 x3 x4 x5 x6 x7 : Int32), Fld Z h a "java/lang/String" "value" "[B" (.ref t) ∧ Fld Z h a "java/lang/String" "coder" "B" (.int (0 : Int32)) ∧ Arv Z h t kt .byte (8 : Int32) [(.int x0), (.int x1), (.int x2), (.int x3), (.int x4), (.int x5), (.int x6), (.int x7)] (.int (0 : Int32)) ∧ (own_P7 x0 x1 x2 x3 x4 x5 x6 ↔ P)) ∨ (∃ (t : Addr) (kt : ClassId) (x0 x1 x2 x3 x4 x5 : Int32), Fld Z h a "java/lang/String" "value" "[B" (.ref t) ∧ Fld Z h a "java/lang/String" "coder" "B" (.int (0 : Int32)) ∧ Arv Z h t kt .byte (6 : Int32) [(.int x0), (.int x1), (.int x2), (.int x3), (.int x4), (.int x5)] (.int (0 : Int32)) ∧ ¬ P)

theorem own_NSext {Z : State} {h h' : Heap} {a : Addr} {P : Prop} (N : own_NS Z h a P) (X : Ext h h') : own_NS Z h' a P := by
  rcases N with ⟨t, kt, x0, x1, x2, x3, x4, x5, x6, x7, g1, g2, g3, g4⟩ | ⟨t, kt, x0, x1, x2, x3, x4, x5, g1, g2, g3, g4⟩
  · exact Or.inl ⟨t, kt, x0, x1, x2, x3, x4, x5, x6, x7, g1.ext X, g2.ext X, g3.ext X, g4⟩
  · exact Or.inr ⟨t, kt, x0, x1, x2, x3, x4, x5, g1.ext X, g2.ext X, g3.ext X, g4⟩
theorem own_NSkeep {Z : State} {h h' : Heap} {a : Addr} {P : Prop} {ws : List Addr} (N : own_NS Z h a P) (E : Exa Z h a "java/lang/String") (K : Keep h h' ws) (q : ∀ w ∈ ws, own_Afar Z h w) : own_NS Z h' a P := by
  have qa : a ∉ ws := fun hm => (q a hm).1 a E rfl
  rcases N with ⟨t, kt, x0, x1, x2, x3, x4, x5, x6, x7, g1, g2, g3, g4⟩ | ⟨t, kt, x0, x1, x2, x3, x4, x5, g1, g2, g3, g4⟩
  · exact Or.inl ⟨t, kt, x0, x1, x2, x3, x4, x5, x6, x7, g1.keep K qa, g2.keep K qa, g3.keep K (fun hm => (q t hm).2 _ _ _ _ _ g3 rfl), g4⟩
  · exact Or.inr ⟨t, kt, x0, x1, x2, x3, x4, x5, g1.keep K qa, g2.keep K qa, g3.keep K (fun hm => (q t hm).2 _ _ _ _ _ g3 rfl), g4⟩
theorem own_P8 {x0 x1 x2 x3 x4 x5 x6 : Int32} (c0 : own_C8 x0) (c1 : own_C8 x1) (c2 : own_C8 x2) (c3 : own_C8 x3) (c4 : own_C8 x4) (c5 : own_C8 x5) (c6 : own_C8 x6) : own_P7 (x0.toInt8.toInt32) (x1.toInt8.toInt32) (x2.toInt8.toInt32) (x3.toInt8.toInt32) (x4.toInt8.toInt32) (x5.toInt8.toInt32) (x6.toInt8.toInt32) ↔ own_P7 x0 x1 x2 x3 x4 x5 x6 := by
  unfold own_P7
  rw [own_b8 c0 (k := (115 : Int32)) (by decide) (by decide), own_b8 c1 (k := (104 : Int32)) (by decide) (by decide), own_b8 c2 (k := (97 : Int32)) (by decide) (by decide), own_b8 c3 (k := (114 : Int32)) (by decide) (by decide), own_b8 c4 (k := (101 : Int32)) (by decide) (by decide), own_b8 c5 (k := (100 : Int32)) (by decide) (by decide), own_b8 c6 (k := (45 : Int32)) (by decide) (by decide)]
theorem own_lt7 {p : Int32} (h : (p &&& (15 : Int32)) < (7 : Int32)) : (p &&& (15 : Int32)) = (0 : Int32) ∨ (p &&& (15 : Int32)) = (1 : Int32) ∨ (p &&& (15 : Int32)) = (2 : Int32) ∨ (p &&& (15 : Int32)) = (3 : Int32) ∨ (p &&& (15 : Int32)) = (4 : Int32) ∨ (p &&& (15 : Int32)) = (5 : Int32) ∨ (p &&& (15 : Int32)) = (6 : Int32) := by
  have a1 := c_mask p 15 4 (by decide) (by decide)
  have a2 := Int32.lt_iff_toInt_lt.mp h
  have a3 : (7 : Int32).toInt = 7 := by decide
  have hh : (p &&& 15).toInt = 0 ∨ (p &&& 15).toInt = 1 ∨ (p &&& 15).toInt = 2 ∨ (p &&& 15).toInt = 3 ∨ (p &&& 15).toInt = 4 ∨ (p &&& 15).toInt = 5 ∨ (p &&& 15).toInt = 6 := by omega
  have k : ∀ z : Int32, (p &&& 15).toInt = z.toInt → (p &&& 15) = z := fun z q => Int32.toInt_inj.mp q
  rcases hh with h | h | h | h | h | h | h
  · exact Or.inl (k 0 (h.trans (by decide)))
  · exact Or.inr (Or.inl (k 1 (h.trans (by decide))))
  · exact Or.inr (Or.inr (Or.inl (k 2 (h.trans (by decide)))))
  · exact Or.inr (Or.inr (Or.inr (Or.inl (k 3 (h.trans (by decide))))))
  · exact Or.inr (Or.inr (Or.inr (Or.inr (Or.inl (k 4 (h.trans (by decide)))))))
  · exact Or.inr (Or.inr (Or.inr (Or.inr (Or.inr (Or.inl (k 5 (h.trans (by decide))))))))
  · exact Or.inr (Or.inr (Or.inr (Or.inr (Or.inr (Or.inr ((k 6 (h.trans (by decide)))))))))
theorem own_m5 (x : Int32) : ((x &&& (2147483647 : Int32)) % (5 : Int32)) = (0 : Int32) ∨ ((x &&& (2147483647 : Int32)) % (5 : Int32)) = (1 : Int32) ∨ ((x &&& (2147483647 : Int32)) % (5 : Int32)) = (2 : Int32) ∨ ((x &&& (2147483647 : Int32)) % (5 : Int32)) = (3 : Int32) ∨ ((x &&& (2147483647 : Int32)) % (5 : Int32)) = (4 : Int32) := by
  have a1 := c_mask x 2147483647 31 (by decide) (by decide)
  have a2 := c_irem (x &&& 2147483647) 5 5 rfl
  have h : ((x &&& 2147483647) % 5).toInt = 0 ∨ ((x &&& 2147483647) % 5).toInt = 1 ∨ ((x &&& 2147483647) % 5).toInt = 2 ∨ ((x &&& 2147483647) % 5).toInt = 3 ∨ ((x &&& 2147483647) % 5).toInt = 4 := by omega
  have k : ∀ z : Int32, ((x &&& 2147483647) % 5).toInt = z.toInt → ((x &&& 2147483647) % 5) = z := fun z q => Int32.toInt_inj.mp q
  rcases h with h | h | h | h | h
  · exact Or.inl (k 0 (h.trans (by decide)))
  · exact Or.inr (Or.inl (k 1 (h.trans (by decide))))
  · exact Or.inr (Or.inr (Or.inl (k 2 (h.trans (by decide)))))
  · exact Or.inr (Or.inr (Or.inr (Or.inl (k 3 (h.trans (by decide))))))
  · exact Or.inr (Or.inr (Or.inr (Or.inr ((k 4 (h.trans (by decide)))))))
theorem own_KoT {p j : Int32} (hk : (p &&& (15 : Int32)) = j) (hc : (((p.toUInt32 >>> ((16 : Int32) &&& 31).toUInt32).toInt32) &&& (255 : Int32)) = own_o j) : own_Ko p := fun _ => hc.trans (congrArg own_o hk.symm)
theorem own_KoF {p j : Int32} (hl : (p &&& (15 : Int32)) < (7 : Int32)) (hk : (p &&& (15 : Int32)) = j) (hc : ¬ (((p.toUInt32 >>> ((16 : Int32) &&& 31).toUInt32).toInt32) &&& (255 : Int32)) = own_o j) : ¬ own_Ko p := fun h => hc ((h hl).trans (congrArg own_o hk))
theorem own_C7_n {p : Int32} (h : ¬ (p &&& (15 : Int32)) < (7 : Int32)) : own_C7 p (115 : Int32) (104 : Int32) (97 : Int32) (114 : Int32) (101 : Int32) (100 : Int32) (45 : Int32) := ⟨fun _ q => absurd q h, fun _ => ⟨rfl, rfl, rfl, rfl, rfl, rfl, rfl⟩⟩
theorem own_C7_0 {p : Int32} (hk : (p &&& (15 : Int32)) = (0 : Int32)) : own_C7 p (((p.toUInt32 >>> ((16 : Int32) &&& 31).toUInt32).toInt32) &&& (255 : Int32)) (104 : Int32) (97 : Int32) (114 : Int32) (101 : Int32) (100 : Int32) (45 : Int32) := ⟨fun h => own_KoT hk (h.1), fun h => ⟨((h (by rw [hk]; decide)).trans (congrArg own_o hk)), rfl, rfl, rfl, rfl, rfl, rfl⟩⟩
theorem own_C7_1 {p : Int32} (hk : (p &&& (15 : Int32)) = (1 : Int32)) : own_C7 p (115 : Int32) (((p.toUInt32 >>> ((16 : Int32) &&& 31).toUInt32).toInt32) &&& (255 : Int32)) (97 : Int32) (114 : Int32) (101 : Int32) (100 : Int32) (45 : Int32) := ⟨fun h => own_KoT hk (h.2.1), fun h => ⟨rfl, ((h (by rw [hk]; decide)).trans (congrArg own_o hk)), rfl, rfl, rfl, rfl, rfl⟩⟩
theorem own_C7_2 {p : Int32} (hk : (p &&& (15 : Int32)) = (2 : Int32)) : own_C7 p (115 : Int32) (104 : Int32) (((p.toUInt32 >>> ((16 : Int32) &&& 31).toUInt32).toInt32) &&& (255 : Int32)) (114 : Int32) (101 : Int32) (100 : Int32) (45 : Int32) := ⟨fun h => own_KoT hk (h.2.2.1), fun h => ⟨rfl, rfl, ((h (by rw [hk]; decide)).trans (congrArg own_o hk)), rfl, rfl, rfl, rfl⟩⟩
theorem own_C7_3 {p : Int32} (hk : (p &&& (15 : Int32)) = (3 : Int32)) : own_C7 p (115 : Int32) (104 : Int32) (97 : Int32) (((p.toUInt32 >>> ((16 : Int32) &&& 31).toUInt32).toInt32) &&& (255 : Int32)) (101 : Int32) (100 : Int32) (45 : Int32) := ⟨fun h => own_KoT hk (h.2.2.2.1), fun h => ⟨rfl, rfl, rfl, ((h (by rw [hk]; decide)).trans (congrArg own_o hk)), rfl, rfl, rfl⟩⟩
theorem own_C7_4 {p : Int32} (hk : (p &&& (15 : Int32)) = (4 : Int32)) : own_C7 p (115 : Int32) (104 : Int32) (97 : Int32) (114 : Int32) (((p.toUInt32 >>> ((16 : Int32) &&& 31).toUInt32).toInt32) &&& (255 : Int32)) (100 : Int32) (45 : Int32) := ⟨fun h => own_KoT hk (h.2.2.2.2.1), fun h => ⟨rfl, rfl, rfl, rfl, ((h (by rw [hk]; decide)).trans (congrArg own_o hk)), rfl, rfl⟩⟩
theorem own_C7_5 {p : Int32} (hk : (p &&& (15 : Int32)) = (5 : Int32)) : own_C7 p (115 : Int32) (104 : Int32) (97 : Int32) (114 : Int32) (101 : Int32) (((p.toUInt32 >>> ((16 : Int32) &&& 31).toUInt32).toInt32) &&& (255 : Int32)) (45 : Int32) := ⟨fun h => own_KoT hk (h.2.2.2.2.2.1), fun h => ⟨rfl, rfl, rfl, rfl, rfl, ((h (by rw [hk]; decide)).trans (congrArg own_o hk)), rfl⟩⟩
theorem own_C7_6 {p : Int32} (hk : (p &&& (15 : Int32)) = (6 : Int32)) : own_C7 p (115 : Int32) (104 : Int32) (97 : Int32) (114 : Int32) (101 : Int32) (100 : Int32) (((p.toUInt32 >>> ((16 : Int32) &&& 31).toUInt32).toInt32) &&& (255 : Int32)) := ⟨fun h => own_KoT hk (h.2.2.2.2.2.2), fun h => ⟨rfl, rfl, rfl, rfl, rfl, rfl, ((h (by rw [hk]; decide)).trans (congrArg own_o hk))⟩⟩
def own_LS (Z : State) (wd : Addr) (h : Heap) (ls : Addr) (nn : Int32) (sb1_ sb2_ sb3_ sb4_ : Addr) : Prop := (nn = (0 : Int32) ∧ ∃ (mc : Int32), Exa Z h ls "java/util/ArrayList" ∧ Fld Z h ls "java/util/ArrayList" "size" "I" (.int (0 : Int32)) ∧ Fld Z h ls "java/util/ArrayList" "elementData" "[Ljava/lang/Object;" (.ref wd) ∧ Fld Z h ls "java/util/AbstractList" "modCount" "I" (.int mc)) ∨ (nn = (1 : Int32) ∧ ∃ (mc : Int32) (b : Addr) (k : ClassId), Exa Z h ls "java/util/ArrayList" ∧ Fld Z h ls "java/util/ArrayList" "size" "I" (.int (1 : Int32)) ∧ Fld Z h ls "java/util/ArrayList" "elementData" "[Ljava/lang/Object;" (.ref b) ∧ Fld Z h ls "java/util/AbstractList" "modCount" "I" (.int mc) ∧ Arv Z h b k (.object "java/lang/Object") (10 : Int32) [(.ref sb1_), .null, .null, .null, .null, .null, .null, .null, .null, .null] .null) ∨ (nn = (2 : Int32) ∧ ∃ (mc : Int32) (b : Addr) (k : ClassId), Exa Z h ls "java/util/ArrayList" ∧ Fld Z h ls "java/util/ArrayList" "size" "I" (.int (2 : Int32)) ∧ Fld Z h ls "java/util/ArrayList" "elementData" "[Ljava/lang/Object;" (.ref b) ∧ Fld Z h ls "java/util/AbstractList" "modCount" "I" (.int mc) ∧ Arv Z h b k (.object "java/lang/Object") (10 : Int32) [(.ref sb1_), (.ref sb2_), .null, .null, .null, .null, .null, .null, .null, .null] .null) ∨ (nn = (3 : Int32) ∧ ∃ (mc : Int32) (b : Addr) (k : ClassId), Exa Z h ls "java/util/ArrayList" ∧ Fld Z h ls "java/util/ArrayList" "size" "I" (.int (3 : Int32)) ∧ Fld Z h ls "java/util/ArrayList" "elementData" "[Ljava/lang/Object;" (.ref b) ∧ Fld Z h ls "java/util/AbstractList" "modCount" "I" (.int mc) ∧ Arv Z h b k (.object "java/lang/Object") (10 : Int32) [(.ref sb1_), (.ref sb2_), (.ref sb3_), .null, .null, .null, .null, .null, .null, .null] .null) ∨ (nn = (4 : Int32) ∧ ∃ (mc : Int32) (b : Addr) (k : ClassId), Exa Z h ls "java/util/ArrayList" ∧ Fld Z h ls "java/util/ArrayList" "size" "I" (.int (4 : Int32)) ∧ Fld Z h ls "java/util/ArrayList" "elementData" "[Ljava/lang/Object;" (.ref b) ∧ Fld Z h ls "java/util/AbstractList" "modCount" "I" (.int mc) ∧ Arv Z h b k (.object "java/lang/Object") (10 : Int32) [(.ref sb1_), (.ref sb2_), (.ref sb3_), (.ref sb4_), .null, .null, .null, .null, .null, .null] .null)
theorem own_LSkeep {Z : State} {wd : Addr} {h h' : Heap} {ls : Addr} {nn : Int32} {sb1_ sb2_ sb3_ sb4_ : Addr} (N : own_LS Z wd h ls nn sb1_ sb2_ sb3_ sb4_) (X : Keep h h' []) : own_LS Z wd h' ls nn sb1_ sb2_ sb3_ sb4_ := by
  rcases N with ⟨hnn, mc, g0, g1, g2, g3⟩ | ⟨hnn, mc, b, k, g0, g1, g2, g3, g4⟩ | ⟨hnn, mc, b, k, g0, g1, g2, g3, g4⟩ | ⟨hnn, mc, b, k, g0, g1, g2, g3, g4⟩ | ⟨hnn, mc, b, k, g0, g1, g2, g3, g4⟩
  · exact Or.inl ⟨hnn, mc, g0.keep X, g1.keep X nin0, g2.keep X nin0, g3.keep X nin0⟩
  · exact Or.inr (Or.inl ⟨hnn, mc, b, k, g0.keep X, g1.keep X nin0, g2.keep X nin0, g3.keep X nin0, g4.keep X nin0⟩)
  · exact Or.inr (Or.inr (Or.inl ⟨hnn, mc, b, k, g0.keep X, g1.keep X nin0, g2.keep X nin0, g3.keep X nin0, g4.keep X nin0⟩))
  · exact Or.inr (Or.inr (Or.inr (Or.inl ⟨hnn, mc, b, k, g0.keep X, g1.keep X nin0, g2.keep X nin0, g3.keep X nin0, g4.keep X nin0⟩)))
  · exact Or.inr (Or.inr (Or.inr (Or.inr (⟨hnn, mc, b, k, g0.keep X, g1.keep X nin0, g2.keep X nin0, g3.keep X nin0, g4.keep X nin0⟩))))
def own_4 (Z : State) (h : Heap) (s1 s2 s3 s4 : Addr) (p1 p2 p3 p4 : Int32) : Prop := Exa Z h s1 "java/lang/String" ∧ Exa Z h s2 "java/lang/String" ∧ Exa Z h s3 "java/lang/String" ∧ Exa Z h s4 "java/lang/String" ∧ own_NS Z h s1 (own_Sp p1) ∧ own_NS Z h s2 (own_Sp p2) ∧ own_NS Z h s3 (own_Sp p3) ∧ own_NS Z h s4 (own_Sp p4)
theorem own_4keep {Z : State} {h h' : Heap} {s1 s2 s3 s4 : Addr} {p1 p2 p3 p4 : Int32} (N : own_4 Z h s1 s2 s3 s4 p1 p2 p3 p4) (X : Keep h h' []) : own_4 Z h' s1 s2 s3 s4 p1 p2 p3 p4 := by
  obtain ⟨e1, e2, e3, e4, n1, n2, n3, n4⟩ := N
  exact ⟨e1.keep X, e2.keep X, e3.keep X, e4.keep X, own_NSkeep n1 e1 X all0, own_NSkeep n2 e2 X all0, own_NSkeep n3 e3 X all0, own_NSkeep n4 e4 X all0⟩
def own_Olds (Z : State) (zc : Int32) (wd : Addr) (kd : ClassId) (wx : Addr) (wy : Addr) (wsp : Addr) (wspv : Addr) (wspk : ClassId) : Prop := Sta Z Z.heap "java/lang/String" "COMPACT_STRINGS" "Z" (.int zc) ∧ ¬ zc = (0 : Int32) ∧ Sta Z Z.heap "java/util/ArrayList" "DEFAULTCAPACITY_EMPTY_ELEMENTDATA" "[Ljava/lang/Object;" (.ref wd) ∧ Arv Z Z.heap wd kd (.object "java/lang/Object") (0 : Int32) [] .null ∧ Sta Z Z.heap "com/example/padlock/padlock/lock/Access" "EXCLUSIVE" "Lcom/example/padlock/padlock/lock/Access;" (.ref wx) ∧ Sta Z Z.heap "com/example/padlock/padlock/lock/Access" "SHARED" "Lcom/example/padlock/padlock/lock/Access;" (.ref wy) ∧ Exa Z Z.heap wx "com/example/padlock/padlock/lock/Access" ∧ Exa Z Z.heap wy "com/example/padlock/padlock/lock/Access" ∧ Fld Z Z.heap wy "com/example/padlock/padlock/lock/Access" "nodePrefix" "Ljava/lang/String;" (.ref wsp) ∧ Exa Z Z.heap wsp "java/lang/String" ∧ Fld Z Z.heap wsp "java/lang/String" "coder" "B" (.int (0 : Int32)) ∧ Fld Z Z.heap wsp "java/lang/String" "value" "[B" (.ref wspv) ∧ Arv Z Z.heap wspv wspk .byte (7 : Int32) [(.int (115 : Int32)), (.int (104 : Int32)), (.int (97 : Int32)), (.int (114 : Int32)), (.int (101 : Int32)), (.int (100 : Int32)), (.int (45 : Int32))] (.int (0 : Int32)) ∧ wx ≠ wy
theorem d10_0 : decode jdk_22_method_1_code 0 = .ok (.aload_n 0, 1) := by decide +kernel
theorem d10_1 : decode jdk_22_method_1_code 1 = .ok (.invokespecial 1, 3) := by decide +kernel
theorem d10_4 : decode jdk_22_method_1_code 4 = .ok (.return_, 1) := by decide +kernel
def Q_alcinit (Z : State) (zc : Int32) (wd : Addr) (kd : ClassId) (wx : Addr) (wy : Addr) (wsp : Addr) (wspv : Addr) (wspk : ClassId) (a1 : Addr) (h0 : Heap) (v : Option Value) (h : Heap) (L : List Loc) : Prop := (v = none ∧ Fr Z.heap.size L ∧ h = h0)
theorem ef_alcinit (m : MethodId) (x0 : Addr) : entryFrame m #[(.ref x0)] 1 = mkF m 0 #[rv x0] [] := by first | (simp [entryFrame, mkF, argsToLocals, Value.category]; done) | rfl
set_option maxRecDepth 65536 in
set_option maxHeartbeats 40000000 in
theorem rm_alcinit (l : Launch) (Z : State) (a0 : Array Value) (hw : own_W Z a0) {zc : Int32} {wd : Addr} {kd : ClassId} {wx : Addr} {wy : Addr} {wsp : Addr} {wspv : Addr} {wspk : ClassId} (hO : own_Olds Z zc wd kd wx wy wsp wspv wspk) (ws : List Jvm.Cond) (a1 : Addr) (h0 : Heap) (O0 : Ext Z.heap h0) :
    own_MF l Z h0 own_y0 jdk_22_method_1_code 1 none ({ frames := 1, cells := 0, slots := 0, locals := 12 } : Room) #[(.ref a1)] (Q_alcinit Z zc wd kd wx wy wsp wspv wspk a1 h0) ws := by
  refine own_met (Q := (Q_alcinit Z zc wd kd wx wy wsp wspv wspk a1 h0)) _ _ (plainFor_of_name own_pn_0) ?_
  intro p e s m below meth c T X0 hx hby hml hret hlk hZ hown hnm e0
  replace hown : s.vm.findClass "java/util/AbstractCollection" = some m.cls := hown
  replace hnm : meth.name = "<init>" := hnm
  have hml : c.maxLocals = 1 := hml
  obtain ⟨oCS, oCz, oDE, oDV, oEx, oSh, oE1, oE2, oPF, oSPE, oSPC, oSPF, oSPV, oNe⟩ := id hO
  have N0 := Fr.nil Z.heap.size
  have K0 := Keep.refl h0 []
  refine own_go (fun _ k => castTop (ef_alcinit m a1) k) ?_
  show own_Go p e below s _ _ _ (T.setTop (mkF m 0 #[rv a1] []))
  refine own_go (fun _ k => XS.aloadN X0.here hx rfl (hb hby d10_0) rfl rfl k) ?_
  obtain ⟨T1, X1, e1, st1⟩ := initO X0 hx hZ hown (ow56 hw) (ow20 hw) (ow21 hw) e0 (g := (mkF m 1 #[rv a1] [(.ref a1)])) rfl (by rw [hml]; rfl) rfl (hb hby d10_1) (by decide) (W := 0) (by show 2 * 0 + _ ≤ _; exact Nat.le_of_eq rfl) (by decide)
  refine own_go st1 ?_
  clear st1 X0 e0
  show own_Go p e below s _ _ _ (T1.setTop (mkF m 4 #[rv a1] []))
  refine own_retV X1 hx hlk e1 hret (hb hby d10_4) (by show _ ≤ 0; omega) (by show _ ≤ 0; omega) ?_
  exact ⟨rfl, N0, rfl⟩
theorem d9_0 : decode jdk_39_method_1_code 0 = .ok (.aload_n 0, 1) := by decide +kernel
theorem d9_1 : decode jdk_39_method_1_code 1 = .ok (.invokespecial 1, 3) := by decide +kernel
theorem d9_4 : decode jdk_39_method_1_code 4 = .ok (.aload_n 0, 1) := by decide +kernel
theorem d9_5 : decode jdk_39_method_1_code 5 = .ok (.iconst 0, 1) := by decide +kernel
theorem d9_6 : decode jdk_39_method_1_code 6 = .ok (.putfield 7, 3) := by decide +kernel
theorem d9_9 : decode jdk_39_method_1_code 9 = .ok (.return_, 1) := by decide +kernel
def Q_aliinit (Z : State) (zc : Int32) (wd : Addr) (kd : ClassId) (wx : Addr) (wy : Addr) (wsp : Addr) (wspv : Addr) (wspk : ClassId) (a1 : Addr) (h0 : Heap) (v : Option Value) (h : Heap) (L : List Loc) : Prop := (v = none ∧ Fr Z.heap.size L ∧ Keep h0 h [a1] ∧ Exa Z h a1 "java/util/ArrayList" ∧ Fld Z h a1 "java/util/ArrayList" "size" "I" (.int (0 : Int32)) ∧ Fld Z h a1 "java/util/ArrayList" "elementData" "[Ljava/lang/Object;" .null ∧ Fld Z h a1 "java/util/AbstractList" "modCount" "I" (.int (0 : Int32)))
theorem ef_aliinit (m : MethodId) (x0 : Addr) : entryFrame m #[(.ref x0)] 1 = mkF m 0 #[rv x0] [] := by first | (simp [entryFrame, mkF, argsToLocals, Value.category]; done) | rfl
set_option maxRecDepth 65536 in
set_option maxHeartbeats 40000000 in
theorem rm_aliinit (l : Launch) (Z : State) (a0 : Array Value) (hw : own_W Z a0) {zc : Int32} {wd : Addr} {kd : ClassId} {wx : Addr} {wy : Addr} {wsp : Addr} {wspv : Addr} {wspk : ClassId} (hO : own_Olds Z zc wd kd wx wy wsp wspv wspk) (ws : List Jvm.Cond) (a1 : Addr) (h0 : Heap) (O0 : Ext Z.heap h0) (fp0 : Exa Z h0 a1 "java/util/ArrayList") (fp1 : Fld Z h0 a1 "java/util/ArrayList" "size" "I" (.int (0 : Int32))) (fp2 : Fld Z h0 a1 "java/util/ArrayList" "elementData" "[Ljava/lang/Object;" .null) (fp3 : Fld Z h0 a1 "java/util/AbstractList" "modCount" "I" (.int (0 : Int32))) (big_a1 : Z.heap.size ≤ a1) :
    own_MF l Z h0 own_y1 jdk_39_method_1_code 1 none ({ frames := 2, cells := 0, slots := 0, locals := 24 } : Room) #[(.ref a1)] (Q_aliinit Z zc wd kd wx wy wsp wspv wspk a1 h0) ws := by
  refine own_met (Q := (Q_aliinit Z zc wd kd wx wy wsp wspv wspk a1 h0)) _ _ (plainFor_of_name own_pn_1) ?_
  intro p e s m below meth c T X0 hx hby hml hret hlk hZ hown hnm e0
  replace hown : s.vm.findClass "java/util/AbstractList" = some m.cls := hown
  replace hnm : meth.name = "<init>" := hnm
  have hml : c.maxLocals = 1 := hml
  obtain ⟨oCS, oCz, oDE, oDV, oEx, oSh, oE1, oE2, oPF, oSPE, oSPC, oSPF, oSPV, oNe⟩ := id hO
  have N0 := Fr.nil Z.heap.size
  have K0 := Keep.refl h0 [a1]
  refine own_go (fun _ k => castTop (ef_aliinit m a1) k) ?_
  show own_Go p e below s _ _ _ (T.setTop (mkF m 0 #[rv a1] []))
  refine own_go (fun _ k => XS.aloadN X0.here hx rfl (hb hby d9_0) rfl rfl k) ?_
  obtain ⟨v1, T1, L1, X1, hQ1, st1⟩ := own_callI (y := own_y0) X0 hx hZ hown (ow50 hw) (ow51 hw) (ow54 hw) (ow55 hw) (rm_alcinit l Z a0 hw hO [] a1 h0 O0) 0 0 0 rfl (by show _ ≤ 0; omega) (by show _ ≤ 0; omega) e0 (g := (mkF m 1 #[rv a1] [(.ref a1)])) rfl (by rw [hml]; rfl) a1 [] [] (lenOf own_pd_0 rfl) rfl rfl (hb hby d9_1)
  obtain ⟨rfl, Nc3, Kc2⟩ := hQ1
  refine own_go st1 ?_
  clear st1 X0 e0
  replace N0 := Fr.app N0 Nc3
  clear Nc3
  refine own_go (fun _ k => XS.aloadN X1.here hx rfl (hb hby d9_4) rfl rfl (XS.iconst X1.here hx rfl (hb hby d9_5) k)) ?_
  obtain ⟨T4, h4, X4, e4, W4, st4⟩ := putF X1 hx hZ hown (host := "") (Or.inl (ow57 hw)) Via.refl Kc2 fp3 fp0 (Or.inl (ow58 hw)) (ow39 hw) (ty := .int) own_fd0 rfl rfl (g := (mkF m 6 #[rv a1] [(.int (0 : Int32)), (.ref a1)])) rfl rfl (hb hby d9_6)
  refine own_go st4 ?_
  clear st4 X1 Kc2
  replace N0 := Fr.snoc X4 N0 big_a1
  replace fp0 := fp0.wr W4
  replace fp1 := fp1.other W4 (.inr (own_sn0 hw))
  replace fp2 := fp2.other W4 (.inr (own_sn1 hw))
  replace fp3 := fp3.same W4
  replace O0 := own_oldWr O0 W4 big_a1
  replace K0 := K0.wr W4 (Or.inl (List.mem_of_getElem? (i := 0) rfl))
  clear W4
  show own_Go p e below s _ _ _ (T4.setTop (mkF m 9 #[rv a1] []))
  refine own_retV X4 hx hlk e4 hret (hb hby d9_9) (by show _ ≤ 0; omega) (by show _ ≤ 0; omega) ?_
  exact ⟨rfl, N0, K0, fp0, fp1, fp2, fp3⟩
theorem d8_0 : decode jdk_38_method_2_code 0 = .ok (.aload_n 0, 1) := by decide +kernel
theorem d8_1 : decode jdk_38_method_2_code 1 = .ok (.invokespecial 1, 3) := by decide +kernel
theorem d8_4 : decode jdk_38_method_2_code 4 = .ok (.aload_n 0, 1) := by decide +kernel
theorem d8_5 : decode jdk_38_method_2_code 5 = .ok (.getstatic 39, 3) := by decide +kernel
theorem d8_8 : decode jdk_38_method_2_code 8 = .ok (.putfield 9, 3) := by decide +kernel
theorem d8_11 : decode jdk_38_method_2_code 11 = .ok (.return_, 1) := by decide +kernel
def Q_alinit (Z : State) (zc : Int32) (wd : Addr) (kd : ClassId) (wx : Addr) (wy : Addr) (wsp : Addr) (wspv : Addr) (wspk : ClassId) (a1 : Addr) (h0 : Heap) (v : Option Value) (h : Heap) (L : List Loc) : Prop := (v = none ∧ Fr Z.heap.size L ∧ Keep h0 h [a1] ∧ Exa Z h a1 "java/util/ArrayList" ∧ Fld Z h a1 "java/util/ArrayList" "size" "I" (.int (0 : Int32)) ∧ Fld Z h a1 "java/util/ArrayList" "elementData" "[Ljava/lang/Object;" (.ref wd) ∧ Fld Z h a1 "java/util/AbstractList" "modCount" "I" (.int (0 : Int32)))
theorem ef_alinit (m : MethodId) (x0 : Addr) : entryFrame m #[(.ref x0)] 1 = mkF m 0 #[rv x0] [] := by first | (simp [entryFrame, mkF, argsToLocals, Value.category]; done) | rfl
set_option maxRecDepth 65536 in
set_option maxHeartbeats 40000000 in
theorem rm_alinit (l : Launch) (Z : State) (a0 : Array Value) (hw : own_W Z a0) {zc : Int32} {wd : Addr} {kd : ClassId} {wx : Addr} {wy : Addr} {wsp : Addr} {wspv : Addr} {wspk : ClassId} (hO : own_Olds Z zc wd kd wx wy wsp wspv wspk) (ws : List Jvm.Cond) (a1 : Addr) (h0 : Heap) (O0 : Ext Z.heap h0) (fp0 : Exa Z h0 a1 "java/util/ArrayList") (fp1 : Fld Z h0 a1 "java/util/ArrayList" "size" "I" (.int (0 : Int32))) (fp2 : Fld Z h0 a1 "java/util/ArrayList" "elementData" "[Ljava/lang/Object;" .null) (fp3 : Fld Z h0 a1 "java/util/AbstractList" "modCount" "I" (.int (0 : Int32))) (big_a1 : Z.heap.size ≤ a1) :
    own_MF l Z h0 own_y2 jdk_38_method_2_code 1 none ({ frames := 3, cells := 0, slots := 0, locals := 36 } : Room) #[(.ref a1)] (Q_alinit Z zc wd kd wx wy wsp wspv wspk a1 h0) ws := by
  refine own_met (Q := (Q_alinit Z zc wd kd wx wy wsp wspv wspk a1 h0)) _ _ (plainFor_of_name own_pn_2) ?_
  intro p e s m below meth c T X0 hx hby hml hret hlk hZ hown hnm e0
  replace hown : s.vm.findClass "java/util/ArrayList" = some m.cls := hown
  replace hnm : meth.name = "<init>" := hnm
  have hml : c.maxLocals = 1 := hml
  obtain ⟨oCS, oCz, oDE, oDV, oEx, oSh, oE1, oE2, oPF, oSPE, oSPC, oSPF, oSPV, oNe⟩ := id hO
  have N0 := Fr.nil Z.heap.size
  have K0 := Keep.refl h0 [a1]
  refine own_go (fun _ k => castTop (ef_alinit m a1) k) ?_
  show own_Go p e below s _ _ _ (T.setTop (mkF m 0 #[rv a1] []))
  refine own_go (fun _ k => XS.aloadN X0.here hx rfl (hb hby d8_0) rfl rfl k) ?_
  obtain ⟨v1, T1, L1, X1, hQ1, st1⟩ := own_callI (y := own_y1) X0 hx hZ hown (ow44 hw) (ow45 hw) (ow48 hw) (ow49 hw) (rm_aliinit l Z a0 hw hO [] a1 h0 O0 fp0 fp1 fp2 fp3 big_a1) 0 0 0 rfl (by show _ ≤ 0; omega) (by show _ ≤ 0; omega) e0 (g := (mkF m 1 #[rv a1] [(.ref a1)])) rfl (by rw [hml]; rfl) a1 [] [] (lenOf own_pd_0 rfl) rfl rfl (hb hby d8_1)
  obtain ⟨rfl, Nc7, Kc6, f2, f3, f4, f5⟩ := hQ1
  refine own_go st1 ?_
  clear st1 X0 e0
  replace N0 := Fr.app N0 Nc7
  clear Nc7
  replace fp0 := fp0.keep Kc6
  clear fp1
  clear fp2
  clear fp3
  replace O0 := own_oldKeep O0 Kc6 (allS big_a1 all0)
  replace K0 := K0.trans Kc6 (allS (Or.inl (List.mem_of_getElem? (i := 0) rfl)) all0)
  clear Kc6
  refine own_go (fun _ k => XS.aloadN X1.here hx rfl (hb hby d8_4) rfl rfl k) ?_
  obtain ⟨T8, X8, e8, st8⟩ := getS2 X1 hx hZ hown (host := "") (Or.inl (ow59 hw)) Via.refl (rfl : T1.heap = T1.heap) (oDE.ext O0) (g := (mkF m 5 #[rv a1] [(.ref a1)])) rfl (hb hby d8_5)
  refine own_go st8 ?_
  clear st8 X1
  obtain ⟨T9, h9, X9, e9, W9, st9⟩ := putF X8 hx hZ hown (host := "") (Or.inl (ow60 hw)) Via.refl e8 f4 f2 (Or.inl (ow61 hw)) (ow39 hw) (ty := (.array (.object "java/lang/Object"))) own_fd1 rfl rfl (g := (mkF m 8 #[rv a1] [(.ref wd), (.ref a1)])) rfl rfl (hb hby d8_8)
  refine own_go st9 ?_
  clear st9 X8 e8
  replace N0 := Fr.snoc X9 N0 big_a1
  replace f2 := f2.wr W9
  replace f3 := f3.other W9 (.inr (own_sn2 hw))
  replace f4 := f4.same W9
  replace f5 := f5.other W9 (.inr (own_sn1 hw).symm)
  replace O0 := own_oldWr O0 W9 big_a1
  replace K0 := K0.wr W9 (Or.inl (List.mem_of_getElem? (i := 0) rfl))
  clear W9
  show own_Go p e below s _ _ _ (T9.setTop (mkF m 11 #[rv a1] []))
  refine own_retV X9 hx hlk e9 hret (hb hby d8_11) (by show _ ≤ 0; omega) (by show _ ≤ 0; omega) ?_
  exact ⟨rfl, N0, K0, f2, f3, f4, f5⟩
theorem d17_0 : decode jdk_29_method_65_code 0 = .ok (.iload_n 0, 1) := by decide +kernel
theorem d17_1 : decode jdk_29_method_65_code 1 = .ok (.iload_n 1, 1) := by decide +kernel
theorem d17_2 : decode jdk_29_method_65_code 2 = .ok (.if_icmp .lt 7, 3) := by decide +kernel
theorem d17_5 : decode jdk_29_method_65_code 5 = .ok (.iload_n 0, 1) := by decide +kernel
theorem d17_6 : decode jdk_29_method_65_code 6 = .ok (.goto 4, 3) := by decide +kernel
theorem d17_9 : decode jdk_29_method_65_code 9 = .ok (.iload_n 1, 1) := by decide +kernel
theorem d17_10 : decode jdk_29_method_65_code 10 = .ok (.ireturn, 1) := by decide +kernel
def Q_maxi (Z : State) (zc : Int32) (wd : Addr) (kd : ClassId) (wx : Addr) (wy : Addr) (wsp : Addr) (wspv : Addr) (wspk : ClassId) (p1 : Int32) (p2 : Int32) (h0 : Heap) (v : Option Value) (h : Heap) (L : List Loc) : Prop := (v = some (.int p2) ∧ Fr Z.heap.size L ∧ p1 < p2 ∧ h = h0) ∨ (v = some (.int p1) ∧ Fr Z.heap.size L ∧ ¬ (p1 < p2) ∧ h = h0)
theorem ef_maxi (m : MethodId) (x0 : Int32) (x1 : Int32) : entryFrame m #[(.int x0), (.int x1)] 2 = mkF m 0 #[iv x0, iv x1] [] := by first | (simp [entryFrame, mkF, argsToLocals, Value.category]; done) | rfl
set_option maxRecDepth 65536 in
set_option maxHeartbeats 40000000 in
theorem rm_maxi (l : Launch) (Z : State) (a0 : Array Value) (hw : own_W Z a0) {zc : Int32} {wd : Addr} {kd : ClassId} {wx : Addr} {wy : Addr} {wsp : Addr} {wspv : Addr} {wspk : ClassId} (hO : own_Olds Z zc wd kd wx wy wsp wspv wspk) (ws : List Jvm.Cond) (p1 : Int32) (p2 : Int32) (h0 : Heap) (O0 : Ext Z.heap h0) :
    own_MF l Z h0 own_y3 jdk_29_method_65_code 2 (some .int) ({ frames := 0, cells := 0, slots := 0, locals := 0 } : Room) #[(.int p1), (.int p2)] (Q_maxi Z zc wd kd wx wy wsp wspv wspk p1 p2 h0) ws := by
  refine own_met (Q := (Q_maxi Z zc wd kd wx wy wsp wspv wspk p1 p2 h0)) _ _ (Jvm.Free.JP.mathPlain rfl (by decide +kernel)) ?_
  intro p e s m below meth c T X0 hx hby hml hret hlk hZ hown hnm e0
  replace hown : s.vm.findClass "java/lang/Math" = some m.cls := hown
  replace hnm : meth.name = "max" := hnm
  have hml : c.maxLocals = 2 := hml
  obtain ⟨oCS, oCz, oDE, oDV, oEx, oSh, oE1, oE2, oPF, oSPE, oSPC, oSPF, oSPV, oNe⟩ := id hO
  have N0 := Fr.nil Z.heap.size
  have K0 := Keep.refl h0 []
  refine own_go (fun _ k => castTop (ef_maxi m p1 p2) k) ?_
  show own_Go p e below s _ _ _ (T.setTop (mkF m 0 #[iv p1, iv p2] []))
  refine own_go (fun _ k => XS.iloadN X0.here hx rfl (hb hby d17_0) rfl (XS.iloadN X0.here hx rfl (hb hby d17_1) rfl k)) ?_
  by_cases hc1 : p1 < p2
  · refine own_go (fun _ k => XS.icmpYes X0.here hx rfl (pc0 := 2) (pc' := 9) rfl (hb hby d17_2) rfl (tlt hc1).1 (by decide) (by decide) k) ?_
    show own_Go p e below s _ _ _ (T.setTop (mkF m 9 #[iv p1, iv p2] []))
    refine own_go (fun _ k => XS.iloadN X0.here hx rfl (hb hby d17_9) rfl k) ?_
    show own_Go p e below s _ _ _ (T.setTop (mkF m 10 #[iv p1, iv p2] [(.int p2)]))
    refine own_retI X0 hx hlk e0 hret (hb hby d17_10) (by show _ ≤ 0; omega) (by show _ ≤ 0; omega) ?_
    exact Or.inl ⟨rfl, N0, hc1, rfl⟩
  · refine own_go (fun _ k => XS.icmpNo X0.here hx rfl (hb hby d17_2) rfl (flt hc1).1 k) ?_
    show own_Go p e below s _ _ _ (T.setTop (mkF m 5 #[iv p1, iv p2] []))
    refine own_go (fun _ k => XS.iloadN X0.here hx rfl (hb hby d17_5) rfl (XS.goto X0.here hx rfl (pc0 := 6) (pc' := 10) rfl (hb hby d17_6) (by decide) (by decide) k)) ?_
    show own_Go p e below s _ _ _ (T.setTop (mkF m 10 #[iv p1, iv p2] [(.int p1)]))
    refine own_retI X0 hx hlk e0 hret (hb hby d17_10) (by show _ ≤ 0; omega) (by show _ ≤ 0; omega) ?_
    exact Or.inr (⟨rfl, N0, hc1, rfl⟩)
theorem d16_0 : decode jdk_38_method_6_code 0 = .ok (.aload_n 0, 1) := by decide +kernel
theorem d16_1 : decode jdk_38_method_6_code 1 = .ok (.getfield 9, 3) := by decide +kernel
theorem d16_4 : decode jdk_38_method_6_code 4 = .ok (.arraylength, 1) := by decide +kernel
theorem d16_5 : decode jdk_38_method_6_code 5 = .ok (.istore_n 2, 1) := by decide +kernel
theorem d16_6 : decode jdk_38_method_6_code 6 = .ok (.iload_n 2, 1) := by decide +kernel
theorem d16_7 : decode jdk_38_method_6_code 7 = .ok (.ifCond .gt 13, 3) := by decide +kernel
theorem d16_10 : decode jdk_38_method_6_code 10 = .ok (.aload_n 0, 1) := by decide +kernel
theorem d16_11 : decode jdk_38_method_6_code 11 = .ok (.getfield 9, 3) := by decide +kernel
theorem d16_14 : decode jdk_38_method_6_code 14 = .ok (.getstatic 39, 3) := by decide +kernel
theorem d16_17 : decode jdk_38_method_6_code 17 = .ok (.if_acmp .eq 28, 3) := by decide +kernel
theorem d16_45 : decode jdk_38_method_6_code 45 = .ok (.aload_n 0, 1) := by decide +kernel
theorem d16_46 : decode jdk_38_method_6_code 46 = .ok (.bipush 10, 2) := by decide +kernel
theorem d16_48 : decode jdk_38_method_6_code 48 = .ok (.iload_n 1, 1) := by decide +kernel
theorem d16_49 : decode jdk_38_method_6_code 49 = .ok (.invokestatic 79, 3) := by decide +kernel
theorem d16_52 : decode jdk_38_method_6_code 52 = .ok (.anewarray 7, 3) := by decide +kernel
theorem d16_55 : decode jdk_38_method_6_code 55 = .ok (.dup_x1, 1) := by decide +kernel
theorem d16_56 : decode jdk_38_method_6_code 56 = .ok (.putfield 9, 3) := by decide +kernel
theorem d16_59 : decode jdk_38_method_6_code 59 = .ok (.areturn, 1) := by decide +kernel
def Q_growI (Z : State) (zc : Int32) (wd : Addr) (kd : ClassId) (wx : Addr) (wy : Addr) (wsp : Addr) (wspv : Addr) (wspk : ClassId) (a1 : Addr) (mc : Int32) (h0 : Heap) (v : Option Value) (h : Heap) (L : List Loc) : Prop := (∃ b : Addr, ∃ k : ClassId, v = some (.ref b) ∧ Fr Z.heap.size L ∧ Keep h0 h [a1] ∧ h0.size ≤ b ∧ Exa Z h a1 "java/util/ArrayList" ∧ Fld Z h a1 "java/util/ArrayList" "size" "I" (.int (0 : Int32)) ∧ Fld Z h a1 "java/util/ArrayList" "elementData" "[Ljava/lang/Object;" (.ref b) ∧ Fld Z h a1 "java/util/AbstractList" "modCount" "I" (.int mc) ∧ Arv Z h b k (.object "java/lang/Object") (10 : Int32) [.null, .null, .null, .null, .null, .null, .null, .null, .null, .null] .null ∧ Ovr Z k "java/lang/Object")
theorem ef_growI (m : MethodId) (x0 : Addr) : entryFrame m #[(.ref x0), (.int (1 : Int32))] 4 = mkF m 0 #[rv x0, iv (1 : Int32), .unset, .unset] [] := by first | (simp [entryFrame, mkF, argsToLocals, Value.category]; done) | rfl
set_option maxRecDepth 65536 in
set_option maxHeartbeats 40000000 in
theorem rm_growI (l : Launch) (Z : State) (a0 : Array Value) (hw : own_W Z a0) {zc : Int32} {wd : Addr} {kd : ClassId} {wx : Addr} {wy : Addr} {wsp : Addr} {wspv : Addr} {wspk : ClassId} (hO : own_Olds Z zc wd kd wx wy wsp wspv wspk) (ws : List Jvm.Cond) (a1 : Addr) (mc : Int32) (h0 : Heap) (O0 : Ext Z.heap h0) (fp0 : Exa Z h0 a1 "java/util/ArrayList") (fp1 : Fld Z h0 a1 "java/util/ArrayList" "size" "I" (.int (0 : Int32))) (fp2 : Fld Z h0 a1 "java/util/ArrayList" "elementData" "[Ljava/lang/Object;" (.ref wd)) (fp3 : Fld Z h0 a1 "java/util/AbstractList" "modCount" "I" (.int mc)) (big_a1 : Z.heap.size ≤ a1) :
    own_MF l Z h0 own_y4 jdk_38_method_6_code 4 (some (.array (.object "java/lang/Object"))) ({ frames := 1, cells := 1, slots := 10, locals := 14 } : Room) #[(.ref a1), (.int (1 : Int32))] (Q_growI Z zc wd kd wx wy wsp wspv wspk a1 mc h0) ws := by
  refine own_met (Q := (Q_growI Z zc wd kd wx wy wsp wspv wspk a1 mc h0)) _ _ (plainFor_of_name own_pn_2) ?_
  intro p e s m below meth c T X0 hx hby hml hret hlk hZ hown hnm e0
  replace hown : s.vm.findClass "java/util/ArrayList" = some m.cls := hown
  replace hnm : meth.name = "grow" := hnm
  have hml : c.maxLocals = 4 := hml
  obtain ⟨oCS, oCz, oDE, oDV, oEx, oSh, oE1, oE2, oPF, oSPE, oSPC, oSPF, oSPV, oNe⟩ := id hO
  have N0 := Fr.nil Z.heap.size
  have K0 := Keep.refl h0 [a1]
  refine own_go (fun _ k => castTop (ef_growI m a1) k) ?_
  show own_Go p e below s _ _ _ (T.setTop (mkF m 0 #[rv a1, iv (1 : Int32), .unset, .unset] []))
  refine own_go (fun _ k => XS.aloadN X0.here hx rfl (hb hby d16_0) rfl rfl k) ?_
  obtain ⟨T1, X1, e1, st1⟩ := getF X0 hx hZ hown (host := "") (Or.inl (ow60 hw)) Via.refl e0 fp2 (g := (mkF m 1 #[rv a1, iv (1 : Int32), .unset, .unset] [(.ref a1)])) rfl rfl (hb hby d16_1)
  refine own_go st1 ?_
  clear st1 X0 e0
  show own_Go p e below s _ _ _ (T1.setTop (mkF m 4 #[rv a1, iv (1 : Int32), .unset, .unset] [(.ref wd)]))
  obtain ⟨cl2, Ar2, -, S2, M2, -, -⟩ := id (oDV.ext O0)
  refine own_go (X1.arraylength hx (by rw [e1]; exact Ar2.1) (State.isArrayOf_alike hZ.alike Ar2.2.1) (g := (mkF m 4 #[rv a1, iv (1 : Int32), .unset, .unset] [(.ref wd)])) rfl rfl (hb hby d16_4)) ?_
  rw [len_of S2 M2]
  refine own_go (fun _ k => XS.istoreN X1.here hx rfl (hb hby d16_5) rfl (l' := #[rv a1, iv (1 : Int32), iv (0 : Int32), .unset]) rfl (XS.iloadN X1.here hx rfl (hb hby d16_6) rfl (XS.ifNo X1.here hx rfl (hb hby d16_7) rfl ((if0 _ _).trans (flt (by decide : ¬ ((0 : Int32) < (0 : Int32)))).2.2.1) (XS.aloadN X1.here hx rfl (hb hby d16_10) rfl rfl k)))) ?_
  obtain ⟨T3, X3, e3, st3⟩ := getF X1 hx hZ hown (host := "") (Or.inl (ow60 hw)) Via.refl e1 fp2 (g := (mkF m 11 #[rv a1, iv (1 : Int32), iv (0 : Int32), .unset] [(.ref a1)])) rfl rfl (hb hby d16_11)
  refine own_go st3 ?_
  clear st3 X1 e1
  obtain ⟨T4, X4, e4, st4⟩ := getS2 X3 hx hZ hown (host := "") (Or.inl (ow59 hw)) Via.refl e3 (oDE.ext O0) (g := (mkF m 14 #[rv a1, iv (1 : Int32), iv (0 : Int32), .unset] [(.ref wd)])) rfl (hb hby d16_14)
  refine own_go st4 ?_
  clear st4 X3 e3
  refine own_go (fun _ k => Jvm.RoadKit.acmp (g := (mkF m 17 #[rv a1, iv (1 : Int32), iv (0 : Int32), .unset] [(.ref wd), (.ref wd)])) X4 hx rfl rfl rfl (pc0 := 17) (pc' := 45) (same := true) rfl (hb hby d16_17) rfl (decide_eq_true rfl) (by decide) (by decide) (XS.aloadN X4.here hx rfl (hb hby d16_45) rfl rfl (XS.bipush X4.here hx rfl (hb hby d16_46) (XS.iloadN X4.here hx rfl (hb hby d16_48) rfl k)))) ?_
  obtain ⟨v5, T5, L5, X5, hQ5, st5⟩ := own_callS (y := own_y3) X4 hx hZ hown (ow106 hw) (ow107 hw) (ow108 hw) (ow109 hw) (rm_maxi l Z a0 hw hO [] (10 : Int32) (1 : Int32) h0 O0) 1 0 0 (by show _ ≤ 1; omega) (by show _ ≤ 10; omega) e4 (g := (mkF m 49 #[rv a1, iv (1 : Int32), iv (0 : Int32), .unset] [(.int (1 : Int32)), (.int (10 : Int32)), (.ref a1)])) rfl (by rw [hml]; rfl) [(.int (10 : Int32)), (.int (1 : Int32))] [(.ref a1)] (lenOf own_pd_1 rfl) rfl rfl (hb hby d16_49)
  rcases hQ5 with hQ5 | hQ5
  · obtain ⟨rfl, Nc8, hp6, Kc7⟩ := hQ5
    refine own_go st5 ?_
    clear st5 X4 e4
    replace N0 := Fr.app N0 Nc8
    clear Nc8
    exact absurd hp6 (by decide : ¬ ((10 : Int32) < (1 : Int32)))
  · obtain ⟨rfl, Nc11, hp9, Kc10⟩ := hQ5
    refine own_go st5 ?_
    clear st5 X4 e4
    replace N0 := Fr.app N0 Nc11
    clear Nc11
    show own_Go p e below s _ _ _ (T5.setTop (mkF m 52 #[rv a1, iv (1 : Int32), iv (0 : Int32), .unset] [(.int (10 : Int32)), (.ref a1)]))
    obtain ⟨T12, h12, k12, X12, e12, E12, A12, O12, st12⟩ := newR X5 hx hZ hown (ow110 hw) (ow111 hw) Kc10 (g := (mkF m 52 #[rv a1, iv (1 : Int32), iv (0 : Int32), .unset] [(.int (10 : Int32)), (.ref a1)])) rfl (hb hby d16_52) rfl (by decide) (cap := 10) (by decide) (by decide) (by show _ ≤ 1; omega) (by show _ ≤ 10; omega)
    obtain ⟨b12, g12⟩ : ∃ z, z = h0.size := ⟨_, rfl⟩
    rw [← g12] at A12 st12
    refine own_go st12 ?_
    clear st12 X5 Kc10
    have ge12 := Nat.le_of_eq g12.symm
    have ne13 : a1 ≠ b12 := Nat.ne_of_lt (Nat.lt_of_lt_of_le fp0.lt ge12)
    have big14 : Z.heap.size ≤ b12 := Nat.le_trans O0.1 ge12
    have sz15 : h0.size ≤ b12 := Nat.le_trans K0.1 ge12
    replace fp0 := fp0.ext E12
    replace fp1 := fp1.ext E12
    replace fp2 := fp2.ext E12
    replace fp3 := fp3.ext E12
    replace O0 := own_oldExt O0 E12
    replace K0 := K0.ext E12
    clear E12
    have f16 : Arv Z h12 b12 k12 (.object "java/lang/Object") (10 : Int32) [.null, .null, .null, .null, .null, .null, .null, .null, .null, .null] .null := (Arv.new A12 (by decide)).pad (pad_rep [] .null 10)
    refine own_go (fun _ k => XS.dupX1 X12.here hx rfl (hb hby d16_55) rfl rfl rfl k) ?_
    obtain ⟨T17, h17, X17, e17, W17, st17⟩ := putF X12 hx hZ hown (host := "") (Or.inl (ow60 hw)) Via.refl e12 fp2 fp0 (Or.inl (ow61 hw)) (ow39 hw) (ty := (.array (.object "java/lang/Object"))) own_fd1 rfl rfl (g := (mkF m 56 #[rv a1, iv (1 : Int32), iv (0 : Int32), .unset] [(.ref b12), (.ref a1), (.ref b12)])) rfl rfl (hb hby d16_56)
    refine own_go st17 ?_
    clear st17 X12 e12
    replace N0 := Fr.snoc X17 N0 big_a1
    replace fp0 := fp0.wr W17
    replace fp1 := fp1.other W17 (.inr (own_sn2 hw))
    replace fp2 := fp2.same W17
    replace fp3 := fp3.other W17 (.inr (own_sn1 hw).symm)
    replace f16 := f16.other W17 ne13.symm
    replace O0 := own_oldWr O0 W17 big_a1
    replace K0 := K0.wr W17 (Or.inl (List.mem_of_getElem? (i := 0) rfl))
    clear W17
    show own_Go p e below s _ _ _ (T17.setTop (mkF m 59 #[rv a1, iv (1 : Int32), iv (0 : Int32), .unset] [(.ref b12)]))
    refine own_retA X17 hx hlk e17 hret rfl rfl (hb hby d16_59) (by show _ ≤ 1; omega) (by show _ ≤ 10; omega) ?_
    exact ⟨b12, k12, rfl, N0, K0, sz15, fp0, fp1, fp2, fp3, f16, O12⟩
theorem d15_0 : decode jdk_38_method_7_code 0 = .ok (.aload_n 0, 1) := by decide +kernel
theorem d15_1 : decode jdk_38_method_7_code 1 = .ok (.aload_n 0, 1) := by decide +kernel
theorem d15_2 : decode jdk_38_method_7_code 2 = .ok (.getfield 48, 3) := by decide +kernel
theorem d15_5 : decode jdk_38_method_7_code 5 = .ok (.iconst 1, 1) := by decide +kernel
theorem d15_6 : decode jdk_38_method_7_code 6 = .ok (.iadd, 1) := by decide +kernel
theorem d15_7 : decode jdk_38_method_7_code 7 = .ok (.invokevirtual 69, 3) := by decide +kernel
theorem d15_10 : decode jdk_38_method_7_code 10 = .ok (.areturn, 1) := by decide +kernel
def Q_grow0 (Z : State) (zc : Int32) (wd : Addr) (kd : ClassId) (wx : Addr) (wy : Addr) (wsp : Addr) (wspv : Addr) (wspk : ClassId) (a1 : Addr) (mc : Int32) (h0 : Heap) (v : Option Value) (h : Heap) (L : List Loc) : Prop := (∃ b : Addr, ∃ k : ClassId, v = some (.ref b) ∧ Fr Z.heap.size L ∧ Keep h0 h [a1] ∧ h0.size ≤ b ∧ Exa Z h a1 "java/util/ArrayList" ∧ Fld Z h a1 "java/util/ArrayList" "size" "I" (.int (0 : Int32)) ∧ Fld Z h a1 "java/util/ArrayList" "elementData" "[Ljava/lang/Object;" (.ref b) ∧ Fld Z h a1 "java/util/AbstractList" "modCount" "I" (.int mc) ∧ Arv Z h b k (.object "java/lang/Object") (10 : Int32) [.null, .null, .null, .null, .null, .null, .null, .null, .null, .null] .null ∧ Ovr Z k "java/lang/Object")
theorem ef_grow0 (m : MethodId) (x0 : Addr) : entryFrame m #[(.ref x0)] 1 = mkF m 0 #[rv x0] [] := by first | (simp [entryFrame, mkF, argsToLocals, Value.category]; done) | rfl
set_option maxRecDepth 65536 in
set_option maxHeartbeats 40000000 in
theorem rm_grow0 (l : Launch) (Z : State) (a0 : Array Value) (hw : own_W Z a0) {zc : Int32} {wd : Addr} {kd : ClassId} {wx : Addr} {wy : Addr} {wsp : Addr} {wspv : Addr} {wspk : ClassId} (hO : own_Olds Z zc wd kd wx wy wsp wspv wspk) (ws : List Jvm.Cond) (a1 : Addr) (mc : Int32) (h0 : Heap) (O0 : Ext Z.heap h0) (fp0 : Exa Z h0 a1 "java/util/ArrayList") (fp1 : Fld Z h0 a1 "java/util/ArrayList" "size" "I" (.int (0 : Int32))) (fp2 : Fld Z h0 a1 "java/util/ArrayList" "elementData" "[Ljava/lang/Object;" (.ref wd)) (fp3 : Fld Z h0 a1 "java/util/AbstractList" "modCount" "I" (.int mc)) (big_a1 : Z.heap.size ≤ a1) :
    own_MF l Z h0 own_y5 jdk_38_method_7_code 1 (some (.array (.object "java/lang/Object"))) ({ frames := 2, cells := 1, slots := 10, locals := 29 } : Room) #[(.ref a1)] (Q_grow0 Z zc wd kd wx wy wsp wspv wspk a1 mc h0) ws := by
  refine own_met (Q := (Q_grow0 Z zc wd kd wx wy wsp wspv wspk a1 mc h0)) _ _ (plainFor_of_name own_pn_2) ?_
  intro p e s m below meth c T X0 hx hby hml hret hlk hZ hown hnm e0
  replace hown : s.vm.findClass "java/util/ArrayList" = some m.cls := hown
  replace hnm : meth.name = "grow" := hnm
  have hml : c.maxLocals = 1 := hml
  obtain ⟨oCS, oCz, oDE, oDV, oEx, oSh, oE1, oE2, oPF, oSPE, oSPC, oSPF, oSPV, oNe⟩ := id hO
  have N0 := Fr.nil Z.heap.size
  have K0 := Keep.refl h0 [a1]
  refine own_go (fun _ k => castTop (ef_grow0 m a1) k) ?_
  show own_Go p e below s _ _ _ (T.setTop (mkF m 0 #[rv a1] []))
  refine own_go (fun _ k => XS.aloadN X0.here hx rfl (hb hby d15_0) rfl rfl (XS.aloadN X0.here hx rfl (hb hby d15_1) rfl rfl k)) ?_
  obtain ⟨T1, X1, e1, st1⟩ := getF X0 hx hZ hown (host := "") (Or.inl (ow78 hw)) Via.refl e0 fp1 (g := (mkF m 2 #[rv a1] [(.ref a1), (.ref a1)])) rfl rfl (hb hby d15_2)
  refine own_go st1 ?_
  clear st1 X0 e0
  refine own_go (fun _ k => XS.iconst X1.here hx rfl (hb hby d15_5) (XS.iadd X1.here hx rfl (hb hby d15_6) rfl k)) ?_
  obtain ⟨v2, T2, L2, X2, hQ2, st2⟩ := own_callP (y := own_y4) X1 hx hZ hown (ow101 hw) (ow102 hw) (ow104 hw) (ow103 hw) (ow40 hw) (ow105 hw) (rm_growI l Z a0 hw hO [] a1 mc h0 O0 fp0 fp1 fp2 fp3 big_a1) 0 1 10 (by show _ ≤ 1; omega) (by show _ ≤ 10; omega) e1 fp0 (g := (mkF m 7 #[rv a1] [(.int (1 : Int32)), (.ref a1)])) rfl (by rw [hml]; rfl) [(.int (1 : Int32))] [] (lenOf own_pd_2 rfl) rfl rfl (hb hby d15_7)
  obtain ⟨w3, w4, rfl, Nc13, Kc12, hb5, f6, f7, f8, f9, f10, f11⟩ := hQ2
  refine own_go st2 ?_
  clear st2 X1 e1
  replace N0 := Fr.app N0 Nc13
  clear Nc13
  have ne14 : a1 ≠ w3 := Nat.ne_of_lt (Nat.lt_of_lt_of_le fp0.lt hb5)
  have big15 : Z.heap.size ≤ w3 := Nat.le_trans O0.1 hb5
  have sz16 : h0.size ≤ w3 := Nat.le_trans K0.1 hb5
  replace fp0 := fp0.keep Kc12
  clear fp1
  clear fp2
  clear fp3
  replace O0 := own_oldKeep O0 Kc12 (allS big_a1 all0)
  replace K0 := K0.trans Kc12 (allS (Or.inl (List.mem_of_getElem? (i := 0) rfl)) all0)
  clear Kc12
  show own_Go p e below s _ _ _ (T2.setTop (mkF m 10 #[rv a1] [(.ref w3)]))
  refine own_retA X2 hx hlk (rfl : T2.heap = T2.heap) hret rfl rfl (hb hby d15_10) (by show _ ≤ 1; omega) (by show _ ≤ 10; omega) ?_
  exact ⟨w3, w4, rfl, N0, K0, sz16, f6, f7, f8, f9, f10, f11⟩
theorem d14_0 : decode jdk_38_method_24_code 0 = .ok (.iload_n 3, 1) := by decide +kernel
theorem d14_1 : decode jdk_38_method_24_code 1 = .ok (.aload_n 2, 1) := by decide +kernel
theorem d14_2 : decode jdk_38_method_24_code 2 = .ok (.arraylength, 1) := by decide +kernel
theorem d14_3 : decode jdk_38_method_24_code 3 = .ok (.if_icmp .ne 8, 3) := by decide +kernel
theorem d14_6 : decode jdk_38_method_24_code 6 = .ok (.aload_n 0, 1) := by decide +kernel
theorem d14_7 : decode jdk_38_method_24_code 7 = .ok (.invokevirtual 129, 3) := by decide +kernel
theorem d14_10 : decode jdk_38_method_24_code 10 = .ok (.astore_n 2, 1) := by decide +kernel
theorem d14_11 : decode jdk_38_method_24_code 11 = .ok (.aload_n 2, 1) := by decide +kernel
theorem d14_12 : decode jdk_38_method_24_code 12 = .ok (.iload_n 3, 1) := by decide +kernel
theorem d14_13 : decode jdk_38_method_24_code 13 = .ok (.aload_n 1, 1) := by decide +kernel
theorem d14_14 : decode jdk_38_method_24_code 14 = .ok (.aastore, 1) := by decide +kernel
theorem d14_15 : decode jdk_38_method_24_code 15 = .ok (.aload_n 0, 1) := by decide +kernel
theorem d14_16 : decode jdk_38_method_24_code 16 = .ok (.iload_n 3, 1) := by decide +kernel
theorem d14_17 : decode jdk_38_method_24_code 17 = .ok (.iconst 1, 1) := by decide +kernel
theorem d14_18 : decode jdk_38_method_24_code 18 = .ok (.iadd, 1) := by decide +kernel
theorem d14_19 : decode jdk_38_method_24_code 19 = .ok (.putfield 48, 3) := by decide +kernel
theorem d14_22 : decode jdk_38_method_24_code 22 = .ok (.return_, 1) := by decide +kernel
def Q_add3_0 (Z : State) (zc : Int32) (wd : Addr) (kd : ClassId) (wx : Addr) (wy : Addr) (wsp : Addr) (wspv : Addr) (wspk : ClassId) (a1 : Addr) (a2 : Addr) (mc : Int32) (h0 : Heap) (v : Option Value) (h : Heap) (L : List Loc) : Prop := (∃ b : Addr, ∃ k : ClassId, v = none ∧ Fr Z.heap.size L ∧ Keep h0 h [a1] ∧ h0.size ≤ b ∧ Exa Z h a1 "java/util/ArrayList" ∧ Fld Z h a1 "java/util/ArrayList" "size" "I" (.int (1 : Int32)) ∧ Fld Z h a1 "java/util/ArrayList" "elementData" "[Ljava/lang/Object;" (.ref b) ∧ Fld Z h a1 "java/util/AbstractList" "modCount" "I" (.int mc) ∧ Arv Z h b k (.object "java/lang/Object") (10 : Int32) [(.ref a2), .null, .null, .null, .null, .null, .null, .null, .null, .null] .null ∧ Ovr Z k "java/lang/Object")
theorem ef_add3_0 (m : MethodId) (x0 : Addr) (x1 : Addr) (x2 : Addr) : entryFrame m #[(.ref x0), (.ref x1), (.ref x2), (.int (0 : Int32))] 4 = mkF m 0 #[rv x0, rv x1, rv x2, iv (0 : Int32)] [] := by first | (simp [entryFrame, mkF, argsToLocals, Value.category]; done) | rfl
set_option maxRecDepth 65536 in
set_option maxHeartbeats 40000000 in
theorem rm_add3_0 (l : Launch) (Z : State) (a0 : Array Value) (hw : own_W Z a0) {zc : Int32} {wd : Addr} {kd : ClassId} {wx : Addr} {wy : Addr} {wsp : Addr} {wspv : Addr} {wspk : ClassId} (hO : own_Olds Z zc wd kd wx wy wsp wspv wspk) (ws : List Jvm.Cond) (a1 : Addr) (a2 : Addr) (mc : Int32) (h0 : Heap) (O0 : Ext Z.heap h0) (fp0 : Exa Z h0 a1 "java/util/ArrayList") (fp1 : Fld Z h0 a1 "java/util/ArrayList" "size" "I" (.int (0 : Int32))) (fp2 : Fld Z h0 a1 "java/util/ArrayList" "elementData" "[Ljava/lang/Object;" (.ref wd)) (fp3 : Fld Z h0 a1 "java/util/AbstractList" "modCount" "I" (.int mc)) (fp4 : Ins Z h0 a2 "java/lang/Object" true) (big_a1 : Z.heap.size ≤ a1) :
    own_MF l Z h0 own_y6 jdk_38_method_24_code 4 none ({ frames := 3, cells := 1, slots := 10, locals := 41 } : Room) #[(.ref a1), (.ref a2), (.ref wd), (.int (0 : Int32))] (Q_add3_0 Z zc wd kd wx wy wsp wspv wspk a1 a2 mc h0) ws := by
  refine own_met (Q := (Q_add3_0 Z zc wd kd wx wy wsp wspv wspk a1 a2 mc h0)) _ _ (plainFor_of_name own_pn_2) ?_
  intro p e s m below meth c T X0 hx hby hml hret hlk hZ hown hnm e0
  replace hown : s.vm.findClass "java/util/ArrayList" = some m.cls := hown
  replace hnm : meth.name = "add" := hnm
  have hml : c.maxLocals = 4 := hml
  obtain ⟨oCS, oCz, oDE, oDV, oEx, oSh, oE1, oE2, oPF, oSPE, oSPC, oSPF, oSPV, oNe⟩ := id hO
  have N0 := Fr.nil Z.heap.size
  have K0 := Keep.refl h0 [a1]
  refine own_go (fun _ k => castTop (ef_add3_0 m a1 a2 wd) k) ?_
  show own_Go p e below s _ _ _ (T.setTop (mkF m 0 #[rv a1, rv a2, rv wd, iv (0 : Int32)] []))
  refine own_go (fun _ k => XS.iloadN X0.here hx rfl (hb hby d14_0) rfl (XS.aloadN X0.here hx rfl (hb hby d14_1) rfl rfl k)) ?_
  show own_Go p e below s _ _ _ (T.setTop (mkF m 2 #[rv a1, rv a2, rv wd, iv (0 : Int32)] [(.ref wd), (.int (0 : Int32))]))
  obtain ⟨cl1, Ar1, -, S1, M1, -, -⟩ := id (oDV.ext O0)
  refine own_go (X0.arraylength hx (by rw [e0]; exact Ar1.1) (State.isArrayOf_alike hZ.alike Ar1.2.1) (g := (mkF m 2 #[rv a1, rv a2, rv wd, iv (0 : Int32)] [(.ref wd), (.int (0 : Int32))])) rfl rfl (hb hby d14_2)) ?_
  rw [len_of S1 M1]
  refine own_go (fun _ k => XS.icmpNo X0.here hx rfl (hb hby d14_3) rfl (teq (by decide : (0 : Int32) = (0 : Int32))).2 (XS.aloadN X0.here hx rfl (hb hby d14_6) rfl rfl k)) ?_
  obtain ⟨v2, T2, L2, X2, hQ2, st2⟩ := own_callP (y := own_y5) X0 hx hZ hown (ow96 hw) (ow97 hw) (ow99 hw) (ow98 hw) (ow40 hw) (ow100 hw) (rm_grow0 l Z a0 hw hO [] a1 mc h0 O0 fp0 fp1 fp2 fp3 big_a1) 0 1 10 (by show _ ≤ 1; omega) (by show _ ≤ 10; omega) e0 fp0 (g := (mkF m 7 #[rv a1, rv a2, rv wd, iv (0 : Int32)] [(.ref a1)])) rfl (by rw [hml]; rfl) [] [] (lenOf own_pd_3 rfl) rfl rfl (hb hby d14_7)
  obtain ⟨w3, w4, rfl, Nc13, Kc12, hb5, f6, f7, f8, f9, f10, f11⟩ := hQ2
  refine own_go st2 ?_
  clear st2 X0 e0
  replace N0 := Fr.app N0 Nc13
  clear Nc13
  have ne14 : a1 ≠ w3 := Nat.ne_of_lt (Nat.lt_of_lt_of_le fp0.lt hb5)
  have big15 : Z.heap.size ≤ w3 := Nat.le_trans O0.1 hb5
  have sz16 : h0.size ≤ w3 := Nat.le_trans K0.1 hb5
  replace fp0 := fp0.keep Kc12
  clear fp1
  clear fp2
  clear fp3
  replace O0 := own_oldKeep O0 Kc12 (allS big_a1 all0)
  replace K0 := K0.trans Kc12 (allS (Or.inl (List.mem_of_getElem? (i := 0) rfl)) all0)
  clear Kc12
  refine own_go (fun _ k => XS.astoreN X2.here hx rfl (hb hby d14_10) rfl rfl (l' := #[rv a1, rv a2, rv w3, iv (0 : Int32)]) rfl (XS.aloadN X2.here hx rfl (hb hby d14_11) rfl rfl (XS.iloadN X2.here hx rfl (hb hby d14_12) rfl (XS.aloadN X2.here hx rfl (hb hby d14_13) rfl rfl k)))) ?_
  obtain ⟨cl17, Ar17, q17, S17, M17, P17, G17⟩ := id f10
  have hin17 : ¬ ((0 : Int32) < 0 ∨ cl17.slots.size ≤ ((0 : Int32)).toNatClampNeg) := inb_of S17 ⟨by decide, by decide⟩
  obtain ⟨T18, h18, X18, e18, W18, st18⟩ := stR X2 hx hZ (rfl : T2.heap = T2.heap) Ar17 (j := (0 : Int32)) hin17 rfl (Sto.ofV Ar17 q17 f11 (own_insKeep fp4 K0)) (g := (mkF m 14 #[rv a1, rv a2, rv w3, iv (0 : Int32)] [(.ref a2), (.int (0 : Int32)), (.ref w3)])) rfl rfl (hb hby d14_14)
  refine own_go st18 ?_
  clear st18 X2
  have f19 : Arv Z h18 w3 w4 (.object "java/lang/Object") (10 : Int32) [(.ref a2), .null, .null, .null, .null, .null, .null, .null, .null, .null] .null := Arv.set Ar17 q17 S17 M17 P17 G17 rfl W18 0 rfl (Nat.le_of_ble_eq_true rfl)
  replace N0 := Fr.snoc X18 N0 big15
  replace f6 := f6.wr W18
  replace f7 := f7.other W18 (Or.inl ne14)
  replace f8 := f8.other W18 (Or.inl ne14)
  replace f9 := f9.other W18 (Or.inl ne14)
  clear f10
  replace O0 := own_oldWr O0 W18 big15
  replace K0 := K0.wr W18 (Or.inr sz16)
  clear W18
  clear Ar17 q17 S17 M17 P17 G17 hin17
  refine own_go (fun _ k => XS.aloadN X18.here hx rfl (hb hby d14_15) rfl rfl (XS.iloadN X18.here hx rfl (hb hby d14_16) rfl (XS.iconst X18.here hx rfl (hb hby d14_17) (XS.iadd X18.here hx rfl (hb hby d14_18) rfl k)))) ?_
  obtain ⟨T20, h20, X20, e20, W20, st20⟩ := putF X18 hx hZ hown (host := "") (Or.inl (ow78 hw)) Via.refl e18 f7 f6 (Or.inl (ow79 hw)) (ow39 hw) (ty := .int) own_fd0 rfl rfl (g := (mkF m 19 #[rv a1, rv a2, rv w3, iv (0 : Int32)] [(.int (1 : Int32)), (.ref a1)])) rfl rfl (hb hby d14_19)
  refine own_go st20 ?_
  clear st20 X18 e18
  replace N0 := Fr.snoc X20 N0 big_a1
  replace f6 := f6.wr W20
  replace f7 := f7.same W20
  replace f8 := f8.other W20 (.inr (own_sn2 hw).symm)
  replace f9 := f9.other W20 (.inr (own_sn0 hw).symm)
  replace f19 := f19.other W20 ne14.symm
  replace O0 := own_oldWr O0 W20 big_a1
  replace K0 := K0.wr W20 (Or.inl (List.mem_of_getElem? (i := 0) rfl))
  clear W20
  show own_Go p e below s _ _ _ (T20.setTop (mkF m 22 #[rv a1, rv a2, rv w3, iv (0 : Int32)] []))
  refine own_retV X20 hx hlk e20 hret (hb hby d14_22) (by show _ ≤ 1; omega) (by show _ ≤ 10; omega) ?_
  exact ⟨w3, w4, rfl, N0, K0, sz16, f6, f7, f8, f9, f19, f11⟩
theorem d13_0 : decode jdk_38_method_25_code 0 = .ok (.aload_n 0, 1) := by decide +kernel
theorem d13_1 : decode jdk_38_method_25_code 1 = .ok (.dup, 1) := by decide +kernel
theorem d13_2 : decode jdk_38_method_25_code 2 = .ok (.getfield 63, 3) := by decide +kernel
theorem d13_5 : decode jdk_38_method_25_code 5 = .ok (.iconst 1, 1) := by decide +kernel
theorem d13_6 : decode jdk_38_method_25_code 6 = .ok (.iadd, 1) := by decide +kernel
theorem d13_7 : decode jdk_38_method_25_code 7 = .ok (.putfield 63, 3) := by decide +kernel
theorem d13_10 : decode jdk_38_method_25_code 10 = .ok (.aload_n 0, 1) := by decide +kernel
theorem d13_11 : decode jdk_38_method_25_code 11 = .ok (.aload_n 1, 1) := by decide +kernel
theorem d13_12 : decode jdk_38_method_25_code 12 = .ok (.aload_n 0, 1) := by decide +kernel
theorem d13_13 : decode jdk_38_method_25_code 13 = .ok (.getfield 9, 3) := by decide +kernel
theorem d13_16 : decode jdk_38_method_25_code 16 = .ok (.aload_n 0, 1) := by decide +kernel
theorem d13_17 : decode jdk_38_method_25_code 17 = .ok (.getfield 48, 3) := by decide +kernel
theorem d13_20 : decode jdk_38_method_25_code 20 = .ok (.invokevirtual 131, 3) := by decide +kernel
theorem d13_23 : decode jdk_38_method_25_code 23 = .ok (.iconst 1, 1) := by decide +kernel
theorem d13_24 : decode jdk_38_method_25_code 24 = .ok (.ireturn, 1) := by decide +kernel
def Q_add1_0 (Z : State) (zc : Int32) (wd : Addr) (kd : ClassId) (wx : Addr) (wy : Addr) (wsp : Addr) (wspv : Addr) (wspk : ClassId) (a1 : Addr) (a2 : Addr) (mc : Int32) (h0 : Heap) (v : Option Value) (h : Heap) (L : List Loc) : Prop := (∃ b : Addr, ∃ k : ClassId, v = some (.int (1 : Int32)) ∧ Fr Z.heap.size L ∧ Keep h0 h [a1] ∧ h0.size ≤ b ∧ Exa Z h a1 "java/util/ArrayList" ∧ Fld Z h a1 "java/util/ArrayList" "size" "I" (.int (1 : Int32)) ∧ Fld Z h a1 "java/util/ArrayList" "elementData" "[Ljava/lang/Object;" (.ref b) ∧ Fld Z h a1 "java/util/AbstractList" "modCount" "I" (.int (mc + (1 : Int32))) ∧ Arv Z h b k (.object "java/lang/Object") (10 : Int32) [(.ref a2), .null, .null, .null, .null, .null, .null, .null, .null, .null] .null ∧ Ovr Z k "java/lang/Object")
theorem ef_add1_0 (m : MethodId) (x0 : Addr) (x1 : Addr) : entryFrame m #[(.ref x0), (.ref x1)] 2 = mkF m 0 #[rv x0, rv x1] [] := by first | (simp [entryFrame, mkF, argsToLocals, Value.category]; done) | rfl
set_option maxRecDepth 65536 in
set_option maxHeartbeats 40000000 in
theorem rm_add1_0 (l : Launch) (Z : State) (a0 : Array Value) (hw : own_W Z a0) {zc : Int32} {wd : Addr} {kd : ClassId} {wx : Addr} {wy : Addr} {wsp : Addr} {wspv : Addr} {wspk : ClassId} (hO : own_Olds Z zc wd kd wx wy wsp wspv wspk) (ws : List Jvm.Cond) (a1 : Addr) (a2 : Addr) (mc : Int32) (h0 : Heap) (O0 : Ext Z.heap h0) (fp0 : Exa Z h0 a1 "java/util/ArrayList") (fp1 : Fld Z h0 a1 "java/util/ArrayList" "size" "I" (.int (0 : Int32))) (fp2 : Fld Z h0 a1 "java/util/ArrayList" "elementData" "[Ljava/lang/Object;" (.ref wd)) (fp3 : Fld Z h0 a1 "java/util/AbstractList" "modCount" "I" (.int mc)) (fp4 : Ins Z h0 a2 "java/lang/Object" true) (big_a1 : Z.heap.size ≤ a1) :
    own_MF l Z h0 own_y7 jdk_38_method_25_code 2 (some .boolean) ({ frames := 4, cells := 1, slots := 10, locals := 56 } : Room) #[(.ref a1), (.ref a2)] (Q_add1_0 Z zc wd kd wx wy wsp wspv wspk a1 a2 mc h0) ws := by
  refine own_met (Q := (Q_add1_0 Z zc wd kd wx wy wsp wspv wspk a1 a2 mc h0)) _ _ (plainFor_of_name own_pn_2) ?_
  intro p e s m below meth c T X0 hx hby hml hret hlk hZ hown hnm e0
  replace hown : s.vm.findClass "java/util/ArrayList" = some m.cls := hown
  replace hnm : meth.name = "add" := hnm
  have hml : c.maxLocals = 2 := hml
  obtain ⟨oCS, oCz, oDE, oDV, oEx, oSh, oE1, oE2, oPF, oSPE, oSPC, oSPF, oSPV, oNe⟩ := id hO
  have N0 := Fr.nil Z.heap.size
  have K0 := Keep.refl h0 [a1]
  refine own_go (fun _ k => castTop (ef_add1_0 m a1 a2) k) ?_
  show own_Go p e below s _ _ _ (T.setTop (mkF m 0 #[rv a1, rv a2] []))
  refine own_go (fun _ k => XS.aloadN X0.here hx rfl (hb hby d13_0) rfl rfl (XS.dup X0.here hx rfl (hb hby d13_1) rfl rfl k)) ?_
  obtain ⟨T1, X1, e1, st1⟩ := getF X0 hx hZ hown (host := "") (Or.inl (ow89 hw)) (Via.of (ow90 hw)) e0 fp3 (g := (mkF m 2 #[rv a1, rv a2] [(.ref a1), (.ref a1)])) rfl rfl (hb hby d13_2)
  refine own_go st1 ?_
  clear st1 X0 e0
  refine own_go (fun _ k => XS.iconst X1.here hx rfl (hb hby d13_5) (XS.iadd X1.here hx rfl (hb hby d13_6) rfl k)) ?_
  obtain ⟨T2, h2, X2, e2, W2, st2⟩ := putF X1 hx hZ hown (host := "") (Or.inl (ow89 hw)) (Via.of (ow90 hw)) e1 fp3 fp0 (Or.inl (ow58 hw)) (ow39 hw) (ty := .int) own_fd0 rfl rfl (g := (mkF m 7 #[rv a1, rv a2] [(.int (mc + (1 : Int32))), (.ref a1)])) rfl rfl (hb hby d13_7)
  refine own_go st2 ?_
  clear st2 X1 e1
  replace N0 := Fr.snoc X2 N0 big_a1
  replace fp0 := fp0.wr W2
  replace fp1 := fp1.other W2 (.inr (own_sn0 hw))
  replace fp2 := fp2.other W2 (.inr (own_sn1 hw))
  replace fp3 := fp3.same W2
  replace O0 := own_oldWr O0 W2 big_a1
  replace K0 := K0.wr W2 (Or.inl (List.mem_of_getElem? (i := 0) rfl))
  clear W2
  refine own_go (fun _ k => XS.aloadN X2.here hx rfl (hb hby d13_10) rfl rfl (XS.aloadN X2.here hx rfl (hb hby d13_11) rfl rfl (XS.aloadN X2.here hx rfl (hb hby d13_12) rfl rfl k))) ?_
  obtain ⟨T3, X3, e3, st3⟩ := getF X2 hx hZ hown (host := "") (Or.inl (ow60 hw)) Via.refl e2 fp2 (g := (mkF m 13 #[rv a1, rv a2] [(.ref a1), (.ref a2), (.ref a1)])) rfl rfl (hb hby d13_13)
  refine own_go st3 ?_
  clear st3 X2 e2
  refine own_go (fun _ k => XS.aloadN X3.here hx rfl (hb hby d13_16) rfl rfl k) ?_
  obtain ⟨T4, X4, e4, st4⟩ := getF X3 hx hZ hown (host := "") (Or.inl (ow78 hw)) Via.refl e3 fp1 (g := (mkF m 17 #[rv a1, rv a2] [(.ref a1), (.ref wd), (.ref a2), (.ref a1)])) rfl rfl (hb hby d13_17)
  refine own_go st4 ?_
  clear st4 X3 e3
  obtain ⟨v5, T5, L5, X5, hQ5, st5⟩ := own_callP (y := own_y6) X4 hx hZ hown (ow91 hw) (ow92 hw) (ow94 hw) (ow93 hw) (ow40 hw) (ow95 hw) (rm_add3_0 l Z a0 hw hO [] a1 a2 (mc + (1 : Int32)) h2 O0 fp0 fp1 fp2 fp3 (own_insKeep fp4 K0) big_a1) 0 1 10 (by show _ ≤ 1; omega) (by show _ ≤ 10; omega) e4 fp0 (g := (mkF m 20 #[rv a1, rv a2] [(.int (0 : Int32)), (.ref wd), (.ref a2), (.ref a1)])) rfl (by rw [hml]; rfl) [(.ref a2), (.ref wd), (.int (0 : Int32))] [] (lenOf own_pd_4 rfl) rfl rfl (hb hby d13_20)
  obtain ⟨w6, w7, rfl, Nc16, Kc15, hb8, f9, f10, f11, f12, f13, f14⟩ := hQ5
  refine own_go st5 ?_
  clear st5 X4 e4
  replace N0 := Fr.app N0 Nc16
  clear Nc16
  have ne17 : a1 ≠ w6 := Nat.ne_of_lt (Nat.lt_of_lt_of_le fp0.lt hb8)
  have big18 : Z.heap.size ≤ w6 := Nat.le_trans O0.1 hb8
  have sz19 : h0.size ≤ w6 := Nat.le_trans K0.1 hb8
  replace fp0 := fp0.keep Kc15
  clear fp1
  clear fp2
  clear fp3
  replace O0 := own_oldKeep O0 Kc15 (allS big_a1 all0)
  replace K0 := K0.trans Kc15 (allS (Or.inl (List.mem_of_getElem? (i := 0) rfl)) all0)
  clear Kc15
  refine own_go (fun _ k => XS.iconst X5.here hx rfl (hb hby d13_23) k) ?_
  show own_Go p e below s _ _ _ (T5.setTop (mkF m 24 #[rv a1, rv a2] [(.int (1 : Int32))]))
  refine own_retN X5 hx hlk (rfl : T5.heap = T5.heap) (t := .boolean) hret (by simp) (hb hby d13_24) (by show _ ≤ 1; omega) (by show _ ≤ 10; omega) ?_
  exact ⟨w6, w7, rfl, N0, K0, sz19, f9, f10, f11, f12, f13, f14⟩
def Q_add3_1 (Z : State) (zc : Int32) (wd : Addr) (kd : ClassId) (wx : Addr) (wy : Addr) (wsp : Addr) (wspv : Addr) (wspk : ClassId) (a1 : Addr) (a2 : Addr) (b : Addr) (k : ClassId) (mc : Int32) (el1 : Addr) (h0 : Heap) (v : Option Value) (h : Heap) (L : List Loc) : Prop := (v = none ∧ Fr Z.heap.size L ∧ Keep h0 h [a1, b] ∧ Exa Z h a1 "java/util/ArrayList" ∧ Fld Z h a1 "java/util/ArrayList" "size" "I" (.int (2 : Int32)) ∧ Fld Z h a1 "java/util/ArrayList" "elementData" "[Ljava/lang/Object;" (.ref b) ∧ Fld Z h a1 "java/util/AbstractList" "modCount" "I" (.int mc) ∧ Arv Z h b k (.object "java/lang/Object") (10 : Int32) [(.ref el1), (.ref a2), .null, .null, .null, .null, .null, .null, .null, .null] .null ∧ Ovr Z k "java/lang/Object")
theorem ef_add3_1 (m : MethodId) (x0 : Addr) (x1 : Addr) (x2 : Addr) : entryFrame m #[(.ref x0), (.ref x1), (.ref x2), (.int (1 : Int32))] 4 = mkF m 0 #[rv x0, rv x1, rv x2, iv (1 : Int32)] [] := by first | (simp [entryFrame, mkF, argsToLocals, Value.category]; done) | rfl
set_option maxRecDepth 65536 in
set_option maxHeartbeats 40000000 in
theorem rm_add3_1 (l : Launch) (Z : State) (a0 : Array Value) (hw : own_W Z a0) {zc : Int32} {wd : Addr} {kd : ClassId} {wx : Addr} {wy : Addr} {wsp : Addr} {wspv : Addr} {wspk : ClassId} (hO : own_Olds Z zc wd kd wx wy wsp wspv wspk) (ws : List Jvm.Cond) (a1 : Addr) (a2 : Addr) (b : Addr) (k : ClassId) (mc : Int32) (el1 : Addr) (h0 : Heap) (O0 : Ext Z.heap h0) (fp0 : Exa Z h0 a1 "java/util/ArrayList") (fp1 : Fld Z h0 a1 "java/util/ArrayList" "size" "I" (.int (1 : Int32))) (fp2 : Fld Z h0 a1 "java/util/ArrayList" "elementData" "[Ljava/lang/Object;" (.ref b)) (fp3 : Fld Z h0 a1 "java/util/AbstractList" "modCount" "I" (.int mc)) (fp4 : Arv Z h0 b k (.object "java/lang/Object") (10 : Int32) [(.ref el1), .null, .null, .null, .null, .null, .null, .null, .null, .null] .null) (fp5 : Ovr Z k "java/lang/Object") (fp6 : Ins Z h0 a2 "java/lang/Object" true) (big_a1 : Z.heap.size ≤ a1) (big_b : Z.heap.size ≤ b) :
    own_MF l Z h0 own_y6 jdk_38_method_24_code 4 none ({ frames := 0, cells := 0, slots := 0, locals := 0 } : Room) #[(.ref a1), (.ref a2), (.ref b), (.int (1 : Int32))] (Q_add3_1 Z zc wd kd wx wy wsp wspv wspk a1 a2 b k mc el1 h0) ws := by
  refine own_met (Q := (Q_add3_1 Z zc wd kd wx wy wsp wspv wspk a1 a2 b k mc el1 h0)) _ _ (plainFor_of_name own_pn_2) ?_
  intro p e s m below meth c T X0 hx hby hml hret hlk hZ hown hnm e0
  replace hown : s.vm.findClass "java/util/ArrayList" = some m.cls := hown
  replace hnm : meth.name = "add" := hnm
  have hml : c.maxLocals = 4 := hml
  obtain ⟨oCS, oCz, oDE, oDV, oEx, oSh, oE1, oE2, oPF, oSPE, oSPC, oSPF, oSPV, oNe⟩ := id hO
  have N0 := Fr.nil Z.heap.size
  have K0 := Keep.refl h0 [a1, b]
  refine own_go (fun _ k => castTop (ef_add3_1 m a1 a2 b) k) ?_
  show own_Go p e below s _ _ _ (T.setTop (mkF m 0 #[rv a1, rv a2, rv b, iv (1 : Int32)] []))
  refine own_go (fun _ k => XS.iloadN X0.here hx rfl (hb hby d14_0) rfl (XS.aloadN X0.here hx rfl (hb hby d14_1) rfl rfl k)) ?_
  show own_Go p e below s _ _ _ (T.setTop (mkF m 2 #[rv a1, rv a2, rv b, iv (1 : Int32)] [(.ref b), (.int (1 : Int32))]))
  obtain ⟨cl1, Ar1, -, S1, M1, -, -⟩ := id fp4
  refine own_go (X0.arraylength hx (by rw [e0]; exact Ar1.1) (State.isArrayOf_alike hZ.alike Ar1.2.1) (g := (mkF m 2 #[rv a1, rv a2, rv b, iv (1 : Int32)] [(.ref b), (.int (1 : Int32))])) rfl rfl (hb hby d14_2)) ?_
  rw [len_of S1 M1]
  refine own_go (fun _ k => XS.icmpYes X0.here hx rfl (pc0 := 3) (pc' := 11) rfl (hb hby d14_3) rfl (feq (by decide : ¬ ((1 : Int32) = (10 : Int32)))).2 (by decide) (by decide) (XS.aloadN X0.here hx rfl (hb hby d14_11) rfl rfl (XS.iloadN X0.here hx rfl (hb hby d14_12) rfl (XS.aloadN X0.here hx rfl (hb hby d14_13) rfl rfl k)))) ?_
  obtain ⟨cl2, Ar2, q2, S2, M2, P2, G2⟩ := id fp4
  have hin2 : ¬ ((1 : Int32) < 0 ∨ cl2.slots.size ≤ ((1 : Int32)).toNatClampNeg) := inb_of S2 ⟨by decide, by decide⟩
  obtain ⟨T3, h3, X3, e3, W3, st3⟩ := stR X0 hx hZ e0 Ar2 (j := (1 : Int32)) hin2 rfl (Sto.ofV Ar2 q2 fp5 (own_insKeep fp6 K0)) (g := (mkF m 14 #[rv a1, rv a2, rv b, iv (1 : Int32)] [(.ref a2), (.int (1 : Int32)), (.ref b)])) rfl rfl (hb hby d14_14)
  refine own_go st3 ?_
  clear st3 X0 e0
  have f4 : Arv Z h3 b k (.object "java/lang/Object") (10 : Int32) [(.ref el1), (.ref a2), .null, .null, .null, .null, .null, .null, .null, .null] .null := Arv.set Ar2 q2 S2 M2 P2 G2 rfl W3 1 rfl (Nat.le_of_ble_eq_true rfl)
  replace N0 := Fr.snoc X3 N0 big_b
  have ne5 : a1 ≠ b := (Exa.neArv fp0 fp4 (ow39 hw))
  replace fp0 := fp0.wr W3
  replace fp1 := fp1.other W3 (Or.inl ne5)
  replace fp2 := fp2.other W3 (Or.inl ne5)
  replace fp3 := fp3.other W3 (Or.inl ne5)
  clear fp4
  replace O0 := own_oldWr O0 W3 big_b
  replace K0 := K0.wr W3 (Or.inl (List.mem_of_getElem? (i := 1) rfl))
  clear W3
  clear Ar2 q2 S2 M2 P2 G2 hin2
  refine own_go (fun _ k => XS.aloadN X3.here hx rfl (hb hby d14_15) rfl rfl (XS.iloadN X3.here hx rfl (hb hby d14_16) rfl (XS.iconst X3.here hx rfl (hb hby d14_17) (XS.iadd X3.here hx rfl (hb hby d14_18) rfl k)))) ?_
  obtain ⟨T6, h6, X6, e6, W6, st6⟩ := putF X3 hx hZ hown (host := "") (Or.inl (ow78 hw)) Via.refl e3 fp1 fp0 (Or.inl (ow79 hw)) (ow39 hw) (ty := .int) own_fd0 rfl rfl (g := (mkF m 19 #[rv a1, rv a2, rv b, iv (1 : Int32)] [(.int (2 : Int32)), (.ref a1)])) rfl rfl (hb hby d14_19)
  refine own_go st6 ?_
  clear st6 X3 e3
  replace N0 := Fr.snoc X6 N0 big_a1
  replace fp0 := fp0.wr W6
  replace fp1 := fp1.same W6
  replace fp2 := fp2.other W6 (.inr (own_sn2 hw).symm)
  replace fp3 := fp3.other W6 (.inr (own_sn0 hw).symm)
  replace f4 := f4.other W6 ne5.symm
  replace O0 := own_oldWr O0 W6 big_a1
  replace K0 := K0.wr W6 (Or.inl (List.mem_of_getElem? (i := 0) rfl))
  clear W6
  show own_Go p e below s _ _ _ (T6.setTop (mkF m 22 #[rv a1, rv a2, rv b, iv (1 : Int32)] []))
  refine own_retV X6 hx hlk e6 hret (hb hby d14_22) (by show _ ≤ 0; omega) (by show _ ≤ 0; omega) ?_
  exact ⟨rfl, N0, K0, fp0, fp1, fp2, fp3, f4, fp5⟩
def Q_add1_1 (Z : State) (zc : Int32) (wd : Addr) (kd : ClassId) (wx : Addr) (wy : Addr) (wsp : Addr) (wspv : Addr) (wspk : ClassId) (a1 : Addr) (a2 : Addr) (b : Addr) (k : ClassId) (mc : Int32) (el1 : Addr) (h0 : Heap) (v : Option Value) (h : Heap) (L : List Loc) : Prop := (v = some (.int (1 : Int32)) ∧ Fr Z.heap.size L ∧ Keep h0 h [a1, b] ∧ Exa Z h a1 "java/util/ArrayList" ∧ Fld Z h a1 "java/util/ArrayList" "size" "I" (.int (2 : Int32)) ∧ Fld Z h a1 "java/util/ArrayList" "elementData" "[Ljava/lang/Object;" (.ref b) ∧ Fld Z h a1 "java/util/AbstractList" "modCount" "I" (.int (mc + (1 : Int32))) ∧ Arv Z h b k (.object "java/lang/Object") (10 : Int32) [(.ref el1), (.ref a2), .null, .null, .null, .null, .null, .null, .null, .null] .null ∧ Ovr Z k "java/lang/Object")
theorem ef_add1_1 (m : MethodId) (x0 : Addr) (x1 : Addr) : entryFrame m #[(.ref x0), (.ref x1)] 2 = mkF m 0 #[rv x0, rv x1] [] := by first | (simp [entryFrame, mkF, argsToLocals, Value.category]; done) | rfl
set_option maxRecDepth 65536 in
set_option maxHeartbeats 40000000 in
theorem rm_add1_1 (l : Launch) (Z : State) (a0 : Array Value) (hw : own_W Z a0) {zc : Int32} {wd : Addr} {kd : ClassId} {wx : Addr} {wy : Addr} {wsp : Addr} {wspv : Addr} {wspk : ClassId} (hO : own_Olds Z zc wd kd wx wy wsp wspv wspk) (ws : List Jvm.Cond) (a1 : Addr) (a2 : Addr) (b : Addr) (k : ClassId) (mc : Int32) (el1 : Addr) (h0 : Heap) (O0 : Ext Z.heap h0) (fp0 : Exa Z h0 a1 "java/util/ArrayList") (fp1 : Fld Z h0 a1 "java/util/ArrayList" "size" "I" (.int (1 : Int32))) (fp2 : Fld Z h0 a1 "java/util/ArrayList" "elementData" "[Ljava/lang/Object;" (.ref b)) (fp3 : Fld Z h0 a1 "java/util/AbstractList" "modCount" "I" (.int mc)) (fp4 : Arv Z h0 b k (.object "java/lang/Object") (10 : Int32) [(.ref el1), .null, .null, .null, .null, .null, .null, .null, .null, .null] .null) (fp5 : Ovr Z k "java/lang/Object") (fp6 : Ins Z h0 a2 "java/lang/Object" true) (big_a1 : Z.heap.size ≤ a1) (big_b : Z.heap.size ≤ b) :
    own_MF l Z h0 own_y7 jdk_38_method_25_code 2 (some .boolean) ({ frames := 1, cells := 0, slots := 0, locals := 15 } : Room) #[(.ref a1), (.ref a2)] (Q_add1_1 Z zc wd kd wx wy wsp wspv wspk a1 a2 b k mc el1 h0) ws := by
  refine own_met (Q := (Q_add1_1 Z zc wd kd wx wy wsp wspv wspk a1 a2 b k mc el1 h0)) _ _ (plainFor_of_name own_pn_2) ?_
  intro p e s m below meth c T X0 hx hby hml hret hlk hZ hown hnm e0
  replace hown : s.vm.findClass "java/util/ArrayList" = some m.cls := hown
  replace hnm : meth.name = "add" := hnm
  have hml : c.maxLocals = 2 := hml
  obtain ⟨oCS, oCz, oDE, oDV, oEx, oSh, oE1, oE2, oPF, oSPE, oSPC, oSPF, oSPV, oNe⟩ := id hO
  have N0 := Fr.nil Z.heap.size
  have K0 := Keep.refl h0 [a1, b]
  refine own_go (fun _ k => castTop (ef_add1_1 m a1 a2) k) ?_
  show own_Go p e below s _ _ _ (T.setTop (mkF m 0 #[rv a1, rv a2] []))
  refine own_go (fun _ k => XS.aloadN X0.here hx rfl (hb hby d13_0) rfl rfl (XS.dup X0.here hx rfl (hb hby d13_1) rfl rfl k)) ?_
  obtain ⟨T1, X1, e1, st1⟩ := getF X0 hx hZ hown (host := "") (Or.inl (ow89 hw)) (Via.of (ow90 hw)) e0 fp3 (g := (mkF m 2 #[rv a1, rv a2] [(.ref a1), (.ref a1)])) rfl rfl (hb hby d13_2)
  refine own_go st1 ?_
  clear st1 X0 e0
  refine own_go (fun _ k => XS.iconst X1.here hx rfl (hb hby d13_5) (XS.iadd X1.here hx rfl (hb hby d13_6) rfl k)) ?_
  obtain ⟨T2, h2, X2, e2, W2, st2⟩ := putF X1 hx hZ hown (host := "") (Or.inl (ow89 hw)) (Via.of (ow90 hw)) e1 fp3 fp0 (Or.inl (ow58 hw)) (ow39 hw) (ty := .int) own_fd0 rfl rfl (g := (mkF m 7 #[rv a1, rv a2] [(.int (mc + (1 : Int32))), (.ref a1)])) rfl rfl (hb hby d13_7)
  refine own_go st2 ?_
  clear st2 X1 e1
  replace N0 := Fr.snoc X2 N0 big_a1
  have ne3 : b ≠ a1 := (Ne.symm (Exa.neArv fp0 fp4 (ow39 hw)))
  replace fp0 := fp0.wr W2
  replace fp1 := fp1.other W2 (.inr (own_sn0 hw))
  replace fp2 := fp2.other W2 (.inr (own_sn1 hw))
  replace fp3 := fp3.same W2
  replace fp4 := fp4.other W2 ne3
  replace O0 := own_oldWr O0 W2 big_a1
  replace K0 := K0.wr W2 (Or.inl (List.mem_of_getElem? (i := 0) rfl))
  clear W2
  refine own_go (fun _ k => XS.aloadN X2.here hx rfl (hb hby d13_10) rfl rfl (XS.aloadN X2.here hx rfl (hb hby d13_11) rfl rfl (XS.aloadN X2.here hx rfl (hb hby d13_12) rfl rfl k))) ?_
  obtain ⟨T4, X4, e4, st4⟩ := getF X2 hx hZ hown (host := "") (Or.inl (ow60 hw)) Via.refl e2 fp2 (g := (mkF m 13 #[rv a1, rv a2] [(.ref a1), (.ref a2), (.ref a1)])) rfl rfl (hb hby d13_13)
  refine own_go st4 ?_
  clear st4 X2 e2
  refine own_go (fun _ k => XS.aloadN X4.here hx rfl (hb hby d13_16) rfl rfl k) ?_
  obtain ⟨T5, X5, e5, st5⟩ := getF X4 hx hZ hown (host := "") (Or.inl (ow78 hw)) Via.refl e4 fp1 (g := (mkF m 17 #[rv a1, rv a2] [(.ref a1), (.ref b), (.ref a2), (.ref a1)])) rfl rfl (hb hby d13_17)
  refine own_go st5 ?_
  clear st5 X4 e4
  obtain ⟨v6, T6, L6, X6, hQ6, st6⟩ := own_callP (y := own_y6) X5 hx hZ hown (ow91 hw) (ow92 hw) (ow94 hw) (ow93 hw) (ow40 hw) (ow95 hw) (rm_add3_1 l Z a0 hw hO [] a1 a2 b k (mc + (1 : Int32)) el1 h2 O0 fp0 fp1 fp2 fp3 fp4 fp5 (own_insKeep fp6 K0) big_a1 big_b) 0 0 0 (by show _ ≤ 0; omega) (by show _ ≤ 0; omega) e5 fp0 (g := (mkF m 20 #[rv a1, rv a2] [(.int (1 : Int32)), (.ref b), (.ref a2), (.ref a1)])) rfl (by rw [hml]; rfl) [(.ref a2), (.ref b), (.int (1 : Int32))] [] (lenOf own_pd_4 rfl) rfl rfl (hb hby d13_20)
  obtain ⟨rfl, Nc14, Kc13, f7, f8, f9, f10, f11, f12⟩ := hQ6
  refine own_go st6 ?_
  clear st6 X5 e5
  replace N0 := Fr.app N0 Nc14
  clear Nc14
  replace fp0 := fp0.keep Kc13
  clear fp1
  clear fp2
  clear fp3
  clear fp4
  replace O0 := own_oldKeep O0 Kc13 (allS big_a1 (allS big_b all0))
  replace K0 := K0.trans Kc13 (allS (Or.inl (List.mem_of_getElem? (i := 0) rfl)) (allS (Or.inl (List.mem_of_getElem? (i := 1) rfl)) all0))
  clear Kc13
  refine own_go (fun _ k => XS.iconst X6.here hx rfl (hb hby d13_23) k) ?_
  show own_Go p e below s _ _ _ (T6.setTop (mkF m 24 #[rv a1, rv a2] [(.int (1 : Int32))]))
  refine own_retN X6 hx hlk (rfl : T6.heap = T6.heap) (t := .boolean) hret (by simp) (hb hby d13_24) (by show _ ≤ 0; omega) (by show _ ≤ 0; omega) ?_
  exact ⟨rfl, N0, K0, f7, f8, f9, f10, f11, f12⟩
def Q_add3_2 (Z : State) (zc : Int32) (wd : Addr) (kd : ClassId) (wx : Addr) (wy : Addr) (wsp : Addr) (wspv : Addr) (wspk : ClassId) (a1 : Addr) (a2 : Addr) (b : Addr) (k : ClassId) (mc : Int32) (el1 : Addr) (el2 : Addr) (h0 : Heap) (v : Option Value) (h : Heap) (L : List Loc) : Prop := (v = none ∧ Fr Z.heap.size L ∧ Keep h0 h [a1, b] ∧ Exa Z h a1 "java/util/ArrayList" ∧ Fld Z h a1 "java/util/ArrayList" "size" "I" (.int (3 : Int32)) ∧ Fld Z h a1 "java/util/ArrayList" "elementData" "[Ljava/lang/Object;" (.ref b) ∧ Fld Z h a1 "java/util/AbstractList" "modCount" "I" (.int mc) ∧ Arv Z h b k (.object "java/lang/Object") (10 : Int32) [(.ref el1), (.ref el2), (.ref a2), .null, .null, .null, .null, .null, .null, .null] .null ∧ Ovr Z k "java/lang/Object")
theorem ef_add3_2 (m : MethodId) (x0 : Addr) (x1 : Addr) (x2 : Addr) : entryFrame m #[(.ref x0), (.ref x1), (.ref x2), (.int (2 : Int32))] 4 = mkF m 0 #[rv x0, rv x1, rv x2, iv (2 : Int32)] [] := by first | (simp [entryFrame, mkF, argsToLocals, Value.category]; done) | rfl
set_option maxRecDepth 65536 in
set_option maxHeartbeats 40000000 in
theorem rm_add3_2 (l : Launch) (Z : State) (a0 : Array Value) (hw : own_W Z a0) {zc : Int32} {wd : Addr} {kd : ClassId} {wx : Addr} {wy : Addr} {wsp : Addr} {wspv : Addr} {wspk : ClassId} (hO : own_Olds Z zc wd kd wx wy wsp wspv wspk) (ws : List Jvm.Cond) (a1 : Addr) (a2 : Addr) (b : Addr) (k : ClassId) (mc : Int32) (el1 : Addr) (el2 : Addr) (h0 : Heap) (O0 : Ext Z.heap h0) (fp0 : Exa Z h0 a1 "java/util/ArrayList") (fp1 : Fld Z h0 a1 "java/util/ArrayList" "size" "I" (.int (2 : Int32))) (fp2 : Fld Z h0 a1 "java/util/ArrayList" "elementData" "[Ljava/lang/Object;" (.ref b)) (fp3 : Fld Z h0 a1 "java/util/AbstractList" "modCount" "I" (.int mc)) (fp4 : Arv Z h0 b k (.object "java/lang/Object") (10 : Int32) [(.ref el1), (.ref el2), .null, .null, .null, .null, .null, .null, .null, .null] .null) (fp5 : Ovr Z k "java/lang/Object") (fp6 : Ins Z h0 a2 "java/lang/Object" true) (big_a1 : Z.heap.size ≤ a1) (big_b : Z.heap.size ≤ b) :
    own_MF l Z h0 own_y6 jdk_38_method_24_code 4 none ({ frames := 0, cells := 0, slots := 0, locals := 0 } : Room) #[(.ref a1), (.ref a2), (.ref b), (.int (2 : Int32))] (Q_add3_2 Z zc wd kd wx wy wsp wspv wspk a1 a2 b k mc el1 el2 h0) ws := by
  refine own_met (Q := (Q_add3_2 Z zc wd kd wx wy wsp wspv wspk a1 a2 b k mc el1 el2 h0)) _ _ (plainFor_of_name own_pn_2) ?_
  intro p e s m below meth c T X0 hx hby hml hret hlk hZ hown hnm e0
  replace hown : s.vm.findClass "java/util/ArrayList" = some m.cls := hown
  replace hnm : meth.name = "add" := hnm
  have hml : c.maxLocals = 4 := hml
  obtain ⟨oCS, oCz, oDE, oDV, oEx, oSh, oE1, oE2, oPF, oSPE, oSPC, oSPF, oSPV, oNe⟩ := id hO
  have N0 := Fr.nil Z.heap.size
  have K0 := Keep.refl h0 [a1, b]
  refine own_go (fun _ k => castTop (ef_add3_2 m a1 a2 b) k) ?_
  show own_Go p e below s _ _ _ (T.setTop (mkF m 0 #[rv a1, rv a2, rv b, iv (2 : Int32)] []))
  refine own_go (fun _ k => XS.iloadN X0.here hx rfl (hb hby d14_0) rfl (XS.aloadN X0.here hx rfl (hb hby d14_1) rfl rfl k)) ?_
  show own_Go p e below s _ _ _ (T.setTop (mkF m 2 #[rv a1, rv a2, rv b, iv (2 : Int32)] [(.ref b), (.int (2 : Int32))]))
  obtain ⟨cl1, Ar1, -, S1, M1, -, -⟩ := id fp4
  refine own_go (X0.arraylength hx (by rw [e0]; exact Ar1.1) (State.isArrayOf_alike hZ.alike Ar1.2.1) (g := (mkF m 2 #[rv a1, rv a2, rv b, iv (2 : Int32)] [(.ref b), (.int (2 : Int32))])) rfl rfl (hb hby d14_2)) ?_
  rw [len_of S1 M1]
  refine own_go (fun _ k => XS.icmpYes X0.here hx rfl (pc0 := 3) (pc' := 11) rfl (hb hby d14_3) rfl (feq (by decide : ¬ ((2 : Int32) = (10 : Int32)))).2 (by decide) (by decide) (XS.aloadN X0.here hx rfl (hb hby d14_11) rfl rfl (XS.iloadN X0.here hx rfl (hb hby d14_12) rfl (XS.aloadN X0.here hx rfl (hb hby d14_13) rfl rfl k)))) ?_
  obtain ⟨cl2, Ar2, q2, S2, M2, P2, G2⟩ := id fp4
  have hin2 : ¬ ((2 : Int32) < 0 ∨ cl2.slots.size ≤ ((2 : Int32)).toNatClampNeg) := inb_of S2 ⟨by decide, by decide⟩
  obtain ⟨T3, h3, X3, e3, W3, st3⟩ := stR X0 hx hZ e0 Ar2 (j := (2 : Int32)) hin2 rfl (Sto.ofV Ar2 q2 fp5 (own_insKeep fp6 K0)) (g := (mkF m 14 #[rv a1, rv a2, rv b, iv (2 : Int32)] [(.ref a2), (.int (2 : Int32)), (.ref b)])) rfl rfl (hb hby d14_14)
  refine own_go st3 ?_
  clear st3 X0 e0
  have f4 : Arv Z h3 b k (.object "java/lang/Object") (10 : Int32) [(.ref el1), (.ref el2), (.ref a2), .null, .null, .null, .null, .null, .null, .null] .null := Arv.set Ar2 q2 S2 M2 P2 G2 rfl W3 2 rfl (Nat.le_of_ble_eq_true rfl)
  replace N0 := Fr.snoc X3 N0 big_b
  have ne5 : a1 ≠ b := (Exa.neArv fp0 fp4 (ow39 hw))
  replace fp0 := fp0.wr W3
  replace fp1 := fp1.other W3 (Or.inl ne5)
  replace fp2 := fp2.other W3 (Or.inl ne5)
  replace fp3 := fp3.other W3 (Or.inl ne5)
  clear fp4
  replace O0 := own_oldWr O0 W3 big_b
  replace K0 := K0.wr W3 (Or.inl (List.mem_of_getElem? (i := 1) rfl))
  clear W3
  clear Ar2 q2 S2 M2 P2 G2 hin2
  refine own_go (fun _ k => XS.aloadN X3.here hx rfl (hb hby d14_15) rfl rfl (XS.iloadN X3.here hx rfl (hb hby d14_16) rfl (XS.iconst X3.here hx rfl (hb hby d14_17) (XS.iadd X3.here hx rfl (hb hby d14_18) rfl k)))) ?_
  obtain ⟨T6, h6, X6, e6, W6, st6⟩ := putF X3 hx hZ hown (host := "") (Or.inl (ow78 hw)) Via.refl e3 fp1 fp0 (Or.inl (ow79 hw)) (ow39 hw) (ty := .int) own_fd0 rfl rfl (g := (mkF m 19 #[rv a1, rv a2, rv b, iv (2 : Int32)] [(.int (3 : Int32)), (.ref a1)])) rfl rfl (hb hby d14_19)
  refine own_go st6 ?_
  clear st6 X3 e3
  replace N0 := Fr.snoc X6 N0 big_a1
  replace fp0 := fp0.wr W6
  replace fp1 := fp1.same W6
  replace fp2 := fp2.other W6 (.inr (own_sn2 hw).symm)
  replace fp3 := fp3.other W6 (.inr (own_sn0 hw).symm)
  replace f4 := f4.other W6 ne5.symm
  replace O0 := own_oldWr O0 W6 big_a1
  replace K0 := K0.wr W6 (Or.inl (List.mem_of_getElem? (i := 0) rfl))
  clear W6
  show own_Go p e below s _ _ _ (T6.setTop (mkF m 22 #[rv a1, rv a2, rv b, iv (2 : Int32)] []))
  refine own_retV X6 hx hlk e6 hret (hb hby d14_22) (by show _ ≤ 0; omega) (by show _ ≤ 0; omega) ?_
  exact ⟨rfl, N0, K0, fp0, fp1, fp2, fp3, f4, fp5⟩
def Q_add1_2 (Z : State) (zc : Int32) (wd : Addr) (kd : ClassId) (wx : Addr) (wy : Addr) (wsp : Addr) (wspv : Addr) (wspk : ClassId) (a1 : Addr) (a2 : Addr) (b : Addr) (k : ClassId) (mc : Int32) (el1 : Addr) (el2 : Addr) (h0 : Heap) (v : Option Value) (h : Heap) (L : List Loc) : Prop := (v = some (.int (1 : Int32)) ∧ Fr Z.heap.size L ∧ Keep h0 h [a1, b] ∧ Exa Z h a1 "java/util/ArrayList" ∧ Fld Z h a1 "java/util/ArrayList" "size" "I" (.int (3 : Int32)) ∧ Fld Z h a1 "java/util/ArrayList" "elementData" "[Ljava/lang/Object;" (.ref b) ∧ Fld Z h a1 "java/util/AbstractList" "modCount" "I" (.int (mc + (1 : Int32))) ∧ Arv Z h b k (.object "java/lang/Object") (10 : Int32) [(.ref el1), (.ref el2), (.ref a2), .null, .null, .null, .null, .null, .null, .null] .null ∧ Ovr Z k "java/lang/Object")
theorem ef_add1_2 (m : MethodId) (x0 : Addr) (x1 : Addr) : entryFrame m #[(.ref x0), (.ref x1)] 2 = mkF m 0 #[rv x0, rv x1] [] := by first | (simp [entryFrame, mkF, argsToLocals, Value.category]; done) | rfl
set_option maxRecDepth 65536 in
set_option maxHeartbeats 40000000 in
theorem rm_add1_2 (l : Launch) (Z : State) (a0 : Array Value) (hw : own_W Z a0) {zc : Int32} {wd : Addr} {kd : ClassId} {wx : Addr} {wy : Addr} {wsp : Addr} {wspv : Addr} {wspk : ClassId} (hO : own_Olds Z zc wd kd wx wy wsp wspv wspk) (ws : List Jvm.Cond) (a1 : Addr) (a2 : Addr) (b : Addr) (k : ClassId) (mc : Int32) (el1 : Addr) (el2 : Addr) (h0 : Heap) (O0 : Ext Z.heap h0) (fp0 : Exa Z h0 a1 "java/util/ArrayList") (fp1 : Fld Z h0 a1 "java/util/ArrayList" "size" "I" (.int (2 : Int32))) (fp2 : Fld Z h0 a1 "java/util/ArrayList" "elementData" "[Ljava/lang/Object;" (.ref b)) (fp3 : Fld Z h0 a1 "java/util/AbstractList" "modCount" "I" (.int mc)) (fp4 : Arv Z h0 b k (.object "java/lang/Object") (10 : Int32) [(.ref el1), (.ref el2), .null, .null, .null, .null, .null, .null, .null, .null] .null) (fp5 : Ovr Z k "java/lang/Object") (fp6 : Ins Z h0 a2 "java/lang/Object" true) (big_a1 : Z.heap.size ≤ a1) (big_b : Z.heap.size ≤ b) :
    own_MF l Z h0 own_y7 jdk_38_method_25_code 2 (some .boolean) ({ frames := 1, cells := 0, slots := 0, locals := 15 } : Room) #[(.ref a1), (.ref a2)] (Q_add1_2 Z zc wd kd wx wy wsp wspv wspk a1 a2 b k mc el1 el2 h0) ws := by
  refine own_met (Q := (Q_add1_2 Z zc wd kd wx wy wsp wspv wspk a1 a2 b k mc el1 el2 h0)) _ _ (plainFor_of_name own_pn_2) ?_
  intro p e s m below meth c T X0 hx hby hml hret hlk hZ hown hnm e0
  replace hown : s.vm.findClass "java/util/ArrayList" = some m.cls := hown
  replace hnm : meth.name = "add" := hnm
  have hml : c.maxLocals = 2 := hml
  obtain ⟨oCS, oCz, oDE, oDV, oEx, oSh, oE1, oE2, oPF, oSPE, oSPC, oSPF, oSPV, oNe⟩ := id hO
  have N0 := Fr.nil Z.heap.size
  have K0 := Keep.refl h0 [a1, b]
  refine own_go (fun _ k => castTop (ef_add1_2 m a1 a2) k) ?_
  show own_Go p e below s _ _ _ (T.setTop (mkF m 0 #[rv a1, rv a2] []))
  refine own_go (fun _ k => XS.aloadN X0.here hx rfl (hb hby d13_0) rfl rfl (XS.dup X0.here hx rfl (hb hby d13_1) rfl rfl k)) ?_
  obtain ⟨T1, X1, e1, st1⟩ := getF X0 hx hZ hown (host := "") (Or.inl (ow89 hw)) (Via.of (ow90 hw)) e0 fp3 (g := (mkF m 2 #[rv a1, rv a2] [(.ref a1), (.ref a1)])) rfl rfl (hb hby d13_2)
  refine own_go st1 ?_
  clear st1 X0 e0
  refine own_go (fun _ k => XS.iconst X1.here hx rfl (hb hby d13_5) (XS.iadd X1.here hx rfl (hb hby d13_6) rfl k)) ?_
  obtain ⟨T2, h2, X2, e2, W2, st2⟩ := putF X1 hx hZ hown (host := "") (Or.inl (ow89 hw)) (Via.of (ow90 hw)) e1 fp3 fp0 (Or.inl (ow58 hw)) (ow39 hw) (ty := .int) own_fd0 rfl rfl (g := (mkF m 7 #[rv a1, rv a2] [(.int (mc + (1 : Int32))), (.ref a1)])) rfl rfl (hb hby d13_7)
  refine own_go st2 ?_
  clear st2 X1 e1
  replace N0 := Fr.snoc X2 N0 big_a1
  have ne3 : b ≠ a1 := (Ne.symm (Exa.neArv fp0 fp4 (ow39 hw)))
  replace fp0 := fp0.wr W2
  replace fp1 := fp1.other W2 (.inr (own_sn0 hw))
  replace fp2 := fp2.other W2 (.inr (own_sn1 hw))
  replace fp3 := fp3.same W2
  replace fp4 := fp4.other W2 ne3
  replace O0 := own_oldWr O0 W2 big_a1
  replace K0 := K0.wr W2 (Or.inl (List.mem_of_getElem? (i := 0) rfl))
  clear W2
  refine own_go (fun _ k => XS.aloadN X2.here hx rfl (hb hby d13_10) rfl rfl (XS.aloadN X2.here hx rfl (hb hby d13_11) rfl rfl (XS.aloadN X2.here hx rfl (hb hby d13_12) rfl rfl k))) ?_
  obtain ⟨T4, X4, e4, st4⟩ := getF X2 hx hZ hown (host := "") (Or.inl (ow60 hw)) Via.refl e2 fp2 (g := (mkF m 13 #[rv a1, rv a2] [(.ref a1), (.ref a2), (.ref a1)])) rfl rfl (hb hby d13_13)
  refine own_go st4 ?_
  clear st4 X2 e2
  refine own_go (fun _ k => XS.aloadN X4.here hx rfl (hb hby d13_16) rfl rfl k) ?_
  obtain ⟨T5, X5, e5, st5⟩ := getF X4 hx hZ hown (host := "") (Or.inl (ow78 hw)) Via.refl e4 fp1 (g := (mkF m 17 #[rv a1, rv a2] [(.ref a1), (.ref b), (.ref a2), (.ref a1)])) rfl rfl (hb hby d13_17)
  refine own_go st5 ?_
  clear st5 X4 e4
  obtain ⟨v6, T6, L6, X6, hQ6, st6⟩ := own_callP (y := own_y6) X5 hx hZ hown (ow91 hw) (ow92 hw) (ow94 hw) (ow93 hw) (ow40 hw) (ow95 hw) (rm_add3_2 l Z a0 hw hO [] a1 a2 b k (mc + (1 : Int32)) el1 el2 h2 O0 fp0 fp1 fp2 fp3 fp4 fp5 (own_insKeep fp6 K0) big_a1 big_b) 0 0 0 (by show _ ≤ 0; omega) (by show _ ≤ 0; omega) e5 fp0 (g := (mkF m 20 #[rv a1, rv a2] [(.int (2 : Int32)), (.ref b), (.ref a2), (.ref a1)])) rfl (by rw [hml]; rfl) [(.ref a2), (.ref b), (.int (2 : Int32))] [] (lenOf own_pd_4 rfl) rfl rfl (hb hby d13_20)
  obtain ⟨rfl, Nc14, Kc13, f7, f8, f9, f10, f11, f12⟩ := hQ6
  refine own_go st6 ?_
  clear st6 X5 e5
  replace N0 := Fr.app N0 Nc14
  clear Nc14
  replace fp0 := fp0.keep Kc13
  clear fp1
  clear fp2
  clear fp3
  clear fp4
  replace O0 := own_oldKeep O0 Kc13 (allS big_a1 (allS big_b all0))
  replace K0 := K0.trans Kc13 (allS (Or.inl (List.mem_of_getElem? (i := 0) rfl)) (allS (Or.inl (List.mem_of_getElem? (i := 1) rfl)) all0))
  clear Kc13
  refine own_go (fun _ k => XS.iconst X6.here hx rfl (hb hby d13_23) k) ?_
  show own_Go p e below s _ _ _ (T6.setTop (mkF m 24 #[rv a1, rv a2] [(.int (1 : Int32))]))
  refine own_retN X6 hx hlk (rfl : T6.heap = T6.heap) (t := .boolean) hret (by simp) (hb hby d13_24) (by show _ ≤ 0; omega) (by show _ ≤ 0; omega) ?_
  exact ⟨rfl, N0, K0, f7, f8, f9, f10, f11, f12⟩
def Q_add3_3 (Z : State) (zc : Int32) (wd : Addr) (kd : ClassId) (wx : Addr) (wy : Addr) (wsp : Addr) (wspv : Addr) (wspk : ClassId) (a1 : Addr) (a2 : Addr) (b : Addr) (k : ClassId) (mc : Int32) (el1 : Addr) (el2 : Addr) (el3 : Addr) (h0 : Heap) (v : Option Value) (h : Heap) (L : List Loc) : Prop := (v = none ∧ Fr Z.heap.size L ∧ Keep h0 h [a1, b] ∧ Exa Z h a1 "java/util/ArrayList" ∧ Fld Z h a1 "java/util/ArrayList" "size" "I" (.int (4 : Int32)) ∧ Fld Z h a1 "java/util/ArrayList" "elementData" "[Ljava/lang/Object;" (.ref b) ∧ Fld Z h a1 "java/util/AbstractList" "modCount" "I" (.int mc) ∧ Arv Z h b k (.object "java/lang/Object") (10 : Int32) [(.ref el1), (.ref el2), (.ref el3), (.ref a2), .null, .null, .null, .null, .null, .null] .null ∧ Ovr Z k "java/lang/Object")
theorem ef_add3_3 (m : MethodId) (x0 : Addr) (x1 : Addr) (x2 : Addr) : entryFrame m #[(.ref x0), (.ref x1), (.ref x2), (.int (3 : Int32))] 4 = mkF m 0 #[rv x0, rv x1, rv x2, iv (3 : Int32)] [] := by first | (simp [entryFrame, mkF, argsToLocals, Value.category]; done) | rfl
set_option maxRecDepth 65536 in
set_option maxHeartbeats 40000000 in
theorem rm_add3_3 (l : Launch) (Z : State) (a0 : Array Value) (hw : own_W Z a0) {zc : Int32} {wd : Addr} {kd : ClassId} {wx : Addr} {wy : Addr} {wsp : Addr} {wspv : Addr} {wspk : ClassId} (hO : own_Olds Z zc wd kd wx wy wsp wspv wspk) (ws : List Jvm.Cond) (a1 : Addr) (a2 : Addr) (b : Addr) (k : ClassId) (mc : Int32) (el1 : Addr) (el2 : Addr) (el3 : Addr) (h0 : Heap) (O0 : Ext Z.heap h0) (fp0 : Exa Z h0 a1 "java/util/ArrayList") (fp1 : Fld Z h0 a1 "java/util/ArrayList" "size" "I" (.int (3 : Int32))) (fp2 : Fld Z h0 a1 "java/util/ArrayList" "elementData" "[Ljava/lang/Object;" (.ref b)) (fp3 : Fld Z h0 a1 "java/util/AbstractList" "modCount" "I" (.int mc)) (fp4 : Arv Z h0 b k (.object "java/lang/Object") (10 : Int32) [(.ref el1), (.ref el2), (.ref el3), .null, .null, .null, .null, .null, .null, .null] .null) (fp5 : Ovr Z k "java/lang/Object") (fp6 : Ins Z h0 a2 "java/lang/Object" true) (big_a1 : Z.heap.size ≤ a1) (big_b : Z.heap.size ≤ b) :
    own_MF l Z h0 own_y6 jdk_38_method_24_code 4 none ({ frames := 0, cells := 0, slots := 0, locals := 0 } : Room) #[(.ref a1), (.ref a2), (.ref b), (.int (3 : Int32))] (Q_add3_3 Z zc wd kd wx wy wsp wspv wspk a1 a2 b k mc el1 el2 el3 h0) ws := by
  refine own_met (Q := (Q_add3_3 Z zc wd kd wx wy wsp wspv wspk a1 a2 b k mc el1 el2 el3 h0)) _ _ (plainFor_of_name own_pn_2) ?_
  intro p e s m below meth c T X0 hx hby hml hret hlk hZ hown hnm e0
  replace hown : s.vm.findClass "java/util/ArrayList" = some m.cls := hown
  replace hnm : meth.name = "add" := hnm
  have hml : c.maxLocals = 4 := hml
  obtain ⟨oCS, oCz, oDE, oDV, oEx, oSh, oE1, oE2, oPF, oSPE, oSPC, oSPF, oSPV, oNe⟩ := id hO
  have N0 := Fr.nil Z.heap.size
  have K0 := Keep.refl h0 [a1, b]
  refine own_go (fun _ k => castTop (ef_add3_3 m a1 a2 b) k) ?_
  show own_Go p e below s _ _ _ (T.setTop (mkF m 0 #[rv a1, rv a2, rv b, iv (3 : Int32)] []))
  refine own_go (fun _ k => XS.iloadN X0.here hx rfl (hb hby d14_0) rfl (XS.aloadN X0.here hx rfl (hb hby d14_1) rfl rfl k)) ?_
  show own_Go p e below s _ _ _ (T.setTop (mkF m 2 #[rv a1, rv a2, rv b, iv (3 : Int32)] [(.ref b), (.int (3 : Int32))]))
  obtain ⟨cl1, Ar1, -, S1, M1, -, -⟩ := id fp4
  refine own_go (X0.arraylength hx (by rw [e0]; exact Ar1.1) (State.isArrayOf_alike hZ.alike Ar1.2.1) (g := (mkF m 2 #[rv a1, rv a2, rv b, iv (3 : Int32)] [(.ref b), (.int (3 : Int32))])) rfl rfl (hb hby d14_2)) ?_
  rw [len_of S1 M1]
  refine own_go (fun _ k => XS.icmpYes X0.here hx rfl (pc0 := 3) (pc' := 11) rfl (hb hby d14_3) rfl (feq (by decide : ¬ ((3 : Int32) = (10 : Int32)))).2 (by decide) (by decide) (XS.aloadN X0.here hx rfl (hb hby d14_11) rfl rfl (XS.iloadN X0.here hx rfl (hb hby d14_12) rfl (XS.aloadN X0.here hx rfl (hb hby d14_13) rfl rfl k)))) ?_
  obtain ⟨cl2, Ar2, q2, S2, M2, P2, G2⟩ := id fp4
  have hin2 : ¬ ((3 : Int32) < 0 ∨ cl2.slots.size ≤ ((3 : Int32)).toNatClampNeg) := inb_of S2 ⟨by decide, by decide⟩
  obtain ⟨T3, h3, X3, e3, W3, st3⟩ := stR X0 hx hZ e0 Ar2 (j := (3 : Int32)) hin2 rfl (Sto.ofV Ar2 q2 fp5 (own_insKeep fp6 K0)) (g := (mkF m 14 #[rv a1, rv a2, rv b, iv (3 : Int32)] [(.ref a2), (.int (3 : Int32)), (.ref b)])) rfl rfl (hb hby d14_14)
  refine own_go st3 ?_
  clear st3 X0 e0
  have f4 : Arv Z h3 b k (.object "java/lang/Object") (10 : Int32) [(.ref el1), (.ref el2), (.ref el3), (.ref a2), .null, .null, .null, .null, .null, .null] .null := Arv.set Ar2 q2 S2 M2 P2 G2 rfl W3 3 rfl (Nat.le_of_ble_eq_true rfl)
  replace N0 := Fr.snoc X3 N0 big_b
  have ne5 : a1 ≠ b := (Exa.neArv fp0 fp4 (ow39 hw))
  replace fp0 := fp0.wr W3
  replace fp1 := fp1.other W3 (Or.inl ne5)
  replace fp2 := fp2.other W3 (Or.inl ne5)
  replace fp3 := fp3.other W3 (Or.inl ne5)
  clear fp4
  replace O0 := own_oldWr O0 W3 big_b
  replace K0 := K0.wr W3 (Or.inl (List.mem_of_getElem? (i := 1) rfl))
  clear W3
  clear Ar2 q2 S2 M2 P2 G2 hin2
  refine own_go (fun _ k => XS.aloadN X3.here hx rfl (hb hby d14_15) rfl rfl (XS.iloadN X3.here hx rfl (hb hby d14_16) rfl (XS.iconst X3.here hx rfl (hb hby d14_17) (XS.iadd X3.here hx rfl (hb hby d14_18) rfl k)))) ?_
  obtain ⟨T6, h6, X6, e6, W6, st6⟩ := putF X3 hx hZ hown (host := "") (Or.inl (ow78 hw)) Via.refl e3 fp1 fp0 (Or.inl (ow79 hw)) (ow39 hw) (ty := .int) own_fd0 rfl rfl (g := (mkF m 19 #[rv a1, rv a2, rv b, iv (3 : Int32)] [(.int (4 : Int32)), (.ref a1)])) rfl rfl (hb hby d14_19)
  refine own_go st6 ?_
  clear st6 X3 e3
  replace N0 := Fr.snoc X6 N0 big_a1
  replace fp0 := fp0.wr W6
  replace fp1 := fp1.same W6
  replace fp2 := fp2.other W6 (.inr (own_sn2 hw).symm)
  replace fp3 := fp3.other W6 (.inr (own_sn0 hw).symm)
  replace f4 := f4.other W6 ne5.symm
  replace O0 := own_oldWr O0 W6 big_a1
  replace K0 := K0.wr W6 (Or.inl (List.mem_of_getElem? (i := 0) rfl))
  clear W6
  show own_Go p e below s _ _ _ (T6.setTop (mkF m 22 #[rv a1, rv a2, rv b, iv (3 : Int32)] []))
  refine own_retV X6 hx hlk e6 hret (hb hby d14_22) (by show _ ≤ 0; omega) (by show _ ≤ 0; omega) ?_
  exact ⟨rfl, N0, K0, fp0, fp1, fp2, fp3, f4, fp5⟩
def Q_add1_3 (Z : State) (zc : Int32) (wd : Addr) (kd : ClassId) (wx : Addr) (wy : Addr) (wsp : Addr) (wspv : Addr) (wspk : ClassId) (a1 : Addr) (a2 : Addr) (b : Addr) (k : ClassId) (mc : Int32) (el1 : Addr) (el2 : Addr) (el3 : Addr) (h0 : Heap) (v : Option Value) (h : Heap) (L : List Loc) : Prop := (v = some (.int (1 : Int32)) ∧ Fr Z.heap.size L ∧ Keep h0 h [a1, b] ∧ Exa Z h a1 "java/util/ArrayList" ∧ Fld Z h a1 "java/util/ArrayList" "size" "I" (.int (4 : Int32)) ∧ Fld Z h a1 "java/util/ArrayList" "elementData" "[Ljava/lang/Object;" (.ref b) ∧ Fld Z h a1 "java/util/AbstractList" "modCount" "I" (.int (mc + (1 : Int32))) ∧ Arv Z h b k (.object "java/lang/Object") (10 : Int32) [(.ref el1), (.ref el2), (.ref el3), (.ref a2), .null, .null, .null, .null, .null, .null] .null ∧ Ovr Z k "java/lang/Object")
theorem ef_add1_3 (m : MethodId) (x0 : Addr) (x1 : Addr) : entryFrame m #[(.ref x0), (.ref x1)] 2 = mkF m 0 #[rv x0, rv x1] [] := by first | (simp [entryFrame, mkF, argsToLocals, Value.category]; done) | rfl
set_option maxRecDepth 65536 in
set_option maxHeartbeats 40000000 in
theorem rm_add1_3 (l : Launch) (Z : State) (a0 : Array Value) (hw : own_W Z a0) {zc : Int32} {wd : Addr} {kd : ClassId} {wx : Addr} {wy : Addr} {wsp : Addr} {wspv : Addr} {wspk : ClassId} (hO : own_Olds Z zc wd kd wx wy wsp wspv wspk) (ws : List Jvm.Cond) (a1 : Addr) (a2 : Addr) (b : Addr) (k : ClassId) (mc : Int32) (el1 : Addr) (el2 : Addr) (el3 : Addr) (h0 : Heap) (O0 : Ext Z.heap h0) (fp0 : Exa Z h0 a1 "java/util/ArrayList") (fp1 : Fld Z h0 a1 "java/util/ArrayList" "size" "I" (.int (3 : Int32))) (fp2 : Fld Z h0 a1 "java/util/ArrayList" "elementData" "[Ljava/lang/Object;" (.ref b)) (fp3 : Fld Z h0 a1 "java/util/AbstractList" "modCount" "I" (.int mc)) (fp4 : Arv Z h0 b k (.object "java/lang/Object") (10 : Int32) [(.ref el1), (.ref el2), (.ref el3), .null, .null, .null, .null, .null, .null, .null] .null) (fp5 : Ovr Z k "java/lang/Object") (fp6 : Ins Z h0 a2 "java/lang/Object" true) (big_a1 : Z.heap.size ≤ a1) (big_b : Z.heap.size ≤ b) :
    own_MF l Z h0 own_y7 jdk_38_method_25_code 2 (some .boolean) ({ frames := 1, cells := 0, slots := 0, locals := 15 } : Room) #[(.ref a1), (.ref a2)] (Q_add1_3 Z zc wd kd wx wy wsp wspv wspk a1 a2 b k mc el1 el2 el3 h0) ws := by
  refine own_met (Q := (Q_add1_3 Z zc wd kd wx wy wsp wspv wspk a1 a2 b k mc el1 el2 el3 h0)) _ _ (plainFor_of_name own_pn_2) ?_
  intro p e s m below meth c T X0 hx hby hml hret hlk hZ hown hnm e0
  replace hown : s.vm.findClass "java/util/ArrayList" = some m.cls := hown
  replace hnm : meth.name = "add" := hnm
  have hml : c.maxLocals = 2 := hml
  obtain ⟨oCS, oCz, oDE, oDV, oEx, oSh, oE1, oE2, oPF, oSPE, oSPC, oSPF, oSPV, oNe⟩ := id hO
  have N0 := Fr.nil Z.heap.size
  have K0 := Keep.refl h0 [a1, b]
  refine own_go (fun _ k => castTop (ef_add1_3 m a1 a2) k) ?_
  show own_Go p e below s _ _ _ (T.setTop (mkF m 0 #[rv a1, rv a2] []))
  refine own_go (fun _ k => XS.aloadN X0.here hx rfl (hb hby d13_0) rfl rfl (XS.dup X0.here hx rfl (hb hby d13_1) rfl rfl k)) ?_
  obtain ⟨T1, X1, e1, st1⟩ := getF X0 hx hZ hown (host := "") (Or.inl (ow89 hw)) (Via.of (ow90 hw)) e0 fp3 (g := (mkF m 2 #[rv a1, rv a2] [(.ref a1), (.ref a1)])) rfl rfl (hb hby d13_2)
  refine own_go st1 ?_
  clear st1 X0 e0
  refine own_go (fun _ k => XS.iconst X1.here hx rfl (hb hby d13_5) (XS.iadd X1.here hx rfl (hb hby d13_6) rfl k)) ?_
  obtain ⟨T2, h2, X2, e2, W2, st2⟩ := putF X1 hx hZ hown (host := "") (Or.inl (ow89 hw)) (Via.of (ow90 hw)) e1 fp3 fp0 (Or.inl (ow58 hw)) (ow39 hw) (ty := .int) own_fd0 rfl rfl (g := (mkF m 7 #[rv a1, rv a2] [(.int (mc + (1 : Int32))), (.ref a1)])) rfl rfl (hb hby d13_7)
  refine own_go st2 ?_
  clear st2 X1 e1
  replace N0 := Fr.snoc X2 N0 big_a1
  have ne3 : b ≠ a1 := (Ne.symm (Exa.neArv fp0 fp4 (ow39 hw)))
  replace fp0 := fp0.wr W2
  replace fp1 := fp1.other W2 (.inr (own_sn0 hw))
  replace fp2 := fp2.other W2 (.inr (own_sn1 hw))
  replace fp3 := fp3.same W2
  replace fp4 := fp4.other W2 ne3
  replace O0 := own_oldWr O0 W2 big_a1
  replace K0 := K0.wr W2 (Or.inl (List.mem_of_getElem? (i := 0) rfl))
  clear W2
  refine own_go (fun _ k => XS.aloadN X2.here hx rfl (hb hby d13_10) rfl rfl (XS.aloadN X2.here hx rfl (hb hby d13_11) rfl rfl (XS.aloadN X2.here hx rfl (hb hby d13_12) rfl rfl k))) ?_
  obtain ⟨T4, X4, e4, st4⟩ := getF X2 hx hZ hown (host := "") (Or.inl (ow60 hw)) Via.refl e2 fp2 (g := (mkF m 13 #[rv a1, rv a2] [(.ref a1), (.ref a2), (.ref a1)])) rfl rfl (hb hby d13_13)
  refine own_go st4 ?_
  clear st4 X2 e2
  refine own_go (fun _ k => XS.aloadN X4.here hx rfl (hb hby d13_16) rfl rfl k) ?_
  obtain ⟨T5, X5, e5, st5⟩ := getF X4 hx hZ hown (host := "") (Or.inl (ow78 hw)) Via.refl e4 fp1 (g := (mkF m 17 #[rv a1, rv a2] [(.ref a1), (.ref b), (.ref a2), (.ref a1)])) rfl rfl (hb hby d13_17)
  refine own_go st5 ?_
  clear st5 X4 e4
  obtain ⟨v6, T6, L6, X6, hQ6, st6⟩ := own_callP (y := own_y6) X5 hx hZ hown (ow91 hw) (ow92 hw) (ow94 hw) (ow93 hw) (ow40 hw) (ow95 hw) (rm_add3_3 l Z a0 hw hO [] a1 a2 b k (mc + (1 : Int32)) el1 el2 el3 h2 O0 fp0 fp1 fp2 fp3 fp4 fp5 (own_insKeep fp6 K0) big_a1 big_b) 0 0 0 (by show _ ≤ 0; omega) (by show _ ≤ 0; omega) e5 fp0 (g := (mkF m 20 #[rv a1, rv a2] [(.int (3 : Int32)), (.ref b), (.ref a2), (.ref a1)])) rfl (by rw [hml]; rfl) [(.ref a2), (.ref b), (.int (3 : Int32))] [] (lenOf own_pd_4 rfl) rfl rfl (hb hby d13_20)
  obtain ⟨rfl, Nc14, Kc13, f7, f8, f9, f10, f11, f12⟩ := hQ6
  refine own_go st6 ?_
  clear st6 X5 e5
  replace N0 := Fr.app N0 Nc14
  clear Nc14
  replace fp0 := fp0.keep Kc13
  clear fp1
  clear fp2
  clear fp3
  clear fp4
  replace O0 := own_oldKeep O0 Kc13 (allS big_a1 (allS big_b all0))
  replace K0 := K0.trans Kc13 (allS (Or.inl (List.mem_of_getElem? (i := 0) rfl)) (allS (Or.inl (List.mem_of_getElem? (i := 1) rfl)) all0))
  clear Kc13
  refine own_go (fun _ k => XS.iconst X6.here hx rfl (hb hby d13_23) k) ?_
  show own_Go p e below s _ _ _ (T6.setTop (mkF m 24 #[rv a1, rv a2] [(.int (1 : Int32))]))
  refine own_retN X6 hx hlk (rfl : T6.heap = T6.heap) (t := .boolean) hret (by simp) (hb hby d13_24) (by show _ ≤ 0; omega) (by show _ ≤ 0; omega) ?_
  exact ⟨rfl, N0, K0, f7, f8, f9, f10, f11, f12⟩
theorem d12_0 : decode jdk_38_method_8_code 0 = .ok (.aload_n 0, 1) := by decide +kernel
theorem d12_1 : decode jdk_38_method_8_code 1 = .ok (.getfield 48, 3) := by decide +kernel
theorem d12_4 : decode jdk_38_method_8_code 4 = .ok (.ireturn, 1) := by decide +kernel
def Q_alsize (Z : State) (zc : Int32) (wd : Addr) (kd : ClassId) (wx : Addr) (wy : Addr) (wsp : Addr) (wspv : Addr) (wspk : ClassId) (a1 : Addr) (w : Int32) (h0 : Heap) (v : Option Value) (h : Heap) (L : List Loc) : Prop := (v = some (.int w) ∧ Fr Z.heap.size L ∧ h = h0)
theorem ef_alsize (m : MethodId) (x0 : Addr) : entryFrame m #[(.ref x0)] 1 = mkF m 0 #[rv x0] [] := by first | (simp [entryFrame, mkF, argsToLocals, Value.category]; done) | rfl
set_option maxRecDepth 65536 in
set_option maxHeartbeats 40000000 in
theorem rm_alsize (l : Launch) (Z : State) (a0 : Array Value) (hw : own_W Z a0) {zc : Int32} {wd : Addr} {kd : ClassId} {wx : Addr} {wy : Addr} {wsp : Addr} {wspv : Addr} {wspk : ClassId} (hO : own_Olds Z zc wd kd wx wy wsp wspv wspk) (ws : List Jvm.Cond) (a1 : Addr) (w : Int32) (h0 : Heap) (O0 : Ext Z.heap h0) (fp0 : Fld Z h0 a1 "java/util/ArrayList" "size" "I" (.int w)) :
    own_MF l Z h0 own_y8 jdk_38_method_8_code 1 (some .int) ({ frames := 0, cells := 0, slots := 0, locals := 0 } : Room) #[(.ref a1)] (Q_alsize Z zc wd kd wx wy wsp wspv wspk a1 w h0) ws := by
  refine own_met (Q := (Q_alsize Z zc wd kd wx wy wsp wspv wspk a1 w h0)) _ _ (plainFor_of_name own_pn_2) ?_
  intro p e s m below meth c T X0 hx hby hml hret hlk hZ hown hnm e0
  replace hown : s.vm.findClass "java/util/ArrayList" = some m.cls := hown
  replace hnm : meth.name = "size" := hnm
  have hml : c.maxLocals = 1 := hml
  obtain ⟨oCS, oCz, oDE, oDV, oEx, oSh, oE1, oE2, oPF, oSPE, oSPC, oSPF, oSPV, oNe⟩ := id hO
  have N0 := Fr.nil Z.heap.size
  have K0 := Keep.refl h0 []
  refine own_go (fun _ k => castTop (ef_alsize m a1) k) ?_
  show own_Go p e below s _ _ _ (T.setTop (mkF m 0 #[rv a1] []))
  refine own_go (fun _ k => XS.aloadN X0.here hx rfl (hb hby d12_0) rfl rfl k) ?_
  obtain ⟨T1, X1, e1, st1⟩ := getF X0 hx hZ hown (host := "") (Or.inl (ow78 hw)) Via.refl e0 (fp0.keep K0 nin0) (g := (mkF m 1 #[rv a1] [(.ref a1)])) rfl rfl (hb hby d12_1)
  refine own_go st1 ?_
  clear st1 X0 e0
  show own_Go p e below s _ _ _ (T1.setTop (mkF m 4 #[rv a1] [(.int w)]))
  refine own_retI X1 hx hlk e1 hret (hb hby d12_4) (by show _ ≤ 0; omega) (by show _ ≤ 0; omega) ?_
  exact ⟨rfl, N0, rfl⟩
theorem d21_0 : decode jdk_41_method_11_code 0 = .ok (.iload_n 0, 1) := by decide +kernel
theorem d21_1 : decode jdk_41_method_11_code 1 = .ok (.ifCond .lt 8, 3) := by decide +kernel
theorem d21_4 : decode jdk_41_method_11_code 4 = .ok (.iload_n 0, 1) := by decide +kernel
theorem d21_5 : decode jdk_41_method_11_code 5 = .ok (.iload_n 1, 1) := by decide +kernel
theorem d21_6 : decode jdk_41_method_11_code 6 = .ok (.if_icmp .lt 10, 3) := by decide +kernel
theorem d21_16 : decode jdk_41_method_11_code 16 = .ok (.iload_n 0, 1) := by decide +kernel
theorem d21_17 : decode jdk_41_method_11_code 17 = .ok (.ireturn, 1) := by decide +kernel
def Q_pci (Z : State) (zc : Int32) (wd : Addr) (kd : ClassId) (wx : Addr) (wy : Addr) (wsp : Addr) (wspv : Addr) (wspk : ClassId) (p1 : Int32) (p2 : Int32) (h0 : Heap) (v : Option Value) (h : Heap) (L : List Loc) : Prop := (v = some (.int p1) ∧ Fr Z.heap.size L ∧ h = h0)
theorem ef_pci (m : MethodId) (x0 : Int32) (x1 : Int32) : entryFrame m #[(.int x0), (.int x1), .null] 3 = mkF m 0 #[iv x0, iv x1, .val .null] [] := by first | (simp [entryFrame, mkF, argsToLocals, Value.category]; done) | rfl
set_option maxRecDepth 65536 in
set_option maxHeartbeats 40000000 in
theorem rm_pci (l : Launch) (Z : State) (a0 : Array Value) (hw : own_W Z a0) {zc : Int32} {wd : Addr} {kd : ClassId} {wx : Addr} {wy : Addr} {wsp : Addr} {wspv : Addr} {wspk : ClassId} (hO : own_Olds Z zc wd kd wx wy wsp wspv wspk) (ws : List Jvm.Cond) (p1 : Int32) (p2 : Int32) (h0 : Heap) (O0 : Ext Z.heap h0) (hp1 : ¬ (p1 < (0 : Int32))) (hp2 : p1 < p2) :
    own_MF l Z h0 own_y9 jdk_41_method_11_code 3 (some .int) ({ frames := 0, cells := 0, slots := 0, locals := 0 } : Room) #[(.int p1), (.int p2), .null] (Q_pci Z zc wd kd wx wy wsp wspv wspk p1 p2 h0) ws := by
  refine own_met (Q := (Q_pci Z zc wd kd wx wy wsp wspv wspk p1 p2 h0)) _ _ (plainFor_of_name own_pn_3) ?_
  intro p e s m below meth c T X0 hx hby hml hret hlk hZ hown hnm e0
  replace hown : s.vm.findClass "jdk/internal/util/Preconditions" = some m.cls := hown
  replace hnm : meth.name = "checkIndex" := hnm
  have hml : c.maxLocals = 3 := hml
  obtain ⟨oCS, oCz, oDE, oDV, oEx, oSh, oE1, oE2, oPF, oSPE, oSPC, oSPF, oSPV, oNe⟩ := id hO
  have N0 := Fr.nil Z.heap.size
  have K0 := Keep.refl h0 []
  refine own_go (fun _ k => castTop (ef_pci m p1 p2) k) ?_
  show own_Go p e below s _ _ _ (T.setTop (mkF m 0 #[iv p1, iv p2, .val .null] []))
  refine own_go (fun _ k => XS.iloadN X0.here hx rfl (hb hby d21_0) rfl (XS.ifNo X0.here hx rfl (hb hby d21_1) rfl ((if0 _ _).trans (flt hp1).1) (XS.iloadN X0.here hx rfl (hb hby d21_4) rfl (XS.iloadN X0.here hx rfl (hb hby d21_5) rfl (XS.icmpYes X0.here hx rfl (pc0 := 6) (pc' := 16) rfl (hb hby d21_6) rfl (tlt hp2).1 (by decide) (by decide) (XS.iloadN X0.here hx rfl (hb hby d21_16) rfl k)))))) ?_
  show own_Go p e below s _ _ _ (T.setTop (mkF m 17 #[iv p1, iv p2, .val .null] [(.int p1)]))
  refine own_retI X0 hx hlk e0 hret (hb hby d21_17) (by show _ ≤ 0; omega) (by show _ ≤ 0; omega) ?_
  exact ⟨rfl, N0, rfl⟩
theorem d20_0 : decode jdk_31_method_17_code 0 = .ok (.iload_n 0, 1) := by decide +kernel
theorem d20_1 : decode jdk_31_method_17_code 1 = .ok (.iload_n 1, 1) := by decide +kernel
theorem d20_2 : decode jdk_31_method_17_code 2 = .ok (.aconst_null, 1) := by decide +kernel
theorem d20_3 : decode jdk_31_method_17_code 3 = .ok (.invokestatic 105, 3) := by decide +kernel
theorem d20_6 : decode jdk_31_method_17_code 6 = .ok (.ireturn, 1) := by decide +kernel
def Q_oci (Z : State) (zc : Int32) (wd : Addr) (kd : ClassId) (wx : Addr) (wy : Addr) (wsp : Addr) (wspv : Addr) (wspk : ClassId) (p1 : Int32) (p2 : Int32) (h0 : Heap) (v : Option Value) (h : Heap) (L : List Loc) : Prop := (v = some (.int p1) ∧ Fr Z.heap.size L ∧ h = h0)
theorem ef_oci (m : MethodId) (x0 : Int32) (x1 : Int32) : entryFrame m #[(.int x0), (.int x1)] 2 = mkF m 0 #[iv x0, iv x1] [] := by first | (simp [entryFrame, mkF, argsToLocals, Value.category]; done) | rfl
set_option maxRecDepth 65536 in
set_option maxHeartbeats 40000000 in
theorem rm_oci (l : Launch) (Z : State) (a0 : Array Value) (hw : own_W Z a0) {zc : Int32} {wd : Addr} {kd : ClassId} {wx : Addr} {wy : Addr} {wsp : Addr} {wspv : Addr} {wspk : ClassId} (hO : own_Olds Z zc wd kd wx wy wsp wspv wspk) (ws : List Jvm.Cond) (p1 : Int32) (p2 : Int32) (h0 : Heap) (O0 : Ext Z.heap h0) (hp1 : ¬ (p1 < (0 : Int32))) (hp2 : p1 < p2) :
    own_MF l Z h0 own_y10 jdk_31_method_17_code 2 (some .int) ({ frames := 1, cells := 0, slots := 0, locals := 14 } : Room) #[(.int p1), (.int p2)] (Q_oci Z zc wd kd wx wy wsp wspv wspk p1 p2 h0) ws := by
  refine own_met (Q := (Q_oci Z zc wd kd wx wy wsp wspv wspk p1 p2 h0)) _ _ (plainFor_of_name own_pn_4) ?_
  intro p e s m below meth c T X0 hx hby hml hret hlk hZ hown hnm e0
  replace hown : s.vm.findClass "java/util/Objects" = some m.cls := hown
  replace hnm : meth.name = "checkIndex" := hnm
  have hml : c.maxLocals = 2 := hml
  obtain ⟨oCS, oCz, oDE, oDV, oEx, oSh, oE1, oE2, oPF, oSPE, oSPC, oSPF, oSPV, oNe⟩ := id hO
  have N0 := Fr.nil Z.heap.size
  have K0 := Keep.refl h0 []
  refine own_go (fun _ k => castTop (ef_oci m p1 p2) k) ?_
  show own_Go p e below s _ _ _ (T.setTop (mkF m 0 #[iv p1, iv p2] []))
  refine own_go (fun _ k => XS.iloadN X0.here hx rfl (hb hby d20_0) rfl (XS.iloadN X0.here hx rfl (hb hby d20_1) rfl (XS.aconstNull X0.here hx rfl (hb hby d20_2) k))) ?_
  obtain ⟨v1, T1, L1, X1, hQ1, st1⟩ := own_callS (y := own_y9) X0 hx hZ hown (ow128 hw) (ow129 hw) (ow130 hw) (ow131 hw) (rm_pci l Z a0 hw hO [] p1 p2 h0 O0 hp1 hp2) 0 0 0 (by show _ ≤ 0; omega) (by show _ ≤ 0; omega) e0 (g := (mkF m 3 #[iv p1, iv p2] [.null, (.int p2), (.int p1)])) rfl (by rw [hml]; rfl) [(.int p1), (.int p2), .null] [] (lenOf own_pd_5 rfl) rfl rfl (hb hby d20_3)
  obtain ⟨rfl, Nc3, Kc2⟩ := hQ1
  refine own_go st1 ?_
  clear st1 X0 e0
  replace N0 := Fr.app N0 Nc3
  clear Nc3
  show own_Go p e below s _ _ _ (T1.setTop (mkF m 6 #[iv p1, iv p2] [(.int p1)]))
  refine own_retI X1 hx hlk Kc2 hret (hb hby d20_6) (by show _ ≤ 0; omega) (by show _ ≤ 0; omega) ?_
  exact ⟨rfl, N0, rfl⟩
theorem d22_0 : decode jdk_38_method_18_code 0 = .ok (.aload_n 0, 1) := by decide +kernel
theorem d22_1 : decode jdk_38_method_18_code 1 = .ok (.getfield 9, 3) := by decide +kernel
theorem d22_4 : decode jdk_38_method_18_code 4 = .ok (.iload_n 1, 1) := by decide +kernel
theorem d22_5 : decode jdk_38_method_18_code 5 = .ok (.aaload, 1) := by decide +kernel
theorem d22_6 : decode jdk_38_method_18_code 6 = .ok (.areturn, 1) := by decide +kernel
def Q_aled_0 (Z : State) (zc : Int32) (wd : Addr) (kd : ClassId) (wx : Addr) (wy : Addr) (wsp : Addr) (wspv : Addr) (wspk : ClassId) (a1 : Addr) (b : Addr) (k : ClassId) (el1 : Addr) (gw2 : Value) (gw3 : Value) (gw4 : Value) (gw5 : Value) (gw6 : Value) (gw7 : Value) (gw8 : Value) (gw9 : Value) (gw10 : Value) (h0 : Heap) (v : Option Value) (h : Heap) (L : List Loc) : Prop := (v = some (.ref el1) ∧ Fr Z.heap.size L ∧ h = h0)
theorem ef_aled_0 (m : MethodId) (x0 : Addr) : entryFrame m #[(.ref x0), (.int (0 : Int32))] 2 = mkF m 0 #[rv x0, iv (0 : Int32)] [] := by first | (simp [entryFrame, mkF, argsToLocals, Value.category]; done) | rfl
set_option maxRecDepth 65536 in
set_option maxHeartbeats 40000000 in
theorem rm_aled_0 (l : Launch) (Z : State) (a0 : Array Value) (hw : own_W Z a0) {zc : Int32} {wd : Addr} {kd : ClassId} {wx : Addr} {wy : Addr} {wsp : Addr} {wspv : Addr} {wspk : ClassId} (hO : own_Olds Z zc wd kd wx wy wsp wspv wspk) (ws : List Jvm.Cond) (a1 : Addr) (b : Addr) (k : ClassId) (el1 : Addr) (gw2 : Value) (gw3 : Value) (gw4 : Value) (gw5 : Value) (gw6 : Value) (gw7 : Value) (gw8 : Value) (gw9 : Value) (gw10 : Value) (h0 : Heap) (O0 : Ext Z.heap h0) (r_gw2 : gw2.isRef = true) (r_gw3 : gw3.isRef = true) (r_gw4 : gw4.isRef = true) (r_gw5 : gw5.isRef = true) (r_gw6 : gw6.isRef = true) (r_gw7 : gw7.isRef = true) (r_gw8 : gw8.isRef = true) (r_gw9 : gw9.isRef = true) (r_gw10 : gw10.isRef = true) (fp0 : Exa Z h0 a1 "java/util/ArrayList") (fp1 : Fld Z h0 a1 "java/util/ArrayList" "elementData" "[Ljava/lang/Object;" (.ref b)) (fp2 : Arv Z h0 b k (.object "java/lang/Object") (10 : Int32) [(.ref el1), gw2, gw3, gw4, gw5, gw6, gw7, gw8, gw9, gw10] .null) :
    own_MF l Z h0 own_y11 jdk_38_method_18_code 2 (some (.object "java/lang/Object")) ({ frames := 0, cells := 0, slots := 0, locals := 0 } : Room) #[(.ref a1), (.int (0 : Int32))] (Q_aled_0 Z zc wd kd wx wy wsp wspv wspk a1 b k el1 gw2 gw3 gw4 gw5 gw6 gw7 gw8 gw9 gw10 h0) ws := by
  refine own_met (Q := (Q_aled_0 Z zc wd kd wx wy wsp wspv wspk a1 b k el1 gw2 gw3 gw4 gw5 gw6 gw7 gw8 gw9 gw10 h0)) _ _ (plainFor_of_name own_pn_2) ?_
  intro p e s m below meth c T X0 hx hby hml hret hlk hZ hown hnm e0
  replace hown : s.vm.findClass "java/util/ArrayList" = some m.cls := hown
  replace hnm : meth.name = "elementData" := hnm
  have hml : c.maxLocals = 2 := hml
  obtain ⟨oCS, oCz, oDE, oDV, oEx, oSh, oE1, oE2, oPF, oSPE, oSPC, oSPF, oSPV, oNe⟩ := id hO
  have N0 := Fr.nil Z.heap.size
  have K0 := Keep.refl h0 []
  refine own_go (fun _ k => castTop (ef_aled_0 m a1) k) ?_
  show own_Go p e below s _ _ _ (T.setTop (mkF m 0 #[rv a1, iv (0 : Int32)] []))
  refine own_go (fun _ k => XS.aloadN X0.here hx rfl (hb hby d22_0) rfl rfl k) ?_
  obtain ⟨T1, X1, e1, st1⟩ := getF X0 hx hZ hown (host := "") (Or.inl (ow60 hw)) Via.refl e0 (fp1.keep K0 nin0) (g := (mkF m 1 #[rv a1, iv (0 : Int32)] [(.ref a1)])) rfl rfl (hb hby d22_1)
  refine own_go st1 ?_
  clear st1 X0 e0
  refine own_go (fun _ k => XS.iloadN X1.here hx rfl (hb hby d22_4) rfl k) ?_
  obtain ⟨cl2, Ar2, -, S2, -, P2, -⟩ := id (fp2.keep K0 nin0)
  have hin2 : ¬ ((0 : Int32) < 0 ∨ cl2.slots.size ≤ ((0 : Int32)).toNatClampNeg) := inb_of S2 ⟨by decide, by decide⟩
  refine own_go (X1.aaload hx (j := (0 : Int32)) (v := (.ref el1)) (by rw [e1]; exact Ar2.1) (State.isArrayOf_alike hZ.alike Ar2.2.1) rfl Ar2.2.2 hin2 (P2.at hin2 rfl) (g := (mkF m 5 #[rv a1, iv (0 : Int32)] [(.int (0 : Int32)), (.ref b)])) rfl rfl (hb hby d22_5)) ?_
  show own_Go p e below s _ _ _ (T1.setTop (mkF m 6 #[rv a1, iv (0 : Int32)] [(.ref el1)]))
  refine own_retA X1 hx hlk e1 hret rfl rfl (hb hby d22_6) (by show _ ≤ 0; omega) (by show _ ≤ 0; omega) ?_
  exact ⟨rfl, N0, rfl⟩
theorem d19_0 : decode jdk_38_method_20_code 0 = .ok (.iload_n 1, 1) := by decide +kernel
theorem d19_1 : decode jdk_38_method_20_code 1 = .ok (.aload_n 0, 1) := by decide +kernel
theorem d19_2 : decode jdk_38_method_20_code 2 = .ok (.getfield 48, 3) := by decide +kernel
theorem d19_5 : decode jdk_38_method_20_code 5 = .ok (.invokestatic 118, 3) := by decide +kernel
theorem d19_8 : decode jdk_38_method_20_code 8 = .ok (.pop, 1) := by decide +kernel
theorem d19_9 : decode jdk_38_method_20_code 9 = .ok (.aload_n 0, 1) := by decide +kernel
theorem d19_10 : decode jdk_38_method_20_code 10 = .ok (.iload_n 1, 1) := by decide +kernel
theorem d19_11 : decode jdk_38_method_20_code 11 = .ok (.invokevirtual 123, 3) := by decide +kernel
theorem d19_14 : decode jdk_38_method_20_code 14 = .ok (.areturn, 1) := by decide +kernel
def Q_alget_0 (Z : State) (zc : Int32) (wd : Addr) (kd : ClassId) (wx : Addr) (wy : Addr) (wsp : Addr) (wspv : Addr) (wspk : ClassId) (a1 : Addr) (b : Addr) (k : ClassId) (el1 : Addr) (gw2 : Value) (gw3 : Value) (gw4 : Value) (gw5 : Value) (gw6 : Value) (gw7 : Value) (gw8 : Value) (gw9 : Value) (gw10 : Value) (nz : Int32) (h0 : Heap) (v : Option Value) (h : Heap) (L : List Loc) : Prop := (v = some (.ref el1) ∧ Fr Z.heap.size L ∧ h = h0)
theorem ef_alget_0 (m : MethodId) (x0 : Addr) : entryFrame m #[(.ref x0), (.int (0 : Int32))] 2 = mkF m 0 #[rv x0, iv (0 : Int32)] [] := by first | (simp [entryFrame, mkF, argsToLocals, Value.category]; done) | rfl
set_option maxRecDepth 65536 in
set_option maxHeartbeats 40000000 in
theorem rm_alget_0 (l : Launch) (Z : State) (a0 : Array Value) (hw : own_W Z a0) {zc : Int32} {wd : Addr} {kd : ClassId} {wx : Addr} {wy : Addr} {wsp : Addr} {wspv : Addr} {wspk : ClassId} (hO : own_Olds Z zc wd kd wx wy wsp wspv wspk) (ws : List Jvm.Cond) (a1 : Addr) (b : Addr) (k : ClassId) (el1 : Addr) (gw2 : Value) (gw3 : Value) (gw4 : Value) (gw5 : Value) (gw6 : Value) (gw7 : Value) (gw8 : Value) (gw9 : Value) (gw10 : Value) (nz : Int32) (h0 : Heap) (O0 : Ext Z.heap h0) (r_gw2 : gw2.isRef = true) (r_gw3 : gw3.isRef = true) (r_gw4 : gw4.isRef = true) (r_gw5 : gw5.isRef = true) (r_gw6 : gw6.isRef = true) (r_gw7 : gw7.isRef = true) (r_gw8 : gw8.isRef = true) (r_gw9 : gw9.isRef = true) (r_gw10 : gw10.isRef = true) (fp0 : Exa Z h0 a1 "java/util/ArrayList") (fp1 : Fld Z h0 a1 "java/util/ArrayList" "elementData" "[Ljava/lang/Object;" (.ref b)) (fp2 : Arv Z h0 b k (.object "java/lang/Object") (10 : Int32) [(.ref el1), gw2, gw3, gw4, gw5, gw6, gw7, gw8, gw9, gw10] .null) (fp3 : Fld Z h0 a1 "java/util/ArrayList" "size" "I" (.int nz)) (hpn : (0 : Int32) < nz) :
    own_MF l Z h0 own_y12 jdk_38_method_20_code 2 (some (.object "java/lang/Object")) ({ frames := 2, cells := 0, slots := 0, locals := 27 } : Room) #[(.ref a1), (.int (0 : Int32))] (Q_alget_0 Z zc wd kd wx wy wsp wspv wspk a1 b k el1 gw2 gw3 gw4 gw5 gw6 gw7 gw8 gw9 gw10 nz h0) ws := by
  refine own_met (Q := (Q_alget_0 Z zc wd kd wx wy wsp wspv wspk a1 b k el1 gw2 gw3 gw4 gw5 gw6 gw7 gw8 gw9 gw10 nz h0)) _ _ (plainFor_of_name own_pn_2) ?_
  intro p e s m below meth c T X0 hx hby hml hret hlk hZ hown hnm e0
  replace hown : s.vm.findClass "java/util/ArrayList" = some m.cls := hown
  replace hnm : meth.name = "get" := hnm
  have hml : c.maxLocals = 2 := hml
  obtain ⟨oCS, oCz, oDE, oDV, oEx, oSh, oE1, oE2, oPF, oSPE, oSPC, oSPF, oSPV, oNe⟩ := id hO
  have N0 := Fr.nil Z.heap.size
  have K0 := Keep.refl h0 []
  refine own_go (fun _ k => castTop (ef_alget_0 m a1) k) ?_
  show own_Go p e below s _ _ _ (T.setTop (mkF m 0 #[rv a1, iv (0 : Int32)] []))
  refine own_go (fun _ k => XS.iloadN X0.here hx rfl (hb hby d19_0) rfl (XS.aloadN X0.here hx rfl (hb hby d19_1) rfl rfl k)) ?_
  obtain ⟨T1, X1, e1, st1⟩ := getF X0 hx hZ hown (host := "") (Or.inl (ow78 hw)) Via.refl e0 (fp3.keep K0 nin0) (g := (mkF m 2 #[rv a1, iv (0 : Int32)] [(.ref a1), (.int (0 : Int32))])) rfl rfl (hb hby d19_2)
  refine own_go st1 ?_
  clear st1 X0 e0
  obtain ⟨v2, T2, L2, X2, hQ2, st2⟩ := own_callS (y := own_y10) X1 hx hZ hown (ow124 hw) (ow125 hw) (ow126 hw) (ow127 hw) (rm_oci l Z a0 hw hO [] (0 : Int32) nz h0 O0 (by decide : ¬ ((0 : Int32) < (0 : Int32))) hpn) 0 0 0 (by show _ ≤ 0; omega) (by show _ ≤ 0; omega) e1 (g := (mkF m 5 #[rv a1, iv (0 : Int32)] [(.int nz), (.int (0 : Int32))])) rfl (by rw [hml]; rfl) [(.int (0 : Int32)), (.int nz)] [] (lenOf own_pd_1 rfl) rfl rfl (hb hby d19_5)
  obtain ⟨rfl, Nc4, Kc3⟩ := hQ2
  refine own_go st2 ?_
  clear st2 X1 e1
  replace N0 := Fr.app N0 Nc4
  clear Nc4
  refine own_go (fun _ k => XS.pop X2.here hx rfl (hb hby d19_8) rfl rfl (XS.aloadN X2.here hx rfl (hb hby d19_9) rfl rfl (XS.iloadN X2.here hx rfl (hb hby d19_10) rfl k))) ?_
  obtain ⟨v5, T5, L5, X5, hQ5, st5⟩ := own_callV (y := own_y11) (z := own_y11) X2 hx hZ hown (ow132 hw) (ow133 hw) (notFace_of_selects (args := #[]) (mvT hZ (ow135 hw))) (ow135 hw) (ow134 hw) (ow40 hw) (ow136 hw) (rm_aled_0 l Z a0 hw hO [] a1 b k el1 gw2 gw3 gw4 gw5 gw6 gw7 gw8 gw9 gw10 h0 O0 r_gw2 r_gw3 r_gw4 r_gw5 r_gw6 r_gw7 r_gw8 r_gw9 r_gw10 (fp0.keep K0) (fp1.keep K0 nin0) (fp2.keep K0 nin0)) 0 0 0 (by show _ ≤ 0; omega) (by show _ ≤ 0; omega) Kc3 (fp0.keep K0) (g := (mkF m 11 #[rv a1, iv (0 : Int32)] [(.int (0 : Int32)), (.ref a1)])) rfl (by rw [hml]; rfl) [(.int (0 : Int32))] [] (lenOf own_pd_6 rfl) rfl rfl (hb hby d19_11)
  obtain ⟨rfl, Nc7, Kc6⟩ := hQ5
  refine own_go st5 ?_
  clear st5 X2 Kc3
  replace N0 := Fr.app N0 Nc7
  clear Nc7
  show own_Go p e below s _ _ _ (T5.setTop (mkF m 14 #[rv a1, iv (0 : Int32)] [(.ref el1)]))
  refine own_retA X5 hx hlk Kc6 hret rfl rfl (hb hby d19_14) (by show _ ≤ 0; omega) (by show _ ≤ 0; omega) ?_
  exact ⟨rfl, N0, rfl⟩
def Q_aled_1 (Z : State) (zc : Int32) (wd : Addr) (kd : ClassId) (wx : Addr) (wy : Addr) (wsp : Addr) (wspv : Addr) (wspk : ClassId) (a1 : Addr) (b : Addr) (k : ClassId) (el1 : Addr) (el2 : Addr) (gw3 : Value) (gw4 : Value) (gw5 : Value) (gw6 : Value) (gw7 : Value) (gw8 : Value) (gw9 : Value) (gw10 : Value) (h0 : Heap) (v : Option Value) (h : Heap) (L : List Loc) : Prop := (v = some (.ref el2) ∧ Fr Z.heap.size L ∧ h = h0)
theorem ef_aled_1 (m : MethodId) (x0 : Addr) : entryFrame m #[(.ref x0), (.int (1 : Int32))] 2 = mkF m 0 #[rv x0, iv (1 : Int32)] [] := by first | (simp [entryFrame, mkF, argsToLocals, Value.category]; done) | rfl
set_option maxRecDepth 65536 in
set_option maxHeartbeats 40000000 in
theorem rm_aled_1 (l : Launch) (Z : State) (a0 : Array Value) (hw : own_W Z a0) {zc : Int32} {wd : Addr} {kd : ClassId} {wx : Addr} {wy : Addr} {wsp : Addr} {wspv : Addr} {wspk : ClassId} (hO : own_Olds Z zc wd kd wx wy wsp wspv wspk) (ws : List Jvm.Cond) (a1 : Addr) (b : Addr) (k : ClassId) (el1 : Addr) (el2 : Addr) (gw3 : Value) (gw4 : Value) (gw5 : Value) (gw6 : Value) (gw7 : Value) (gw8 : Value) (gw9 : Value) (gw10 : Value) (h0 : Heap) (O0 : Ext Z.heap h0) (r_gw3 : gw3.isRef = true) (r_gw4 : gw4.isRef = true) (r_gw5 : gw5.isRef = true) (r_gw6 : gw6.isRef = true) (r_gw7 : gw7.isRef = true) (r_gw8 : gw8.isRef = true) (r_gw9 : gw9.isRef = true) (r_gw10 : gw10.isRef = true) (fp0 : Exa Z h0 a1 "java/util/ArrayList") (fp1 : Fld Z h0 a1 "java/util/ArrayList" "elementData" "[Ljava/lang/Object;" (.ref b)) (fp2 : Arv Z h0 b k (.object "java/lang/Object") (10 : Int32) [(.ref el1), (.ref el2), gw3, gw4, gw5, gw6, gw7, gw8, gw9, gw10] .null) :
    own_MF l Z h0 own_y11 jdk_38_method_18_code 2 (some (.object "java/lang/Object")) ({ frames := 0, cells := 0, slots := 0, locals := 0 } : Room) #[(.ref a1), (.int (1 : Int32))] (Q_aled_1 Z zc wd kd wx wy wsp wspv wspk a1 b k el1 el2 gw3 gw4 gw5 gw6 gw7 gw8 gw9 gw10 h0) ws := by
  refine own_met (Q := (Q_aled_1 Z zc wd kd wx wy wsp wspv wspk a1 b k el1 el2 gw3 gw4 gw5 gw6 gw7 gw8 gw9 gw10 h0)) _ _ (plainFor_of_name own_pn_2) ?_
  intro p e s m below meth c T X0 hx hby hml hret hlk hZ hown hnm e0
  replace hown : s.vm.findClass "java/util/ArrayList" = some m.cls := hown
  replace hnm : meth.name = "elementData" := hnm
  have hml : c.maxLocals = 2 := hml
  obtain ⟨oCS, oCz, oDE, oDV, oEx, oSh, oE1, oE2, oPF, oSPE, oSPC, oSPF, oSPV, oNe⟩ := id hO
  have N0 := Fr.nil Z.heap.size
  have K0 := Keep.refl h0 []
  refine own_go (fun _ k => castTop (ef_aled_1 m a1) k) ?_
  show own_Go p e below s _ _ _ (T.setTop (mkF m 0 #[rv a1, iv (1 : Int32)] []))
  refine own_go (fun _ k => XS.aloadN X0.here hx rfl (hb hby d22_0) rfl rfl k) ?_
  obtain ⟨T1, X1, e1, st1⟩ := getF X0 hx hZ hown (host := "") (Or.inl (ow60 hw)) Via.refl e0 (fp1.keep K0 nin0) (g := (mkF m 1 #[rv a1, iv (1 : Int32)] [(.ref a1)])) rfl rfl (hb hby d22_1)
  refine own_go st1 ?_
  clear st1 X0 e0
  refine own_go (fun _ k => XS.iloadN X1.here hx rfl (hb hby d22_4) rfl k) ?_
  obtain ⟨cl2, Ar2, -, S2, -, P2, -⟩ := id (fp2.keep K0 nin0)
  have hin2 : ¬ ((1 : Int32) < 0 ∨ cl2.slots.size ≤ ((1 : Int32)).toNatClampNeg) := inb_of S2 ⟨by decide, by decide⟩
  refine own_go (X1.aaload hx (j := (1 : Int32)) (v := (.ref el2)) (by rw [e1]; exact Ar2.1) (State.isArrayOf_alike hZ.alike Ar2.2.1) rfl Ar2.2.2 hin2 (P2.at hin2 rfl) (g := (mkF m 5 #[rv a1, iv (1 : Int32)] [(.int (1 : Int32)), (.ref b)])) rfl rfl (hb hby d22_5)) ?_
  show own_Go p e below s _ _ _ (T1.setTop (mkF m 6 #[rv a1, iv (1 : Int32)] [(.ref el2)]))
  refine own_retA X1 hx hlk e1 hret rfl rfl (hb hby d22_6) (by show _ ≤ 0; omega) (by show _ ≤ 0; omega) ?_
  exact ⟨rfl, N0, rfl⟩
def Q_alget_1 (Z : State) (zc : Int32) (wd : Addr) (kd : ClassId) (wx : Addr) (wy : Addr) (wsp : Addr) (wspv : Addr) (wspk : ClassId) (a1 : Addr) (b : Addr) (k : ClassId) (el1 : Addr) (el2 : Addr) (gw3 : Value) (gw4 : Value) (gw5 : Value) (gw6 : Value) (gw7 : Value) (gw8 : Value) (gw9 : Value) (gw10 : Value) (nz : Int32) (h0 : Heap) (v : Option Value) (h : Heap) (L : List Loc) : Prop := (v = some (.ref el2) ∧ Fr Z.heap.size L ∧ h = h0)
theorem ef_alget_1 (m : MethodId) (x0 : Addr) : entryFrame m #[(.ref x0), (.int (1 : Int32))] 2 = mkF m 0 #[rv x0, iv (1 : Int32)] [] := by first | (simp [entryFrame, mkF, argsToLocals, Value.category]; done) | rfl
set_option maxRecDepth 65536 in
set_option maxHeartbeats 40000000 in
theorem rm_alget_1 (l : Launch) (Z : State) (a0 : Array Value) (hw : own_W Z a0) {zc : Int32} {wd : Addr} {kd : ClassId} {wx : Addr} {wy : Addr} {wsp : Addr} {wspv : Addr} {wspk : ClassId} (hO : own_Olds Z zc wd kd wx wy wsp wspv wspk) (ws : List Jvm.Cond) (a1 : Addr) (b : Addr) (k : ClassId) (el1 : Addr) (el2 : Addr) (gw3 : Value) (gw4 : Value) (gw5 : Value) (gw6 : Value) (gw7 : Value) (gw8 : Value) (gw9 : Value) (gw10 : Value) (nz : Int32) (h0 : Heap) (O0 : Ext Z.heap h0) (r_gw3 : gw3.isRef = true) (r_gw4 : gw4.isRef = true) (r_gw5 : gw5.isRef = true) (r_gw6 : gw6.isRef = true) (r_gw7 : gw7.isRef = true) (r_gw8 : gw8.isRef = true) (r_gw9 : gw9.isRef = true) (r_gw10 : gw10.isRef = true) (fp0 : Exa Z h0 a1 "java/util/ArrayList") (fp1 : Fld Z h0 a1 "java/util/ArrayList" "elementData" "[Ljava/lang/Object;" (.ref b)) (fp2 : Arv Z h0 b k (.object "java/lang/Object") (10 : Int32) [(.ref el1), (.ref el2), gw3, gw4, gw5, gw6, gw7, gw8, gw9, gw10] .null) (fp3 : Fld Z h0 a1 "java/util/ArrayList" "size" "I" (.int nz)) (hpn : (1 : Int32) < nz) :
    own_MF l Z h0 own_y12 jdk_38_method_20_code 2 (some (.object "java/lang/Object")) ({ frames := 2, cells := 0, slots := 0, locals := 27 } : Room) #[(.ref a1), (.int (1 : Int32))] (Q_alget_1 Z zc wd kd wx wy wsp wspv wspk a1 b k el1 el2 gw3 gw4 gw5 gw6 gw7 gw8 gw9 gw10 nz h0) ws := by
  refine own_met (Q := (Q_alget_1 Z zc wd kd wx wy wsp wspv wspk a1 b k el1 el2 gw3 gw4 gw5 gw6 gw7 gw8 gw9 gw10 nz h0)) _ _ (plainFor_of_name own_pn_2) ?_
  intro p e s m below meth c T X0 hx hby hml hret hlk hZ hown hnm e0
  replace hown : s.vm.findClass "java/util/ArrayList" = some m.cls := hown
  replace hnm : meth.name = "get" := hnm
  have hml : c.maxLocals = 2 := hml
  obtain ⟨oCS, oCz, oDE, oDV, oEx, oSh, oE1, oE2, oPF, oSPE, oSPC, oSPF, oSPV, oNe⟩ := id hO
  have N0 := Fr.nil Z.heap.size
  have K0 := Keep.refl h0 []
  refine own_go (fun _ k => castTop (ef_alget_1 m a1) k) ?_
  show own_Go p e below s _ _ _ (T.setTop (mkF m 0 #[rv a1, iv (1 : Int32)] []))
  refine own_go (fun _ k => XS.iloadN X0.here hx rfl (hb hby d19_0) rfl (XS.aloadN X0.here hx rfl (hb hby d19_1) rfl rfl k)) ?_
  obtain ⟨T1, X1, e1, st1⟩ := getF X0 hx hZ hown (host := "") (Or.inl (ow78 hw)) Via.refl e0 (fp3.keep K0 nin0) (g := (mkF m 2 #[rv a1, iv (1 : Int32)] [(.ref a1), (.int (1 : Int32))])) rfl rfl (hb hby d19_2)
  refine own_go st1 ?_
  clear st1 X0 e0
  obtain ⟨v2, T2, L2, X2, hQ2, st2⟩ := own_callS (y := own_y10) X1 hx hZ hown (ow124 hw) (ow125 hw) (ow126 hw) (ow127 hw) (rm_oci l Z a0 hw hO [] (1 : Int32) nz h0 O0 (by decide : ¬ ((1 : Int32) < (0 : Int32))) hpn) 0 0 0 (by show _ ≤ 0; omega) (by show _ ≤ 0; omega) e1 (g := (mkF m 5 #[rv a1, iv (1 : Int32)] [(.int nz), (.int (1 : Int32))])) rfl (by rw [hml]; rfl) [(.int (1 : Int32)), (.int nz)] [] (lenOf own_pd_1 rfl) rfl rfl (hb hby d19_5)
  obtain ⟨rfl, Nc4, Kc3⟩ := hQ2
  refine own_go st2 ?_
  clear st2 X1 e1
  replace N0 := Fr.app N0 Nc4
  clear Nc4
  refine own_go (fun _ k => XS.pop X2.here hx rfl (hb hby d19_8) rfl rfl (XS.aloadN X2.here hx rfl (hb hby d19_9) rfl rfl (XS.iloadN X2.here hx rfl (hb hby d19_10) rfl k))) ?_
  obtain ⟨v5, T5, L5, X5, hQ5, st5⟩ := own_callV (y := own_y11) (z := own_y11) X2 hx hZ hown (ow132 hw) (ow133 hw) (notFace_of_selects (args := #[]) (mvT hZ (ow135 hw))) (ow135 hw) (ow134 hw) (ow40 hw) (ow136 hw) (rm_aled_1 l Z a0 hw hO [] a1 b k el1 el2 gw3 gw4 gw5 gw6 gw7 gw8 gw9 gw10 h0 O0 r_gw3 r_gw4 r_gw5 r_gw6 r_gw7 r_gw8 r_gw9 r_gw10 (fp0.keep K0) (fp1.keep K0 nin0) (fp2.keep K0 nin0)) 0 0 0 (by show _ ≤ 0; omega) (by show _ ≤ 0; omega) Kc3 (fp0.keep K0) (g := (mkF m 11 #[rv a1, iv (1 : Int32)] [(.int (1 : Int32)), (.ref a1)])) rfl (by rw [hml]; rfl) [(.int (1 : Int32))] [] (lenOf own_pd_6 rfl) rfl rfl (hb hby d19_11)
  obtain ⟨rfl, Nc7, Kc6⟩ := hQ5
  refine own_go st5 ?_
  clear st5 X2 Kc3
  replace N0 := Fr.app N0 Nc7
  clear Nc7
  show own_Go p e below s _ _ _ (T5.setTop (mkF m 14 #[rv a1, iv (1 : Int32)] [(.ref el2)]))
  refine own_retA X5 hx hlk Kc6 hret rfl rfl (hb hby d19_14) (by show _ ≤ 0; omega) (by show _ ≤ 0; omega) ?_
  exact ⟨rfl, N0, rfl⟩
def Q_aled_2 (Z : State) (zc : Int32) (wd : Addr) (kd : ClassId) (wx : Addr) (wy : Addr) (wsp : Addr) (wspv : Addr) (wspk : ClassId) (a1 : Addr) (b : Addr) (k : ClassId) (el1 : Addr) (el2 : Addr) (el3 : Addr) (gw4 : Value) (gw5 : Value) (gw6 : Value) (gw7 : Value) (gw8 : Value) (gw9 : Value) (gw10 : Value) (h0 : Heap) (v : Option Value) (h : Heap) (L : List Loc) : Prop := (v = some (.ref el3) ∧ Fr Z.heap.size L ∧ h = h0)
theorem ef_aled_2 (m : MethodId) (x0 : Addr) : entryFrame m #[(.ref x0), (.int (2 : Int32))] 2 = mkF m 0 #[rv x0, iv (2 : Int32)] [] := by first | (simp [entryFrame, mkF, argsToLocals, Value.category]; done) | rfl
set_option maxRecDepth 65536 in
set_option maxHeartbeats 40000000 in
theorem rm_aled_2 (l : Launch) (Z : State) (a0 : Array Value) (hw : own_W Z a0) {zc : Int32} {wd : Addr} {kd : ClassId} {wx : Addr} {wy : Addr} {wsp : Addr} {wspv : Addr} {wspk : ClassId} (hO : own_Olds Z zc wd kd wx wy wsp wspv wspk) (ws : List Jvm.Cond) (a1 : Addr) (b : Addr) (k : ClassId) (el1 : Addr) (el2 : Addr) (el3 : Addr) (gw4 : Value) (gw5 : Value) (gw6 : Value) (gw7 : Value) (gw8 : Value) (gw9 : Value) (gw10 : Value) (h0 : Heap) (O0 : Ext Z.heap h0) (r_gw4 : gw4.isRef = true) (r_gw5 : gw5.isRef = true) (r_gw6 : gw6.isRef = true) (r_gw7 : gw7.isRef = true) (r_gw8 : gw8.isRef = true) (r_gw9 : gw9.isRef = true) (r_gw10 : gw10.isRef = true) (fp0 : Exa Z h0 a1 "java/util/ArrayList") (fp1 : Fld Z h0 a1 "java/util/ArrayList" "elementData" "[Ljava/lang/Object;" (.ref b)) (fp2 : Arv Z h0 b k (.object "java/lang/Object") (10 : Int32) [(.ref el1), (.ref el2), (.ref el3), gw4, gw5, gw6, gw7, gw8, gw9, gw10] .null) :
    own_MF l Z h0 own_y11 jdk_38_method_18_code 2 (some (.object "java/lang/Object")) ({ frames := 0, cells := 0, slots := 0, locals := 0 } : Room) #[(.ref a1), (.int (2 : Int32))] (Q_aled_2 Z zc wd kd wx wy wsp wspv wspk a1 b k el1 el2 el3 gw4 gw5 gw6 gw7 gw8 gw9 gw10 h0) ws := by
  refine own_met (Q := (Q_aled_2 Z zc wd kd wx wy wsp wspv wspk a1 b k el1 el2 el3 gw4 gw5 gw6 gw7 gw8 gw9 gw10 h0)) _ _ (plainFor_of_name own_pn_2) ?_
  intro p e s m below meth c T X0 hx hby hml hret hlk hZ hown hnm e0
  replace hown : s.vm.findClass "java/util/ArrayList" = some m.cls := hown
  replace hnm : meth.name = "elementData" := hnm
  have hml : c.maxLocals = 2 := hml
  obtain ⟨oCS, oCz, oDE, oDV, oEx, oSh, oE1, oE2, oPF, oSPE, oSPC, oSPF, oSPV, oNe⟩ := id hO
  have N0 := Fr.nil Z.heap.size
  have K0 := Keep.refl h0 []
  refine own_go (fun _ k => castTop (ef_aled_2 m a1) k) ?_
  show own_Go p e below s _ _ _ (T.setTop (mkF m 0 #[rv a1, iv (2 : Int32)] []))
  refine own_go (fun _ k => XS.aloadN X0.here hx rfl (hb hby d22_0) rfl rfl k) ?_
  obtain ⟨T1, X1, e1, st1⟩ := getF X0 hx hZ hown (host := "") (Or.inl (ow60 hw)) Via.refl e0 (fp1.keep K0 nin0) (g := (mkF m 1 #[rv a1, iv (2 : Int32)] [(.ref a1)])) rfl rfl (hb hby d22_1)
  refine own_go st1 ?_
  clear st1 X0 e0
  refine own_go (fun _ k => XS.iloadN X1.here hx rfl (hb hby d22_4) rfl k) ?_
  obtain ⟨cl2, Ar2, -, S2, -, P2, -⟩ := id (fp2.keep K0 nin0)
  have hin2 : ¬ ((2 : Int32) < 0 ∨ cl2.slots.size ≤ ((2 : Int32)).toNatClampNeg) := inb_of S2 ⟨by decide, by decide⟩
  refine own_go (X1.aaload hx (j := (2 : Int32)) (v := (.ref el3)) (by rw [e1]; exact Ar2.1) (State.isArrayOf_alike hZ.alike Ar2.2.1) rfl Ar2.2.2 hin2 (P2.at hin2 rfl) (g := (mkF m 5 #[rv a1, iv (2 : Int32)] [(.int (2 : Int32)), (.ref b)])) rfl rfl (hb hby d22_5)) ?_
  show own_Go p e below s _ _ _ (T1.setTop (mkF m 6 #[rv a1, iv (2 : Int32)] [(.ref el3)]))
  refine own_retA X1 hx hlk e1 hret rfl rfl (hb hby d22_6) (by show _ ≤ 0; omega) (by show _ ≤ 0; omega) ?_
  exact ⟨rfl, N0, rfl⟩
def Q_alget_2 (Z : State) (zc : Int32) (wd : Addr) (kd : ClassId) (wx : Addr) (wy : Addr) (wsp : Addr) (wspv : Addr) (wspk : ClassId) (a1 : Addr) (b : Addr) (k : ClassId) (el1 : Addr) (el2 : Addr) (el3 : Addr) (gw4 : Value) (gw5 : Value) (gw6 : Value) (gw7 : Value) (gw8 : Value) (gw9 : Value) (gw10 : Value) (nz : Int32) (h0 : Heap) (v : Option Value) (h : Heap) (L : List Loc) : Prop := (v = some (.ref el3) ∧ Fr Z.heap.size L ∧ h = h0)
theorem ef_alget_2 (m : MethodId) (x0 : Addr) : entryFrame m #[(.ref x0), (.int (2 : Int32))] 2 = mkF m 0 #[rv x0, iv (2 : Int32)] [] := by first | (simp [entryFrame, mkF, argsToLocals, Value.category]; done) | rfl
set_option maxRecDepth 65536 in
set_option maxHeartbeats 40000000 in
theorem rm_alget_2 (l : Launch) (Z : State) (a0 : Array Value) (hw : own_W Z a0) {zc : Int32} {wd : Addr} {kd : ClassId} {wx : Addr} {wy : Addr} {wsp : Addr} {wspv : Addr} {wspk : ClassId} (hO : own_Olds Z zc wd kd wx wy wsp wspv wspk) (ws : List Jvm.Cond) (a1 : Addr) (b : Addr) (k : ClassId) (el1 : Addr) (el2 : Addr) (el3 : Addr) (gw4 : Value) (gw5 : Value) (gw6 : Value) (gw7 : Value) (gw8 : Value) (gw9 : Value) (gw10 : Value) (nz : Int32) (h0 : Heap) (O0 : Ext Z.heap h0) (r_gw4 : gw4.isRef = true) (r_gw5 : gw5.isRef = true) (r_gw6 : gw6.isRef = true) (r_gw7 : gw7.isRef = true) (r_gw8 : gw8.isRef = true) (r_gw9 : gw9.isRef = true) (r_gw10 : gw10.isRef = true) (fp0 : Exa Z h0 a1 "java/util/ArrayList") (fp1 : Fld Z h0 a1 "java/util/ArrayList" "elementData" "[Ljava/lang/Object;" (.ref b)) (fp2 : Arv Z h0 b k (.object "java/lang/Object") (10 : Int32) [(.ref el1), (.ref el2), (.ref el3), gw4, gw5, gw6, gw7, gw8, gw9, gw10] .null) (fp3 : Fld Z h0 a1 "java/util/ArrayList" "size" "I" (.int nz)) (hpn : (2 : Int32) < nz) :
    own_MF l Z h0 own_y12 jdk_38_method_20_code 2 (some (.object "java/lang/Object")) ({ frames := 2, cells := 0, slots := 0, locals := 27 } : Room) #[(.ref a1), (.int (2 : Int32))] (Q_alget_2 Z zc wd kd wx wy wsp wspv wspk a1 b k el1 el2 el3 gw4 gw5 gw6 gw7 gw8 gw9 gw10 nz h0) ws := by
  refine own_met (Q := (Q_alget_2 Z zc wd kd wx wy wsp wspv wspk a1 b k el1 el2 el3 gw4 gw5 gw6 gw7 gw8 gw9 gw10 nz h0)) _ _ (plainFor_of_name own_pn_2) ?_
  intro p e s m below meth c T X0 hx hby hml hret hlk hZ hown hnm e0
  replace hown : s.vm.findClass "java/util/ArrayList" = some m.cls := hown
  replace hnm : meth.name = "get" := hnm
  have hml : c.maxLocals = 2 := hml
  obtain ⟨oCS, oCz, oDE, oDV, oEx, oSh, oE1, oE2, oPF, oSPE, oSPC, oSPF, oSPV, oNe⟩ := id hO
  have N0 := Fr.nil Z.heap.size
  have K0 := Keep.refl h0 []
  refine own_go (fun _ k => castTop (ef_alget_2 m a1) k) ?_
  show own_Go p e below s _ _ _ (T.setTop (mkF m 0 #[rv a1, iv (2 : Int32)] []))
  refine own_go (fun _ k => XS.iloadN X0.here hx rfl (hb hby d19_0) rfl (XS.aloadN X0.here hx rfl (hb hby d19_1) rfl rfl k)) ?_
  obtain ⟨T1, X1, e1, st1⟩ := getF X0 hx hZ hown (host := "") (Or.inl (ow78 hw)) Via.refl e0 (fp3.keep K0 nin0) (g := (mkF m 2 #[rv a1, iv (2 : Int32)] [(.ref a1), (.int (2 : Int32))])) rfl rfl (hb hby d19_2)
  refine own_go st1 ?_
  clear st1 X0 e0
  obtain ⟨v2, T2, L2, X2, hQ2, st2⟩ := own_callS (y := own_y10) X1 hx hZ hown (ow124 hw) (ow125 hw) (ow126 hw) (ow127 hw) (rm_oci l Z a0 hw hO [] (2 : Int32) nz h0 O0 (by decide : ¬ ((2 : Int32) < (0 : Int32))) hpn) 0 0 0 (by show _ ≤ 0; omega) (by show _ ≤ 0; omega) e1 (g := (mkF m 5 #[rv a1, iv (2 : Int32)] [(.int nz), (.int (2 : Int32))])) rfl (by rw [hml]; rfl) [(.int (2 : Int32)), (.int nz)] [] (lenOf own_pd_1 rfl) rfl rfl (hb hby d19_5)
  obtain ⟨rfl, Nc4, Kc3⟩ := hQ2
  refine own_go st2 ?_
  clear st2 X1 e1
  replace N0 := Fr.app N0 Nc4
  clear Nc4
  refine own_go (fun _ k => XS.pop X2.here hx rfl (hb hby d19_8) rfl rfl (XS.aloadN X2.here hx rfl (hb hby d19_9) rfl rfl (XS.iloadN X2.here hx rfl (hb hby d19_10) rfl k))) ?_
  obtain ⟨v5, T5, L5, X5, hQ5, st5⟩ := own_callV (y := own_y11) (z := own_y11) X2 hx hZ hown (ow132 hw) (ow133 hw) (notFace_of_selects (args := #[]) (mvT hZ (ow135 hw))) (ow135 hw) (ow134 hw) (ow40 hw) (ow136 hw) (rm_aled_2 l Z a0 hw hO [] a1 b k el1 el2 el3 gw4 gw5 gw6 gw7 gw8 gw9 gw10 h0 O0 r_gw4 r_gw5 r_gw6 r_gw7 r_gw8 r_gw9 r_gw10 (fp0.keep K0) (fp1.keep K0 nin0) (fp2.keep K0 nin0)) 0 0 0 (by show _ ≤ 0; omega) (by show _ ≤ 0; omega) Kc3 (fp0.keep K0) (g := (mkF m 11 #[rv a1, iv (2 : Int32)] [(.int (2 : Int32)), (.ref a1)])) rfl (by rw [hml]; rfl) [(.int (2 : Int32))] [] (lenOf own_pd_6 rfl) rfl rfl (hb hby d19_11)
  obtain ⟨rfl, Nc7, Kc6⟩ := hQ5
  refine own_go st5 ?_
  clear st5 X2 Kc3
  replace N0 := Fr.app N0 Nc7
  clear Nc7
  show own_Go p e below s _ _ _ (T5.setTop (mkF m 14 #[rv a1, iv (2 : Int32)] [(.ref el3)]))
  refine own_retA X5 hx hlk Kc6 hret rfl rfl (hb hby d19_14) (by show _ ≤ 0; omega) (by show _ ≤ 0; omega) ?_
  exact ⟨rfl, N0, rfl⟩
def Q_aled_3 (Z : State) (zc : Int32) (wd : Addr) (kd : ClassId) (wx : Addr) (wy : Addr) (wsp : Addr) (wspv : Addr) (wspk : ClassId) (a1 : Addr) (b : Addr) (k : ClassId) (el1 : Addr) (el2 : Addr) (el3 : Addr) (el4 : Addr) (gw5 : Value) (gw6 : Value) (gw7 : Value) (gw8 : Value) (gw9 : Value) (gw10 : Value) (h0 : Heap) (v : Option Value) (h : Heap) (L : List Loc) : Prop := (v = some (.ref el4) ∧ Fr Z.heap.size L ∧ h = h0)
theorem ef_aled_3 (m : MethodId) (x0 : Addr) : entryFrame m #[(.ref x0), (.int (3 : Int32))] 2 = mkF m 0 #[rv x0, iv (3 : Int32)] [] := by first | (simp [entryFrame, mkF, argsToLocals, Value.category]; done) | rfl
set_option maxRecDepth 65536 in
set_option maxHeartbeats 40000000 in
theorem rm_aled_3 (l : Launch) (Z : State) (a0 : Array Value) (hw : own_W Z a0) {zc : Int32} {wd : Addr} {kd : ClassId} {wx : Addr} {wy : Addr} {wsp : Addr} {wspv : Addr} {wspk : ClassId} (hO : own_Olds Z zc wd kd wx wy wsp wspv wspk) (ws : List Jvm.Cond) (a1 : Addr) (b : Addr) (k : ClassId) (el1 : Addr) (el2 : Addr) (el3 : Addr) (el4 : Addr) (gw5 : Value) (gw6 : Value) (gw7 : Value) (gw8 : Value) (gw9 : Value) (gw10 : Value) (h0 : Heap) (O0 : Ext Z.heap h0) (r_gw5 : gw5.isRef = true) (r_gw6 : gw6.isRef = true) (r_gw7 : gw7.isRef = true) (r_gw8 : gw8.isRef = true) (r_gw9 : gw9.isRef = true) (r_gw10 : gw10.isRef = true) (fp0 : Exa Z h0 a1 "java/util/ArrayList") (fp1 : Fld Z h0 a1 "java/util/ArrayList" "elementData" "[Ljava/lang/Object;" (.ref b)) (fp2 : Arv Z h0 b k (.object "java/lang/Object") (10 : Int32) [(.ref el1), (.ref el2), (.ref el3), (.ref el4), gw5, gw6, gw7, gw8, gw9, gw10] .null) :
    own_MF l Z h0 own_y11 jdk_38_method_18_code 2 (some (.object "java/lang/Object")) ({ frames := 0, cells := 0, slots := 0, locals := 0 } : Room) #[(.ref a1), (.int (3 : Int32))] (Q_aled_3 Z zc wd kd wx wy wsp wspv wspk a1 b k el1 el2 el3 el4 gw5 gw6 gw7 gw8 gw9 gw10 h0) ws := by
  refine own_met (Q := (Q_aled_3 Z zc wd kd wx wy wsp wspv wspk a1 b k el1 el2 el3 el4 gw5 gw6 gw7 gw8 gw9 gw10 h0)) _ _ (plainFor_of_name own_pn_2) ?_
  intro p e s m below meth c T X0 hx hby hml hret hlk hZ hown hnm e0
  replace hown : s.vm.findClass "java/util/ArrayList" = some m.cls := hown
  replace hnm : meth.name = "elementData" := hnm
  have hml : c.maxLocals = 2 := hml
  obtain ⟨oCS, oCz, oDE, oDV, oEx, oSh, oE1, oE2, oPF, oSPE, oSPC, oSPF, oSPV, oNe⟩ := id hO
  have N0 := Fr.nil Z.heap.size
  have K0 := Keep.refl h0 []
  refine own_go (fun _ k => castTop (ef_aled_3 m a1) k) ?_
  show own_Go p e below s _ _ _ (T.setTop (mkF m 0 #[rv a1, iv (3 : Int32)] []))
  refine own_go (fun _ k => XS.aloadN X0.here hx rfl (hb hby d22_0) rfl rfl k) ?_
  obtain ⟨T1, X1, e1, st1⟩ := getF X0 hx hZ hown (host := "") (Or.inl (ow60 hw)) Via.refl e0 (fp1.keep K0 nin0) (g := (mkF m 1 #[rv a1, iv (3 : Int32)] [(.ref a1)])) rfl rfl (hb hby d22_1)
  refine own_go st1 ?_
  clear st1 X0 e0
  refine own_go (fun _ k => XS.iloadN X1.here hx rfl (hb hby d22_4) rfl k) ?_
  obtain ⟨cl2, Ar2, -, S2, -, P2, -⟩ := id (fp2.keep K0 nin0)
  have hin2 : ¬ ((3 : Int32) < 0 ∨ cl2.slots.size ≤ ((3 : Int32)).toNatClampNeg) := inb_of S2 ⟨by decide, by decide⟩
  refine own_go (X1.aaload hx (j := (3 : Int32)) (v := (.ref el4)) (by rw [e1]; exact Ar2.1) (State.isArrayOf_alike hZ.alike Ar2.2.1) rfl Ar2.2.2 hin2 (P2.at hin2 rfl) (g := (mkF m 5 #[rv a1, iv (3 : Int32)] [(.int (3 : Int32)), (.ref b)])) rfl rfl (hb hby d22_5)) ?_
  show own_Go p e below s _ _ _ (T1.setTop (mkF m 6 #[rv a1, iv (3 : Int32)] [(.ref el4)]))
  refine own_retA X1 hx hlk e1 hret rfl rfl (hb hby d22_6) (by show _ ≤ 0; omega) (by show _ ≤ 0; omega) ?_
  exact ⟨rfl, N0, rfl⟩
def Q_alget_3 (Z : State) (zc : Int32) (wd : Addr) (kd : ClassId) (wx : Addr) (wy : Addr) (wsp : Addr) (wspv : Addr) (wspk : ClassId) (a1 : Addr) (b : Addr) (k : ClassId) (el1 : Addr) (el2 : Addr) (el3 : Addr) (el4 : Addr) (gw5 : Value) (gw6 : Value) (gw7 : Value) (gw8 : Value) (gw9 : Value) (gw10 : Value) (nz : Int32) (h0 : Heap) (v : Option Value) (h : Heap) (L : List Loc) : Prop := (v = some (.ref el4) ∧ Fr Z.heap.size L ∧ h = h0)
theorem ef_alget_3 (m : MethodId) (x0 : Addr) : entryFrame m #[(.ref x0), (.int (3 : Int32))] 2 = mkF m 0 #[rv x0, iv (3 : Int32)] [] := by first | (simp [entryFrame, mkF, argsToLocals, Value.category]; done) | rfl
set_option maxRecDepth 65536 in
set_option maxHeartbeats 40000000 in
theorem rm_alget_3 (l : Launch) (Z : State) (a0 : Array Value) (hw : own_W Z a0) {zc : Int32} {wd : Addr} {kd : ClassId} {wx : Addr} {wy : Addr} {wsp : Addr} {wspv : Addr} {wspk : ClassId} (hO : own_Olds Z zc wd kd wx wy wsp wspv wspk) (ws : List Jvm.Cond) (a1 : Addr) (b : Addr) (k : ClassId) (el1 : Addr) (el2 : Addr) (el3 : Addr) (el4 : Addr) (gw5 : Value) (gw6 : Value) (gw7 : Value) (gw8 : Value) (gw9 : Value) (gw10 : Value) (nz : Int32) (h0 : Heap) (O0 : Ext Z.heap h0) (r_gw5 : gw5.isRef = true) (r_gw6 : gw6.isRef = true) (r_gw7 : gw7.isRef = true) (r_gw8 : gw8.isRef = true) (r_gw9 : gw9.isRef = true) (r_gw10 : gw10.isRef = true) (fp0 : Exa Z h0 a1 "java/util/ArrayList") (fp1 : Fld Z h0 a1 "java/util/ArrayList" "elementData" "[Ljava/lang/Object;" (.ref b)) (fp2 : Arv Z h0 b k (.object "java/lang/Object") (10 : Int32) [(.ref el1), (.ref el2), (.ref el3), (.ref el4), gw5, gw6, gw7, gw8, gw9, gw10] .null) (fp3 : Fld Z h0 a1 "java/util/ArrayList" "size" "I" (.int nz)) (hpn : (3 : Int32) < nz) :
    own_MF l Z h0 own_y12 jdk_38_method_20_code 2 (some (.object "java/lang/Object")) ({ frames := 2, cells := 0, slots := 0, locals := 27 } : Room) #[(.ref a1), (.int (3 : Int32))] (Q_alget_3 Z zc wd kd wx wy wsp wspv wspk a1 b k el1 el2 el3 el4 gw5 gw6 gw7 gw8 gw9 gw10 nz h0) ws := by
  refine own_met (Q := (Q_alget_3 Z zc wd kd wx wy wsp wspv wspk a1 b k el1 el2 el3 el4 gw5 gw6 gw7 gw8 gw9 gw10 nz h0)) _ _ (plainFor_of_name own_pn_2) ?_
  intro p e s m below meth c T X0 hx hby hml hret hlk hZ hown hnm e0
  replace hown : s.vm.findClass "java/util/ArrayList" = some m.cls := hown
  replace hnm : meth.name = "get" := hnm
  have hml : c.maxLocals = 2 := hml
  obtain ⟨oCS, oCz, oDE, oDV, oEx, oSh, oE1, oE2, oPF, oSPE, oSPC, oSPF, oSPV, oNe⟩ := id hO
  have N0 := Fr.nil Z.heap.size
  have K0 := Keep.refl h0 []
  refine own_go (fun _ k => castTop (ef_alget_3 m a1) k) ?_
  show own_Go p e below s _ _ _ (T.setTop (mkF m 0 #[rv a1, iv (3 : Int32)] []))
  refine own_go (fun _ k => XS.iloadN X0.here hx rfl (hb hby d19_0) rfl (XS.aloadN X0.here hx rfl (hb hby d19_1) rfl rfl k)) ?_
  obtain ⟨T1, X1, e1, st1⟩ := getF X0 hx hZ hown (host := "") (Or.inl (ow78 hw)) Via.refl e0 (fp3.keep K0 nin0) (g := (mkF m 2 #[rv a1, iv (3 : Int32)] [(.ref a1), (.int (3 : Int32))])) rfl rfl (hb hby d19_2)
  refine own_go st1 ?_
  clear st1 X0 e0
  obtain ⟨v2, T2, L2, X2, hQ2, st2⟩ := own_callS (y := own_y10) X1 hx hZ hown (ow124 hw) (ow125 hw) (ow126 hw) (ow127 hw) (rm_oci l Z a0 hw hO [] (3 : Int32) nz h0 O0 (by decide : ¬ ((3 : Int32) < (0 : Int32))) hpn) 0 0 0 (by show _ ≤ 0; omega) (by show _ ≤ 0; omega) e1 (g := (mkF m 5 #[rv a1, iv (3 : Int32)] [(.int nz), (.int (3 : Int32))])) rfl (by rw [hml]; rfl) [(.int (3 : Int32)), (.int nz)] [] (lenOf own_pd_1 rfl) rfl rfl (hb hby d19_5)
  obtain ⟨rfl, Nc4, Kc3⟩ := hQ2
  refine own_go st2 ?_
  clear st2 X1 e1
  replace N0 := Fr.app N0 Nc4
  clear Nc4
  refine own_go (fun _ k => XS.pop X2.here hx rfl (hb hby d19_8) rfl rfl (XS.aloadN X2.here hx rfl (hb hby d19_9) rfl rfl (XS.iloadN X2.here hx rfl (hb hby d19_10) rfl k))) ?_
  obtain ⟨v5, T5, L5, X5, hQ5, st5⟩ := own_callV (y := own_y11) (z := own_y11) X2 hx hZ hown (ow132 hw) (ow133 hw) (notFace_of_selects (args := #[]) (mvT hZ (ow135 hw))) (ow135 hw) (ow134 hw) (ow40 hw) (ow136 hw) (rm_aled_3 l Z a0 hw hO [] a1 b k el1 el2 el3 el4 gw5 gw6 gw7 gw8 gw9 gw10 h0 O0 r_gw5 r_gw6 r_gw7 r_gw8 r_gw9 r_gw10 (fp0.keep K0) (fp1.keep K0 nin0) (fp2.keep K0 nin0)) 0 0 0 (by show _ ≤ 0; omega) (by show _ ≤ 0; omega) Kc3 (fp0.keep K0) (g := (mkF m 11 #[rv a1, iv (3 : Int32)] [(.int (3 : Int32)), (.ref a1)])) rfl (by rw [hml]; rfl) [(.int (3 : Int32))] [] (lenOf own_pd_6 rfl) rfl rfl (hb hby d19_11)
  obtain ⟨rfl, Nc7, Kc6⟩ := hQ5
  refine own_go st5 ?_
  clear st5 X2 Kc3
  replace N0 := Fr.app N0 Nc7
  clear Nc7
  show own_Go p e below s _ _ _ (T5.setTop (mkF m 14 #[rv a1, iv (3 : Int32)] [(.ref el4)]))
  refine own_retA X5 hx hlk Kc6 hret rfl rfl (hb hby d19_14) (by show _ ≤ 0; omega) (by show _ ≤ 0; omega) ?_
  exact ⟨rfl, N0, rfl⟩
theorem d27_0 : decode jdk_42_method_152_code 0 = .ok (.getstatic 38, 3) := by decide +kernel
theorem d27_3 : decode jdk_42_method_152_code 3 = .ok (.ifCond .eq 10, 3) := by decide +kernel
theorem d27_6 : decode jdk_42_method_152_code 6 = .ok (.aload_n 0, 1) := by decide +kernel
theorem d27_7 : decode jdk_42_method_152_code 7 = .ok (.getfield 15, 3) := by decide +kernel
theorem d27_10 : decode jdk_42_method_152_code 10 = .ok (.goto 4, 3) := by decide +kernel
theorem d27_14 : decode jdk_42_method_152_code 14 = .ok (.ireturn, 1) := by decide +kernel
def Q_scoder (Z : State) (zc : Int32) (wd : Addr) (kd : ClassId) (wx : Addr) (wy : Addr) (wsp : Addr) (wspv : Addr) (wspk : ClassId) (a1 : Addr) (h0 : Heap) (v : Option Value) (h : Heap) (L : List Loc) : Prop := (v = some (.int (0 : Int32)) ∧ Fr Z.heap.size L ∧ h = h0)
theorem ef_scoder (m : MethodId) (x0 : Addr) : entryFrame m #[(.ref x0)] 1 = mkF m 0 #[rv x0] [] := by first | (simp [entryFrame, mkF, argsToLocals, Value.category]; done) | rfl
set_option maxRecDepth 65536 in
set_option maxHeartbeats 40000000 in
theorem rm_scoder (l : Launch) (Z : State) (a0 : Array Value) (hw : own_W Z a0) {zc : Int32} {wd : Addr} {kd : ClassId} {wx : Addr} {wy : Addr} {wsp : Addr} {wspv : Addr} {wspk : ClassId} (hO : own_Olds Z zc wd kd wx wy wsp wspv wspk) (ws : List Jvm.Cond) (a1 : Addr) (h0 : Heap) (O0 : Ext Z.heap h0) (fp0 : Fld Z h0 a1 "java/lang/String" "coder" "B" (.int (0 : Int32))) :
    own_MF l Z h0 own_y13 jdk_42_method_152_code 1 (some .byte) ({ frames := 0, cells := 0, slots := 0, locals := 0 } : Room) #[(.ref a1)] (Q_scoder Z zc wd kd wx wy wsp wspv wspk a1 h0) ws := by
  refine own_met (Q := (Q_scoder Z zc wd kd wx wy wsp wspv wspk a1 h0)) _ _ (plainFor_of_name own_pn_5) ?_
  intro p e s m below meth c T X0 hx hby hml hret hlk hZ hown hnm e0
  replace hown : s.vm.findClass "java/lang/String" = some m.cls := hown
  replace hnm : meth.name = "coder" := hnm
  have hml : c.maxLocals = 1 := hml
  obtain ⟨oCS, oCz, oDE, oDV, oEx, oSh, oE1, oE2, oPF, oSPE, oSPC, oSPF, oSPV, oNe⟩ := id hO
  have N0 := Fr.nil Z.heap.size
  have K0 := Keep.refl h0 []
  refine own_go (fun _ k => castTop (ef_scoder m a1) k) ?_
  show own_Go p e below s _ _ _ (T.setTop (mkF m 0 #[rv a1] []))
  obtain ⟨T1, X1, e1, st1⟩ := getS2 X0 hx hZ hown (host := "") (Or.inl (ow22 hw)) Via.refl e0 (oCS.ext O0) (g := (mkF m 0 #[rv a1] [])) rfl (hb hby d27_0)
  refine own_go st1 ?_
  clear st1 X0 e0
  refine own_go (fun _ k => XS.ifNo X1.here hx rfl (hb hby d27_3) rfl ((if0 _ _).trans (feq oCz).1) (XS.aloadN X1.here hx rfl (hb hby d27_6) rfl rfl k)) ?_
  obtain ⟨T2, X2, e2, st2⟩ := getF X1 hx hZ hown (host := "") (Or.inl (ow34 hw)) Via.refl e1 (fp0.keep K0 nin0) (g := (mkF m 7 #[rv a1] [(.ref a1)])) rfl rfl (hb hby d27_7)
  refine own_go st2 ?_
  clear st2 X1 e1
  refine own_go (fun _ k => XS.goto X2.here hx rfl (pc0 := 10) (pc' := 14) rfl (hb hby d27_10) (by decide) (by decide) k) ?_
  show own_Go p e below s _ _ _ (T2.setTop (mkF m 14 #[rv a1] [(.int (0 : Int32))]))
  refine own_retN X2 hx hlk e2 (t := .byte) hret (by simp) (hb hby d27_14) (by show _ ≤ 0; omega) (by show _ ≤ 0; omega) ?_
  exact ⟨(congrArg (fun z => some (Value.int z)) (by decide)), N0, rfl⟩
theorem d26_0 : decode jdk_42_method_54_code 0 = .ok (.aload_n 0, 1) := by decide +kernel
theorem d26_1 : decode jdk_42_method_54_code 1 = .ok (.getfield 9, 3) := by decide +kernel
theorem d26_4 : decode jdk_42_method_54_code 4 = .ok (.arraylength, 1) := by decide +kernel
theorem d26_5 : decode jdk_42_method_54_code 5 = .ok (.aload_n 0, 1) := by decide +kernel
theorem d26_6 : decode jdk_42_method_54_code 6 = .ok (.invokevirtual 335, 3) := by decide +kernel
theorem d26_9 : decode jdk_42_method_54_code 9 = .ok (.ishr, 1) := by decide +kernel
theorem d26_10 : decode jdk_42_method_54_code 10 = .ok (.ireturn, 1) := by decide +kernel
def Q_slen6 (Z : State) (zc : Int32) (wd : Addr) (kd : ClassId) (wx : Addr) (wy : Addr) (wsp : Addr) (wspv : Addr) (wspk : ClassId) (a1 : Addr) (t : Addr) (kt : ClassId) (xb0 : Int32) (xb1 : Int32) (xb2 : Int32) (xb3 : Int32) (xb4 : Int32) (xb5 : Int32) (h0 : Heap) (v : Option Value) (h : Heap) (L : List Loc) : Prop := (v = some (.int (6 : Int32)) ∧ Fr Z.heap.size L ∧ h = h0)
theorem ef_slen6 (m : MethodId) (x0 : Addr) : entryFrame m #[(.ref x0)] 1 = mkF m 0 #[rv x0] [] := by first | (simp [entryFrame, mkF, argsToLocals, Value.category]; done) | rfl
set_option maxRecDepth 65536 in
set_option maxHeartbeats 40000000 in
theorem rm_slen6 (l : Launch) (Z : State) (a0 : Array Value) (hw : own_W Z a0) {zc : Int32} {wd : Addr} {kd : ClassId} {wx : Addr} {wy : Addr} {wsp : Addr} {wspv : Addr} {wspk : ClassId} (hO : own_Olds Z zc wd kd wx wy wsp wspv wspk) (ws : List Jvm.Cond) (a1 : Addr) (t : Addr) (kt : ClassId) (xb0 : Int32) (xb1 : Int32) (xb2 : Int32) (xb3 : Int32) (xb4 : Int32) (xb5 : Int32) (h0 : Heap) (O0 : Ext Z.heap h0) (fp0 : Exa Z h0 a1 "java/lang/String") (fp1 : Fld Z h0 a1 "java/lang/String" "value" "[B" (.ref t)) (fp2 : Fld Z h0 a1 "java/lang/String" "coder" "B" (.int (0 : Int32))) (fp3 : Arv Z h0 t kt .byte (6 : Int32) [(.int xb0), (.int xb1), (.int xb2), (.int xb3), (.int xb4), (.int xb5)] (.int (0 : Int32))) :
    own_MF l Z h0 own_y14 jdk_42_method_54_code 1 (some .int) ({ frames := 1, cells := 0, slots := 0, locals := 13 } : Room) #[(.ref a1)] (Q_slen6 Z zc wd kd wx wy wsp wspv wspk a1 t kt xb0 xb1 xb2 xb3 xb4 xb5 h0) ws := by
  refine own_met (Q := (Q_slen6 Z zc wd kd wx wy wsp wspv wspk a1 t kt xb0 xb1 xb2 xb3 xb4 xb5 h0)) _ _ (plainFor_of_name own_pn_5) ?_
  intro p e s m below meth c T X0 hx hby hml hret hlk hZ hown hnm e0
  replace hown : s.vm.findClass "java/lang/String" = some m.cls := hown
  replace hnm : meth.name = "length" := hnm
  have hml : c.maxLocals = 1 := hml
  obtain ⟨oCS, oCz, oDE, oDV, oEx, oSh, oE1, oE2, oPF, oSPE, oSPC, oSPF, oSPV, oNe⟩ := id hO
  have N0 := Fr.nil Z.heap.size
  have K0 := Keep.refl h0 []
  refine own_go (fun _ k => castTop (ef_slen6 m a1) k) ?_
  show own_Go p e below s _ _ _ (T.setTop (mkF m 0 #[rv a1] []))
  refine own_go (fun _ k => XS.aloadN X0.here hx rfl (hb hby d26_0) rfl rfl k) ?_
  obtain ⟨T1, X1, e1, st1⟩ := getF X0 hx hZ hown (host := "") (Or.inl (ow36 hw)) Via.refl e0 (fp1.keep K0 nin0) (g := (mkF m 1 #[rv a1] [(.ref a1)])) rfl rfl (hb hby d26_1)
  refine own_go st1 ?_
  clear st1 X0 e0
  show own_Go p e below s _ _ _ (T1.setTop (mkF m 4 #[rv a1] [(.ref t)]))
  obtain ⟨cl2, Ar2, -, S2, M2, -, -⟩ := id (fp3.keep K0 nin0)
  refine own_go (X1.arraylength hx (by rw [e1]; exact Ar2.1) (State.isArrayOf_alike hZ.alike Ar2.2.1) (g := (mkF m 4 #[rv a1] [(.ref t)])) rfl rfl (hb hby d26_4)) ?_
  rw [len_of S2 M2]
  refine own_go (fun _ k => XS.aloadN X1.here hx rfl (hb hby d26_5) rfl rfl k) ?_
  obtain ⟨v3, T3, L3, X3, hQ3, st3⟩ := own_callV (y := own_y13) (z := own_y13) X1 hx hZ hown (ow160 hw) (ow161 hw) (notFace_of_selects (args := #[]) (mvT hZ (ow163 hw))) (ow163 hw) (ow162 hw) (ow11 hw) (ow164 hw) (rm_scoder l Z a0 hw hO [] a1 h0 O0 (fp2.keep K0 nin0)) 1 0 0 (by show _ ≤ 0; omega) (by show _ ≤ 0; omega) e1 (fp0.keep K0) (g := (mkF m 6 #[rv a1] [(.ref a1), (.int (6 : Int32))])) rfl (by rw [hml]; rfl) [] [(.int (6 : Int32))] (lenOf own_pd_7 rfl) rfl rfl (hb hby d26_6)
  obtain ⟨rfl, Nc5, Kc4⟩ := hQ3
  refine own_go st3 ?_
  clear st3 X1 e1
  replace N0 := Fr.app N0 Nc5
  clear Nc5
  refine own_go (fun _ k => XS.ishr X3.here hx rfl (hb hby d26_9) rfl k) ?_
  show own_Go p e below s _ _ _ (T3.setTop (mkF m 10 #[rv a1] [(.int ((6 : Int32) >>> ((0 : Int32) &&& 31)))]))
  rw [show ((6 : Int32) >>> ((0 : Int32) &&& 31)) = (6 : Int32) from by decide]
  show own_Go p e below s _ _ _ (T3.setTop (mkF m 10 #[rv a1] [(.int (6 : Int32))]))
  refine own_retI X3 hx hlk Kc4 hret (hb hby d26_10) (by show _ ≤ 0; omega) (by show _ ≤ 0; omega) ?_
  exact ⟨rfl, N0, rfl⟩
def Q_slen7 (Z : State) (zc : Int32) (wd : Addr) (kd : ClassId) (wx : Addr) (wy : Addr) (wsp : Addr) (wspv : Addr) (wspk : ClassId) (a1 : Addr) (t : Addr) (kt : ClassId) (xb0 : Int32) (xb1 : Int32) (xb2 : Int32) (xb3 : Int32) (xb4 : Int32) (xb5 : Int32) (xb6 : Int32) (h0 : Heap) (v : Option Value) (h : Heap) (L : List Loc) : Prop := (v = some (.int (7 : Int32)) ∧ Fr Z.heap.size L ∧ h = h0)
theorem ef_slen7 (m : MethodId) (x0 : Addr) : entryFrame m #[(.ref x0)] 1 = mkF m 0 #[rv x0] [] := by first | (simp [entryFrame, mkF, argsToLocals, Value.category]; done) | rfl
set_option maxRecDepth 65536 in
set_option maxHeartbeats 40000000 in
theorem rm_slen7 (l : Launch) (Z : State) (a0 : Array Value) (hw : own_W Z a0) {zc : Int32} {wd : Addr} {kd : ClassId} {wx : Addr} {wy : Addr} {wsp : Addr} {wspv : Addr} {wspk : ClassId} (hO : own_Olds Z zc wd kd wx wy wsp wspv wspk) (ws : List Jvm.Cond) (a1 : Addr) (t : Addr) (kt : ClassId) (xb0 : Int32) (xb1 : Int32) (xb2 : Int32) (xb3 : Int32) (xb4 : Int32) (xb5 : Int32) (xb6 : Int32) (h0 : Heap) (O0 : Ext Z.heap h0) (fp0 : Exa Z h0 a1 "java/lang/String") (fp1 : Fld Z h0 a1 "java/lang/String" "value" "[B" (.ref t)) (fp2 : Fld Z h0 a1 "java/lang/String" "coder" "B" (.int (0 : Int32))) (fp3 : Arv Z h0 t kt .byte (7 : Int32) [(.int xb0), (.int xb1), (.int xb2), (.int xb3), (.int xb4), (.int xb5), (.int xb6)] (.int (0 : Int32))) :
    own_MF l Z h0 own_y14 jdk_42_method_54_code 1 (some .int) ({ frames := 1, cells := 0, slots := 0, locals := 13 } : Room) #[(.ref a1)] (Q_slen7 Z zc wd kd wx wy wsp wspv wspk a1 t kt xb0 xb1 xb2 xb3 xb4 xb5 xb6 h0) ws := by
  refine own_met (Q := (Q_slen7 Z zc wd kd wx wy wsp wspv wspk a1 t kt xb0 xb1 xb2 xb3 xb4 xb5 xb6 h0)) _ _ (plainFor_of_name own_pn_5) ?_
  intro p e s m below meth c T X0 hx hby hml hret hlk hZ hown hnm e0
  replace hown : s.vm.findClass "java/lang/String" = some m.cls := hown
  replace hnm : meth.name = "length" := hnm
  have hml : c.maxLocals = 1 := hml
  obtain ⟨oCS, oCz, oDE, oDV, oEx, oSh, oE1, oE2, oPF, oSPE, oSPC, oSPF, oSPV, oNe⟩ := id hO
  have N0 := Fr.nil Z.heap.size
  have K0 := Keep.refl h0 []
  refine own_go (fun _ k => castTop (ef_slen7 m a1) k) ?_
  show own_Go p e below s _ _ _ (T.setTop (mkF m 0 #[rv a1] []))
  refine own_go (fun _ k => XS.aloadN X0.here hx rfl (hb hby d26_0) rfl rfl k) ?_
  obtain ⟨T1, X1, e1, st1⟩ := getF X0 hx hZ hown (host := "") (Or.inl (ow36 hw)) Via.refl e0 (fp1.keep K0 nin0) (g := (mkF m 1 #[rv a1] [(.ref a1)])) rfl rfl (hb hby d26_1)
  refine own_go st1 ?_
  clear st1 X0 e0
  show own_Go p e below s _ _ _ (T1.setTop (mkF m 4 #[rv a1] [(.ref t)]))
  obtain ⟨cl2, Ar2, -, S2, M2, -, -⟩ := id (fp3.keep K0 nin0)
  refine own_go (X1.arraylength hx (by rw [e1]; exact Ar2.1) (State.isArrayOf_alike hZ.alike Ar2.2.1) (g := (mkF m 4 #[rv a1] [(.ref t)])) rfl rfl (hb hby d26_4)) ?_
  rw [len_of S2 M2]
  refine own_go (fun _ k => XS.aloadN X1.here hx rfl (hb hby d26_5) rfl rfl k) ?_
  obtain ⟨v3, T3, L3, X3, hQ3, st3⟩ := own_callV (y := own_y13) (z := own_y13) X1 hx hZ hown (ow160 hw) (ow161 hw) (notFace_of_selects (args := #[]) (mvT hZ (ow163 hw))) (ow163 hw) (ow162 hw) (ow11 hw) (ow164 hw) (rm_scoder l Z a0 hw hO [] a1 h0 O0 (fp2.keep K0 nin0)) 1 0 0 (by show _ ≤ 0; omega) (by show _ ≤ 0; omega) e1 (fp0.keep K0) (g := (mkF m 6 #[rv a1] [(.ref a1), (.int (7 : Int32))])) rfl (by rw [hml]; rfl) [] [(.int (7 : Int32))] (lenOf own_pd_7 rfl) rfl rfl (hb hby d26_6)
  obtain ⟨rfl, Nc5, Kc4⟩ := hQ3
  refine own_go st3 ?_
  clear st3 X1 e1
  replace N0 := Fr.app N0 Nc5
  clear Nc5
  refine own_go (fun _ k => XS.ishr X3.here hx rfl (hb hby d26_9) rfl k) ?_
  show own_Go p e below s _ _ _ (T3.setTop (mkF m 10 #[rv a1] [(.int ((7 : Int32) >>> ((0 : Int32) &&& 31)))]))
  rw [show ((7 : Int32) >>> ((0 : Int32) &&& 31)) = (7 : Int32) from by decide]
  show own_Go p e below s _ _ _ (T3.setTop (mkF m 10 #[rv a1] [(.int (7 : Int32))]))
  refine own_retI X3 hx hlk Kc4 hret (hb hby d26_10) (by show _ ≤ 0; omega) (by show _ ≤ 0; omega) ?_
  exact ⟨rfl, N0, rfl⟩
def Q_slen8 (Z : State) (zc : Int32) (wd : Addr) (kd : ClassId) (wx : Addr) (wy : Addr) (wsp : Addr) (wspv : Addr) (wspk : ClassId) (a1 : Addr) (t : Addr) (kt : ClassId) (xb0 : Int32) (xb1 : Int32) (xb2 : Int32) (xb3 : Int32) (xb4 : Int32) (xb5 : Int32) (xb6 : Int32) (xb7 : Int32) (h0 : Heap) (v : Option Value) (h : Heap) (L : List Loc) : Prop := (v = some (.int (8 : Int32)) ∧ Fr Z.heap.size L ∧ h = h0)
theorem ef_slen8 (m : MethodId) (x0 : Addr) : entryFrame m #[(.ref x0)] 1 = mkF m 0 #[rv x0] [] := by first | (simp [entryFrame, mkF, argsToLocals, Value.category]; done) | rfl
set_option maxRecDepth 65536 in
set_option maxHeartbeats 40000000 in
theorem rm_slen8 (l : Launch) (Z : State) (a0 : Array Value) (hw : own_W Z a0) {zc : Int32} {wd : Addr} {kd : ClassId} {wx : Addr} {wy : Addr} {wsp : Addr} {wspv : Addr} {wspk : ClassId} (hO : own_Olds Z zc wd kd wx wy wsp wspv wspk) (ws : List Jvm.Cond) (a1 : Addr) (t : Addr) (kt : ClassId) (xb0 : Int32) (xb1 : Int32) (xb2 : Int32) (xb3 : Int32) (xb4 : Int32) (xb5 : Int32) (xb6 : Int32) (xb7 : Int32) (h0 : Heap) (O0 : Ext Z.heap h0) (fp0 : Exa Z h0 a1 "java/lang/String") (fp1 : Fld Z h0 a1 "java/lang/String" "value" "[B" (.ref t)) (fp2 : Fld Z h0 a1 "java/lang/String" "coder" "B" (.int (0 : Int32))) (fp3 : Arv Z h0 t kt .byte (8 : Int32) [(.int xb0), (.int xb1), (.int xb2), (.int xb3), (.int xb4), (.int xb5), (.int xb6), (.int xb7)] (.int (0 : Int32))) :
    own_MF l Z h0 own_y14 jdk_42_method_54_code 1 (some .int) ({ frames := 1, cells := 0, slots := 0, locals := 13 } : Room) #[(.ref a1)] (Q_slen8 Z zc wd kd wx wy wsp wspv wspk a1 t kt xb0 xb1 xb2 xb3 xb4 xb5 xb6 xb7 h0) ws := by
  refine own_met (Q := (Q_slen8 Z zc wd kd wx wy wsp wspv wspk a1 t kt xb0 xb1 xb2 xb3 xb4 xb5 xb6 xb7 h0)) _ _ (plainFor_of_name own_pn_5) ?_
  intro p e s m below meth c T X0 hx hby hml hret hlk hZ hown hnm e0
  replace hown : s.vm.findClass "java/lang/String" = some m.cls := hown
  replace hnm : meth.name = "length" := hnm
  have hml : c.maxLocals = 1 := hml
  obtain ⟨oCS, oCz, oDE, oDV, oEx, oSh, oE1, oE2, oPF, oSPE, oSPC, oSPF, oSPV, oNe⟩ := id hO
  have N0 := Fr.nil Z.heap.size
  have K0 := Keep.refl h0 []
  refine own_go (fun _ k => castTop (ef_slen8 m a1) k) ?_
  show own_Go p e below s _ _ _ (T.setTop (mkF m 0 #[rv a1] []))
  refine own_go (fun _ k => XS.aloadN X0.here hx rfl (hb hby d26_0) rfl rfl k) ?_
  obtain ⟨T1, X1, e1, st1⟩ := getF X0 hx hZ hown (host := "") (Or.inl (ow36 hw)) Via.refl e0 (fp1.keep K0 nin0) (g := (mkF m 1 #[rv a1] [(.ref a1)])) rfl rfl (hb hby d26_1)
  refine own_go st1 ?_
  clear st1 X0 e0
  show own_Go p e below s _ _ _ (T1.setTop (mkF m 4 #[rv a1] [(.ref t)]))
  obtain ⟨cl2, Ar2, -, S2, M2, -, -⟩ := id (fp3.keep K0 nin0)
  refine own_go (X1.arraylength hx (by rw [e1]; exact Ar2.1) (State.isArrayOf_alike hZ.alike Ar2.2.1) (g := (mkF m 4 #[rv a1] [(.ref t)])) rfl rfl (hb hby d26_4)) ?_
  rw [len_of S2 M2]
  refine own_go (fun _ k => XS.aloadN X1.here hx rfl (hb hby d26_5) rfl rfl k) ?_
  obtain ⟨v3, T3, L3, X3, hQ3, st3⟩ := own_callV (y := own_y13) (z := own_y13) X1 hx hZ hown (ow160 hw) (ow161 hw) (notFace_of_selects (args := #[]) (mvT hZ (ow163 hw))) (ow163 hw) (ow162 hw) (ow11 hw) (ow164 hw) (rm_scoder l Z a0 hw hO [] a1 h0 O0 (fp2.keep K0 nin0)) 1 0 0 (by show _ ≤ 0; omega) (by show _ ≤ 0; omega) e1 (fp0.keep K0) (g := (mkF m 6 #[rv a1] [(.ref a1), (.int (8 : Int32))])) rfl (by rw [hml]; rfl) [] [(.int (8 : Int32))] (lenOf own_pd_7 rfl) rfl rfl (hb hby d26_6)
  obtain ⟨rfl, Nc5, Kc4⟩ := hQ3
  refine own_go st3 ?_
  clear st3 X1 e1
  replace N0 := Fr.app N0 Nc5
  clear Nc5
  refine own_go (fun _ k => XS.ishr X3.here hx rfl (hb hby d26_9) rfl k) ?_
  show own_Go p e below s _ _ _ (T3.setTop (mkF m 10 #[rv a1] [(.int ((8 : Int32) >>> ((0 : Int32) &&& 31)))]))
  rw [show ((8 : Int32) >>> ((0 : Int32) &&& 31)) = (8 : Int32) from by decide]
  show own_Go p e below s _ _ _ (T3.setTop (mkF m 10 #[rv a1] [(.int (8 : Int32))]))
  refine own_retI X3 hx hlk Kc4 hret (hb hby d26_10) (by show _ ≤ 0; omega) (by show _ ≤ 0; omega) ?_
  exact ⟨rfl, N0, rfl⟩
theorem d29_0 : decode jdk_48_method_14_code 0 = .ok (.iconst 0, 1) := by decide +kernel
theorem d29_1 : decode jdk_48_method_14_code 1 = .ok (.istore 5, 2) := by decide +kernel
theorem d29_3 : decode jdk_48_method_14_code 3 = .ok (.iload 4, 2) := by decide +kernel
theorem d29_5 : decode jdk_48_method_14_code 5 = .ok (.bipush 7, 2) := by decide +kernel
theorem d29_7 : decode jdk_48_method_14_code 7 = .ok (.if_icmp .le 63, 3) := by decide +kernel
theorem d29_70 : decode jdk_48_method_14_code 70 = .ok (.iload 5, 2) := by decide +kernel
theorem d29_72 : decode jdk_48_method_14_code 72 = .ok (.iload 4, 2) := by decide +kernel
theorem d29_74 : decode jdk_48_method_14_code 74 = .ok (.if_icmp .ge 27, 3) := by decide +kernel
theorem d29_77 : decode jdk_48_method_14_code 77 = .ok (.aload_n 0, 1) := by decide +kernel
theorem d29_78 : decode jdk_48_method_14_code 78 = .ok (.iload_n 1, 1) := by decide +kernel
theorem d29_79 : decode jdk_48_method_14_code 79 = .ok (.iload 5, 2) := by decide +kernel
theorem d29_81 : decode jdk_48_method_14_code 81 = .ok (.iadd, 1) := by decide +kernel
theorem d29_82 : decode jdk_48_method_14_code 82 = .ok (.baload, 1) := by decide +kernel
theorem d29_83 : decode jdk_48_method_14_code 83 = .ok (.aload_n 2, 1) := by decide +kernel
theorem d29_84 : decode jdk_48_method_14_code 84 = .ok (.iload_n 3, 1) := by decide +kernel
theorem d29_85 : decode jdk_48_method_14_code 85 = .ok (.iload 5, 2) := by decide +kernel
theorem d29_87 : decode jdk_48_method_14_code 87 = .ok (.iadd, 1) := by decide +kernel
theorem d29_88 : decode jdk_48_method_14_code 88 = .ok (.baload, 1) := by decide +kernel
theorem d29_89 : decode jdk_48_method_14_code 89 = .ok (.if_icmp .eq 6, 3) := by decide +kernel
theorem d29_92 : decode jdk_48_method_14_code 92 = .ok (.iload 5, 2) := by decide +kernel
theorem d29_94 : decode jdk_48_method_14_code 94 = .ok (.ireturn, 1) := by decide +kernel
theorem d29_95 : decode jdk_48_method_14_code 95 = .ok (.iinc 5 1, 3) := by decide +kernel
theorem d29_98 : decode jdk_48_method_14_code 98 = .ok (.goto (-28), 3) := by decide +kernel
theorem d29_101 : decode jdk_48_method_14_code 101 = .ok (.iconst (-1), 1) := by decide +kernel
theorem d29_102 : decode jdk_48_method_14_code 102 = .ok (.ireturn, 1) := by decide +kernel
def Q_mm8 (Z : State) (zc : Int32) (wd : Addr) (kd : ClassId) (wx : Addr) (wy : Addr) (wsp : Addr) (wspv : Addr) (wspk : ClassId) (t : Addr) (kt : ClassId) (x0 : Int32) (x1 : Int32) (x2 : Int32) (x3 : Int32) (x4 : Int32) (x5 : Int32) (x6 : Int32) (x7 : Int32) (h0 : Heap) (v : Option Value) (h : Heap) (L : List Loc) : Prop := (v = some (.int (-1 : Int32)) ∧ Fr Z.heap.size L ∧ own_P7 x0 x1 x2 x3 x4 x5 x6 ∧ h = h0) ∨ (∃ r : Int32, v = some (.int r) ∧ Fr Z.heap.size L ∧ ¬ (own_P7 x0 x1 x2 x3 x4 x5 x6) ∧ ¬ (r < (0 : Int32)) ∧ h = h0)
theorem ef_mm8 (m : MethodId) (x0 : Addr) (x2 : Addr) : entryFrame m #[(.ref x0), (.int (0 : Int32)), (.ref x2), (.int (0 : Int32)), (.int (7 : Int32))] 8 = mkF m 0 #[rv x0, iv (0 : Int32), rv x2, iv (0 : Int32), iv (7 : Int32), .unset, .unset, .unset] [] := by first | (simp [entryFrame, mkF, argsToLocals, Value.category]; done) | rfl
set_option maxRecDepth 65536 in
set_option maxHeartbeats 40000000 in
theorem rm_mm8 (l : Launch) (Z : State) (a0 : Array Value) (hw : own_W Z a0) {zc : Int32} {wd : Addr} {kd : ClassId} {wx : Addr} {wy : Addr} {wsp : Addr} {wspv : Addr} {wspk : ClassId} (hO : own_Olds Z zc wd kd wx wy wsp wspv wspk) (ws : List Jvm.Cond) (t : Addr) (kt : ClassId) (x0 : Int32) (x1 : Int32) (x2 : Int32) (x3 : Int32) (x4 : Int32) (x5 : Int32) (x6 : Int32) (x7 : Int32) (h0 : Heap) (O0 : Ext Z.heap h0) (fp0 : Arv Z h0 t kt .byte (8 : Int32) [(.int x0), (.int x1), (.int x2), (.int x3), (.int x4), (.int x5), (.int x6), (.int x7)] (.int (0 : Int32))) :
    own_MF l Z h0 own_y15 jdk_48_method_14_code 8 (some .int) ({ frames := 0, cells := 0, slots := 0, locals := 0 } : Room) #[(.ref t), (.int (0 : Int32)), (.ref wspv), (.int (0 : Int32)), (.int (7 : Int32))] (Q_mm8 Z zc wd kd wx wy wsp wspv wspk t kt x0 x1 x2 x3 x4 x5 x6 x7 h0) ws := by
  refine own_met (Q := (Q_mm8 Z zc wd kd wx wy wsp wspv wspk t kt x0 x1 x2 x3 x4 x5 x6 x7 h0)) _ _ (plainFor_of_name own_pn_6) ?_
  intro p e s m below meth c T X0 hx hby hml hret hlk hZ hown hnm e0
  replace hown : s.vm.findClass "jdk/internal/util/ArraysSupport" = some m.cls := hown
  replace hnm : meth.name = "mismatch" := hnm
  have hml : c.maxLocals = 8 := hml
  obtain ⟨oCS, oCz, oDE, oDV, oEx, oSh, oE1, oE2, oPF, oSPE, oSPC, oSPF, oSPV, oNe⟩ := id hO
  have N0 := Fr.nil Z.heap.size
  have K0 := Keep.refl h0 []
  refine own_go (fun _ k => castTop (ef_mm8 m t wspv) k) ?_
  show own_Go p e below s _ _ _ (T.setTop (mkF m 0 #[rv t, iv (0 : Int32), rv wspv, iv (0 : Int32), iv (7 : Int32), .unset, .unset, .unset] []))
  refine own_go (fun _ k => XS.iconst X0.here hx rfl (hb hby d29_0) (XS.istore X0.here hx rfl (hb hby d29_1) rfl (l' := #[rv t, iv (0 : Int32), rv wspv, iv (0 : Int32), iv (7 : Int32), iv (0 : Int32), .unset, .unset]) rfl (XS.iload X0.here hx rfl (hb hby d29_3) rfl (XS.bipush X0.here hx rfl (hb hby d29_5) (XS.icmpYes X0.here hx rfl (pc0 := 7) (pc' := 70) rfl (hb hby d29_7) rfl (flt (by decide : ¬ ((7 : Int32) < (7 : Int32)))).2.2.2 (by decide) (by decide) (XS.iload X0.here hx rfl (hb hby d29_70) rfl k)))))) ?_
  show own_Go p e below s _ _ _ (T.setTop (mkF m 72 #[rv t, iv (0 : Int32), rv wspv, iv (0 : Int32), iv (7 : Int32), iv (0 : Int32), .unset, .unset] [(.int (0 : Int32))]))
  refine own_go (fun _ k => XS.iload X0.here hx rfl (hb hby d29_72) rfl (XS.icmpNo X0.here hx rfl (hb hby d29_74) rfl (tlt (by decide : (0 : Int32) < (7 : Int32))).2.1 (XS.aloadN X0.here hx rfl (hb hby d29_77) rfl rfl (XS.iloadN X0.here hx rfl (hb hby d29_78) rfl (XS.iload X0.here hx rfl (hb hby d29_79) rfl (XS.iadd X0.here hx rfl (hb hby d29_81) rfl k)))))) ?_
  show own_Go p e below s _ _ _ (T.setTop (mkF m 82 #[rv t, iv (0 : Int32), rv wspv, iv (0 : Int32), iv (7 : Int32), iv (0 : Int32), .unset, .unset] [(.int (0 : Int32)), (.ref t)]))
  obtain ⟨cl1, Ar1, -, S1, -, P1, -⟩ := id (fp0.keep K0 nin0)
  have hin1 : ¬ ((0 : Int32) < 0 ∨ cl1.slots.size ≤ ((0 : Int32)).toNatClampNeg) := inb_of S1 ⟨by decide, by decide⟩
  refine own_go (X0.baloadBytes hx (j := (0 : Int32)) (v := (.int x0)) (by rw [e0]; exact Ar1.1) (State.isArrayOf_alike hZ.alike Ar1.2.1) Ar1.2.2 hin1 (P1.at hin1 rfl) (g := (mkF m 82 #[rv t, iv (0 : Int32), rv wspv, iv (0 : Int32), iv (7 : Int32), iv (0 : Int32), .unset, .unset] [(.int (0 : Int32)), (.ref t)])) rfl rfl (hb hby d29_82)) ?_
  refine own_go (fun _ k => XS.aloadN X0.here hx rfl (hb hby d29_83) rfl rfl (XS.iloadN X0.here hx rfl (hb hby d29_84) rfl (XS.iload X0.here hx rfl (hb hby d29_85) rfl (XS.iadd X0.here hx rfl (hb hby d29_87) rfl k)))) ?_
  obtain ⟨cl2, Ar2, -, S2, -, P2, -⟩ := id (oSPV.ext O0)
  have hin2 : ¬ ((0 : Int32) < 0 ∨ cl2.slots.size ≤ ((0 : Int32)).toNatClampNeg) := inb_of S2 ⟨by decide, by decide⟩
  refine own_go (X0.baloadBytes hx (j := (0 : Int32)) (v := (.int (115 : Int32))) (by rw [e0]; exact Ar2.1) (State.isArrayOf_alike hZ.alike Ar2.2.1) Ar2.2.2 hin2 (P2.at hin2 rfl) (g := (mkF m 88 #[rv t, iv (0 : Int32), rv wspv, iv (0 : Int32), iv (7 : Int32), iv (0 : Int32), .unset, .unset] [(.int (0 : Int32)), (.ref wspv), (.int x0)])) rfl rfl (hb hby d29_88)) ?_
  show own_Go p e below s _ _ _ (T.setTop (mkF m 89 #[rv t, iv (0 : Int32), rv wspv, iv (0 : Int32), iv (7 : Int32), iv (0 : Int32), .unset, .unset] [(.int (115 : Int32)), (.int x0)]))
  by_cases hc3 : x0 = (115 : Int32)
  · refine own_go (fun _ k => XS.icmpYes X0.here hx rfl (pc0 := 89) (pc' := 95) rfl (hb hby d29_89) rfl (teq hc3).1 (by decide) (by decide) k) ?_
    show own_Go p e below s _ _ _ (T.setTop (mkF m 95 #[rv t, iv (0 : Int32), rv wspv, iv (0 : Int32), iv (7 : Int32), iv (0 : Int32), .unset, .unset] []))
    refine own_go (fun _ k => XS.iinc X0.here hx rfl (hb hby d29_95) rfl (l' := #[rv t, iv (0 : Int32), rv wspv, iv (0 : Int32), iv (7 : Int32), iv (1 : Int32), .unset, .unset]) rfl (XS.goto X0.here hx rfl (pc0 := 98) (pc' := 70) rfl (hb hby d29_98) (by decide) (by decide) (XS.iload X0.here hx rfl (hb hby d29_70) rfl (XS.iload X0.here hx rfl (hb hby d29_72) rfl (XS.icmpNo X0.here hx rfl (hb hby d29_74) rfl (tlt (by decide : (1 : Int32) < (7 : Int32))).2.1 (XS.aloadN X0.here hx rfl (hb hby d29_77) rfl rfl k)))))) ?_
    show own_Go p e below s _ _ _ (T.setTop (mkF m 78 #[rv t, iv (0 : Int32), rv wspv, iv (0 : Int32), iv (7 : Int32), iv (1 : Int32), .unset, .unset] [(.ref t)]))
    refine own_go (fun _ k => XS.iloadN X0.here hx rfl (hb hby d29_78) rfl (XS.iload X0.here hx rfl (hb hby d29_79) rfl (XS.iadd X0.here hx rfl (hb hby d29_81) rfl k))) ?_
    obtain ⟨cl4, Ar4, -, S4, -, P4, -⟩ := id (fp0.keep K0 nin0)
    have hin4 : ¬ ((1 : Int32) < 0 ∨ cl4.slots.size ≤ ((1 : Int32)).toNatClampNeg) := inb_of S4 ⟨by decide, by decide⟩
    refine own_go (X0.baloadBytes hx (j := (1 : Int32)) (v := (.int x1)) (by rw [e0]; exact Ar4.1) (State.isArrayOf_alike hZ.alike Ar4.2.1) Ar4.2.2 hin4 (P4.at hin4 rfl) (g := (mkF m 82 #[rv t, iv (0 : Int32), rv wspv, iv (0 : Int32), iv (7 : Int32), iv (1 : Int32), .unset, .unset] [(.int (1 : Int32)), (.ref t)])) rfl rfl (hb hby d29_82)) ?_
    refine own_go (fun _ k => XS.aloadN X0.here hx rfl (hb hby d29_83) rfl rfl (XS.iloadN X0.here hx rfl (hb hby d29_84) rfl k)) ?_
    show own_Go p e below s _ _ _ (T.setTop (mkF m 85 #[rv t, iv (0 : Int32), rv wspv, iv (0 : Int32), iv (7 : Int32), iv (1 : Int32), .unset, .unset] [(.int (0 : Int32)), (.ref wspv), (.int x1)]))
    refine own_go (fun _ k => XS.iload X0.here hx rfl (hb hby d29_85) rfl (XS.iadd X0.here hx rfl (hb hby d29_87) rfl k)) ?_
    obtain ⟨cl5, Ar5, -, S5, -, P5, -⟩ := id (oSPV.ext O0)
    have hin5 : ¬ ((1 : Int32) < 0 ∨ cl5.slots.size ≤ ((1 : Int32)).toNatClampNeg) := inb_of S5 ⟨by decide, by decide⟩
    refine own_go (X0.baloadBytes hx (j := (1 : Int32)) (v := (.int (104 : Int32))) (by rw [e0]; exact Ar5.1) (State.isArrayOf_alike hZ.alike Ar5.2.1) Ar5.2.2 hin5 (P5.at hin5 rfl) (g := (mkF m 88 #[rv t, iv (0 : Int32), rv wspv, iv (0 : Int32), iv (7 : Int32), iv (1 : Int32), .unset, .unset] [(.int (1 : Int32)), (.ref wspv), (.int x1)])) rfl rfl (hb hby d29_88)) ?_
    by_cases hc6 : x1 = (104 : Int32)
    · refine own_go (fun _ k => XS.icmpYes X0.here hx rfl (pc0 := 89) (pc' := 95) rfl (hb hby d29_89) rfl (teq hc6).1 (by decide) (by decide) k) ?_
      show own_Go p e below s _ _ _ (T.setTop (mkF m 95 #[rv t, iv (0 : Int32), rv wspv, iv (0 : Int32), iv (7 : Int32), iv (1 : Int32), .unset, .unset] []))
      refine own_go (fun _ k => XS.iinc X0.here hx rfl (hb hby d29_95) rfl (l' := #[rv t, iv (0 : Int32), rv wspv, iv (0 : Int32), iv (7 : Int32), iv (2 : Int32), .unset, .unset]) rfl (XS.goto X0.here hx rfl (pc0 := 98) (pc' := 70) rfl (hb hby d29_98) (by decide) (by decide) (XS.iload X0.here hx rfl (hb hby d29_70) rfl (XS.iload X0.here hx rfl (hb hby d29_72) rfl (XS.icmpNo X0.here hx rfl (hb hby d29_74) rfl (tlt (by decide : (2 : Int32) < (7 : Int32))).2.1 (XS.aloadN X0.here hx rfl (hb hby d29_77) rfl rfl k)))))) ?_
      show own_Go p e below s _ _ _ (T.setTop (mkF m 78 #[rv t, iv (0 : Int32), rv wspv, iv (0 : Int32), iv (7 : Int32), iv (2 : Int32), .unset, .unset] [(.ref t)]))
      refine own_go (fun _ k => XS.iloadN X0.here hx rfl (hb hby d29_78) rfl (XS.iload X0.here hx rfl (hb hby d29_79) rfl (XS.iadd X0.here hx rfl (hb hby d29_81) rfl k))) ?_
      obtain ⟨cl7, Ar7, -, S7, -, P7, -⟩ := id (fp0.keep K0 nin0)
      have hin7 : ¬ ((2 : Int32) < 0 ∨ cl7.slots.size ≤ ((2 : Int32)).toNatClampNeg) := inb_of S7 ⟨by decide, by decide⟩
      refine own_go (X0.baloadBytes hx (j := (2 : Int32)) (v := (.int x2)) (by rw [e0]; exact Ar7.1) (State.isArrayOf_alike hZ.alike Ar7.2.1) Ar7.2.2 hin7 (P7.at hin7 rfl) (g := (mkF m 82 #[rv t, iv (0 : Int32), rv wspv, iv (0 : Int32), iv (7 : Int32), iv (2 : Int32), .unset, .unset] [(.int (2 : Int32)), (.ref t)])) rfl rfl (hb hby d29_82)) ?_
      refine own_go (fun _ k => XS.aloadN X0.here hx rfl (hb hby d29_83) rfl rfl (XS.iloadN X0.here hx rfl (hb hby d29_84) rfl k)) ?_
      show own_Go p e below s _ _ _ (T.setTop (mkF m 85 #[rv t, iv (0 : Int32), rv wspv, iv (0 : Int32), iv (7 : Int32), iv (2 : Int32), .unset, .unset] [(.int (0 : Int32)), (.ref wspv), (.int x2)]))
      refine own_go (fun _ k => XS.iload X0.here hx rfl (hb hby d29_85) rfl (XS.iadd X0.here hx rfl (hb hby d29_87) rfl k)) ?_
      obtain ⟨cl8, Ar8, -, S8, -, P8, -⟩ := id (oSPV.ext O0)
      have hin8 : ¬ ((2 : Int32) < 0 ∨ cl8.slots.size ≤ ((2 : Int32)).toNatClampNeg) := inb_of S8 ⟨by decide, by decide⟩
      refine own_go (X0.baloadBytes hx (j := (2 : Int32)) (v := (.int (97 : Int32))) (by rw [e0]; exact Ar8.1) (State.isArrayOf_alike hZ.alike Ar8.2.1) Ar8.2.2 hin8 (P8.at hin8 rfl) (g := (mkF m 88 #[rv t, iv (0 : Int32), rv wspv, iv (0 : Int32), iv (7 : Int32), iv (2 : Int32), .unset, .unset] [(.int (2 : Int32)), (.ref wspv), (.int x2)])) rfl rfl (hb hby d29_88)) ?_
      by_cases hc9 : x2 = (97 : Int32)
      · refine own_go (fun _ k => XS.icmpYes X0.here hx rfl (pc0 := 89) (pc' := 95) rfl (hb hby d29_89) rfl (teq hc9).1 (by decide) (by decide) k) ?_
        show own_Go p e below s _ _ _ (T.setTop (mkF m 95 #[rv t, iv (0 : Int32), rv wspv, iv (0 : Int32), iv (7 : Int32), iv (2 : Int32), .unset, .unset] []))
        refine own_go (fun _ k => XS.iinc X0.here hx rfl (hb hby d29_95) rfl (l' := #[rv t, iv (0 : Int32), rv wspv, iv (0 : Int32), iv (7 : Int32), iv (3 : Int32), .unset, .unset]) rfl (XS.goto X0.here hx rfl (pc0 := 98) (pc' := 70) rfl (hb hby d29_98) (by decide) (by decide) (XS.iload X0.here hx rfl (hb hby d29_70) rfl (XS.iload X0.here hx rfl (hb hby d29_72) rfl (XS.icmpNo X0.here hx rfl (hb hby d29_74) rfl (tlt (by decide : (3 : Int32) < (7 : Int32))).2.1 (XS.aloadN X0.here hx rfl (hb hby d29_77) rfl rfl k)))))) ?_
        show own_Go p e below s _ _ _ (T.setTop (mkF m 78 #[rv t, iv (0 : Int32), rv wspv, iv (0 : Int32), iv (7 : Int32), iv (3 : Int32), .unset, .unset] [(.ref t)]))
        refine own_go (fun _ k => XS.iloadN X0.here hx rfl (hb hby d29_78) rfl (XS.iload X0.here hx rfl (hb hby d29_79) rfl (XS.iadd X0.here hx rfl (hb hby d29_81) rfl k))) ?_
        obtain ⟨cl10, Ar10, -, S10, -, P10, -⟩ := id (fp0.keep K0 nin0)
        have hin10 : ¬ ((3 : Int32) < 0 ∨ cl10.slots.size ≤ ((3 : Int32)).toNatClampNeg) := inb_of S10 ⟨by decide, by decide⟩
        refine own_go (X0.baloadBytes hx (j := (3 : Int32)) (v := (.int x3)) (by rw [e0]; exact Ar10.1) (State.isArrayOf_alike hZ.alike Ar10.2.1) Ar10.2.2 hin10 (P10.at hin10 rfl) (g := (mkF m 82 #[rv t, iv (0 : Int32), rv wspv, iv (0 : Int32), iv (7 : Int32), iv (3 : Int32), .unset, .unset] [(.int (3 : Int32)), (.ref t)])) rfl rfl (hb hby d29_82)) ?_
        refine own_go (fun _ k => XS.aloadN X0.here hx rfl (hb hby d29_83) rfl rfl (XS.iloadN X0.here hx rfl (hb hby d29_84) rfl k)) ?_
        show own_Go p e below s _ _ _ (T.setTop (mkF m 85 #[rv t, iv (0 : Int32), rv wspv, iv (0 : Int32), iv (7 : Int32), iv (3 : Int32), .unset, .unset] [(.int (0 : Int32)), (.ref wspv), (.int x3)]))
        refine own_go (fun _ k => XS.iload X0.here hx rfl (hb hby d29_85) rfl (XS.iadd X0.here hx rfl (hb hby d29_87) rfl k)) ?_
        obtain ⟨cl11, Ar11, -, S11, -, P11, -⟩ := id (oSPV.ext O0)
        have hin11 : ¬ ((3 : Int32) < 0 ∨ cl11.slots.size ≤ ((3 : Int32)).toNatClampNeg) := inb_of S11 ⟨by decide, by decide⟩
        refine own_go (X0.baloadBytes hx (j := (3 : Int32)) (v := (.int (114 : Int32))) (by rw [e0]; exact Ar11.1) (State.isArrayOf_alike hZ.alike Ar11.2.1) Ar11.2.2 hin11 (P11.at hin11 rfl) (g := (mkF m 88 #[rv t, iv (0 : Int32), rv wspv, iv (0 : Int32), iv (7 : Int32), iv (3 : Int32), .unset, .unset] [(.int (3 : Int32)), (.ref wspv), (.int x3)])) rfl rfl (hb hby d29_88)) ?_
        by_cases hc12 : x3 = (114 : Int32)
        · refine own_go (fun _ k => XS.icmpYes X0.here hx rfl (pc0 := 89) (pc' := 95) rfl (hb hby d29_89) rfl (teq hc12).1 (by decide) (by decide) k) ?_
          show own_Go p e below s _ _ _ (T.setTop (mkF m 95 #[rv t, iv (0 : Int32), rv wspv, iv (0 : Int32), iv (7 : Int32), iv (3 : Int32), .unset, .unset] []))
          refine own_go (fun _ k => XS.iinc X0.here hx rfl (hb hby d29_95) rfl (l' := #[rv t, iv (0 : Int32), rv wspv, iv (0 : Int32), iv (7 : Int32), iv (4 : Int32), .unset, .unset]) rfl (XS.goto X0.here hx rfl (pc0 := 98) (pc' := 70) rfl (hb hby d29_98) (by decide) (by decide) (XS.iload X0.here hx rfl (hb hby d29_70) rfl (XS.iload X0.here hx rfl (hb hby d29_72) rfl (XS.icmpNo X0.here hx rfl (hb hby d29_74) rfl (tlt (by decide : (4 : Int32) < (7 : Int32))).2.1 (XS.aloadN X0.here hx rfl (hb hby d29_77) rfl rfl k)))))) ?_
          show own_Go p e below s _ _ _ (T.setTop (mkF m 78 #[rv t, iv (0 : Int32), rv wspv, iv (0 : Int32), iv (7 : Int32), iv (4 : Int32), .unset, .unset] [(.ref t)]))
          refine own_go (fun _ k => XS.iloadN X0.here hx rfl (hb hby d29_78) rfl (XS.iload X0.here hx rfl (hb hby d29_79) rfl (XS.iadd X0.here hx rfl (hb hby d29_81) rfl k))) ?_
          obtain ⟨cl13, Ar13, -, S13, -, P13, -⟩ := id (fp0.keep K0 nin0)
          have hin13 : ¬ ((4 : Int32) < 0 ∨ cl13.slots.size ≤ ((4 : Int32)).toNatClampNeg) := inb_of S13 ⟨by decide, by decide⟩
          refine own_go (X0.baloadBytes hx (j := (4 : Int32)) (v := (.int x4)) (by rw [e0]; exact Ar13.1) (State.isArrayOf_alike hZ.alike Ar13.2.1) Ar13.2.2 hin13 (P13.at hin13 rfl) (g := (mkF m 82 #[rv t, iv (0 : Int32), rv wspv, iv (0 : Int32), iv (7 : Int32), iv (4 : Int32), .unset, .unset] [(.int (4 : Int32)), (.ref t)])) rfl rfl (hb hby d29_82)) ?_
          refine own_go (fun _ k => XS.aloadN X0.here hx rfl (hb hby d29_83) rfl rfl (XS.iloadN X0.here hx rfl (hb hby d29_84) rfl k)) ?_
          show own_Go p e below s _ _ _ (T.setTop (mkF m 85 #[rv t, iv (0 : Int32), rv wspv, iv (0 : Int32), iv (7 : Int32), iv (4 : Int32), .unset, .unset] [(.int (0 : Int32)), (.ref wspv), (.int x4)]))
          refine own_go (fun _ k => XS.iload X0.here hx rfl (hb hby d29_85) rfl (XS.iadd X0.here hx rfl (hb hby d29_87) rfl k)) ?_
          obtain ⟨cl14, Ar14, -, S14, -, P14, -⟩ := id (oSPV.ext O0)
          have hin14 : ¬ ((4 : Int32) < 0 ∨ cl14.slots.size ≤ ((4 : Int32)).toNatClampNeg) := inb_of S14 ⟨by decide, by decide⟩
          refine own_go (X0.baloadBytes hx (j := (4 : Int32)) (v := (.int (101 : Int32))) (by rw [e0]; exact Ar14.1) (State.isArrayOf_alike hZ.alike Ar14.2.1) Ar14.2.2 hin14 (P14.at hin14 rfl) (g := (mkF m 88 #[rv t, iv (0 : Int32), rv wspv, iv (0 : Int32), iv (7 : Int32), iv (4 : Int32), .unset, .unset] [(.int (4 : Int32)), (.ref wspv), (.int x4)])) rfl rfl (hb hby d29_88)) ?_
          by_cases hc15 : x4 = (101 : Int32)
          · refine own_go (fun _ k => XS.icmpYes X0.here hx rfl (pc0 := 89) (pc' := 95) rfl (hb hby d29_89) rfl (teq hc15).1 (by decide) (by decide) k) ?_
            show own_Go p e below s _ _ _ (T.setTop (mkF m 95 #[rv t, iv (0 : Int32), rv wspv, iv (0 : Int32), iv (7 : Int32), iv (4 : Int32), .unset, .unset] []))
            refine own_go (fun _ k => XS.iinc X0.here hx rfl (hb hby d29_95) rfl (l' := #[rv t, iv (0 : Int32), rv wspv, iv (0 : Int32), iv (7 : Int32), iv (5 : Int32), .unset, .unset]) rfl (XS.goto X0.here hx rfl (pc0 := 98) (pc' := 70) rfl (hb hby d29_98) (by decide) (by decide) (XS.iload X0.here hx rfl (hb hby d29_70) rfl (XS.iload X0.here hx rfl (hb hby d29_72) rfl (XS.icmpNo X0.here hx rfl (hb hby d29_74) rfl (tlt (by decide : (5 : Int32) < (7 : Int32))).2.1 (XS.aloadN X0.here hx rfl (hb hby d29_77) rfl rfl k)))))) ?_
            show own_Go p e below s _ _ _ (T.setTop (mkF m 78 #[rv t, iv (0 : Int32), rv wspv, iv (0 : Int32), iv (7 : Int32), iv (5 : Int32), .unset, .unset] [(.ref t)]))
            refine own_go (fun _ k => XS.iloadN X0.here hx rfl (hb hby d29_78) rfl (XS.iload X0.here hx rfl (hb hby d29_79) rfl (XS.iadd X0.here hx rfl (hb hby d29_81) rfl k))) ?_
            obtain ⟨cl16, Ar16, -, S16, -, P16, -⟩ := id (fp0.keep K0 nin0)
            have hin16 : ¬ ((5 : Int32) < 0 ∨ cl16.slots.size ≤ ((5 : Int32)).toNatClampNeg) := inb_of S16 ⟨by decide, by decide⟩
            refine own_go (X0.baloadBytes hx (j := (5 : Int32)) (v := (.int x5)) (by rw [e0]; exact Ar16.1) (State.isArrayOf_alike hZ.alike Ar16.2.1) Ar16.2.2 hin16 (P16.at hin16 rfl) (g := (mkF m 82 #[rv t, iv (0 : Int32), rv wspv, iv (0 : Int32), iv (7 : Int32), iv (5 : Int32), .unset, .unset] [(.int (5 : Int32)), (.ref t)])) rfl rfl (hb hby d29_82)) ?_
            refine own_go (fun _ k => XS.aloadN X0.here hx rfl (hb hby d29_83) rfl rfl (XS.iloadN X0.here hx rfl (hb hby d29_84) rfl k)) ?_
            show own_Go p e below s _ _ _ (T.setTop (mkF m 85 #[rv t, iv (0 : Int32), rv wspv, iv (0 : Int32), iv (7 : Int32), iv (5 : Int32), .unset, .unset] [(.int (0 : Int32)), (.ref wspv), (.int x5)]))
            refine own_go (fun _ k => XS.iload X0.here hx rfl (hb hby d29_85) rfl (XS.iadd X0.here hx rfl (hb hby d29_87) rfl k)) ?_
            obtain ⟨cl17, Ar17, -, S17, -, P17, -⟩ := id (oSPV.ext O0)
            have hin17 : ¬ ((5 : Int32) < 0 ∨ cl17.slots.size ≤ ((5 : Int32)).toNatClampNeg) := inb_of S17 ⟨by decide, by decide⟩
            refine own_go (X0.baloadBytes hx (j := (5 : Int32)) (v := (.int (100 : Int32))) (by rw [e0]; exact Ar17.1) (State.isArrayOf_alike hZ.alike Ar17.2.1) Ar17.2.2 hin17 (P17.at hin17 rfl) (g := (mkF m 88 #[rv t, iv (0 : Int32), rv wspv, iv (0 : Int32), iv (7 : Int32), iv (5 : Int32), .unset, .unset] [(.int (5 : Int32)), (.ref wspv), (.int x5)])) rfl rfl (hb hby d29_88)) ?_
            by_cases hc18 : x5 = (100 : Int32)
            · refine own_go (fun _ k => XS.icmpYes X0.here hx rfl (pc0 := 89) (pc' := 95) rfl (hb hby d29_89) rfl (teq hc18).1 (by decide) (by decide) k) ?_
              show own_Go p e below s _ _ _ (T.setTop (mkF m 95 #[rv t, iv (0 : Int32), rv wspv, iv (0 : Int32), iv (7 : Int32), iv (5 : Int32), .unset, .unset] []))
              refine own_go (fun _ k => XS.iinc X0.here hx rfl (hb hby d29_95) rfl (l' := #[rv t, iv (0 : Int32), rv wspv, iv (0 : Int32), iv (7 : Int32), iv (6 : Int32), .unset, .unset]) rfl (XS.goto X0.here hx rfl (pc0 := 98) (pc' := 70) rfl (hb hby d29_98) (by decide) (by decide) (XS.iload X0.here hx rfl (hb hby d29_70) rfl (XS.iload X0.here hx rfl (hb hby d29_72) rfl (XS.icmpNo X0.here hx rfl (hb hby d29_74) rfl (tlt (by decide : (6 : Int32) < (7 : Int32))).2.1 (XS.aloadN X0.here hx rfl (hb hby d29_77) rfl rfl k)))))) ?_
              show own_Go p e below s _ _ _ (T.setTop (mkF m 78 #[rv t, iv (0 : Int32), rv wspv, iv (0 : Int32), iv (7 : Int32), iv (6 : Int32), .unset, .unset] [(.ref t)]))
              refine own_go (fun _ k => XS.iloadN X0.here hx rfl (hb hby d29_78) rfl (XS.iload X0.here hx rfl (hb hby d29_79) rfl (XS.iadd X0.here hx rfl (hb hby d29_81) rfl k))) ?_
              obtain ⟨cl19, Ar19, -, S19, -, P19, -⟩ := id (fp0.keep K0 nin0)
              have hin19 : ¬ ((6 : Int32) < 0 ∨ cl19.slots.size ≤ ((6 : Int32)).toNatClampNeg) := inb_of S19 ⟨by decide, by decide⟩
              refine own_go (X0.baloadBytes hx (j := (6 : Int32)) (v := (.int x6)) (by rw [e0]; exact Ar19.1) (State.isArrayOf_alike hZ.alike Ar19.2.1) Ar19.2.2 hin19 (P19.at hin19 rfl) (g := (mkF m 82 #[rv t, iv (0 : Int32), rv wspv, iv (0 : Int32), iv (7 : Int32), iv (6 : Int32), .unset, .unset] [(.int (6 : Int32)), (.ref t)])) rfl rfl (hb hby d29_82)) ?_
              refine own_go (fun _ k => XS.aloadN X0.here hx rfl (hb hby d29_83) rfl rfl (XS.iloadN X0.here hx rfl (hb hby d29_84) rfl k)) ?_
              show own_Go p e below s _ _ _ (T.setTop (mkF m 85 #[rv t, iv (0 : Int32), rv wspv, iv (0 : Int32), iv (7 : Int32), iv (6 : Int32), .unset, .unset] [(.int (0 : Int32)), (.ref wspv), (.int x6)]))
              refine own_go (fun _ k => XS.iload X0.here hx rfl (hb hby d29_85) rfl (XS.iadd X0.here hx rfl (hb hby d29_87) rfl k)) ?_
              obtain ⟨cl20, Ar20, -, S20, -, P20, -⟩ := id (oSPV.ext O0)
              have hin20 : ¬ ((6 : Int32) < 0 ∨ cl20.slots.size ≤ ((6 : Int32)).toNatClampNeg) := inb_of S20 ⟨by decide, by decide⟩
              refine own_go (X0.baloadBytes hx (j := (6 : Int32)) (v := (.int (45 : Int32))) (by rw [e0]; exact Ar20.1) (State.isArrayOf_alike hZ.alike Ar20.2.1) Ar20.2.2 hin20 (P20.at hin20 rfl) (g := (mkF m 88 #[rv t, iv (0 : Int32), rv wspv, iv (0 : Int32), iv (7 : Int32), iv (6 : Int32), .unset, .unset] [(.int (6 : Int32)), (.ref wspv), (.int x6)])) rfl rfl (hb hby d29_88)) ?_
              by_cases hc21 : x6 = (45 : Int32)
              · refine own_go (fun _ k => XS.icmpYes X0.here hx rfl (pc0 := 89) (pc' := 95) rfl (hb hby d29_89) rfl (teq hc21).1 (by decide) (by decide) k) ?_
                show own_Go p e below s _ _ _ (T.setTop (mkF m 95 #[rv t, iv (0 : Int32), rv wspv, iv (0 : Int32), iv (7 : Int32), iv (6 : Int32), .unset, .unset] []))
                refine own_go (fun _ k => XS.iinc X0.here hx rfl (hb hby d29_95) rfl (l' := #[rv t, iv (0 : Int32), rv wspv, iv (0 : Int32), iv (7 : Int32), iv (7 : Int32), .unset, .unset]) rfl (XS.goto X0.here hx rfl (pc0 := 98) (pc' := 70) rfl (hb hby d29_98) (by decide) (by decide) (XS.iload X0.here hx rfl (hb hby d29_70) rfl (XS.iload X0.here hx rfl (hb hby d29_72) rfl (XS.icmpYes X0.here hx rfl (pc0 := 74) (pc' := 101) rfl (hb hby d29_74) rfl (flt (by decide : ¬ ((7 : Int32) < (7 : Int32)))).2.1 (by decide) (by decide) (XS.iconst X0.here hx rfl (hb hby d29_101) k)))))) ?_
                show own_Go p e below s _ _ _ (T.setTop (mkF m 102 #[rv t, iv (0 : Int32), rv wspv, iv (0 : Int32), iv (7 : Int32), iv (7 : Int32), .unset, .unset] [(.int (-1 : Int32))]))
                refine own_retI X0 hx hlk e0 hret (hb hby d29_102) (by show _ ≤ 0; omega) (by show _ ≤ 0; omega) ?_
                exact Or.inl ⟨rfl, N0, ⟨hc3, hc6, hc9, hc12, hc15, hc18, hc21⟩, rfl⟩
              · refine own_go (fun _ k => XS.icmpNo X0.here hx rfl (hb hby d29_89) rfl (feq hc21).1 k) ?_
                show own_Go p e below s _ _ _ (T.setTop (mkF m 92 #[rv t, iv (0 : Int32), rv wspv, iv (0 : Int32), iv (7 : Int32), iv (6 : Int32), .unset, .unset] []))
                refine own_go (fun _ k => XS.iload X0.here hx rfl (hb hby d29_92) rfl k) ?_
                show own_Go p e below s _ _ _ (T.setTop (mkF m 94 #[rv t, iv (0 : Int32), rv wspv, iv (0 : Int32), iv (7 : Int32), iv (6 : Int32), .unset, .unset] [(.int (6 : Int32))]))
                refine own_retI X0 hx hlk e0 hret (hb hby d29_94) (by show _ ≤ 0; omega) (by show _ ≤ 0; omega) ?_
                exact Or.inr (⟨(6 : Int32), rfl, N0, (fun h7 => hc21 h7.2.2.2.2.2.2), (by decide : ¬ (6 : Int32) < (0 : Int32)), rfl⟩)
            · refine own_go (fun _ k => XS.icmpNo X0.here hx rfl (hb hby d29_89) rfl (feq hc18).1 k) ?_
              show own_Go p e below s _ _ _ (T.setTop (mkF m 92 #[rv t, iv (0 : Int32), rv wspv, iv (0 : Int32), iv (7 : Int32), iv (5 : Int32), .unset, .unset] []))
              refine own_go (fun _ k => XS.iload X0.here hx rfl (hb hby d29_92) rfl k) ?_
              show own_Go p e below s _ _ _ (T.setTop (mkF m 94 #[rv t, iv (0 : Int32), rv wspv, iv (0 : Int32), iv (7 : Int32), iv (5 : Int32), .unset, .unset] [(.int (5 : Int32))]))
              refine own_retI X0 hx hlk e0 hret (hb hby d29_94) (by show _ ≤ 0; omega) (by show _ ≤ 0; omega) ?_
              exact Or.inr (⟨(5 : Int32), rfl, N0, (fun h7 => hc18 h7.2.2.2.2.2.1), (by decide : ¬ (5 : Int32) < (0 : Int32)), rfl⟩)
          · refine own_go (fun _ k => XS.icmpNo X0.here hx rfl (hb hby d29_89) rfl (feq hc15).1 k) ?_
            show own_Go p e below s _ _ _ (T.setTop (mkF m 92 #[rv t, iv (0 : Int32), rv wspv, iv (0 : Int32), iv (7 : Int32), iv (4 : Int32), .unset, .unset] []))
            refine own_go (fun _ k => XS.iload X0.here hx rfl (hb hby d29_92) rfl k) ?_
            show own_Go p e below s _ _ _ (T.setTop (mkF m 94 #[rv t, iv (0 : Int32), rv wspv, iv (0 : Int32), iv (7 : Int32), iv (4 : Int32), .unset, .unset] [(.int (4 : Int32))]))
            refine own_retI X0 hx hlk e0 hret (hb hby d29_94) (by show _ ≤ 0; omega) (by show _ ≤ 0; omega) ?_
            exact Or.inr (⟨(4 : Int32), rfl, N0, (fun h7 => hc15 h7.2.2.2.2.1), (by decide : ¬ (4 : Int32) < (0 : Int32)), rfl⟩)
        · refine own_go (fun _ k => XS.icmpNo X0.here hx rfl (hb hby d29_89) rfl (feq hc12).1 k) ?_
          show own_Go p e below s _ _ _ (T.setTop (mkF m 92 #[rv t, iv (0 : Int32), rv wspv, iv (0 : Int32), iv (7 : Int32), iv (3 : Int32), .unset, .unset] []))
          refine own_go (fun _ k => XS.iload X0.here hx rfl (hb hby d29_92) rfl k) ?_
          show own_Go p e below s _ _ _ (T.setTop (mkF m 94 #[rv t, iv (0 : Int32), rv wspv, iv (0 : Int32), iv (7 : Int32), iv (3 : Int32), .unset, .unset] [(.int (3 : Int32))]))
          refine own_retI X0 hx hlk e0 hret (hb hby d29_94) (by show _ ≤ 0; omega) (by show _ ≤ 0; omega) ?_
          exact Or.inr (⟨(3 : Int32), rfl, N0, (fun h7 => hc12 h7.2.2.2.1), (by decide : ¬ (3 : Int32) < (0 : Int32)), rfl⟩)
      · refine own_go (fun _ k => XS.icmpNo X0.here hx rfl (hb hby d29_89) rfl (feq hc9).1 k) ?_
        show own_Go p e below s _ _ _ (T.setTop (mkF m 92 #[rv t, iv (0 : Int32), rv wspv, iv (0 : Int32), iv (7 : Int32), iv (2 : Int32), .unset, .unset] []))
        refine own_go (fun _ k => XS.iload X0.here hx rfl (hb hby d29_92) rfl k) ?_
        show own_Go p e below s _ _ _ (T.setTop (mkF m 94 #[rv t, iv (0 : Int32), rv wspv, iv (0 : Int32), iv (7 : Int32), iv (2 : Int32), .unset, .unset] [(.int (2 : Int32))]))
        refine own_retI X0 hx hlk e0 hret (hb hby d29_94) (by show _ ≤ 0; omega) (by show _ ≤ 0; omega) ?_
        exact Or.inr (⟨(2 : Int32), rfl, N0, (fun h7 => hc9 h7.2.2.1), (by decide : ¬ (2 : Int32) < (0 : Int32)), rfl⟩)
    · refine own_go (fun _ k => XS.icmpNo X0.here hx rfl (hb hby d29_89) rfl (feq hc6).1 k) ?_
      show own_Go p e below s _ _ _ (T.setTop (mkF m 92 #[rv t, iv (0 : Int32), rv wspv, iv (0 : Int32), iv (7 : Int32), iv (1 : Int32), .unset, .unset] []))
      refine own_go (fun _ k => XS.iload X0.here hx rfl (hb hby d29_92) rfl k) ?_
      show own_Go p e below s _ _ _ (T.setTop (mkF m 94 #[rv t, iv (0 : Int32), rv wspv, iv (0 : Int32), iv (7 : Int32), iv (1 : Int32), .unset, .unset] [(.int (1 : Int32))]))
      refine own_retI X0 hx hlk e0 hret (hb hby d29_94) (by show _ ≤ 0; omega) (by show _ ≤ 0; omega) ?_
      exact Or.inr (⟨(1 : Int32), rfl, N0, (fun h7 => hc6 h7.2.1), (by decide : ¬ (1 : Int32) < (0 : Int32)), rfl⟩)
  · refine own_go (fun _ k => XS.icmpNo X0.here hx rfl (hb hby d29_89) rfl (feq hc3).1 k) ?_
    show own_Go p e below s _ _ _ (T.setTop (mkF m 92 #[rv t, iv (0 : Int32), rv wspv, iv (0 : Int32), iv (7 : Int32), iv (0 : Int32), .unset, .unset] []))
    refine own_go (fun _ k => XS.iload X0.here hx rfl (hb hby d29_92) rfl k) ?_
    show own_Go p e below s _ _ _ (T.setTop (mkF m 94 #[rv t, iv (0 : Int32), rv wspv, iv (0 : Int32), iv (7 : Int32), iv (0 : Int32), .unset, .unset] [(.int (0 : Int32))]))
    refine own_retI X0 hx hlk e0 hret (hb hby d29_94) (by show _ ≤ 0; omega) (by show _ ≤ 0; omega) ?_
    exact Or.inr (⟨(0 : Int32), rfl, N0, (fun h7 => hc3 h7.1), (by decide : ¬ (0 : Int32) < (0 : Int32)), rfl⟩)
theorem d25_0 : decode jdk_42_method_75_code 0 = .ok (.iload_n 2, 1) := by decide +kernel
theorem d25_1 : decode jdk_42_method_75_code 1 = .ok (.ifCond .lt 16, 3) := by decide +kernel
theorem d25_4 : decode jdk_42_method_75_code 4 = .ok (.iload_n 2, 1) := by decide +kernel
theorem d25_5 : decode jdk_42_method_75_code 5 = .ok (.aload_n 0, 1) := by decide +kernel
theorem d25_6 : decode jdk_42_method_75_code 6 = .ok (.invokevirtual 505, 3) := by decide +kernel
theorem d25_9 : decode jdk_42_method_75_code 9 = .ok (.aload_n 1, 1) := by decide +kernel
theorem d25_10 : decode jdk_42_method_75_code 10 = .ok (.invokevirtual 505, 3) := by decide +kernel
theorem d25_13 : decode jdk_42_method_75_code 13 = .ok (.isub, 1) := by decide +kernel
theorem d25_14 : decode jdk_42_method_75_code 14 = .ok (.if_icmp .le 5, 3) := by decide +kernel
theorem d25_17 : decode jdk_42_method_75_code 17 = .ok (.iconst 0, 1) := by decide +kernel
theorem d25_18 : decode jdk_42_method_75_code 18 = .ok (.ireturn, 1) := by decide +kernel
def Q_swi6 (Z : State) (zc : Int32) (wd : Addr) (kd : ClassId) (wx : Addr) (wy : Addr) (wsp : Addr) (wspv : Addr) (wspk : ClassId) (a1 : Addr) (t : Addr) (kt : ClassId) (x0 : Int32) (x1 : Int32) (x2 : Int32) (x3 : Int32) (x4 : Int32) (x5 : Int32) (h0 : Heap) (v : Option Value) (h : Heap) (L : List Loc) : Prop := (v = some (.int (0 : Int32)) ∧ Fr Z.heap.size L ∧ h = h0)
theorem ef_swi6 (m : MethodId) (x0 : Addr) (x1 : Addr) : entryFrame m #[(.ref x0), (.ref x1), (.int (0 : Int32))] 8 = mkF m 0 #[rv x0, rv x1, iv (0 : Int32), .unset, .unset, .unset, .unset, .unset] [] := by first | (simp [entryFrame, mkF, argsToLocals, Value.category]; done) | rfl
set_option maxRecDepth 65536 in
set_option maxHeartbeats 40000000 in
theorem rm_swi6 (l : Launch) (Z : State) (a0 : Array Value) (hw : own_W Z a0) {zc : Int32} {wd : Addr} {kd : ClassId} {wx : Addr} {wy : Addr} {wsp : Addr} {wspv : Addr} {wspk : ClassId} (hO : own_Olds Z zc wd kd wx wy wsp wspv wspk) (ws : List Jvm.Cond) (a1 : Addr) (t : Addr) (kt : ClassId) (x0 : Int32) (x1 : Int32) (x2 : Int32) (x3 : Int32) (x4 : Int32) (x5 : Int32) (h0 : Heap) (O0 : Ext Z.heap h0) (fp0 : Exa Z h0 a1 "java/lang/String") (fp1 : Fld Z h0 a1 "java/lang/String" "value" "[B" (.ref t)) (fp2 : Fld Z h0 a1 "java/lang/String" "coder" "B" (.int (0 : Int32))) (fp3 : Arv Z h0 t kt .byte (6 : Int32) [(.int x0), (.int x1), (.int x2), (.int x3), (.int x4), (.int x5)] (.int (0 : Int32))) :
    own_MF l Z h0 own_y16 jdk_42_method_75_code 8 (some .boolean) ({ frames := 2, cells := 0, slots := 0, locals := 27 } : Room) #[(.ref a1), (.ref wsp), (.int (0 : Int32))] (Q_swi6 Z zc wd kd wx wy wsp wspv wspk a1 t kt x0 x1 x2 x3 x4 x5 h0) ws := by
  refine own_met (Q := (Q_swi6 Z zc wd kd wx wy wsp wspv wspk a1 t kt x0 x1 x2 x3 x4 x5 h0)) _ _ (plainFor_of_name own_pn_5) ?_
  intro p e s m below meth c T X0 hx hby hml hret hlk hZ hown hnm e0
  replace hown : s.vm.findClass "java/lang/String" = some m.cls := hown
  replace hnm : meth.name = "startsWith" := hnm
  have hml : c.maxLocals = 8 := hml
  obtain ⟨oCS, oCz, oDE, oDV, oEx, oSh, oE1, oE2, oPF, oSPE, oSPC, oSPF, oSPV, oNe⟩ := id hO
  have N0 := Fr.nil Z.heap.size
  have K0 := Keep.refl h0 []
  refine own_go (fun _ k => castTop (ef_swi6 m a1 wsp) k) ?_
  show own_Go p e below s _ _ _ (T.setTop (mkF m 0 #[rv a1, rv wsp, iv (0 : Int32), .unset, .unset, .unset, .unset, .unset] []))
  refine own_go (fun _ k => XS.iloadN X0.here hx rfl (hb hby d25_0) rfl (XS.ifNo X0.here hx rfl (hb hby d25_1) rfl ((if0 _ _).trans (flt (by decide : ¬ ((0 : Int32) < (0 : Int32)))).1) (XS.iloadN X0.here hx rfl (hb hby d25_4) rfl (XS.aloadN X0.here hx rfl (hb hby d25_5) rfl rfl k)))) ?_
  obtain ⟨v1, T1, L1, X1, hQ1, st1⟩ := own_callV (y := own_y14) (z := own_y14) X0 hx hZ hown (ow155 hw) (ow156 hw) (notFace_of_selects (args := #[]) (mvT hZ (ow158 hw))) (ow158 hw) (ow157 hw) (ow11 hw) (ow159 hw) (rm_slen6 l Z a0 hw hO [] a1 t kt x0 x1 x2 x3 x4 x5 h0 O0 (fp0.keep K0) (fp1.keep K0 nin0) (fp2.keep K0 nin0) (fp3.keep K0 nin0)) 1 0 0 (by show _ ≤ 0; omega) (by show _ ≤ 0; omega) e0 (fp0.keep K0) (g := (mkF m 6 #[rv a1, rv wsp, iv (0 : Int32), .unset, .unset, .unset, .unset, .unset] [(.ref a1), (.int (0 : Int32))])) rfl (by rw [hml]; rfl) [] [(.int (0 : Int32))] (lenOf own_pd_8 rfl) rfl rfl (hb hby d25_6)
  obtain ⟨rfl, Nc3, Kc2⟩ := hQ1
  refine own_go st1 ?_
  clear st1 X0 e0
  replace N0 := Fr.app N0 Nc3
  clear Nc3
  refine own_go (fun _ k => XS.aloadN X1.here hx rfl (hb hby d25_9) rfl rfl k) ?_
  show own_Go p e below s _ _ _ (T1.setTop (mkF m 10 #[rv a1, rv wsp, iv (0 : Int32), .unset, .unset, .unset, .unset, .unset] [(.ref wsp), (.int (6 : Int32)), (.int (0 : Int32))]))
  obtain ⟨v4, T4, L4, X4, hQ4, st4⟩ := own_callV (y := own_y14) (z := own_y14) X1 hx hZ hown (ow155 hw) (ow156 hw) (notFace_of_selects (args := #[]) (mvT hZ (ow158 hw))) (ow158 hw) (ow157 hw) (ow11 hw) (ow159 hw) (rm_slen7 l Z a0 hw hO [] wsp wspv wspk (115 : Int32) (104 : Int32) (97 : Int32) (114 : Int32) (101 : Int32) (100 : Int32) (45 : Int32) h0 O0 (oSPE.ext O0) (oSPF.ext O0) (oSPC.ext O0) (oSPV.ext O0)) 2 0 0 (by show _ ≤ 0; omega) (by show _ ≤ 0; omega) Kc2 (oSPE.ext O0) (g := (mkF m 10 #[rv a1, rv wsp, iv (0 : Int32), .unset, .unset, .unset, .unset, .unset] [(.ref wsp), (.int (6 : Int32)), (.int (0 : Int32))])) rfl (by rw [hml]; rfl) [] [(.int (6 : Int32)), (.int (0 : Int32))] (lenOf own_pd_8 rfl) rfl rfl (hb hby d25_10)
  obtain ⟨rfl, Nc6, Kc5⟩ := hQ4
  refine own_go st4 ?_
  clear st4 X1 Kc2
  replace N0 := Fr.app N0 Nc6
  clear Nc6
  refine own_go (fun _ k => XS.isub X4.here hx rfl (hb hby d25_13) rfl (XS.icmpNo X4.here hx rfl (hb hby d25_14) rfl (tlt (by decide : (-1 : Int32) < (0 : Int32))).2.2.2 (XS.iconst X4.here hx rfl (hb hby d25_17) k))) ?_
  show own_Go p e below s _ _ _ (T4.setTop (mkF m 18 #[rv a1, rv wsp, iv (0 : Int32), .unset, .unset, .unset, .unset, .unset] [(.int (0 : Int32))]))
  refine own_retN X4 hx hlk Kc5 (t := .boolean) hret (by simp) (hb hby d25_18) (by show _ ≤ 0; omega) (by show _ ≤ 0; omega) ?_
  exact ⟨rfl, N0, rfl⟩
theorem d24_0 : decode jdk_42_method_76_code 0 = .ok (.aload_n 0, 1) := by decide +kernel
theorem d24_1 : decode jdk_42_method_76_code 1 = .ok (.aload_n 1, 1) := by decide +kernel
theorem d24_2 : decode jdk_42_method_76_code 2 = .ok (.iconst 0, 1) := by decide +kernel
theorem d24_3 : decode jdk_42_method_76_code 3 = .ok (.invokevirtual 624, 3) := by decide +kernel
theorem d24_6 : decode jdk_42_method_76_code 6 = .ok (.ireturn, 1) := by decide +kernel
def Q_sw6 (Z : State) (zc : Int32) (wd : Addr) (kd : ClassId) (wx : Addr) (wy : Addr) (wsp : Addr) (wspv : Addr) (wspk : ClassId) (a1 : Addr) (t : Addr) (kt : ClassId) (x0 : Int32) (x1 : Int32) (x2 : Int32) (x3 : Int32) (x4 : Int32) (x5 : Int32) (h0 : Heap) (v : Option Value) (h : Heap) (L : List Loc) : Prop := (v = some (.int (0 : Int32)) ∧ Fr Z.heap.size L ∧ h = h0)
theorem ef_sw6 (m : MethodId) (x0 : Addr) (x1 : Addr) : entryFrame m #[(.ref x0), (.ref x1)] 2 = mkF m 0 #[rv x0, rv x1] [] := by first | (simp [entryFrame, mkF, argsToLocals, Value.category]; done) | rfl
set_option maxRecDepth 65536 in
set_option maxHeartbeats 40000000 in
theorem rm_sw6 (l : Launch) (Z : State) (a0 : Array Value) (hw : own_W Z a0) {zc : Int32} {wd : Addr} {kd : ClassId} {wx : Addr} {wy : Addr} {wsp : Addr} {wspv : Addr} {wspk : ClassId} (hO : own_Olds Z zc wd kd wx wy wsp wspv wspk) (ws : List Jvm.Cond) (a1 : Addr) (t : Addr) (kt : ClassId) (x0 : Int32) (x1 : Int32) (x2 : Int32) (x3 : Int32) (x4 : Int32) (x5 : Int32) (h0 : Heap) (O0 : Ext Z.heap h0) (fp0 : Exa Z h0 a1 "java/lang/String") (fp1 : Fld Z h0 a1 "java/lang/String" "value" "[B" (.ref t)) (fp2 : Fld Z h0 a1 "java/lang/String" "coder" "B" (.int (0 : Int32))) (fp3 : Arv Z h0 t kt .byte (6 : Int32) [(.int x0), (.int x1), (.int x2), (.int x3), (.int x4), (.int x5)] (.int (0 : Int32))) :
    own_MF l Z h0 own_y17 jdk_42_method_76_code 2 (some .boolean) ({ frames := 3, cells := 0, slots := 0, locals := 46 } : Room) #[(.ref a1), (.ref wsp)] (Q_sw6 Z zc wd kd wx wy wsp wspv wspk a1 t kt x0 x1 x2 x3 x4 x5 h0) ws := by
  refine own_met (Q := (Q_sw6 Z zc wd kd wx wy wsp wspv wspk a1 t kt x0 x1 x2 x3 x4 x5 h0)) _ _ (plainFor_of_name own_pn_5) ?_
  intro p e s m below meth c T X0 hx hby hml hret hlk hZ hown hnm e0
  replace hown : s.vm.findClass "java/lang/String" = some m.cls := hown
  replace hnm : meth.name = "startsWith" := hnm
  have hml : c.maxLocals = 2 := hml
  obtain ⟨oCS, oCz, oDE, oDV, oEx, oSh, oE1, oE2, oPF, oSPE, oSPC, oSPF, oSPV, oNe⟩ := id hO
  have N0 := Fr.nil Z.heap.size
  have K0 := Keep.refl h0 []
  refine own_go (fun _ k => castTop (ef_sw6 m a1 wsp) k) ?_
  show own_Go p e below s _ _ _ (T.setTop (mkF m 0 #[rv a1, rv wsp] []))
  refine own_go (fun _ k => XS.aloadN X0.here hx rfl (hb hby d24_0) rfl rfl (XS.aloadN X0.here hx rfl (hb hby d24_1) rfl rfl (XS.iconst X0.here hx rfl (hb hby d24_2) k))) ?_
  obtain ⟨v1, T1, L1, X1, hQ1, st1⟩ := own_callV (y := own_y16) (z := own_y16) X0 hx hZ hown (ow150 hw) (ow151 hw) (notFace_of_selects (args := #[]) (mvT hZ (ow153 hw))) (ow153 hw) (ow152 hw) (ow11 hw) (ow154 hw) (rm_swi6 l Z a0 hw hO [] a1 t kt x0 x1 x2 x3 x4 x5 h0 O0 (fp0.keep K0) (fp1.keep K0 nin0) (fp2.keep K0 nin0) (fp3.keep K0 nin0)) 0 0 0 (by show _ ≤ 0; omega) (by show _ ≤ 0; omega) e0 (fp0.keep K0) (g := (mkF m 3 #[rv a1, rv wsp] [(.int (0 : Int32)), (.ref wsp), (.ref a1)])) rfl (by rw [hml]; rfl) [(.ref wsp), (.int (0 : Int32))] [] (lenOf own_pd_9 rfl) rfl rfl (hb hby d24_3)
  obtain ⟨rfl, Nc3, Kc2⟩ := hQ1
  refine own_go st1 ?_
  clear st1 X0 e0
  replace N0 := Fr.app N0 Nc3
  clear Nc3
  show own_Go p e below s _ _ _ (T1.setTop (mkF m 6 #[rv a1, rv wsp] [(.int (0 : Int32))]))
  refine own_retN X1 hx hlk Kc2 (t := .boolean) hret (by simp) (hb hby d24_6) (by show _ ≤ 0; omega) (by show _ ≤ 0; omega) ?_
  exact ⟨rfl, N0, rfl⟩
theorem d25_19 : decode jdk_42_method_75_code 19 = .ok (.aload_n 0, 1) := by decide +kernel
theorem d25_20 : decode jdk_42_method_75_code 20 = .ok (.getfield 9, 3) := by decide +kernel
theorem d25_23 : decode jdk_42_method_75_code 23 = .ok (.astore_n 3, 1) := by decide +kernel
theorem d25_24 : decode jdk_42_method_75_code 24 = .ok (.aload_n 1, 1) := by decide +kernel
theorem d25_25 : decode jdk_42_method_75_code 25 = .ok (.getfield 9, 3) := by decide +kernel
theorem d25_28 : decode jdk_42_method_75_code 28 = .ok (.astore 4, 2) := by decide +kernel
theorem d25_30 : decode jdk_42_method_75_code 30 = .ok (.iconst 0, 1) := by decide +kernel
theorem d25_31 : decode jdk_42_method_75_code 31 = .ok (.istore 5, 2) := by decide +kernel
theorem d25_33 : decode jdk_42_method_75_code 33 = .ok (.aload 4, 2) := by decide +kernel
theorem d25_35 : decode jdk_42_method_75_code 35 = .ok (.arraylength, 1) := by decide +kernel
theorem d25_36 : decode jdk_42_method_75_code 36 = .ok (.istore 6, 2) := by decide +kernel
theorem d25_38 : decode jdk_42_method_75_code 38 = .ok (.aload_n 0, 1) := by decide +kernel
theorem d25_39 : decode jdk_42_method_75_code 39 = .ok (.invokevirtual 335, 3) := by decide +kernel
theorem d25_42 : decode jdk_42_method_75_code 42 = .ok (.istore 7, 2) := by decide +kernel
theorem d25_44 : decode jdk_42_method_75_code 44 = .ok (.iload 7, 2) := by decide +kernel
theorem d25_46 : decode jdk_42_method_75_code 46 = .ok (.aload_n 1, 1) := by decide +kernel
theorem d25_47 : decode jdk_42_method_75_code 47 = .ok (.invokevirtual 335, 3) := by decide +kernel
theorem d25_50 : decode jdk_42_method_75_code 50 = .ok (.if_icmp .ne 32, 3) := by decide +kernel
theorem d25_53 : decode jdk_42_method_75_code 53 = .ok (.iload 7, 2) := by decide +kernel
theorem d25_55 : decode jdk_42_method_75_code 55 = .ok (.iconst 1, 1) := by decide +kernel
theorem d25_56 : decode jdk_42_method_75_code 56 = .ok (.if_icmp .ne 7, 3) := by decide +kernel
theorem d25_63 : decode jdk_42_method_75_code 63 = .ok (.aload_n 3, 1) := by decide +kernel
theorem d25_64 : decode jdk_42_method_75_code 64 = .ok (.iload_n 2, 1) := by decide +kernel
theorem d25_65 : decode jdk_42_method_75_code 65 = .ok (.aload 4, 2) := by decide +kernel
theorem d25_67 : decode jdk_42_method_75_code 67 = .ok (.iconst 0, 1) := by decide +kernel
theorem d25_68 : decode jdk_42_method_75_code 68 = .ok (.iload 6, 2) := by decide +kernel
theorem d25_70 : decode jdk_42_method_75_code 70 = .ok (.invokestatic 607, 3) := by decide +kernel
theorem d25_73 : decode jdk_42_method_75_code 73 = .ok (.ifCond .ge 7, 3) := by decide +kernel
theorem d25_76 : decode jdk_42_method_75_code 76 = .ok (.iconst 1, 1) := by decide +kernel
theorem d25_77 : decode jdk_42_method_75_code 77 = .ok (.goto 4, 3) := by decide +kernel
theorem d25_80 : decode jdk_42_method_75_code 80 = .ok (.iconst 0, 1) := by decide +kernel
theorem d25_81 : decode jdk_42_method_75_code 81 = .ok (.ireturn, 1) := by decide +kernel
def Q_swi8 (Z : State) (zc : Int32) (wd : Addr) (kd : ClassId) (wx : Addr) (wy : Addr) (wsp : Addr) (wspv : Addr) (wspk : ClassId) (a1 : Addr) (t : Addr) (kt : ClassId) (x0 : Int32) (x1 : Int32) (x2 : Int32) (x3 : Int32) (x4 : Int32) (x5 : Int32) (x6 : Int32) (x7 : Int32) (h0 : Heap) (v : Option Value) (h : Heap) (L : List Loc) : Prop := (v = some (.int (1 : Int32)) ∧ Fr Z.heap.size L ∧ own_P7 x0 x1 x2 x3 x4 x5 x6 ∧ h = h0) ∨ (v = some (.int (0 : Int32)) ∧ Fr Z.heap.size L ∧ ¬ (own_P7 x0 x1 x2 x3 x4 x5 x6) ∧ h = h0)
theorem ef_swi8 (m : MethodId) (x0 : Addr) (x1 : Addr) : entryFrame m #[(.ref x0), (.ref x1), (.int (0 : Int32))] 8 = mkF m 0 #[rv x0, rv x1, iv (0 : Int32), .unset, .unset, .unset, .unset, .unset] [] := by first | (simp [entryFrame, mkF, argsToLocals, Value.category]; done) | rfl
set_option maxRecDepth 65536 in
set_option maxHeartbeats 40000000 in
theorem rm_swi8 (l : Launch) (Z : State) (a0 : Array Value) (hw : own_W Z a0) {zc : Int32} {wd : Addr} {kd : ClassId} {wx : Addr} {wy : Addr} {wsp : Addr} {wspv : Addr} {wspk : ClassId} (hO : own_Olds Z zc wd kd wx wy wsp wspv wspk) (ws : List Jvm.Cond) (a1 : Addr) (t : Addr) (kt : ClassId) (x0 : Int32) (x1 : Int32) (x2 : Int32) (x3 : Int32) (x4 : Int32) (x5 : Int32) (x6 : Int32) (x7 : Int32) (h0 : Heap) (O0 : Ext Z.heap h0) (fp0 : Exa Z h0 a1 "java/lang/String") (fp1 : Fld Z h0 a1 "java/lang/String" "value" "[B" (.ref t)) (fp2 : Fld Z h0 a1 "java/lang/String" "coder" "B" (.int (0 : Int32))) (fp3 : Arv Z h0 t kt .byte (8 : Int32) [(.int x0), (.int x1), (.int x2), (.int x3), (.int x4), (.int x5), (.int x6), (.int x7)] (.int (0 : Int32))) :
    own_MF l Z h0 own_y16 jdk_42_method_75_code 8 (some .boolean) ({ frames := 2, cells := 0, slots := 0, locals := 27 } : Room) #[(.ref a1), (.ref wsp), (.int (0 : Int32))] (Q_swi8 Z zc wd kd wx wy wsp wspv wspk a1 t kt x0 x1 x2 x3 x4 x5 x6 x7 h0) ws := by
  refine own_met (Q := (Q_swi8 Z zc wd kd wx wy wsp wspv wspk a1 t kt x0 x1 x2 x3 x4 x5 x6 x7 h0)) _ _ (plainFor_of_name own_pn_5) ?_
  intro p e s m below meth c T X0 hx hby hml hret hlk hZ hown hnm e0
  replace hown : s.vm.findClass "java/lang/String" = some m.cls := hown
  replace hnm : meth.name = "startsWith" := hnm
  have hml : c.maxLocals = 8 := hml
  obtain ⟨oCS, oCz, oDE, oDV, oEx, oSh, oE1, oE2, oPF, oSPE, oSPC, oSPF, oSPV, oNe⟩ := id hO
  have N0 := Fr.nil Z.heap.size
  have K0 := Keep.refl h0 []
  refine own_go (fun _ k => castTop (ef_swi8 m a1 wsp) k) ?_
  show own_Go p e below s _ _ _ (T.setTop (mkF m 0 #[rv a1, rv wsp, iv (0 : Int32), .unset, .unset, .unset, .unset, .unset] []))
  refine own_go (fun _ k => XS.iloadN X0.here hx rfl (hb hby d25_0) rfl (XS.ifNo X0.here hx rfl (hb hby d25_1) rfl ((if0 _ _).trans (flt (by decide : ¬ ((0 : Int32) < (0 : Int32)))).1) (XS.iloadN X0.here hx rfl (hb hby d25_4) rfl (XS.aloadN X0.here hx rfl (hb hby d25_5) rfl rfl k)))) ?_
  obtain ⟨v1, T1, L1, X1, hQ1, st1⟩ := own_callV (y := own_y14) (z := own_y14) X0 hx hZ hown (ow155 hw) (ow156 hw) (notFace_of_selects (args := #[]) (mvT hZ (ow158 hw))) (ow158 hw) (ow157 hw) (ow11 hw) (ow159 hw) (rm_slen8 l Z a0 hw hO [] a1 t kt x0 x1 x2 x3 x4 x5 x6 x7 h0 O0 (fp0.keep K0) (fp1.keep K0 nin0) (fp2.keep K0 nin0) (fp3.keep K0 nin0)) 1 0 0 (by show _ ≤ 0; omega) (by show _ ≤ 0; omega) e0 (fp0.keep K0) (g := (mkF m 6 #[rv a1, rv wsp, iv (0 : Int32), .unset, .unset, .unset, .unset, .unset] [(.ref a1), (.int (0 : Int32))])) rfl (by rw [hml]; rfl) [] [(.int (0 : Int32))] (lenOf own_pd_8 rfl) rfl rfl (hb hby d25_6)
  obtain ⟨rfl, Nc3, Kc2⟩ := hQ1
  refine own_go st1 ?_
  clear st1 X0 e0
  replace N0 := Fr.app N0 Nc3
  clear Nc3
  refine own_go (fun _ k => XS.aloadN X1.here hx rfl (hb hby d25_9) rfl rfl k) ?_
  show own_Go p e below s _ _ _ (T1.setTop (mkF m 10 #[rv a1, rv wsp, iv (0 : Int32), .unset, .unset, .unset, .unset, .unset] [(.ref wsp), (.int (8 : Int32)), (.int (0 : Int32))]))
  obtain ⟨v4, T4, L4, X4, hQ4, st4⟩ := own_callV (y := own_y14) (z := own_y14) X1 hx hZ hown (ow155 hw) (ow156 hw) (notFace_of_selects (args := #[]) (mvT hZ (ow158 hw))) (ow158 hw) (ow157 hw) (ow11 hw) (ow159 hw) (rm_slen7 l Z a0 hw hO [] wsp wspv wspk (115 : Int32) (104 : Int32) (97 : Int32) (114 : Int32) (101 : Int32) (100 : Int32) (45 : Int32) h0 O0 (oSPE.ext O0) (oSPF.ext O0) (oSPC.ext O0) (oSPV.ext O0)) 2 0 0 (by show _ ≤ 0; omega) (by show _ ≤ 0; omega) Kc2 (oSPE.ext O0) (g := (mkF m 10 #[rv a1, rv wsp, iv (0 : Int32), .unset, .unset, .unset, .unset, .unset] [(.ref wsp), (.int (8 : Int32)), (.int (0 : Int32))])) rfl (by rw [hml]; rfl) [] [(.int (8 : Int32)), (.int (0 : Int32))] (lenOf own_pd_8 rfl) rfl rfl (hb hby d25_10)
  obtain ⟨rfl, Nc6, Kc5⟩ := hQ4
  refine own_go st4 ?_
  clear st4 X1 Kc2
  replace N0 := Fr.app N0 Nc6
  clear Nc6
  refine own_go (fun _ k => XS.isub X4.here hx rfl (hb hby d25_13) rfl (XS.icmpYes X4.here hx rfl (pc0 := 14) (pc' := 19) rfl (hb hby d25_14) rfl (flt (by decide : ¬ ((1 : Int32) < (0 : Int32)))).2.2.2 (by decide) (by decide) (XS.aloadN X4.here hx rfl (hb hby d25_19) rfl rfl k))) ?_
  obtain ⟨T7, X7, e7, st7⟩ := getF X4 hx hZ hown (host := "") (Or.inl (ow36 hw)) Via.refl Kc5 (fp1.keep K0 nin0) (g := (mkF m 20 #[rv a1, rv wsp, iv (0 : Int32), .unset, .unset, .unset, .unset, .unset] [(.ref a1)])) rfl rfl (hb hby d25_20)
  refine own_go st7 ?_
  clear st7 X4 Kc5
  refine own_go (fun _ k => XS.astoreN X7.here hx rfl (hb hby d25_23) rfl rfl (l' := #[rv a1, rv wsp, iv (0 : Int32), rv t, .unset, .unset, .unset, .unset]) rfl k) ?_
  show own_Go p e below s _ _ _ (T7.setTop (mkF m 24 #[rv a1, rv wsp, iv (0 : Int32), rv t, .unset, .unset, .unset, .unset] []))
  refine own_go (fun _ k => XS.aloadN X7.here hx rfl (hb hby d25_24) rfl rfl k) ?_
  obtain ⟨T8, X8, e8, st8⟩ := getF X7 hx hZ hown (host := "") (Or.inl (ow36 hw)) Via.refl e7 (oSPF.ext O0) (g := (mkF m 25 #[rv a1, rv wsp, iv (0 : Int32), rv t, .unset, .unset, .unset, .unset] [(.ref wsp)])) rfl rfl (hb hby d25_25)
  refine own_go st8 ?_
  clear st8 X7 e7
  refine own_go (fun _ k => XS.astore X8.here hx rfl (hb hby d25_28) rfl rfl (l' := #[rv a1, rv wsp, iv (0 : Int32), rv t, rv wspv, .unset, .unset, .unset]) rfl (XS.iconst X8.here hx rfl (hb hby d25_30) (XS.istore X8.here hx rfl (hb hby d25_31) rfl (l' := #[rv a1, rv wsp, iv (0 : Int32), rv t, rv wspv, iv (0 : Int32), .unset, .unset]) rfl (XS.aload X8.here hx rfl (hb hby d25_33) rfl rfl k)))) ?_
  show own_Go p e below s _ _ _ (T8.setTop (mkF m 35 #[rv a1, rv wsp, iv (0 : Int32), rv t, rv wspv, iv (0 : Int32), .unset, .unset] [(.ref wspv)]))
  obtain ⟨cl9, Ar9, -, S9, M9, -, -⟩ := id (oSPV.ext O0)
  refine own_go (X8.arraylength hx (by rw [e8]; exact Ar9.1) (State.isArrayOf_alike hZ.alike Ar9.2.1) (g := (mkF m 35 #[rv a1, rv wsp, iv (0 : Int32), rv t, rv wspv, iv (0 : Int32), .unset, .unset] [(.ref wspv)])) rfl rfl (hb hby d25_35)) ?_
  rw [len_of S9 M9]
  refine own_go (fun _ k => XS.istore X8.here hx rfl (hb hby d25_36) rfl (l' := #[rv a1, rv wsp, iv (0 : Int32), rv t, rv wspv, iv (0 : Int32), iv (7 : Int32), .unset]) rfl (XS.aloadN X8.here hx rfl (hb hby d25_38) rfl rfl k)) ?_
  obtain ⟨v10, T10, L10, X10, hQ10, st10⟩ := own_callV (y := own_y13) (z := own_y13) X8 hx hZ hown (ow160 hw) (ow161 hw) (notFace_of_selects (args := #[]) (mvT hZ (ow163 hw))) (ow163 hw) (ow162 hw) (ow11 hw) (ow164 hw) (rm_scoder l Z a0 hw hO [] a1 h0 O0 (fp2.keep K0 nin0)) 0 0 0 (by show _ ≤ 0; omega) (by show _ ≤ 0; omega) e8 (fp0.keep K0) (g := (mkF m 39 #[rv a1, rv wsp, iv (0 : Int32), rv t, rv wspv, iv (0 : Int32), iv (7 : Int32), .unset] [(.ref a1)])) rfl (by rw [hml]; rfl) [] [] (lenOf own_pd_7 rfl) rfl rfl (hb hby d25_39)
  obtain ⟨rfl, Nc12, Kc11⟩ := hQ10
  refine own_go st10 ?_
  clear st10 X8 e8
  replace N0 := Fr.app N0 Nc12
  clear Nc12
  refine own_go (fun _ k => XS.istore X10.here hx rfl (hb hby d25_42) rfl (l' := #[rv a1, rv wsp, iv (0 : Int32), rv t, rv wspv, iv (0 : Int32), iv (7 : Int32), iv (0 : Int32)]) rfl (XS.iload X10.here hx rfl (hb hby d25_44) rfl k)) ?_
  show own_Go p e below s _ _ _ (T10.setTop (mkF m 46 #[rv a1, rv wsp, iv (0 : Int32), rv t, rv wspv, iv (0 : Int32), iv (7 : Int32), iv (0 : Int32)] [(.int (0 : Int32))]))
  refine own_go (fun _ k => XS.aloadN X10.here hx rfl (hb hby d25_46) rfl rfl k) ?_
  obtain ⟨v13, T13, L13, X13, hQ13, st13⟩ := own_callV (y := own_y13) (z := own_y13) X10 hx hZ hown (ow160 hw) (ow161 hw) (notFace_of_selects (args := #[]) (mvT hZ (ow163 hw))) (ow163 hw) (ow162 hw) (ow11 hw) (ow164 hw) (rm_scoder l Z a0 hw hO [] wsp h0 O0 (oSPC.ext O0)) 1 0 0 (by show _ ≤ 0; omega) (by show _ ≤ 0; omega) Kc11 (oSPE.ext O0) (g := (mkF m 47 #[rv a1, rv wsp, iv (0 : Int32), rv t, rv wspv, iv (0 : Int32), iv (7 : Int32), iv (0 : Int32)] [(.ref wsp), (.int (0 : Int32))])) rfl (by rw [hml]; rfl) [] [(.int (0 : Int32))] (lenOf own_pd_7 rfl) rfl rfl (hb hby d25_47)
  obtain ⟨rfl, Nc15, Kc14⟩ := hQ13
  refine own_go st13 ?_
  clear st13 X10 Kc11
  replace N0 := Fr.app N0 Nc15
  clear Nc15
  refine own_go (fun _ k => XS.icmpNo X13.here hx rfl (hb hby d25_50) rfl (teq (by decide : (0 : Int32) = (0 : Int32))).2 (XS.iload X13.here hx rfl (hb hby d25_53) rfl (XS.iconst X13.here hx rfl (hb hby d25_55) (XS.icmpYes X13.here hx rfl (pc0 := 56) (pc' := 63) rfl (hb hby d25_56) rfl (feq (by decide : ¬ ((0 : Int32) = (1 : Int32)))).2 (by decide) (by decide) k)))) ?_
  show own_Go p e below s _ _ _ (T13.setTop (mkF m 63 #[rv a1, rv wsp, iv (0 : Int32), rv t, rv wspv, iv (0 : Int32), iv (7 : Int32), iv (0 : Int32)] []))
  refine own_go (fun _ k => XS.aloadN X13.here hx rfl (hb hby d25_63) rfl rfl (XS.iloadN X13.here hx rfl (hb hby d25_64) rfl (XS.aload X13.here hx rfl (hb hby d25_65) rfl rfl (XS.iconst X13.here hx rfl (hb hby d25_67) (XS.iload X13.here hx rfl (hb hby d25_68) rfl k))))) ?_
  obtain ⟨v16, T16, L16, X16, hQ16, st16⟩ := own_callS (y := own_y15) X13 hx hZ hown (ow173 hw) (ow174 hw) (ow175 hw) (ow176 hw) (rm_mm8 l Z a0 hw hO [] t kt x0 x1 x2 x3 x4 x5 x6 x7 h0 O0 (fp3.keep K0 nin0)) 0 0 0 (by show _ ≤ 0; omega) (by show _ ≤ 0; omega) Kc14 (g := (mkF m 70 #[rv a1, rv wsp, iv (0 : Int32), rv t, rv wspv, iv (0 : Int32), iv (7 : Int32), iv (0 : Int32)] [(.int (7 : Int32)), (.int (0 : Int32)), (.ref wspv), (.int (0 : Int32)), (.ref t)])) rfl (by rw [hml]; rfl) [(.ref t), (.int (0 : Int32)), (.ref wspv), (.int (0 : Int32)), (.int (7 : Int32))] [] (lenOf own_pd_10 rfl) rfl rfl (hb hby d25_70)
  rcases hQ16 with hQ16 | hQ16
  · obtain ⟨rfl, Nc19, hp17, Kc18⟩ := hQ16
    refine own_go st16 ?_
    clear st16 X13 Kc14
    replace N0 := Fr.app N0 Nc19
    clear Nc19
    show own_Go p e below s _ _ _ (T16.setTop (mkF m 73 #[rv a1, rv wsp, iv (0 : Int32), rv t, rv wspv, iv (0 : Int32), iv (7 : Int32), iv (0 : Int32)] [(.int (-1 : Int32))]))
    refine own_go (fun _ k => XS.ifNo X16.here hx rfl (hb hby d25_73) rfl ((if0 _ _).trans (tlt (by decide : (-1 : Int32) < (0 : Int32))).2.1) (XS.iconst X16.here hx rfl (hb hby d25_76) (XS.goto X16.here hx rfl (pc0 := 77) (pc' := 81) rfl (hb hby d25_77) (by decide) (by decide) k))) ?_
    show own_Go p e below s _ _ _ (T16.setTop (mkF m 81 #[rv a1, rv wsp, iv (0 : Int32), rv t, rv wspv, iv (0 : Int32), iv (7 : Int32), iv (0 : Int32)] [(.int (1 : Int32))]))
    refine own_retN X16 hx hlk Kc18 (t := .boolean) hret (by simp) (hb hby d25_81) (by show _ ≤ 0; omega) (by show _ ≤ 0; omega) ?_
    exact Or.inl ⟨rfl, N0, hp17, rfl⟩
  · obtain ⟨w20, rfl, Nc24, hp21, hp22, Kc23⟩ := hQ16
    refine own_go st16 ?_
    clear st16 X13 Kc14
    replace N0 := Fr.app N0 Nc24
    clear Nc24
    show own_Go p e below s _ _ _ (T16.setTop (mkF m 73 #[rv a1, rv wsp, iv (0 : Int32), rv t, rv wspv, iv (0 : Int32), iv (7 : Int32), iv (0 : Int32)] [(.int w20)]))
    refine own_go (fun _ k => XS.ifYes X16.here hx rfl (pc0 := 73) (pc' := 80) rfl (hb hby d25_73) rfl ((if0 _ _).trans (flt hp22).2.1) (by decide) (by decide) (XS.iconst X16.here hx rfl (hb hby d25_80) k)) ?_
    show own_Go p e below s _ _ _ (T16.setTop (mkF m 81 #[rv a1, rv wsp, iv (0 : Int32), rv t, rv wspv, iv (0 : Int32), iv (7 : Int32), iv (0 : Int32)] [(.int (0 : Int32))]))
    refine own_retN X16 hx hlk Kc23 (t := .boolean) hret (by simp) (hb hby d25_81) (by show _ ≤ 0; omega) (by show _ ≤ 0; omega) ?_
    exact Or.inr (⟨rfl, N0, hp21, rfl⟩)
def Q_sw8 (Z : State) (zc : Int32) (wd : Addr) (kd : ClassId) (wx : Addr) (wy : Addr) (wsp : Addr) (wspv : Addr) (wspk : ClassId) (a1 : Addr) (t : Addr) (kt : ClassId) (x0 : Int32) (x1 : Int32) (x2 : Int32) (x3 : Int32) (x4 : Int32) (x5 : Int32) (x6 : Int32) (x7 : Int32) (h0 : Heap) (v : Option Value) (h : Heap) (L : List Loc) : Prop := (v = some (.int (1 : Int32)) ∧ Fr Z.heap.size L ∧ own_P7 x0 x1 x2 x3 x4 x5 x6 ∧ h = h0) ∨ (v = some (.int (0 : Int32)) ∧ Fr Z.heap.size L ∧ ¬ (own_P7 x0 x1 x2 x3 x4 x5 x6) ∧ h = h0)
theorem ef_sw8 (m : MethodId) (x0 : Addr) (x1 : Addr) : entryFrame m #[(.ref x0), (.ref x1)] 2 = mkF m 0 #[rv x0, rv x1] [] := by first | (simp [entryFrame, mkF, argsToLocals, Value.category]; done) | rfl
set_option maxRecDepth 65536 in
set_option maxHeartbeats 40000000 in
theorem rm_sw8 (l : Launch) (Z : State) (a0 : Array Value) (hw : own_W Z a0) {zc : Int32} {wd : Addr} {kd : ClassId} {wx : Addr} {wy : Addr} {wsp : Addr} {wspv : Addr} {wspk : ClassId} (hO : own_Olds Z zc wd kd wx wy wsp wspv wspk) (ws : List Jvm.Cond) (a1 : Addr) (t : Addr) (kt : ClassId) (x0 : Int32) (x1 : Int32) (x2 : Int32) (x3 : Int32) (x4 : Int32) (x5 : Int32) (x6 : Int32) (x7 : Int32) (h0 : Heap) (O0 : Ext Z.heap h0) (fp0 : Exa Z h0 a1 "java/lang/String") (fp1 : Fld Z h0 a1 "java/lang/String" "value" "[B" (.ref t)) (fp2 : Fld Z h0 a1 "java/lang/String" "coder" "B" (.int (0 : Int32))) (fp3 : Arv Z h0 t kt .byte (8 : Int32) [(.int x0), (.int x1), (.int x2), (.int x3), (.int x4), (.int x5), (.int x6), (.int x7)] (.int (0 : Int32))) :
    own_MF l Z h0 own_y17 jdk_42_method_76_code 2 (some .boolean) ({ frames := 3, cells := 0, slots := 0, locals := 46 } : Room) #[(.ref a1), (.ref wsp)] (Q_sw8 Z zc wd kd wx wy wsp wspv wspk a1 t kt x0 x1 x2 x3 x4 x5 x6 x7 h0) ws := by
  refine own_met (Q := (Q_sw8 Z zc wd kd wx wy wsp wspv wspk a1 t kt x0 x1 x2 x3 x4 x5 x6 x7 h0)) _ _ (plainFor_of_name own_pn_5) ?_
  intro p e s m below meth c T X0 hx hby hml hret hlk hZ hown hnm e0
  replace hown : s.vm.findClass "java/lang/String" = some m.cls := hown
  replace hnm : meth.name = "startsWith" := hnm
  have hml : c.maxLocals = 2 := hml
  obtain ⟨oCS, oCz, oDE, oDV, oEx, oSh, oE1, oE2, oPF, oSPE, oSPC, oSPF, oSPV, oNe⟩ := id hO
  have N0 := Fr.nil Z.heap.size
  have K0 := Keep.refl h0 []
  refine own_go (fun _ k => castTop (ef_sw8 m a1 wsp) k) ?_
  show own_Go p e below s _ _ _ (T.setTop (mkF m 0 #[rv a1, rv wsp] []))
  refine own_go (fun _ k => XS.aloadN X0.here hx rfl (hb hby d24_0) rfl rfl (XS.aloadN X0.here hx rfl (hb hby d24_1) rfl rfl (XS.iconst X0.here hx rfl (hb hby d24_2) k))) ?_
  obtain ⟨v1, T1, L1, X1, hQ1, st1⟩ := own_callV (y := own_y16) (z := own_y16) X0 hx hZ hown (ow150 hw) (ow151 hw) (notFace_of_selects (args := #[]) (mvT hZ (ow153 hw))) (ow153 hw) (ow152 hw) (ow11 hw) (ow154 hw) (rm_swi8 l Z a0 hw hO [] a1 t kt x0 x1 x2 x3 x4 x5 x6 x7 h0 O0 (fp0.keep K0) (fp1.keep K0 nin0) (fp2.keep K0 nin0) (fp3.keep K0 nin0)) 0 0 0 (by show _ ≤ 0; omega) (by show _ ≤ 0; omega) e0 (fp0.keep K0) (g := (mkF m 3 #[rv a1, rv wsp] [(.int (0 : Int32)), (.ref wsp), (.ref a1)])) rfl (by rw [hml]; rfl) [(.ref wsp), (.int (0 : Int32))] [] (lenOf own_pd_9 rfl) rfl rfl (hb hby d24_3)
  rcases hQ1 with hQ1 | hQ1
  · obtain ⟨rfl, Nc4, hp2, Kc3⟩ := hQ1
    refine own_go st1 ?_
    clear st1 X0 e0
    replace N0 := Fr.app N0 Nc4
    clear Nc4
    show own_Go p e below s _ _ _ (T1.setTop (mkF m 6 #[rv a1, rv wsp] [(.int (1 : Int32))]))
    refine own_retN X1 hx hlk Kc3 (t := .boolean) hret (by simp) (hb hby d24_6) (by show _ ≤ 0; omega) (by show _ ≤ 0; omega) ?_
    exact Or.inl ⟨rfl, N0, hp2, rfl⟩
  · obtain ⟨rfl, Nc7, hp5, Kc6⟩ := hQ1
    refine own_go st1 ?_
    clear st1 X0 e0
    replace N0 := Fr.app N0 Nc7
    clear Nc7
    show own_Go p e below s _ _ _ (T1.setTop (mkF m 6 #[rv a1, rv wsp] [(.int (0 : Int32))]))
    refine own_retN X1 hx hlk Kc6 (t := .boolean) hret (by simp) (hb hby d24_6) (by show _ ≤ 0; omega) (by show _ ≤ 0; omega) ?_
    exact Or.inr (⟨rfl, N0, hp5, rfl⟩)
theorem d23_0 : decode prog_5_method_4_code 0 = .ok (.aload_n 0, 1) := by decide +kernel
theorem d23_1 : decode prog_5_method_4_code 1 = .ok (.getstatic 7, 3) := by decide +kernel
theorem d23_4 : decode prog_5_method_4_code 4 = .ok (.getfield 29, 3) := by decide +kernel
theorem d23_7 : decode prog_5_method_4_code 7 = .ok (.invokevirtual 36, 3) := by decide +kernel
theorem d23_10 : decode prog_5_method_4_code 10 = .ok (.ifCond .eq 9, 3) := by decide +kernel
theorem d23_13 : decode prog_5_method_4_code 13 = .ok (.getstatic 7, 3) := by decide +kernel
theorem d23_16 : decode prog_5_method_4_code 16 = .ok (.goto 6, 3) := by decide +kernel
theorem d23_19 : decode prog_5_method_4_code 19 = .ok (.getstatic 3, 3) := by decide +kernel
theorem d23_22 : decode prog_5_method_4_code 22 = .ok (.areturn, 1) := by decide +kernel
def Q_ofn (Z : State) (zc : Int32) (wd : Addr) (kd : ClassId) (wx : Addr) (wy : Addr) (wsp : Addr) (wspv : Addr) (wspk : ClassId) (a1 : Addr) (pp : Int32) (h0 : Heap) (v : Option Value) (h : Heap) (L : List Loc) : Prop := (v = some (.ref wy) ∧ Fr Z.heap.size L ∧ own_Sp pp ∧ h = h0) ∨ (v = some (.ref wx) ∧ Fr Z.heap.size L ∧ ¬ (own_Sp pp) ∧ h = h0)
theorem ef_ofn (m : MethodId) (x0 : Addr) : entryFrame m #[(.ref x0)] 1 = mkF m 0 #[rv x0] [] := by first | (simp [entryFrame, mkF, argsToLocals, Value.category]; done) | rfl
set_option maxRecDepth 65536 in
set_option maxHeartbeats 40000000 in
theorem rm_ofn (l : Launch) (Z : State) (a0 : Array Value) (hw : own_W Z a0) {zc : Int32} {wd : Addr} {kd : ClassId} {wx : Addr} {wy : Addr} {wsp : Addr} {wspv : Addr} {wspk : ClassId} (hO : own_Olds Z zc wd kd wx wy wsp wspv wspk) (ws : List Jvm.Cond) (a1 : Addr) (pp : Int32) (h0 : Heap) (O0 : Ext Z.heap h0) (fp0 : Exa Z h0 a1 "java/lang/String") (fp1 : own_NS Z h0 a1 (own_Sp pp)) :
    own_MF l Z h0 own_y18 prog_5_method_4_code 1 (some (.object "com/example/padlock/padlock/lock/Access")) ({ frames := 4, cells := 0, slots := 0, locals := 59 } : Room) #[(.ref a1)] (Q_ofn Z zc wd kd wx wy wsp wspv wspk a1 pp h0) ws := by
  refine own_met (Q := (Q_ofn Z zc wd kd wx wy wsp wspv wspk a1 pp h0)) _ _ (plainFor_of_name own_pn_7) ?_
  intro p e s m below meth c T X0 hx hby hml hret hlk hZ hown hnm e0
  replace hown : s.vm.findClass "com/example/padlock/padlock/lock/Access" = some m.cls := hown
  replace hnm : meth.name = "ofNode" := hnm
  have hml : c.maxLocals = 1 := hml
  obtain ⟨oCS, oCz, oDE, oDV, oEx, oSh, oE1, oE2, oPF, oSPE, oSPC, oSPF, oSPV, oNe⟩ := id hO
  have N0 := Fr.nil Z.heap.size
  have K0 := Keep.refl h0 []
  refine own_go (fun _ k => castTop (ef_ofn m a1) k) ?_
  show own_Go p e below s _ _ _ (T.setTop (mkF m 0 #[rv a1] []))
  rcases fp1 with ⟨t, kt, x0, x1, x2, x3, x4, x5, x6, x7, g1, g2, g3, hif⟩ | ⟨t, kt, x0, x1, x2, x3, x4, x5, g1, g2, g3, hno⟩
  · show own_Go p e below s _ _ _ (T.setTop (mkF m 0 #[rv a1] []))
    show own_Go p e below s _ _ _ (T.setTop (mkF m 0 #[rv a1] []))
    refine own_go (fun _ k => XS.aloadN X0.here hx rfl (hb hby d23_0) rfl rfl k) ?_
    obtain ⟨T1, X1, e1, st1⟩ := getS2 X0 hx hZ hown (host := "") (Or.inl (ow141 hw)) Via.refl e0 (oSh.ext O0) (g := (mkF m 1 #[rv a1] [(.ref a1)])) rfl (hb hby d23_1)
    refine own_go st1 ?_
    clear st1 X0 e0
    obtain ⟨T2, X2, e2, st2⟩ := getF X1 hx hZ hown (host := "") (Or.inl (ow143 hw)) Via.refl e1 (oPF.ext O0) (g := (mkF m 4 #[rv a1] [(.ref wy), (.ref a1)])) rfl rfl (hb hby d23_4)
    refine own_go st2 ?_
    clear st2 X1 e1
    obtain ⟨v3, T3, L3, X3, hQ3, st3⟩ := own_callV (y := own_y17) (z := own_y17) X2 hx hZ hown (ow145 hw) (ow146 hw) (notFace_of_selects (args := #[]) (mvT hZ (ow148 hw))) (ow148 hw) (ow147 hw) (ow11 hw) (ow149 hw) (rm_sw8 l Z a0 hw hO [] a1 t kt x0 x1 x2 x3 x4 x5 x6 x7 h0 O0 (fp0.keep K0) g1 g2 g3) 0 0 0 (by show _ ≤ 0; omega) (by show _ ≤ 0; omega) e2 (fp0.keep K0) (g := (mkF m 7 #[rv a1] [(.ref wsp), (.ref a1)])) rfl (by rw [hml]; rfl) [(.ref wsp)] [] (lenOf own_pd_11 rfl) rfl rfl (hb hby d23_7)
    rcases hQ3 with hQ3 | hQ3
    · obtain ⟨rfl, Nc6, hp4, Kc5⟩ := hQ3
      refine own_go st3 ?_
      clear st3 X2 e2
      replace N0 := Fr.app N0 Nc6
      clear Nc6
      show own_Go p e below s _ _ _ (T3.setTop (mkF m 10 #[rv a1] [(.int (1 : Int32))]))
      refine own_go (fun _ k => XS.ifNo X3.here hx rfl (hb hby d23_10) rfl ((if0 _ _).trans (feq (by decide : ¬ ((1 : Int32) = (0 : Int32)))).1) k) ?_
      obtain ⟨T7, X7, e7, st7⟩ := getS2 X3 hx hZ hown (host := "") (Or.inl (ow141 hw)) Via.refl Kc5 (oSh.ext O0) (g := (mkF m 13 #[rv a1] [])) rfl (hb hby d23_13)
      refine own_go st7 ?_
      clear st7 X3 Kc5
      refine own_go (fun _ k => XS.goto X7.here hx rfl (pc0 := 16) (pc' := 22) rfl (hb hby d23_16) (by decide) (by decide) k) ?_
      show own_Go p e below s _ _ _ (T7.setTop (mkF m 22 #[rv a1] [(.ref wy)]))
      refine own_retA X7 hx hlk e7 hret rfl rfl (hb hby d23_22) (by show _ ≤ 0; omega) (by show _ ≤ 0; omega) ?_
      exact Or.inl ⟨rfl, N0, (hif.mp hp4), rfl⟩
    · obtain ⟨rfl, Nc10, hp8, Kc9⟩ := hQ3
      refine own_go st3 ?_
      clear st3 X2 e2
      replace N0 := Fr.app N0 Nc10
      clear Nc10
      show own_Go p e below s _ _ _ (T3.setTop (mkF m 10 #[rv a1] [(.int (0 : Int32))]))
      refine own_go (fun _ k => XS.ifYes X3.here hx rfl (pc0 := 10) (pc' := 19) rfl (hb hby d23_10) rfl ((if0 _ _).trans (teq (by decide : (0 : Int32) = (0 : Int32))).1) (by decide) (by decide) k) ?_
      obtain ⟨T11, X11, e11, st11⟩ := getS2 X3 hx hZ hown (host := "") (Or.inl (ow165 hw)) Via.refl Kc9 (oEx.ext O0) (g := (mkF m 19 #[rv a1] [])) rfl (hb hby d23_19)
      refine own_go st11 ?_
      clear st11 X3 Kc9
      show own_Go p e below s _ _ _ (T11.setTop (mkF m 22 #[rv a1] [(.ref wx)]))
      refine own_retA X11 hx hlk e11 hret rfl rfl (hb hby d23_22) (by show _ ≤ 0; omega) (by show _ ≤ 0; omega) ?_
      exact Or.inr (⟨rfl, N0, (mt hif.mpr hp8), rfl⟩)
  · show own_Go p e below s _ _ _ (T.setTop (mkF m 0 #[rv a1] []))
    show own_Go p e below s _ _ _ (T.setTop (mkF m 0 #[rv a1] []))
    refine own_go (fun _ k => XS.aloadN X0.here hx rfl (hb hby d23_0) rfl rfl k) ?_
    obtain ⟨T12, X12, e12, st12⟩ := getS2 X0 hx hZ hown (host := "") (Or.inl (ow141 hw)) Via.refl e0 (oSh.ext O0) (g := (mkF m 1 #[rv a1] [(.ref a1)])) rfl (hb hby d23_1)
    refine own_go st12 ?_
    clear st12 X0 e0
    obtain ⟨T13, X13, e13, st13⟩ := getF X12 hx hZ hown (host := "") (Or.inl (ow143 hw)) Via.refl e12 (oPF.ext O0) (g := (mkF m 4 #[rv a1] [(.ref wy), (.ref a1)])) rfl rfl (hb hby d23_4)
    refine own_go st13 ?_
    clear st13 X12 e12
    obtain ⟨v14, T14, L14, X14, hQ14, st14⟩ := own_callV (y := own_y17) (z := own_y17) X13 hx hZ hown (ow145 hw) (ow146 hw) (notFace_of_selects (args := #[]) (mvT hZ (ow148 hw))) (ow148 hw) (ow147 hw) (ow11 hw) (ow149 hw) (rm_sw6 l Z a0 hw hO [] a1 t kt x0 x1 x2 x3 x4 x5 h0 O0 (fp0.keep K0) g1 g2 g3) 0 0 0 (by show _ ≤ 0; omega) (by show _ ≤ 0; omega) e13 (fp0.keep K0) (g := (mkF m 7 #[rv a1] [(.ref wsp), (.ref a1)])) rfl (by rw [hml]; rfl) [(.ref wsp)] [] (lenOf own_pd_11 rfl) rfl rfl (hb hby d23_7)
    obtain ⟨rfl, Nc16, Kc15⟩ := hQ14
    refine own_go st14 ?_
    clear st14 X13 e13
    replace N0 := Fr.app N0 Nc16
    clear Nc16
    refine own_go (fun _ k => XS.ifYes X14.here hx rfl (pc0 := 10) (pc' := 19) rfl (hb hby d23_10) rfl ((if0 _ _).trans (teq (by decide : (0 : Int32) = (0 : Int32))).1) (by decide) (by decide) k) ?_
    obtain ⟨T17, X17, e17, st17⟩ := getS2 X14 hx hZ hown (host := "") (Or.inl (ow165 hw)) Via.refl Kc15 (oEx.ext O0) (g := (mkF m 19 #[rv a1] [])) rfl (hb hby d23_19)
    refine own_go st17 ?_
    clear st17 X14 Kc15
    show own_Go p e below s _ _ _ (T17.setTop (mkF m 22 #[rv a1] [(.ref wx)]))
    refine own_retA X17 hx hlk e17 hret rfl rfl (hb hby d23_22) (by show _ ≤ 0; omega) (by show _ ≤ 0; omega) ?_
    exact Or.inr (⟨rfl, N0, hno, rfl⟩)
theorem d28_0 : decode prog_5_method_7_code 0 = .ok (.aload_n 0, 1) := by decide +kernel
theorem d28_1 : decode prog_5_method_7_code 1 = .ok (.getstatic 3, 3) := by decide +kernel
theorem d28_4 : decode prog_5_method_7_code 4 = .ok (.if_acmp .eq 10, 3) := by decide +kernel
theorem d28_14 : decode prog_5_method_7_code 14 = .ok (.iconst 1, 1) := by decide +kernel
theorem d28_15 : decode prog_5_method_7_code 15 = .ok (.goto 4, 3) := by decide +kernel
theorem d28_19 : decode prog_5_method_7_code 19 = .ok (.ireturn, 1) := by decide +kernel
def Q_cfxx (Z : State) (zc : Int32) (wd : Addr) (kd : ClassId) (wx : Addr) (wy : Addr) (wsp : Addr) (wspv : Addr) (wspk : ClassId) (h0 : Heap) (v : Option Value) (h : Heap) (L : List Loc) : Prop := (v = some (.int (1 : Int32)) ∧ Fr Z.heap.size L ∧ h = h0)
theorem ef_cfxx (m : MethodId) (x0 : Addr) (x1 : Addr) : entryFrame m #[(.ref x0), (.ref x1)] 2 = mkF m 0 #[rv x0, rv x1] [] := by first | (simp [entryFrame, mkF, argsToLocals, Value.category]; done) | rfl
set_option maxRecDepth 65536 in
set_option maxHeartbeats 40000000 in
theorem rm_cfxx (l : Launch) (Z : State) (a0 : Array Value) (hw : own_W Z a0) {zc : Int32} {wd : Addr} {kd : ClassId} {wx : Addr} {wy : Addr} {wsp : Addr} {wspv : Addr} {wspk : ClassId} (hO : own_Olds Z zc wd kd wx wy wsp wspv wspk) (ws : List Jvm.Cond)  (h0 : Heap) (O0 : Ext Z.heap h0) :
    own_MF l Z h0 own_y19 prog_5_method_7_code 2 (some .boolean) ({ frames := 0, cells := 0, slots := 0, locals := 0 } : Room) #[(.ref wx), (.ref wx)] (Q_cfxx Z zc wd kd wx wy wsp wspv wspk h0) ws := by
  refine own_met (Q := (Q_cfxx Z zc wd kd wx wy wsp wspv wspk h0)) _ _ (plainFor_of_name own_pn_7) ?_
  intro p e s m below meth c T X0 hx hby hml hret hlk hZ hown hnm e0
  replace hown : s.vm.findClass "com/example/padlock/padlock/lock/Access" = some m.cls := hown
  replace hnm : meth.name = "conflictsWith" := hnm
  have hml : c.maxLocals = 2 := hml
  obtain ⟨oCS, oCz, oDE, oDV, oEx, oSh, oE1, oE2, oPF, oSPE, oSPC, oSPF, oSPV, oNe⟩ := id hO
  have N0 := Fr.nil Z.heap.size
  have K0 := Keep.refl h0 []
  refine own_go (fun _ k => castTop (ef_cfxx m wx wx) k) ?_
  show own_Go p e below s _ _ _ (T.setTop (mkF m 0 #[rv wx, rv wx] []))
  refine own_go (fun _ k => XS.aloadN X0.here hx rfl (hb hby d28_0) rfl rfl k) ?_
  obtain ⟨T1, X1, e1, st1⟩ := getS2 X0 hx hZ hown (host := "") (Or.inl (ow165 hw)) Via.refl e0 (oEx.ext O0) (g := (mkF m 1 #[rv wx, rv wx] [(.ref wx)])) rfl (hb hby d28_1)
  refine own_go st1 ?_
  clear st1 X0 e0
  refine own_go (fun _ k => Jvm.RoadKit.acmp (g := (mkF m 4 #[rv wx, rv wx] [(.ref wx), (.ref wx)])) X1 hx rfl rfl rfl (pc0 := 4) (pc' := 14) (same := true) rfl (hb hby d28_4) rfl (decide_eq_true rfl) (by decide) (by decide) (XS.iconst X1.here hx rfl (hb hby d28_14) (XS.goto X1.here hx rfl (pc0 := 15) (pc' := 19) rfl (hb hby d28_15) (by decide) (by decide) k))) ?_
  show own_Go p e below s _ _ _ (T1.setTop (mkF m 19 #[rv wx, rv wx] [(.int (1 : Int32))]))
  refine own_retN X1 hx hlk e1 (t := .boolean) hret (by simp) (hb hby d28_19) (by show _ ≤ 0; omega) (by show _ ≤ 0; omega) ?_
  exact ⟨rfl, N0, rfl⟩
def Q_cfxy (Z : State) (zc : Int32) (wd : Addr) (kd : ClassId) (wx : Addr) (wy : Addr) (wsp : Addr) (wspv : Addr) (wspk : ClassId) (h0 : Heap) (v : Option Value) (h : Heap) (L : List Loc) : Prop := (v = some (.int (1 : Int32)) ∧ Fr Z.heap.size L ∧ h = h0)
theorem ef_cfxy (m : MethodId) (x0 : Addr) (x1 : Addr) : entryFrame m #[(.ref x0), (.ref x1)] 2 = mkF m 0 #[rv x0, rv x1] [] := by first | (simp [entryFrame, mkF, argsToLocals, Value.category]; done) | rfl
set_option maxRecDepth 65536 in
set_option maxHeartbeats 40000000 in
theorem rm_cfxy (l : Launch) (Z : State) (a0 : Array Value) (hw : own_W Z a0) {zc : Int32} {wd : Addr} {kd : ClassId} {wx : Addr} {wy : Addr} {wsp : Addr} {wspv : Addr} {wspk : ClassId} (hO : own_Olds Z zc wd kd wx wy wsp wspv wspk) (ws : List Jvm.Cond)  (h0 : Heap) (O0 : Ext Z.heap h0) :
    own_MF l Z h0 own_y19 prog_5_method_7_code 2 (some .boolean) ({ frames := 0, cells := 0, slots := 0, locals := 0 } : Room) #[(.ref wx), (.ref wy)] (Q_cfxy Z zc wd kd wx wy wsp wspv wspk h0) ws := by
  refine own_met (Q := (Q_cfxy Z zc wd kd wx wy wsp wspv wspk h0)) _ _ (plainFor_of_name own_pn_7) ?_
  intro p e s m below meth c T X0 hx hby hml hret hlk hZ hown hnm e0
  replace hown : s.vm.findClass "com/example/padlock/padlock/lock/Access" = some m.cls := hown
  replace hnm : meth.name = "conflictsWith" := hnm
  have hml : c.maxLocals = 2 := hml
  obtain ⟨oCS, oCz, oDE, oDV, oEx, oSh, oE1, oE2, oPF, oSPE, oSPC, oSPF, oSPV, oNe⟩ := id hO
  have N0 := Fr.nil Z.heap.size
  have K0 := Keep.refl h0 []
  refine own_go (fun _ k => castTop (ef_cfxy m wx wy) k) ?_
  show own_Go p e below s _ _ _ (T.setTop (mkF m 0 #[rv wx, rv wy] []))
  refine own_go (fun _ k => XS.aloadN X0.here hx rfl (hb hby d28_0) rfl rfl k) ?_
  obtain ⟨T1, X1, e1, st1⟩ := getS2 X0 hx hZ hown (host := "") (Or.inl (ow165 hw)) Via.refl e0 (oEx.ext O0) (g := (mkF m 1 #[rv wx, rv wy] [(.ref wx)])) rfl (hb hby d28_1)
  refine own_go st1 ?_
  clear st1 X0 e0
  refine own_go (fun _ k => Jvm.RoadKit.acmp (g := (mkF m 4 #[rv wx, rv wy] [(.ref wx), (.ref wx)])) X1 hx rfl rfl rfl (pc0 := 4) (pc' := 14) (same := true) rfl (hb hby d28_4) rfl (decide_eq_true rfl) (by decide) (by decide) (XS.iconst X1.here hx rfl (hb hby d28_14) (XS.goto X1.here hx rfl (pc0 := 15) (pc' := 19) rfl (hb hby d28_15) (by decide) (by decide) k))) ?_
  show own_Go p e below s _ _ _ (T1.setTop (mkF m 19 #[rv wx, rv wy] [(.int (1 : Int32))]))
  refine own_retN X1 hx hlk e1 (t := .boolean) hret (by simp) (hb hby d28_19) (by show _ ≤ 0; omega) (by show _ ≤ 0; omega) ?_
  exact ⟨rfl, N0, rfl⟩
theorem d28_7 : decode prog_5_method_7_code 7 = .ok (.aload_n 1, 1) := by decide +kernel
theorem d28_8 : decode prog_5_method_7_code 8 = .ok (.getstatic 3, 3) := by decide +kernel
theorem d28_11 : decode prog_5_method_7_code 11 = .ok (.if_acmp .ne 7, 3) := by decide +kernel
def Q_cfyx (Z : State) (zc : Int32) (wd : Addr) (kd : ClassId) (wx : Addr) (wy : Addr) (wsp : Addr) (wspv : Addr) (wspk : ClassId) (h0 : Heap) (v : Option Value) (h : Heap) (L : List Loc) : Prop := (v = some (.int (1 : Int32)) ∧ Fr Z.heap.size L ∧ h = h0)
theorem ef_cfyx (m : MethodId) (x0 : Addr) (x1 : Addr) : entryFrame m #[(.ref x0), (.ref x1)] 2 = mkF m 0 #[rv x0, rv x1] [] := by first | (simp [entryFrame, mkF, argsToLocals, Value.category]; done) | rfl
set_option maxRecDepth 65536 in
set_option maxHeartbeats 40000000 in
theorem rm_cfyx (l : Launch) (Z : State) (a0 : Array Value) (hw : own_W Z a0) {zc : Int32} {wd : Addr} {kd : ClassId} {wx : Addr} {wy : Addr} {wsp : Addr} {wspv : Addr} {wspk : ClassId} (hO : own_Olds Z zc wd kd wx wy wsp wspv wspk) (ws : List Jvm.Cond)  (h0 : Heap) (O0 : Ext Z.heap h0) :
    own_MF l Z h0 own_y19 prog_5_method_7_code 2 (some .boolean) ({ frames := 0, cells := 0, slots := 0, locals := 0 } : Room) #[(.ref wy), (.ref wx)] (Q_cfyx Z zc wd kd wx wy wsp wspv wspk h0) ws := by
  refine own_met (Q := (Q_cfyx Z zc wd kd wx wy wsp wspv wspk h0)) _ _ (plainFor_of_name own_pn_7) ?_
  intro p e s m below meth c T X0 hx hby hml hret hlk hZ hown hnm e0
  replace hown : s.vm.findClass "com/example/padlock/padlock/lock/Access" = some m.cls := hown
  replace hnm : meth.name = "conflictsWith" := hnm
  have hml : c.maxLocals = 2 := hml
  obtain ⟨oCS, oCz, oDE, oDV, oEx, oSh, oE1, oE2, oPF, oSPE, oSPC, oSPF, oSPV, oNe⟩ := id hO
  have N0 := Fr.nil Z.heap.size
  have K0 := Keep.refl h0 []
  refine own_go (fun _ k => castTop (ef_cfyx m wy wx) k) ?_
  show own_Go p e below s _ _ _ (T.setTop (mkF m 0 #[rv wy, rv wx] []))
  refine own_go (fun _ k => XS.aloadN X0.here hx rfl (hb hby d28_0) rfl rfl k) ?_
  obtain ⟨T1, X1, e1, st1⟩ := getS2 X0 hx hZ hown (host := "") (Or.inl (ow165 hw)) Via.refl e0 (oEx.ext O0) (g := (mkF m 1 #[rv wy, rv wx] [(.ref wy)])) rfl (hb hby d28_1)
  refine own_go st1 ?_
  clear st1 X0 e0
  refine own_go (fun _ k => Jvm.RoadKit.acmp (g := (mkF m 4 #[rv wy, rv wx] [(.ref wx), (.ref wy)])) X1 hx rfl rfl rfl (pc0 := 4) (pc' := 7) (same := false) rfl (hb hby d28_4) rfl (decide_eq_false fun q => (Ne.symm oNe) (Value.ref.inj q)) (by decide) (by decide) (XS.aloadN X1.here hx rfl (hb hby d28_7) rfl rfl k)) ?_
  obtain ⟨T2, X2, e2, st2⟩ := getS2 X1 hx hZ hown (host := "") (Or.inl (ow165 hw)) Via.refl e1 (oEx.ext O0) (g := (mkF m 8 #[rv wy, rv wx] [(.ref wx)])) rfl (hb hby d28_8)
  refine own_go st2 ?_
  clear st2 X1 e1
  refine own_go (fun _ k => Jvm.RoadKit.acmp (g := (mkF m 11 #[rv wy, rv wx] [(.ref wx), (.ref wx)])) X2 hx rfl rfl rfl (pc0 := 11) (pc' := 14) (same := true) rfl (hb hby d28_11) rfl (decide_eq_true rfl) (by decide) (by decide) (XS.iconst X2.here hx rfl (hb hby d28_14) (XS.goto X2.here hx rfl (pc0 := 15) (pc' := 19) rfl (hb hby d28_15) (by decide) (by decide) k))) ?_
  show own_Go p e below s _ _ _ (T2.setTop (mkF m 19 #[rv wy, rv wx] [(.int (1 : Int32))]))
  refine own_retN X2 hx hlk e2 (t := .boolean) hret (by simp) (hb hby d28_19) (by show _ ≤ 0; omega) (by show _ ≤ 0; omega) ?_
  exact ⟨rfl, N0, rfl⟩
theorem d28_18 : decode prog_5_method_7_code 18 = .ok (.iconst 0, 1) := by decide +kernel
def Q_cfyy (Z : State) (zc : Int32) (wd : Addr) (kd : ClassId) (wx : Addr) (wy : Addr) (wsp : Addr) (wspv : Addr) (wspk : ClassId) (h0 : Heap) (v : Option Value) (h : Heap) (L : List Loc) : Prop := (v = some (.int (0 : Int32)) ∧ Fr Z.heap.size L ∧ h = h0)
theorem ef_cfyy (m : MethodId) (x0 : Addr) (x1 : Addr) : entryFrame m #[(.ref x0), (.ref x1)] 2 = mkF m 0 #[rv x0, rv x1] [] := by first | (simp [entryFrame, mkF, argsToLocals, Value.category]; done) | rfl
set_option maxRecDepth 65536 in
set_option maxHeartbeats 40000000 in
theorem rm_cfyy (l : Launch) (Z : State) (a0 : Array Value) (hw : own_W Z a0) {zc : Int32} {wd : Addr} {kd : ClassId} {wx : Addr} {wy : Addr} {wsp : Addr} {wspv : Addr} {wspk : ClassId} (hO : own_Olds Z zc wd kd wx wy wsp wspv wspk) (ws : List Jvm.Cond)  (h0 : Heap) (O0 : Ext Z.heap h0) :
    own_MF l Z h0 own_y19 prog_5_method_7_code 2 (some .boolean) ({ frames := 0, cells := 0, slots := 0, locals := 0 } : Room) #[(.ref wy), (.ref wy)] (Q_cfyy Z zc wd kd wx wy wsp wspv wspk h0) ws := by
  refine own_met (Q := (Q_cfyy Z zc wd kd wx wy wsp wspv wspk h0)) _ _ (plainFor_of_name own_pn_7) ?_
  intro p e s m below meth c T X0 hx hby hml hret hlk hZ hown hnm e0
  replace hown : s.vm.findClass "com/example/padlock/padlock/lock/Access" = some m.cls := hown
  replace hnm : meth.name = "conflictsWith" := hnm
  have hml : c.maxLocals = 2 := hml
  obtain ⟨oCS, oCz, oDE, oDV, oEx, oSh, oE1, oE2, oPF, oSPE, oSPC, oSPF, oSPV, oNe⟩ := id hO
  have N0 := Fr.nil Z.heap.size
  have K0 := Keep.refl h0 []
  refine own_go (fun _ k => castTop (ef_cfyy m wy wy) k) ?_
  show own_Go p e below s _ _ _ (T.setTop (mkF m 0 #[rv wy, rv wy] []))
  refine own_go (fun _ k => XS.aloadN X0.here hx rfl (hb hby d28_0) rfl rfl k) ?_
  obtain ⟨T1, X1, e1, st1⟩ := getS2 X0 hx hZ hown (host := "") (Or.inl (ow165 hw)) Via.refl e0 (oEx.ext O0) (g := (mkF m 1 #[rv wy, rv wy] [(.ref wy)])) rfl (hb hby d28_1)
  refine own_go st1 ?_
  clear st1 X0 e0
  refine own_go (fun _ k => Jvm.RoadKit.acmp (g := (mkF m 4 #[rv wy, rv wy] [(.ref wx), (.ref wy)])) X1 hx rfl rfl rfl (pc0 := 4) (pc' := 7) (same := false) rfl (hb hby d28_4) rfl (decide_eq_false fun q => (Ne.symm oNe) (Value.ref.inj q)) (by decide) (by decide) (XS.aloadN X1.here hx rfl (hb hby d28_7) rfl rfl k)) ?_
  obtain ⟨T2, X2, e2, st2⟩ := getS2 X1 hx hZ hown (host := "") (Or.inl (ow165 hw)) Via.refl e1 (oEx.ext O0) (g := (mkF m 8 #[rv wy, rv wy] [(.ref wy)])) rfl (hb hby d28_8)
  refine own_go st2 ?_
  clear st2 X1 e1
  refine own_go (fun _ k => Jvm.RoadKit.acmp (g := (mkF m 11 #[rv wy, rv wy] [(.ref wx), (.ref wy)])) X2 hx rfl rfl rfl (pc0 := 11) (pc' := 18) (same := false) rfl (hb hby d28_11) rfl (decide_eq_false fun q => (Ne.symm oNe) (Value.ref.inj q)) (by decide) (by decide) (XS.iconst X2.here hx rfl (hb hby d28_18) k)) ?_
  show own_Go p e below s _ _ _ (T2.setTop (mkF m 19 #[rv wy, rv wy] [(.int (0 : Int32))]))
  refine own_retN X2 hx hlk e2 (t := .boolean) hret (by simp) (hb hby d28_19) (by show _ ≤ 0; omega) (by show _ ≤ 0; omega) ?_
  exact ⟨rfl, N0, rfl⟩
theorem d18_0 : decode method_3_code 0 = .ok (.iload_n 0, 1) := by decide +kernel
theorem d18_1 : decode method_3_code 1 = .ok (.bipush 24, 2) := by decide +kernel
theorem d18_3 : decode method_3_code 3 = .ok (.iushr, 1) := by decide +kernel
theorem d18_4 : decode method_3_code 4 = .ok (.iconst 3, 1) := by decide +kernel
theorem d18_5 : decode method_3_code 5 = .ok (.iand, 1) := by decide +kernel
theorem d18_6 : decode method_3_code 6 = .ok (.ifCond .ne 5, 3) := by decide +kernel
theorem d18_9 : decode method_3_code 9 = .ok (.iconst 0, 1) := by decide +kernel
theorem d18_10 : decode method_3_code 10 = .ok (.ireturn, 1) := by decide +kernel
theorem d18_11 : decode method_3_code 11 = .ok (.iload_n 0, 1) := by decide +kernel
theorem d18_12 : decode method_3_code 12 = .ok (.bipush 15, 2) := by decide +kernel
theorem d18_14 : decode method_3_code 14 = .ok (.iand, 1) := by decide +kernel
theorem d18_15 : decode method_3_code 15 = .ok (.istore_n 1, 1) := by decide +kernel
theorem d18_16 : decode method_3_code 16 = .ok (.iload_n 1, 1) := by decide +kernel
theorem d18_17 : decode method_3_code 17 = .ok (.bipush 7, 2) := by decide +kernel
theorem d18_19 : decode method_3_code 19 = .ok (.if_icmp .lt 5, 3) := by decide +kernel
theorem d18_22 : decode method_3_code 22 = .ok (.iconst 1, 1) := by decide +kernel
theorem d18_23 : decode method_3_code 23 = .ok (.ireturn, 1) := by decide +kernel
theorem d18_24 : decode method_3_code 24 = .ok (.bipush 7, 2) := by decide +kernel
theorem d18_26 : decode method_3_code 26 = .ok (.newarray .char, 2) := by decide +kernel
theorem d18_28 : decode method_3_code 28 = .ok (.dup, 1) := by decide +kernel
theorem d18_29 : decode method_3_code 29 = .ok (.iconst 0, 1) := by decide +kernel
theorem d18_30 : decode method_3_code 30 = .ok (.bipush 115, 2) := by decide +kernel
theorem d18_32 : decode method_3_code 32 = .ok (.castore, 1) := by decide +kernel
theorem d18_33 : decode method_3_code 33 = .ok (.dup, 1) := by decide +kernel
theorem d18_34 : decode method_3_code 34 = .ok (.iconst 1, 1) := by decide +kernel
theorem d18_35 : decode method_3_code 35 = .ok (.bipush 104, 2) := by decide +kernel
theorem d18_37 : decode method_3_code 37 = .ok (.castore, 1) := by decide +kernel
theorem d18_38 : decode method_3_code 38 = .ok (.dup, 1) := by decide +kernel
theorem d18_39 : decode method_3_code 39 = .ok (.iconst 2, 1) := by decide +kernel
theorem d18_40 : decode method_3_code 40 = .ok (.bipush 97, 2) := by decide +kernel
theorem d18_42 : decode method_3_code 42 = .ok (.castore, 1) := by decide +kernel
theorem d18_43 : decode method_3_code 43 = .ok (.dup, 1) := by decide +kernel
theorem d18_44 : decode method_3_code 44 = .ok (.iconst 3, 1) := by decide +kernel
theorem d18_45 : decode method_3_code 45 = .ok (.bipush 114, 2) := by decide +kernel
theorem d18_47 : decode method_3_code 47 = .ok (.castore, 1) := by decide +kernel
theorem d18_48 : decode method_3_code 48 = .ok (.dup, 1) := by decide +kernel
theorem d18_49 : decode method_3_code 49 = .ok (.iconst 4, 1) := by decide +kernel
theorem d18_50 : decode method_3_code 50 = .ok (.bipush 101, 2) := by decide +kernel
theorem d18_52 : decode method_3_code 52 = .ok (.castore, 1) := by decide +kernel
theorem d18_53 : decode method_3_code 53 = .ok (.dup, 1) := by decide +kernel
theorem d18_54 : decode method_3_code 54 = .ok (.iconst 5, 1) := by decide +kernel
theorem d18_55 : decode method_3_code 55 = .ok (.bipush 100, 2) := by decide +kernel
theorem d18_57 : decode method_3_code 57 = .ok (.castore, 1) := by decide +kernel
theorem d18_58 : decode method_3_code 58 = .ok (.dup, 1) := by decide +kernel
theorem d18_59 : decode method_3_code 59 = .ok (.bipush 6, 2) := by decide +kernel
theorem d18_61 : decode method_3_code 61 = .ok (.bipush 45, 2) := by decide +kernel
theorem d18_63 : decode method_3_code 63 = .ok (.castore, 1) := by decide +kernel
theorem d18_64 : decode method_3_code 64 = .ok (.astore_n 2, 1) := by decide +kernel
theorem d18_65 : decode method_3_code 65 = .ok (.iload_n 0, 1) := by decide +kernel
theorem d18_66 : decode method_3_code 66 = .ok (.bipush 16, 2) := by decide +kernel
theorem d18_68 : decode method_3_code 68 = .ok (.iushr, 1) := by decide +kernel
theorem d18_69 : decode method_3_code 69 = .ok (.sipush 255, 3) := by decide +kernel
theorem d18_72 : decode method_3_code 72 = .ok (.iand, 1) := by decide +kernel
theorem d18_73 : decode method_3_code 73 = .ok (.i2c, 1) := by decide +kernel
theorem d18_74 : decode method_3_code 74 = .ok (.aload_n 2, 1) := by decide +kernel
theorem d18_75 : decode method_3_code 75 = .ok (.iload_n 1, 1) := by decide +kernel
theorem d18_76 : decode method_3_code 76 = .ok (.caload, 1) := by decide +kernel
theorem d18_77 : decode method_3_code 77 = .ok (.if_icmp .ne 7, 3) := by decide +kernel
theorem d18_80 : decode method_3_code 80 = .ok (.iconst 1, 1) := by decide +kernel
theorem d18_81 : decode method_3_code 81 = .ok (.goto 4, 3) := by decide +kernel
theorem d18_84 : decode method_3_code 84 = .ok (.iconst 0, 1) := by decide +kernel
theorem d18_85 : decode method_3_code 85 = .ok (.ireturn, 1) := by decide +kernel
def Q_shared (Z : State) (zc : Int32) (wd : Addr) (kd : ClassId) (wx : Addr) (wy : Addr) (wsp : Addr) (wspv : Addr) (wspk : ClassId) (p1 : Int32) (h0 : Heap) (v : Option Value) (h : Heap) (L : List Loc) : Prop := (v = some (.int (1 : Int32)) ∧ Fr Z.heap.size L ∧ own_Sp p1 ∧ Keep h0 h []) ∨ (v = some (.int (0 : Int32)) ∧ Fr Z.heap.size L ∧ ¬ (own_Sp p1) ∧ Keep h0 h [])
theorem ef_shared (m : MethodId) (x0 : Int32) : entryFrame m #[(.int x0)] 3 = mkF m 0 #[iv x0, .unset, .unset] [] := by first | (simp [entryFrame, mkF, argsToLocals, Value.category]; done) | rfl
set_option maxRecDepth 65536 in
set_option maxHeartbeats 40000000 in
theorem rm_shared (l : Launch) (Z : State) (a0 : Array Value) (hw : own_W Z a0) {zc : Int32} {wd : Addr} {kd : ClassId} {wx : Addr} {wy : Addr} {wsp : Addr} {wspv : Addr} {wspk : ClassId} (hO : own_Olds Z zc wd kd wx wy wsp wspv wspk) (ws : List Jvm.Cond) (p1 : Int32) (h0 : Heap) (O0 : Ext Z.heap h0) :
    own_MF l Z h0 own_y20 method_3_code 3 (some .boolean) ({ frames := 0, cells := 1, slots := 7, locals := 0 } : Room) #[(.int p1)] (Q_shared Z zc wd kd wx wy wsp wspv wspk p1 h0) ws := by
  refine own_met (Q := (Q_shared Z zc wd kd wx wy wsp wspv wspk p1 h0)) _ _ (plainFor_of_name own_pn_8) ?_
  intro p e s m below meth c T X0 hx hby hml hret hlk hZ hown hnm e0
  replace hown : s.vm.findClass "com/example/padlock/padlock/lock/AccessAnnouncedPinLaw" = some m.cls := hown
  replace hnm : meth.name = "shared" := hnm
  have hml : c.maxLocals = 3 := hml
  obtain ⟨oCS, oCz, oDE, oDV, oEx, oSh, oE1, oE2, oPF, oSPE, oSPC, oSPF, oSPV, oNe⟩ := id hO
  have N0 := Fr.nil Z.heap.size
  have K0 := Keep.refl h0 []
  refine own_go (fun _ k => castTop (ef_shared m p1) k) ?_
  show own_Go p e below s _ _ _ (T.setTop (mkF m 0 #[iv p1, .unset, .unset] []))
  refine own_go (fun _ k => XS.iloadN X0.here hx rfl (hb hby d18_0) rfl (XS.bipush X0.here hx rfl (hb hby d18_1) (XS.iushr X0.here hx rfl (hb hby d18_3) rfl (XS.iconst X0.here hx rfl (hb hby d18_4) (XS.iand X0.here hx rfl (hb hby d18_5) rfl k))))) ?_
  by_cases hc1 : (((p1.toUInt32 >>> ((24 : Int32) &&& 31).toUInt32).toInt32) &&& (3 : Int32)) = (0 : Int32)
  · refine own_go (fun _ k => XS.ifNo X0.here hx rfl (hb hby d18_6) rfl ((if0 _ _).trans (teq hc1).2) k) ?_
    show own_Go p e below s _ _ _ (T.setTop (mkF m 9 #[iv p1, .unset, .unset] []))
    refine own_go (fun _ k => XS.iconst X0.here hx rfl (hb hby d18_9) k) ?_
    show own_Go p e below s _ _ _ (T.setTop (mkF m 10 #[iv p1, .unset, .unset] [(.int (0 : Int32))]))
    refine own_retN X0 hx hlk e0 (t := .boolean) hret (by simp) (hb hby d18_10) (by show _ ≤ 1; omega) (by show _ ≤ 7; omega) ?_
    exact Or.inr (⟨rfl, N0, (fun h => h.1 hc1), K0⟩)
  · refine own_go (fun _ k => XS.ifYes X0.here hx rfl (pc0 := 6) (pc' := 11) rfl (hb hby d18_6) rfl ((if0 _ _).trans (feq hc1).2) (by decide) (by decide) k) ?_
    show own_Go p e below s _ _ _ (T.setTop (mkF m 11 #[iv p1, .unset, .unset] []))
    refine own_go (fun _ k => XS.iloadN X0.here hx rfl (hb hby d18_11) rfl (XS.bipush X0.here hx rfl (hb hby d18_12) (XS.iand X0.here hx rfl (hb hby d18_14) rfl (XS.istoreN X0.here hx rfl (hb hby d18_15) rfl (l' := #[iv p1, iv (p1 &&& (15 : Int32)), .unset]) rfl (XS.iloadN X0.here hx rfl (hb hby d18_16) rfl (XS.bipush X0.here hx rfl (hb hby d18_17) k)))))) ?_
    by_cases hc2 : (p1 &&& (15 : Int32)) < (7 : Int32)
    · refine own_go (fun _ k => XS.icmpYes X0.here hx rfl (pc0 := 19) (pc' := 24) rfl (hb hby d18_19) rfl (tlt hc2).1 (by decide) (by decide) k) ?_
      show own_Go p e below s _ _ _ (T.setTop (mkF m 24 #[iv p1, iv (p1 &&& (15 : Int32)), .unset] []))
      refine own_go (fun _ k => XS.bipush X0.here hx rfl (hb hby d18_24) k) ?_
      obtain ⟨T3, h3, k3, X3, e3, E3, A3, st3⟩ := newP (aty := .char) X0 hx hZ (ow8 hw) e0 (g := (mkF m 26 #[iv p1, iv (p1 &&& (15 : Int32)), .unset] [(.int (7 : Int32))])) rfl (hb hby d18_26) rfl (by decide) (cap := 7) (by decide) (by decide) (by show _ ≤ 1; omega) (by show _ ≤ 7; omega)
      obtain ⟨b3, g3⟩ : ∃ z, z = h0.size := ⟨_, rfl⟩
      rw [← g3] at A3 st3
      refine own_go st3 ?_
      clear st3 X0 e0
      have ge3 := Nat.le_of_eq g3.symm
      have big4 : Z.heap.size ≤ b3 := Nat.le_trans O0.1 ge3
      have sz5 : h0.size ≤ b3 := Nat.le_trans K0.1 ge3
      replace O0 := own_oldExt O0 E3
      replace K0 := K0.ext E3
      clear E3
      have f6 : Arv Z h3 b3 k3 .char (7 : Int32) [(.int (0 : Int32)), (.int (0 : Int32)), (.int (0 : Int32)), (.int (0 : Int32)), (.int (0 : Int32)), (.int (0 : Int32)), (.int (0 : Int32))] (.int (0 : Int32)) := (Arv.new A3 (by decide)).pad (pad_rep [] (.int (0 : Int32)) 7)
      refine own_go (fun _ k => XS.dup X3.here hx rfl (hb hby d18_28) rfl rfl (XS.iconst X3.here hx rfl (hb hby d18_29) (XS.bipush X3.here hx rfl (hb hby d18_30) k))) ?_
      obtain ⟨cl7, Ar7, q7, S7, M7, P7, G7⟩ := id f6
      have hin7 : ¬ ((0 : Int32) < 0 ∨ cl7.slots.size ≤ ((0 : Int32)).toNatClampNeg) := inb_of S7 ⟨by decide, by decide⟩
      obtain ⟨T8, h8, X8, e8, W8, st8⟩ := stC X3 hx hZ e3 Ar7 (j := (0 : Int32)) hin7 (g := (mkF m 32 #[iv p1, iv (p1 &&& (15 : Int32)), .unset] [(.int (115 : Int32)), (.int (0 : Int32)), (.ref b3), (.ref b3)])) rfl rfl (hb hby d18_32)
      refine own_go st8 ?_
      clear st8 X3 e3
      rw [show nar .char (115 : Int32) = (115 : Int32) from by decide] at W8
      have f9 : Arv Z h8 b3 k3 .char (7 : Int32) [(.int (115 : Int32)), (.int (0 : Int32)), (.int (0 : Int32)), (.int (0 : Int32)), (.int (0 : Int32)), (.int (0 : Int32)), (.int (0 : Int32))] (.int (0 : Int32)) := Arv.set Ar7 q7 S7 M7 P7 G7 (by have q := fits_nar_char (115 : Int32); rw [show nar .char (115 : Int32) = (115 : Int32) from by decide] at q; exact q) W8 0 rfl (Nat.le_of_ble_eq_true rfl)
      replace N0 := Fr.snoc X8 N0 big4
      clear f6
      replace O0 := own_oldWr O0 W8 big4
      replace K0 := K0.wr W8 (Or.inr sz5)
      clear W8
      clear Ar7 q7 S7 M7 P7 G7 hin7
      refine own_go (fun _ k => XS.dup X8.here hx rfl (hb hby d18_33) rfl rfl (XS.iconst X8.here hx rfl (hb hby d18_34) (XS.bipush X8.here hx rfl (hb hby d18_35) k))) ?_
      obtain ⟨cl10, Ar10, q10, S10, M10, P10, G10⟩ := id f9
      have hin10 : ¬ ((1 : Int32) < 0 ∨ cl10.slots.size ≤ ((1 : Int32)).toNatClampNeg) := inb_of S10 ⟨by decide, by decide⟩
      obtain ⟨T11, h11, X11, e11, W11, st11⟩ := stC X8 hx hZ e8 Ar10 (j := (1 : Int32)) hin10 (g := (mkF m 37 #[iv p1, iv (p1 &&& (15 : Int32)), .unset] [(.int (104 : Int32)), (.int (1 : Int32)), (.ref b3), (.ref b3)])) rfl rfl (hb hby d18_37)
      refine own_go st11 ?_
      clear st11 X8 e8
      rw [show nar .char (104 : Int32) = (104 : Int32) from by decide] at W11
      have f12 : Arv Z h11 b3 k3 .char (7 : Int32) [(.int (115 : Int32)), (.int (104 : Int32)), (.int (0 : Int32)), (.int (0 : Int32)), (.int (0 : Int32)), (.int (0 : Int32)), (.int (0 : Int32))] (.int (0 : Int32)) := Arv.set Ar10 q10 S10 M10 P10 G10 (by have q := fits_nar_char (104 : Int32); rw [show nar .char (104 : Int32) = (104 : Int32) from by decide] at q; exact q) W11 1 rfl (Nat.le_of_ble_eq_true rfl)
      replace N0 := Fr.snoc X11 N0 big4
      clear f9
      replace O0 := own_oldWr O0 W11 big4
      replace K0 := K0.wr W11 (Or.inr sz5)
      clear W11
      clear Ar10 q10 S10 M10 P10 G10 hin10
      refine own_go (fun _ k => XS.dup X11.here hx rfl (hb hby d18_38) rfl rfl (XS.iconst X11.here hx rfl (hb hby d18_39) (XS.bipush X11.here hx rfl (hb hby d18_40) k))) ?_
      obtain ⟨cl13, Ar13, q13, S13, M13, P13, G13⟩ := id f12
      have hin13 : ¬ ((2 : Int32) < 0 ∨ cl13.slots.size ≤ ((2 : Int32)).toNatClampNeg) := inb_of S13 ⟨by decide, by decide⟩
      obtain ⟨T14, h14, X14, e14, W14, st14⟩ := stC X11 hx hZ e11 Ar13 (j := (2 : Int32)) hin13 (g := (mkF m 42 #[iv p1, iv (p1 &&& (15 : Int32)), .unset] [(.int (97 : Int32)), (.int (2 : Int32)), (.ref b3), (.ref b3)])) rfl rfl (hb hby d18_42)
      refine own_go st14 ?_
      clear st14 X11 e11
      rw [show nar .char (97 : Int32) = (97 : Int32) from by decide] at W14
      have f15 : Arv Z h14 b3 k3 .char (7 : Int32) [(.int (115 : Int32)), (.int (104 : Int32)), (.int (97 : Int32)), (.int (0 : Int32)), (.int (0 : Int32)), (.int (0 : Int32)), (.int (0 : Int32))] (.int (0 : Int32)) := Arv.set Ar13 q13 S13 M13 P13 G13 (by have q := fits_nar_char (97 : Int32); rw [show nar .char (97 : Int32) = (97 : Int32) from by decide] at q; exact q) W14 2 rfl (Nat.le_of_ble_eq_true rfl)
      replace N0 := Fr.snoc X14 N0 big4
      clear f12
      replace O0 := own_oldWr O0 W14 big4
      replace K0 := K0.wr W14 (Or.inr sz5)
      clear W14
      clear Ar13 q13 S13 M13 P13 G13 hin13
      refine own_go (fun _ k => XS.dup X14.here hx rfl (hb hby d18_43) rfl rfl (XS.iconst X14.here hx rfl (hb hby d18_44) (XS.bipush X14.here hx rfl (hb hby d18_45) k))) ?_
      obtain ⟨cl16, Ar16, q16, S16, M16, P16, G16⟩ := id f15
      have hin16 : ¬ ((3 : Int32) < 0 ∨ cl16.slots.size ≤ ((3 : Int32)).toNatClampNeg) := inb_of S16 ⟨by decide, by decide⟩
      obtain ⟨T17, h17, X17, e17, W17, st17⟩ := stC X14 hx hZ e14 Ar16 (j := (3 : Int32)) hin16 (g := (mkF m 47 #[iv p1, iv (p1 &&& (15 : Int32)), .unset] [(.int (114 : Int32)), (.int (3 : Int32)), (.ref b3), (.ref b3)])) rfl rfl (hb hby d18_47)
      refine own_go st17 ?_
      clear st17 X14 e14
      rw [show nar .char (114 : Int32) = (114 : Int32) from by decide] at W17
      have f18 : Arv Z h17 b3 k3 .char (7 : Int32) [(.int (115 : Int32)), (.int (104 : Int32)), (.int (97 : Int32)), (.int (114 : Int32)), (.int (0 : Int32)), (.int (0 : Int32)), (.int (0 : Int32))] (.int (0 : Int32)) := Arv.set Ar16 q16 S16 M16 P16 G16 (by have q := fits_nar_char (114 : Int32); rw [show nar .char (114 : Int32) = (114 : Int32) from by decide] at q; exact q) W17 3 rfl (Nat.le_of_ble_eq_true rfl)
      replace N0 := Fr.snoc X17 N0 big4
      clear f15
      replace O0 := own_oldWr O0 W17 big4
      replace K0 := K0.wr W17 (Or.inr sz5)
      clear W17
      clear Ar16 q16 S16 M16 P16 G16 hin16
      refine own_go (fun _ k => XS.dup X17.here hx rfl (hb hby d18_48) rfl rfl (XS.iconst X17.here hx rfl (hb hby d18_49) (XS.bipush X17.here hx rfl (hb hby d18_50) k))) ?_
      obtain ⟨cl19, Ar19, q19, S19, M19, P19, G19⟩ := id f18
      have hin19 : ¬ ((4 : Int32) < 0 ∨ cl19.slots.size ≤ ((4 : Int32)).toNatClampNeg) := inb_of S19 ⟨by decide, by decide⟩
      obtain ⟨T20, h20, X20, e20, W20, st20⟩ := stC X17 hx hZ e17 Ar19 (j := (4 : Int32)) hin19 (g := (mkF m 52 #[iv p1, iv (p1 &&& (15 : Int32)), .unset] [(.int (101 : Int32)), (.int (4 : Int32)), (.ref b3), (.ref b3)])) rfl rfl (hb hby d18_52)
      refine own_go st20 ?_
      clear st20 X17 e17
      rw [show nar .char (101 : Int32) = (101 : Int32) from by decide] at W20
      have f21 : Arv Z h20 b3 k3 .char (7 : Int32) [(.int (115 : Int32)), (.int (104 : Int32)), (.int (97 : Int32)), (.int (114 : Int32)), (.int (101 : Int32)), (.int (0 : Int32)), (.int (0 : Int32))] (.int (0 : Int32)) := Arv.set Ar19 q19 S19 M19 P19 G19 (by have q := fits_nar_char (101 : Int32); rw [show nar .char (101 : Int32) = (101 : Int32) from by decide] at q; exact q) W20 4 rfl (Nat.le_of_ble_eq_true rfl)
      replace N0 := Fr.snoc X20 N0 big4
      clear f18
      replace O0 := own_oldWr O0 W20 big4
      replace K0 := K0.wr W20 (Or.inr sz5)
      clear W20
      clear Ar19 q19 S19 M19 P19 G19 hin19
      refine own_go (fun _ k => XS.dup X20.here hx rfl (hb hby d18_53) rfl rfl (XS.iconst X20.here hx rfl (hb hby d18_54) (XS.bipush X20.here hx rfl (hb hby d18_55) k))) ?_
      show own_Go p e below s _ _ _ (T20.setTop (mkF m 57 #[iv p1, iv (p1 &&& (15 : Int32)), .unset] [(.int (100 : Int32)), (.int (5 : Int32)), (.ref b3), (.ref b3)]))
      obtain ⟨cl22, Ar22, q22, S22, M22, P22, G22⟩ := id f21
      have hin22 : ¬ ((5 : Int32) < 0 ∨ cl22.slots.size ≤ ((5 : Int32)).toNatClampNeg) := inb_of S22 ⟨by decide, by decide⟩
      obtain ⟨T23, h23, X23, e23, W23, st23⟩ := stC X20 hx hZ e20 Ar22 (j := (5 : Int32)) hin22 (g := (mkF m 57 #[iv p1, iv (p1 &&& (15 : Int32)), .unset] [(.int (100 : Int32)), (.int (5 : Int32)), (.ref b3), (.ref b3)])) rfl rfl (hb hby d18_57)
      refine own_go st23 ?_
      clear st23 X20 e20
      rw [show nar .char (100 : Int32) = (100 : Int32) from by decide] at W23
      have f24 : Arv Z h23 b3 k3 .char (7 : Int32) [(.int (115 : Int32)), (.int (104 : Int32)), (.int (97 : Int32)), (.int (114 : Int32)), (.int (101 : Int32)), (.int (100 : Int32)), (.int (0 : Int32))] (.int (0 : Int32)) := Arv.set Ar22 q22 S22 M22 P22 G22 (by have q := fits_nar_char (100 : Int32); rw [show nar .char (100 : Int32) = (100 : Int32) from by decide] at q; exact q) W23 5 rfl (Nat.le_of_ble_eq_true rfl)
      replace N0 := Fr.snoc X23 N0 big4
      clear f21
      replace O0 := own_oldWr O0 W23 big4
      replace K0 := K0.wr W23 (Or.inr sz5)
      clear W23
      clear Ar22 q22 S22 M22 P22 G22 hin22
      refine own_go (fun _ k => XS.dup X23.here hx rfl (hb hby d18_58) rfl rfl (XS.bipush X23.here hx rfl (hb hby d18_59) (XS.bipush X23.here hx rfl (hb hby d18_61) k))) ?_
      obtain ⟨cl25, Ar25, q25, S25, M25, P25, G25⟩ := id f24
      have hin25 : ¬ ((6 : Int32) < 0 ∨ cl25.slots.size ≤ ((6 : Int32)).toNatClampNeg) := inb_of S25 ⟨by decide, by decide⟩
      obtain ⟨T26, h26, X26, e26, W26, st26⟩ := stC X23 hx hZ e23 Ar25 (j := (6 : Int32)) hin25 (g := (mkF m 63 #[iv p1, iv (p1 &&& (15 : Int32)), .unset] [(.int (45 : Int32)), (.int (6 : Int32)), (.ref b3), (.ref b3)])) rfl rfl (hb hby d18_63)
      refine own_go st26 ?_
      clear st26 X23 e23
      rw [show nar .char (45 : Int32) = (45 : Int32) from by decide] at W26
      have f27 : Arv Z h26 b3 k3 .char (7 : Int32) [(.int (115 : Int32)), (.int (104 : Int32)), (.int (97 : Int32)), (.int (114 : Int32)), (.int (101 : Int32)), (.int (100 : Int32)), (.int (45 : Int32))] (.int (0 : Int32)) := Arv.set Ar25 q25 S25 M25 P25 G25 (by have q := fits_nar_char (45 : Int32); rw [show nar .char (45 : Int32) = (45 : Int32) from by decide] at q; exact q) W26 6 rfl (Nat.le_of_ble_eq_true rfl)
      replace N0 := Fr.snoc X26 N0 big4
      clear f24
      replace O0 := own_oldWr O0 W26 big4
      replace K0 := K0.wr W26 (Or.inr sz5)
      clear W26
      clear Ar25 q25 S25 M25 P25 G25 hin25
      refine own_go (fun _ k => XS.astoreN X26.here hx rfl (hb hby d18_64) rfl rfl (l' := #[iv p1, iv (p1 &&& (15 : Int32)), rv b3]) rfl (XS.iloadN X26.here hx rfl (hb hby d18_65) rfl (XS.bipush X26.here hx rfl (hb hby d18_66) (XS.iushr X26.here hx rfl (hb hby d18_68) rfl (XS.sipush X26.here hx rfl (hb hby d18_69) (XS.iand X26.here hx rfl (hb hby d18_72) rfl k)))))) ?_
      refine own_go (fun _ k => XS.i2c X26.here hx rfl (hb hby d18_73) rfl k) ?_
      show own_Go p e below s _ _ _ (T26.setTop (mkF m 74 #[iv p1, iv (p1 &&& (15 : Int32)), rv b3] [(.int ((((p1.toUInt32 >>> ((16 : Int32) &&& 31).toUInt32).toInt32) &&& (255 : Int32)).toUInt32.toUInt16.toUInt32.toInt32))]))
      rw [i2c_mask ((p1.toUInt32 >>> ((16 : Int32) &&& 31).toUInt32).toInt32)]
      refine own_go (fun _ k => XS.aloadN X26.here hx rfl (hb hby d18_74) rfl rfl (XS.iloadN X26.here hx rfl (hb hby d18_75) rfl k)) ?_
      show own_Go p e below s _ _ _ (T26.setTop (mkF m 76 #[iv p1, iv (p1 &&& (15 : Int32)), rv b3] [(.int (p1 &&& (15 : Int32))), (.ref b3), (.int (((p1.toUInt32 >>> ((16 : Int32) &&& 31).toUInt32).toInt32) &&& (255 : Int32)))]))
      rcases own_lt7 hc2 with hk | hk | hk | hk | hk | hk | hk
      · rw [hk]
        show own_Go p e below s _ _ _ (T26.setTop (mkF m 76 #[iv p1, iv (0 : Int32), rv b3] [(.int (0 : Int32)), (.ref b3), (.int (((p1.toUInt32 >>> ((16 : Int32) &&& 31).toUInt32).toInt32) &&& (255 : Int32)))]))
        show own_Go p e below s _ _ _ (T26.setTop (mkF m 76 #[iv p1, iv (0 : Int32), rv b3] [(.int (0 : Int32)), (.ref b3), (.int (((p1.toUInt32 >>> ((16 : Int32) &&& 31).toUInt32).toInt32) &&& (255 : Int32)))]))
        obtain ⟨cl28, Ar28, -, S28, -, P28, -⟩ := id f27
        have hin28 : ¬ ((0 : Int32) < 0 ∨ cl28.slots.size ≤ ((0 : Int32)).toNatClampNeg) := inb_of S28 ⟨by decide, by decide⟩
        refine own_go (X26.caload hx (j := (0 : Int32)) (v := (.int (115 : Int32))) (by rw [e26]; exact Ar28.1) (State.isArrayOf_alike hZ.alike Ar28.2.1) Ar28.2.2 hin28 (P28.at hin28 rfl) (g := (mkF m 76 #[iv p1, iv (0 : Int32), rv b3] [(.int (0 : Int32)), (.ref b3), (.int (((p1.toUInt32 >>> ((16 : Int32) &&& 31).toUInt32).toInt32) &&& (255 : Int32)))])) rfl rfl (hb hby d18_76)) ?_
        by_cases hc29 : (((p1.toUInt32 >>> ((16 : Int32) &&& 31).toUInt32).toInt32) &&& (255 : Int32)) = (115 : Int32)
        · refine own_go (fun _ k => XS.icmpNo X26.here hx rfl (hb hby d18_77) rfl (teq hc29).2 k) ?_
          show own_Go p e below s _ _ _ (T26.setTop (mkF m 80 #[iv p1, iv (0 : Int32), rv b3] []))
          refine own_go (fun _ k => XS.iconst X26.here hx rfl (hb hby d18_80) (XS.goto X26.here hx rfl (pc0 := 81) (pc' := 85) rfl (hb hby d18_81) (by decide) (by decide) k)) ?_
          show own_Go p e below s _ _ _ (T26.setTop (mkF m 85 #[iv p1, iv (0 : Int32), rv b3] [(.int (1 : Int32))]))
          refine own_retN X26 hx hlk e26 (t := .boolean) hret (by simp) (hb hby d18_85) (by show _ ≤ 1; omega) (by show _ ≤ 7; omega) ?_
          exact Or.inl ⟨rfl, N0, ⟨hc1, own_KoT hk hc29⟩, K0⟩
        · refine own_go (fun _ k => XS.icmpYes X26.here hx rfl (pc0 := 77) (pc' := 84) rfl (hb hby d18_77) rfl (feq hc29).2 (by decide) (by decide) k) ?_
          show own_Go p e below s _ _ _ (T26.setTop (mkF m 84 #[iv p1, iv (0 : Int32), rv b3] []))
          refine own_go (fun _ k => XS.iconst X26.here hx rfl (hb hby d18_84) k) ?_
          show own_Go p e below s _ _ _ (T26.setTop (mkF m 85 #[iv p1, iv (0 : Int32), rv b3] [(.int (0 : Int32))]))
          refine own_retN X26 hx hlk e26 (t := .boolean) hret (by simp) (hb hby d18_85) (by show _ ≤ 1; omega) (by show _ ≤ 7; omega) ?_
          exact Or.inr (⟨rfl, N0, (fun h => own_KoF hc2 hk hc29 h.2), K0⟩)
      · rw [hk]
        show own_Go p e below s _ _ _ (T26.setTop (mkF m 76 #[iv p1, iv (1 : Int32), rv b3] [(.int (1 : Int32)), (.ref b3), (.int (((p1.toUInt32 >>> ((16 : Int32) &&& 31).toUInt32).toInt32) &&& (255 : Int32)))]))
        show own_Go p e below s _ _ _ (T26.setTop (mkF m 76 #[iv p1, iv (1 : Int32), rv b3] [(.int (1 : Int32)), (.ref b3), (.int (((p1.toUInt32 >>> ((16 : Int32) &&& 31).toUInt32).toInt32) &&& (255 : Int32)))]))
        obtain ⟨cl30, Ar30, -, S30, -, P30, -⟩ := id f27
        have hin30 : ¬ ((1 : Int32) < 0 ∨ cl30.slots.size ≤ ((1 : Int32)).toNatClampNeg) := inb_of S30 ⟨by decide, by decide⟩
        refine own_go (X26.caload hx (j := (1 : Int32)) (v := (.int (104 : Int32))) (by rw [e26]; exact Ar30.1) (State.isArrayOf_alike hZ.alike Ar30.2.1) Ar30.2.2 hin30 (P30.at hin30 rfl) (g := (mkF m 76 #[iv p1, iv (1 : Int32), rv b3] [(.int (1 : Int32)), (.ref b3), (.int (((p1.toUInt32 >>> ((16 : Int32) &&& 31).toUInt32).toInt32) &&& (255 : Int32)))])) rfl rfl (hb hby d18_76)) ?_
        by_cases hc31 : (((p1.toUInt32 >>> ((16 : Int32) &&& 31).toUInt32).toInt32) &&& (255 : Int32)) = (104 : Int32)
        · refine own_go (fun _ k => XS.icmpNo X26.here hx rfl (hb hby d18_77) rfl (teq hc31).2 k) ?_
          show own_Go p e below s _ _ _ (T26.setTop (mkF m 80 #[iv p1, iv (1 : Int32), rv b3] []))
          refine own_go (fun _ k => XS.iconst X26.here hx rfl (hb hby d18_80) (XS.goto X26.here hx rfl (pc0 := 81) (pc' := 85) rfl (hb hby d18_81) (by decide) (by decide) k)) ?_
          show own_Go p e below s _ _ _ (T26.setTop (mkF m 85 #[iv p1, iv (1 : Int32), rv b3] [(.int (1 : Int32))]))
          refine own_retN X26 hx hlk e26 (t := .boolean) hret (by simp) (hb hby d18_85) (by show _ ≤ 1; omega) (by show _ ≤ 7; omega) ?_
          exact Or.inl ⟨rfl, N0, ⟨hc1, own_KoT hk hc31⟩, K0⟩
        · refine own_go (fun _ k => XS.icmpYes X26.here hx rfl (pc0 := 77) (pc' := 84) rfl (hb hby d18_77) rfl (feq hc31).2 (by decide) (by decide) k) ?_
          show own_Go p e below s _ _ _ (T26.setTop (mkF m 84 #[iv p1, iv (1 : Int32), rv b3] []))
          refine own_go (fun _ k => XS.iconst X26.here hx rfl (hb hby d18_84) k) ?_
          show own_Go p e below s _ _ _ (T26.setTop (mkF m 85 #[iv p1, iv (1 : Int32), rv b3] [(.int (0 : Int32))]))
          refine own_retN X26 hx hlk e26 (t := .boolean) hret (by simp) (hb hby d18_85) (by show _ ≤ 1; omega) (by show _ ≤ 7; omega) ?_
          exact Or.inr (⟨rfl, N0, (fun h => own_KoF hc2 hk hc31 h.2), K0⟩)
      · rw [hk]
        show own_Go p e below s _ _ _ (T26.setTop (mkF m 76 #[iv p1, iv (2 : Int32), rv b3] [(.int (2 : Int32)), (.ref b3), (.int (((p1.toUInt32 >>> ((16 : Int32) &&& 31).toUInt32).toInt32) &&& (255 : Int32)))]))
        show own_Go p e below s _ _ _ (T26.setTop (mkF m 76 #[iv p1, iv (2 : Int32), rv b3] [(.int (2 : Int32)), (.ref b3), (.int (((p1.toUInt32 >>> ((16 : Int32) &&& 31).toUInt32).toInt32) &&& (255 : Int32)))]))
        obtain ⟨cl32, Ar32, -, S32, -, P32, -⟩ := id f27
        have hin32 : ¬ ((2 : Int32) < 0 ∨ cl32.slots.size ≤ ((2 : Int32)).toNatClampNeg) := inb_of S32 ⟨by decide, by decide⟩
        refine own_go (X26.caload hx (j := (2 : Int32)) (v := (.int (97 : Int32))) (by rw [e26]; exact Ar32.1) (State.isArrayOf_alike hZ.alike Ar32.2.1) Ar32.2.2 hin32 (P32.at hin32 rfl) (g := (mkF m 76 #[iv p1, iv (2 : Int32), rv b3] [(.int (2 : Int32)), (.ref b3), (.int (((p1.toUInt32 >>> ((16 : Int32) &&& 31).toUInt32).toInt32) &&& (255 : Int32)))])) rfl rfl (hb hby d18_76)) ?_
        by_cases hc33 : (((p1.toUInt32 >>> ((16 : Int32) &&& 31).toUInt32).toInt32) &&& (255 : Int32)) = (97 : Int32)
        · refine own_go (fun _ k => XS.icmpNo X26.here hx rfl (hb hby d18_77) rfl (teq hc33).2 k) ?_
          show own_Go p e below s _ _ _ (T26.setTop (mkF m 80 #[iv p1, iv (2 : Int32), rv b3] []))
          refine own_go (fun _ k => XS.iconst X26.here hx rfl (hb hby d18_80) (XS.goto X26.here hx rfl (pc0 := 81) (pc' := 85) rfl (hb hby d18_81) (by decide) (by decide) k)) ?_
          show own_Go p e below s _ _ _ (T26.setTop (mkF m 85 #[iv p1, iv (2 : Int32), rv b3] [(.int (1 : Int32))]))
          refine own_retN X26 hx hlk e26 (t := .boolean) hret (by simp) (hb hby d18_85) (by show _ ≤ 1; omega) (by show _ ≤ 7; omega) ?_
          exact Or.inl ⟨rfl, N0, ⟨hc1, own_KoT hk hc33⟩, K0⟩
        · refine own_go (fun _ k => XS.icmpYes X26.here hx rfl (pc0 := 77) (pc' := 84) rfl (hb hby d18_77) rfl (feq hc33).2 (by decide) (by decide) k) ?_
          show own_Go p e below s _ _ _ (T26.setTop (mkF m 84 #[iv p1, iv (2 : Int32), rv b3] []))
          refine own_go (fun _ k => XS.iconst X26.here hx rfl (hb hby d18_84) k) ?_
          show own_Go p e below s _ _ _ (T26.setTop (mkF m 85 #[iv p1, iv (2 : Int32), rv b3] [(.int (0 : Int32))]))
          refine own_retN X26 hx hlk e26 (t := .boolean) hret (by simp) (hb hby d18_85) (by show _ ≤ 1; omega) (by show _ ≤ 7; omega) ?_
          exact Or.inr (⟨rfl, N0, (fun h => own_KoF hc2 hk hc33 h.2), K0⟩)
      · rw [hk]
        show own_Go p e below s _ _ _ (T26.setTop (mkF m 76 #[iv p1, iv (3 : Int32), rv b3] [(.int (3 : Int32)), (.ref b3), (.int (((p1.toUInt32 >>> ((16 : Int32) &&& 31).toUInt32).toInt32) &&& (255 : Int32)))]))
        show own_Go p e below s _ _ _ (T26.setTop (mkF m 76 #[iv p1, iv (3 : Int32), rv b3] [(.int (3 : Int32)), (.ref b3), (.int (((p1.toUInt32 >>> ((16 : Int32) &&& 31).toUInt32).toInt32) &&& (255 : Int32)))]))
        obtain ⟨cl34, Ar34, -, S34, -, P34, -⟩ := id f27
        have hin34 : ¬ ((3 : Int32) < 0 ∨ cl34.slots.size ≤ ((3 : Int32)).toNatClampNeg) := inb_of S34 ⟨by decide, by decide⟩
        refine own_go (X26.caload hx (j := (3 : Int32)) (v := (.int (114 : Int32))) (by rw [e26]; exact Ar34.1) (State.isArrayOf_alike hZ.alike Ar34.2.1) Ar34.2.2 hin34 (P34.at hin34 rfl) (g := (mkF m 76 #[iv p1, iv (3 : Int32), rv b3] [(.int (3 : Int32)), (.ref b3), (.int (((p1.toUInt32 >>> ((16 : Int32) &&& 31).toUInt32).toInt32) &&& (255 : Int32)))])) rfl rfl (hb hby d18_76)) ?_
        by_cases hc35 : (((p1.toUInt32 >>> ((16 : Int32) &&& 31).toUInt32).toInt32) &&& (255 : Int32)) = (114 : Int32)
        · refine own_go (fun _ k => XS.icmpNo X26.here hx rfl (hb hby d18_77) rfl (teq hc35).2 k) ?_
          show own_Go p e below s _ _ _ (T26.setTop (mkF m 80 #[iv p1, iv (3 : Int32), rv b3] []))
          refine own_go (fun _ k => XS.iconst X26.here hx rfl (hb hby d18_80) (XS.goto X26.here hx rfl (pc0 := 81) (pc' := 85) rfl (hb hby d18_81) (by decide) (by decide) k)) ?_
          show own_Go p e below s _ _ _ (T26.setTop (mkF m 85 #[iv p1, iv (3 : Int32), rv b3] [(.int (1 : Int32))]))
          refine own_retN X26 hx hlk e26 (t := .boolean) hret (by simp) (hb hby d18_85) (by show _ ≤ 1; omega) (by show _ ≤ 7; omega) ?_
          exact Or.inl ⟨rfl, N0, ⟨hc1, own_KoT hk hc35⟩, K0⟩
        · refine own_go (fun _ k => XS.icmpYes X26.here hx rfl (pc0 := 77) (pc' := 84) rfl (hb hby d18_77) rfl (feq hc35).2 (by decide) (by decide) k) ?_
          show own_Go p e below s _ _ _ (T26.setTop (mkF m 84 #[iv p1, iv (3 : Int32), rv b3] []))
          refine own_go (fun _ k => XS.iconst X26.here hx rfl (hb hby d18_84) k) ?_
          show own_Go p e below s _ _ _ (T26.setTop (mkF m 85 #[iv p1, iv (3 : Int32), rv b3] [(.int (0 : Int32))]))
          refine own_retN X26 hx hlk e26 (t := .boolean) hret (by simp) (hb hby d18_85) (by show _ ≤ 1; omega) (by show _ ≤ 7; omega) ?_
          exact Or.inr (⟨rfl, N0, (fun h => own_KoF hc2 hk hc35 h.2), K0⟩)
      · rw [hk]
        show own_Go p e below s _ _ _ (T26.setTop (mkF m 76 #[iv p1, iv (4 : Int32), rv b3] [(.int (4 : Int32)), (.ref b3), (.int (((p1.toUInt32 >>> ((16 : Int32) &&& 31).toUInt32).toInt32) &&& (255 : Int32)))]))
        show own_Go p e below s _ _ _ (T26.setTop (mkF m 76 #[iv p1, iv (4 : Int32), rv b3] [(.int (4 : Int32)), (.ref b3), (.int (((p1.toUInt32 >>> ((16 : Int32) &&& 31).toUInt32).toInt32) &&& (255 : Int32)))]))
        obtain ⟨cl36, Ar36, -, S36, -, P36, -⟩ := id f27
        have hin36 : ¬ ((4 : Int32) < 0 ∨ cl36.slots.size ≤ ((4 : Int32)).toNatClampNeg) := inb_of S36 ⟨by decide, by decide⟩
        refine own_go (X26.caload hx (j := (4 : Int32)) (v := (.int (101 : Int32))) (by rw [e26]; exact Ar36.1) (State.isArrayOf_alike hZ.alike Ar36.2.1) Ar36.2.2 hin36 (P36.at hin36 rfl) (g := (mkF m 76 #[iv p1, iv (4 : Int32), rv b3] [(.int (4 : Int32)), (.ref b3), (.int (((p1.toUInt32 >>> ((16 : Int32) &&& 31).toUInt32).toInt32) &&& (255 : Int32)))])) rfl rfl (hb hby d18_76)) ?_
        by_cases hc37 : (((p1.toUInt32 >>> ((16 : Int32) &&& 31).toUInt32).toInt32) &&& (255 : Int32)) = (101 : Int32)
        · refine own_go (fun _ k => XS.icmpNo X26.here hx rfl (hb hby d18_77) rfl (teq hc37).2 k) ?_
          show own_Go p e below s _ _ _ (T26.setTop (mkF m 80 #[iv p1, iv (4 : Int32), rv b3] []))
          refine own_go (fun _ k => XS.iconst X26.here hx rfl (hb hby d18_80) (XS.goto X26.here hx rfl (pc0 := 81) (pc' := 85) rfl (hb hby d18_81) (by decide) (by decide) k)) ?_
          show own_Go p e below s _ _ _ (T26.setTop (mkF m 85 #[iv p1, iv (4 : Int32), rv b3] [(.int (1 : Int32))]))
          refine own_retN X26 hx hlk e26 (t := .boolean) hret (by simp) (hb hby d18_85) (by show _ ≤ 1; omega) (by show _ ≤ 7; omega) ?_
          exact Or.inl ⟨rfl, N0, ⟨hc1, own_KoT hk hc37⟩, K0⟩
        · refine own_go (fun _ k => XS.icmpYes X26.here hx rfl (pc0 := 77) (pc' := 84) rfl (hb hby d18_77) rfl (feq hc37).2 (by decide) (by decide) k) ?_
          show own_Go p e below s _ _ _ (T26.setTop (mkF m 84 #[iv p1, iv (4 : Int32), rv b3] []))
          refine own_go (fun _ k => XS.iconst X26.here hx rfl (hb hby d18_84) k) ?_
          show own_Go p e below s _ _ _ (T26.setTop (mkF m 85 #[iv p1, iv (4 : Int32), rv b3] [(.int (0 : Int32))]))
          refine own_retN X26 hx hlk e26 (t := .boolean) hret (by simp) (hb hby d18_85) (by show _ ≤ 1; omega) (by show _ ≤ 7; omega) ?_
          exact Or.inr (⟨rfl, N0, (fun h => own_KoF hc2 hk hc37 h.2), K0⟩)
      · rw [hk]
        show own_Go p e below s _ _ _ (T26.setTop (mkF m 76 #[iv p1, iv (5 : Int32), rv b3] [(.int (5 : Int32)), (.ref b3), (.int (((p1.toUInt32 >>> ((16 : Int32) &&& 31).toUInt32).toInt32) &&& (255 : Int32)))]))
        show own_Go p e below s _ _ _ (T26.setTop (mkF m 76 #[iv p1, iv (5 : Int32), rv b3] [(.int (5 : Int32)), (.ref b3), (.int (((p1.toUInt32 >>> ((16 : Int32) &&& 31).toUInt32).toInt32) &&& (255 : Int32)))]))
        obtain ⟨cl38, Ar38, -, S38, -, P38, -⟩ := id f27
        have hin38 : ¬ ((5 : Int32) < 0 ∨ cl38.slots.size ≤ ((5 : Int32)).toNatClampNeg) := inb_of S38 ⟨by decide, by decide⟩
        refine own_go (X26.caload hx (j := (5 : Int32)) (v := (.int (100 : Int32))) (by rw [e26]; exact Ar38.1) (State.isArrayOf_alike hZ.alike Ar38.2.1) Ar38.2.2 hin38 (P38.at hin38 rfl) (g := (mkF m 76 #[iv p1, iv (5 : Int32), rv b3] [(.int (5 : Int32)), (.ref b3), (.int (((p1.toUInt32 >>> ((16 : Int32) &&& 31).toUInt32).toInt32) &&& (255 : Int32)))])) rfl rfl (hb hby d18_76)) ?_
        by_cases hc39 : (((p1.toUInt32 >>> ((16 : Int32) &&& 31).toUInt32).toInt32) &&& (255 : Int32)) = (100 : Int32)
        · refine own_go (fun _ k => XS.icmpNo X26.here hx rfl (hb hby d18_77) rfl (teq hc39).2 k) ?_
          show own_Go p e below s _ _ _ (T26.setTop (mkF m 80 #[iv p1, iv (5 : Int32), rv b3] []))
          refine own_go (fun _ k => XS.iconst X26.here hx rfl (hb hby d18_80) (XS.goto X26.here hx rfl (pc0 := 81) (pc' := 85) rfl (hb hby d18_81) (by decide) (by decide) k)) ?_
          show own_Go p e below s _ _ _ (T26.setTop (mkF m 85 #[iv p1, iv (5 : Int32), rv b3] [(.int (1 : Int32))]))
          refine own_retN X26 hx hlk e26 (t := .boolean) hret (by simp) (hb hby d18_85) (by show _ ≤ 1; omega) (by show _ ≤ 7; omega) ?_
          exact Or.inl ⟨rfl, N0, ⟨hc1, own_KoT hk hc39⟩, K0⟩
        · refine own_go (fun _ k => XS.icmpYes X26.here hx rfl (pc0 := 77) (pc' := 84) rfl (hb hby d18_77) rfl (feq hc39).2 (by decide) (by decide) k) ?_
          show own_Go p e below s _ _ _ (T26.setTop (mkF m 84 #[iv p1, iv (5 : Int32), rv b3] []))
          refine own_go (fun _ k => XS.iconst X26.here hx rfl (hb hby d18_84) k) ?_
          show own_Go p e below s _ _ _ (T26.setTop (mkF m 85 #[iv p1, iv (5 : Int32), rv b3] [(.int (0 : Int32))]))
          refine own_retN X26 hx hlk e26 (t := .boolean) hret (by simp) (hb hby d18_85) (by show _ ≤ 1; omega) (by show _ ≤ 7; omega) ?_
          exact Or.inr (⟨rfl, N0, (fun h => own_KoF hc2 hk hc39 h.2), K0⟩)
      · rw [hk]
        show own_Go p e below s _ _ _ (T26.setTop (mkF m 76 #[iv p1, iv (6 : Int32), rv b3] [(.int (6 : Int32)), (.ref b3), (.int (((p1.toUInt32 >>> ((16 : Int32) &&& 31).toUInt32).toInt32) &&& (255 : Int32)))]))
        show own_Go p e below s _ _ _ (T26.setTop (mkF m 76 #[iv p1, iv (6 : Int32), rv b3] [(.int (6 : Int32)), (.ref b3), (.int (((p1.toUInt32 >>> ((16 : Int32) &&& 31).toUInt32).toInt32) &&& (255 : Int32)))]))
        obtain ⟨cl40, Ar40, -, S40, -, P40, -⟩ := id f27
        have hin40 : ¬ ((6 : Int32) < 0 ∨ cl40.slots.size ≤ ((6 : Int32)).toNatClampNeg) := inb_of S40 ⟨by decide, by decide⟩
        refine own_go (X26.caload hx (j := (6 : Int32)) (v := (.int (45 : Int32))) (by rw [e26]; exact Ar40.1) (State.isArrayOf_alike hZ.alike Ar40.2.1) Ar40.2.2 hin40 (P40.at hin40 rfl) (g := (mkF m 76 #[iv p1, iv (6 : Int32), rv b3] [(.int (6 : Int32)), (.ref b3), (.int (((p1.toUInt32 >>> ((16 : Int32) &&& 31).toUInt32).toInt32) &&& (255 : Int32)))])) rfl rfl (hb hby d18_76)) ?_
        by_cases hc41 : (((p1.toUInt32 >>> ((16 : Int32) &&& 31).toUInt32).toInt32) &&& (255 : Int32)) = (45 : Int32)
        · refine own_go (fun _ k => XS.icmpNo X26.here hx rfl (hb hby d18_77) rfl (teq hc41).2 k) ?_
          show own_Go p e below s _ _ _ (T26.setTop (mkF m 80 #[iv p1, iv (6 : Int32), rv b3] []))
          refine own_go (fun _ k => XS.iconst X26.here hx rfl (hb hby d18_80) (XS.goto X26.here hx rfl (pc0 := 81) (pc' := 85) rfl (hb hby d18_81) (by decide) (by decide) k)) ?_
          show own_Go p e below s _ _ _ (T26.setTop (mkF m 85 #[iv p1, iv (6 : Int32), rv b3] [(.int (1 : Int32))]))
          refine own_retN X26 hx hlk e26 (t := .boolean) hret (by simp) (hb hby d18_85) (by show _ ≤ 1; omega) (by show _ ≤ 7; omega) ?_
          exact Or.inl ⟨rfl, N0, ⟨hc1, own_KoT hk hc41⟩, K0⟩
        · refine own_go (fun _ k => XS.icmpYes X26.here hx rfl (pc0 := 77) (pc' := 84) rfl (hb hby d18_77) rfl (feq hc41).2 (by decide) (by decide) k) ?_
          show own_Go p e below s _ _ _ (T26.setTop (mkF m 84 #[iv p1, iv (6 : Int32), rv b3] []))
          refine own_go (fun _ k => XS.iconst X26.here hx rfl (hb hby d18_84) k) ?_
          show own_Go p e below s _ _ _ (T26.setTop (mkF m 85 #[iv p1, iv (6 : Int32), rv b3] [(.int (0 : Int32))]))
          refine own_retN X26 hx hlk e26 (t := .boolean) hret (by simp) (hb hby d18_85) (by show _ ≤ 1; omega) (by show _ ≤ 7; omega) ?_
          exact Or.inr (⟨rfl, N0, (fun h => own_KoF hc2 hk hc41 h.2), K0⟩)
    · refine own_go (fun _ k => XS.icmpNo X0.here hx rfl (hb hby d18_19) rfl (flt hc2).1 k) ?_
      show own_Go p e below s _ _ _ (T.setTop (mkF m 22 #[iv p1, iv (p1 &&& (15 : Int32)), .unset] []))
      refine own_go (fun _ k => XS.iconst X0.here hx rfl (hb hby d18_22) k) ?_
      show own_Go p e below s _ _ _ (T.setTop (mkF m 23 #[iv p1, iv (p1 &&& (15 : Int32)), .unset] [(.int (1 : Int32))]))
      refine own_retN X0 hx hlk e0 (t := .boolean) hret (by simp) (hb hby d18_23) (by show _ ≤ 1; omega) (by show _ ≤ 7; omega) ?_
      exact Or.inl ⟨rfl, N0, ⟨hc1, fun h => absurd h hc2⟩, K0⟩
theorem d1_0 : decode method_2_code 0 = .ok (.bipush 8, 2) := by decide +kernel
theorem d1_2 : decode method_2_code 2 = .ok (.newarray .char, 2) := by decide +kernel
theorem d1_4 : decode method_2_code 4 = .ok (.dup, 1) := by decide +kernel
theorem d1_5 : decode method_2_code 5 = .ok (.iconst 0, 1) := by decide +kernel
theorem d1_6 : decode method_2_code 6 = .ok (.bipush 115, 2) := by decide +kernel
theorem d1_8 : decode method_2_code 8 = .ok (.castore, 1) := by decide +kernel
theorem d1_9 : decode method_2_code 9 = .ok (.dup, 1) := by decide +kernel
theorem d1_10 : decode method_2_code 10 = .ok (.iconst 1, 1) := by decide +kernel
theorem d1_11 : decode method_2_code 11 = .ok (.bipush 104, 2) := by decide +kernel
theorem d1_13 : decode method_2_code 13 = .ok (.castore, 1) := by decide +kernel
theorem d1_14 : decode method_2_code 14 = .ok (.dup, 1) := by decide +kernel
theorem d1_15 : decode method_2_code 15 = .ok (.iconst 2, 1) := by decide +kernel
theorem d1_16 : decode method_2_code 16 = .ok (.bipush 97, 2) := by decide +kernel
theorem d1_18 : decode method_2_code 18 = .ok (.castore, 1) := by decide +kernel
theorem d1_19 : decode method_2_code 19 = .ok (.dup, 1) := by decide +kernel
theorem d1_20 : decode method_2_code 20 = .ok (.iconst 3, 1) := by decide +kernel
theorem d1_21 : decode method_2_code 21 = .ok (.bipush 114, 2) := by decide +kernel
theorem d1_23 : decode method_2_code 23 = .ok (.castore, 1) := by decide +kernel
theorem d1_24 : decode method_2_code 24 = .ok (.dup, 1) := by decide +kernel
theorem d1_25 : decode method_2_code 25 = .ok (.iconst 4, 1) := by decide +kernel
theorem d1_26 : decode method_2_code 26 = .ok (.bipush 101, 2) := by decide +kernel
theorem d1_28 : decode method_2_code 28 = .ok (.castore, 1) := by decide +kernel
theorem d1_29 : decode method_2_code 29 = .ok (.dup, 1) := by decide +kernel
theorem d1_30 : decode method_2_code 30 = .ok (.iconst 5, 1) := by decide +kernel
theorem d1_31 : decode method_2_code 31 = .ok (.bipush 100, 2) := by decide +kernel
theorem d1_33 : decode method_2_code 33 = .ok (.castore, 1) := by decide +kernel
theorem d1_34 : decode method_2_code 34 = .ok (.dup, 1) := by decide +kernel
theorem d1_35 : decode method_2_code 35 = .ok (.bipush 6, 2) := by decide +kernel
theorem d1_37 : decode method_2_code 37 = .ok (.bipush 45, 2) := by decide +kernel
theorem d1_39 : decode method_2_code 39 = .ok (.castore, 1) := by decide +kernel
theorem d1_40 : decode method_2_code 40 = .ok (.dup, 1) := by decide +kernel
theorem d1_41 : decode method_2_code 41 = .ok (.bipush 7, 2) := by decide +kernel
theorem d1_43 : decode method_2_code 43 = .ok (.iload_n 0, 1) := by decide +kernel
theorem d1_44 : decode method_2_code 44 = .ok (.bipush 8, 2) := by decide +kernel
theorem d1_46 : decode method_2_code 46 = .ok (.iushr, 1) := by decide +kernel
theorem d1_47 : decode method_2_code 47 = .ok (.sipush 255, 3) := by decide +kernel
theorem d1_50 : decode method_2_code 50 = .ok (.iand, 1) := by decide +kernel
theorem d1_51 : decode method_2_code 51 = .ok (.i2c, 1) := by decide +kernel
theorem d1_52 : decode method_2_code 52 = .ok (.castore, 1) := by decide +kernel
theorem d1_53 : decode method_2_code 53 = .ok (.astore_n 1, 1) := by decide +kernel
theorem d1_54 : decode method_2_code 54 = .ok (.iload_n 0, 1) := by decide +kernel
theorem d1_55 : decode method_2_code 55 = .ok (.bipush 15, 2) := by decide +kernel
theorem d1_57 : decode method_2_code 57 = .ok (.iand, 1) := by decide +kernel
theorem d1_58 : decode method_2_code 58 = .ok (.istore_n 2, 1) := by decide +kernel
theorem d1_59 : decode method_2_code 59 = .ok (.iload_n 2, 1) := by decide +kernel
theorem d1_60 : decode method_2_code 60 = .ok (.bipush 7, 2) := by decide +kernel
theorem d1_62 : decode method_2_code 62 = .ok (.if_icmp .ge 15, 3) := by decide +kernel
theorem d1_65 : decode method_2_code 65 = .ok (.aload_n 1, 1) := by decide +kernel
theorem d1_66 : decode method_2_code 66 = .ok (.iload_n 2, 1) := by decide +kernel
theorem d1_67 : decode method_2_code 67 = .ok (.iload_n 0, 1) := by decide +kernel
theorem d1_68 : decode method_2_code 68 = .ok (.bipush 16, 2) := by decide +kernel
theorem d1_70 : decode method_2_code 70 = .ok (.iushr, 1) := by decide +kernel
theorem d1_71 : decode method_2_code 71 = .ok (.sipush 255, 3) := by decide +kernel
theorem d1_74 : decode method_2_code 74 = .ok (.iand, 1) := by decide +kernel
theorem d1_75 : decode method_2_code 75 = .ok (.i2c, 1) := by decide +kernel
theorem d1_76 : decode method_2_code 76 = .ok (.castore, 1) := by decide +kernel
theorem d1_77 : decode method_2_code 77 = .ok (.iload_n 0, 1) := by decide +kernel
theorem d1_78 : decode method_2_code 78 = .ok (.bipush 24, 2) := by decide +kernel
theorem d1_80 : decode method_2_code 80 = .ok (.iushr, 1) := by decide +kernel
theorem d1_81 : decode method_2_code 81 = .ok (.iconst 3, 1) := by decide +kernel
theorem d1_82 : decode method_2_code 82 = .ok (.iand, 1) := by decide +kernel
theorem d1_83 : decode method_2_code 83 = .ok (.ifCond .ne 53, 3) := by decide +kernel
theorem d1_86 : decode method_2_code 86 = .ok (.bipush 6, 2) := by decide +kernel
theorem d1_88 : decode method_2_code 88 = .ok (.newarray .char, 2) := by decide +kernel
theorem d1_90 : decode method_2_code 90 = .ok (.dup, 1) := by decide +kernel
theorem d1_91 : decode method_2_code 91 = .ok (.iconst 0, 1) := by decide +kernel
theorem d1_92 : decode method_2_code 92 = .ok (.aload_n 1, 1) := by decide +kernel
theorem d1_93 : decode method_2_code 93 = .ok (.iconst 0, 1) := by decide +kernel
theorem d1_94 : decode method_2_code 94 = .ok (.caload, 1) := by decide +kernel
theorem d1_95 : decode method_2_code 95 = .ok (.castore, 1) := by decide +kernel
theorem d1_96 : decode method_2_code 96 = .ok (.dup, 1) := by decide +kernel
theorem d1_97 : decode method_2_code 97 = .ok (.iconst 1, 1) := by decide +kernel
theorem d1_98 : decode method_2_code 98 = .ok (.aload_n 1, 1) := by decide +kernel
theorem d1_99 : decode method_2_code 99 = .ok (.iconst 1, 1) := by decide +kernel
theorem d1_100 : decode method_2_code 100 = .ok (.caload, 1) := by decide +kernel
theorem d1_101 : decode method_2_code 101 = .ok (.castore, 1) := by decide +kernel
theorem d1_102 : decode method_2_code 102 = .ok (.dup, 1) := by decide +kernel
theorem d1_103 : decode method_2_code 103 = .ok (.iconst 2, 1) := by decide +kernel
theorem d1_104 : decode method_2_code 104 = .ok (.aload_n 1, 1) := by decide +kernel
theorem d1_105 : decode method_2_code 105 = .ok (.iconst 2, 1) := by decide +kernel
theorem d1_106 : decode method_2_code 106 = .ok (.caload, 1) := by decide +kernel
theorem d1_107 : decode method_2_code 107 = .ok (.castore, 1) := by decide +kernel
theorem d1_108 : decode method_2_code 108 = .ok (.dup, 1) := by decide +kernel
theorem d1_109 : decode method_2_code 109 = .ok (.iconst 3, 1) := by decide +kernel
theorem d1_110 : decode method_2_code 110 = .ok (.aload_n 1, 1) := by decide +kernel
theorem d1_111 : decode method_2_code 111 = .ok (.iconst 3, 1) := by decide +kernel
theorem d1_112 : decode method_2_code 112 = .ok (.caload, 1) := by decide +kernel
theorem d1_113 : decode method_2_code 113 = .ok (.castore, 1) := by decide +kernel
theorem d1_114 : decode method_2_code 114 = .ok (.dup, 1) := by decide +kernel
theorem d1_115 : decode method_2_code 115 = .ok (.iconst 4, 1) := by decide +kernel
theorem d1_116 : decode method_2_code 116 = .ok (.aload_n 1, 1) := by decide +kernel
theorem d1_117 : decode method_2_code 117 = .ok (.iconst 4, 1) := by decide +kernel
theorem d1_118 : decode method_2_code 118 = .ok (.caload, 1) := by decide +kernel
theorem d1_119 : decode method_2_code 119 = .ok (.castore, 1) := by decide +kernel
theorem d1_120 : decode method_2_code 120 = .ok (.dup, 1) := by decide +kernel
theorem d1_121 : decode method_2_code 121 = .ok (.iconst 5, 1) := by decide +kernel
theorem d1_122 : decode method_2_code 122 = .ok (.aload_n 1, 1) := by decide +kernel
theorem d1_123 : decode method_2_code 123 = .ok (.iconst 5, 1) := by decide +kernel
theorem d1_124 : decode method_2_code 124 = .ok (.caload, 1) := by decide +kernel
theorem d1_125 : decode method_2_code 125 = .ok (.castore, 1) := by decide +kernel
theorem d1_126 : decode method_2_code 126 = .ok (.astore_n 3, 1) := by decide +kernel
theorem d1_127 : decode method_2_code 127 = .ok (.new 7, 3) := by decide +kernel
theorem d1_130 : decode method_2_code 130 = .ok (.dup, 1) := by decide +kernel
theorem d1_131 : decode method_2_code 131 = .ok (.aload_n 3, 1) := by decide +kernel
theorem d1_132 : decode method_2_code 132 = .ok (.invokespecial 9, 3) := by decide +kernel
theorem d1_135 : decode method_2_code 135 = .ok (.areturn, 1) := by decide +kernel
theorem d1_136 : decode method_2_code 136 = .ok (.new 7, 3) := by decide +kernel
theorem d1_139 : decode method_2_code 139 = .ok (.dup, 1) := by decide +kernel
theorem d1_140 : decode method_2_code 140 = .ok (.aload_n 1, 1) := by decide +kernel
theorem d1_141 : decode method_2_code 141 = .ok (.invokespecial 9, 3) := by decide +kernel
theorem d1_144 : decode method_2_code 144 = .ok (.areturn, 1) := by decide +kernel

def Q_node (Z : State) (zc : Int32) (wd : Addr) (kd : ClassId) (wx : Addr) (wy : Addr) (wsp : Addr) (wspv : Addr) (wspk : ClassId) (p1 : Int32) (h0 : Heap) (v : Option Value) (h : Heap) (L : List Loc) : Prop := (∃ b : Addr, v = some (.ref b) ∧ Fr Z.heap.size L ∧ Keep h0 h [] ∧ h0.size ≤ b ∧ Exa Z h b "java/lang/String" ∧ own_NS Z h b (own_Sp p1))
set_option maxRecDepth 65536 in
set_option maxHeartbeats 40000000 in
theorem sg_nd77 {l : Launch} {Z : State} {a0 : Array Value} (hw : own_W Z a0) {zc : Int32} {wd : Addr} {kd : ClassId} {wx : Addr} {wy : Addr} {wsp : Addr} {wspv : Addr} {wspk : ClassId} (hO : own_Olds Z zc wd kd wx wy wsp wspv wspk) {p : Program} {e : Env} {s : State} {m : MethodId} {args : Array Value} {below : List Frame} {meth : Method} {c : Code} {T : State} {locs : List Loc} {cells slots : Nat} (p1 : Int32) (ar : Addr) (ka : ClassId) (yk : Slot) (va0 : Int32) (va1 : Int32) (va2 : Int32) (va3 : Int32) (va4 : Int32) (va5 : Int32) (va6 : Int32) (va7 : Int32) (h0 hs1 : Heap)
    (X0 : Stand p l e ({ frames := 4, cells := 4, slots := 26, locals := 66 } : Room) s m args below meth c T locs cells slots) (hx : p.tables.exec = Jvm.exec) (hby : c.code = method_2_code) (hml : c.maxLocals = 4) (hret : meth.sig.returnType = some (.object "java/lang/String")) (hlk : meth.locks = false) (hZ : Z.Warmed39 s.vm) (hown : s.vm.findClass "com/example/padlock/padlock/lock/AccessAnnouncedPinLaw" = some m.cls) (hnm : meth.name = "node") (e0 : T.heap = hs1) (N0 : Fr Z.heap.size locs) (O0 : Ext Z.heap hs1) (K0 : Keep h0 hs1 []) (fp0 : Arv Z hs1 ar ka .char (8 : Int32) [(.int va0), (.int va1), (.int va2), (.int va3), (.int va4), (.int va5), (.int va6), (.int va7)] (.int (0 : Int32))) (big_ar : Z.heap.size ≤ ar) (sz_ar : h0.size ≤ ar) (hc8_0 : own_C8 va0) (hc8_1 : own_C8 va1) (hc8_2 : own_C8 va2) (hc8_3 : own_C8 va3) (hc8_4 : own_C8 va4) (hc8_5 : own_C8 va5) (hc8_6 : own_C8 va6) (hc8_7 : own_C8 va7) (hC7 : own_C7 p1 va0 va1 va2 va3 va4 va5 va6) (hcells : cells ≤ 1) (hslots : slots ≤ 8) :
    own_Go p e below s (Q_node Z zc wd kd wx wy wsp wspv wspk p1 h0) ({ frames := 4, cells := 4, slots := 26, locals := 66 } : Room).cells ({ frames := 4, cells := 4, slots := 26, locals := 66 } : Room).slots (T.setTop (mkF m 77 #[iv p1, rv ar, yk, .unset] [])) := by
  obtain ⟨oCS, oCz, oDE, oDV, oEx, oSh, oE1, oE2, oPF, oSPE, oSPC, oSPF, oSPV, oNe⟩ := id hO
  have K1 := Keep.refl hs1 [ar]
  show own_Go p e below s _ _ _ (T.setTop (mkF m 77 #[iv p1, rv ar, yk, .unset] []))
  refine own_go (fun _ k => XS.iloadN X0.here hx rfl (hb hby d1_77) rfl (XS.bipush X0.here hx rfl (hb hby d1_78) (XS.iushr X0.here hx rfl (hb hby d1_80) rfl (XS.iconst X0.here hx rfl (hb hby d1_81) (XS.iand X0.here hx rfl (hb hby d1_82) rfl k))))) ?_
  by_cases hc1 : (((p1.toUInt32 >>> ((24 : Int32) &&& 31).toUInt32).toInt32) &&& (3 : Int32)) = (0 : Int32)
  · refine own_go (fun _ k => XS.ifNo X0.here hx rfl (hb hby d1_83) rfl ((if0 _ _).trans (teq hc1).2) k) ?_
    show own_Go p e below s _ _ _ (T.setTop (mkF m 86 #[iv p1, rv ar, yk, .unset] []))
    refine own_go (fun _ k => XS.bipush X0.here hx rfl (hb hby d1_86) k) ?_
    obtain ⟨T2, h2, k2, X2, e2, E2, A2, st2⟩ := newP (aty := .char) X0 hx hZ (ow8 hw) e0 (g := (mkF m 88 #[iv p1, rv ar, yk, .unset] [(.int (6 : Int32))])) rfl (hb hby d1_88) rfl (by decide) (cap := 6) (by decide) (by decide) (by show _ ≤ 4; omega) (by show _ ≤ 26; omega)
    obtain ⟨b2, g2⟩ : ∃ z, z = hs1.size := ⟨_, rfl⟩
    rw [← g2] at A2 st2
    refine own_go st2 ?_
    clear st2 X0 e0
    have ge2 := Nat.le_of_eq g2.symm
    have ne3 : ar ≠ b2 := Nat.ne_of_lt (Nat.lt_of_lt_of_le fp0.lt ge2)
    have big4 : Z.heap.size ≤ b2 := Nat.le_trans O0.1 ge2
    have sz5 : h0.size ≤ b2 := Nat.le_trans K0.1 ge2
    have sz6 : hs1.size ≤ b2 := Nat.le_trans K1.1 ge2
    replace fp0 := fp0.ext E2
    replace O0 := own_oldExt O0 E2
    replace K0 := K0.ext E2
    replace K1 := K1.ext E2
    clear E2
    have f7 : Arv Z h2 b2 k2 .char (6 : Int32) [(.int (0 : Int32)), (.int (0 : Int32)), (.int (0 : Int32)), (.int (0 : Int32)), (.int (0 : Int32)), (.int (0 : Int32))] (.int (0 : Int32)) := (Arv.new A2 (by decide)).pad (pad_rep [] (.int (0 : Int32)) 6)
    refine own_go (fun _ k => XS.dup X2.here hx rfl (hb hby d1_90) rfl rfl (XS.iconst X2.here hx rfl (hb hby d1_91) (XS.aloadN X2.here hx rfl (hb hby d1_92) rfl rfl (XS.iconst X2.here hx rfl (hb hby d1_93) k)))) ?_
    obtain ⟨cl8, Ar8, -, S8, -, P8, -⟩ := id fp0
    have hin8 : ¬ ((0 : Int32) < 0 ∨ cl8.slots.size ≤ ((0 : Int32)).toNatClampNeg) := inb_of S8 ⟨by decide, by decide⟩
    refine own_go (X2.caload hx (j := (0 : Int32)) (v := (.int va0)) (by rw [e2]; exact Ar8.1) (State.isArrayOf_alike hZ.alike Ar8.2.1) Ar8.2.2 hin8 (P8.at hin8 rfl) (g := (mkF m 94 #[iv p1, rv ar, yk, .unset] [(.int (0 : Int32)), (.ref ar), (.int (0 : Int32)), (.ref b2), (.ref b2)])) rfl rfl (hb hby d1_94)) ?_
    obtain ⟨cl9, Ar9, q9, S9, M9, P9, G9⟩ := id f7
    have hin9 : ¬ ((0 : Int32) < 0 ∨ cl9.slots.size ≤ ((0 : Int32)).toNatClampNeg) := inb_of S9 ⟨by decide, by decide⟩
    obtain ⟨T10, h10, X10, e10, W10, st10⟩ := stC X2 hx hZ e2 Ar9 (j := (0 : Int32)) hin9 (g := (mkF m 95 #[iv p1, rv ar, yk, .unset] [(.int va0), (.int (0 : Int32)), (.ref b2), (.ref b2)])) rfl rfl (hb hby d1_95)
    refine own_go st10 ?_
    clear st10 X2 e2
    rw [own_nar8 hc8_0] at W10
    have f11 : Arv Z h10 b2 k2 .char (6 : Int32) [(.int va0), (.int (0 : Int32)), (.int (0 : Int32)), (.int (0 : Int32)), (.int (0 : Int32)), (.int (0 : Int32))] (.int (0 : Int32)) := Arv.set Ar9 q9 S9 M9 P9 G9 (by have q := fits_nar_char va0; rw [own_nar8 hc8_0] at q; exact q) W10 0 rfl (Nat.le_of_ble_eq_true rfl)
    replace N0 := Fr.snoc X10 N0 big4
    replace fp0 := fp0.other W10 ne3
    clear f7
    replace O0 := own_oldWr O0 W10 big4
    replace K0 := K0.wr W10 (Or.inr sz5)
    replace K1 := K1.wr W10 (Or.inr sz6)
    clear W10
    clear Ar9 q9 S9 M9 P9 G9 hin9
    refine own_go (fun _ k => XS.dup X10.here hx rfl (hb hby d1_96) rfl rfl (XS.iconst X10.here hx rfl (hb hby d1_97) (XS.aloadN X10.here hx rfl (hb hby d1_98) rfl rfl (XS.iconst X10.here hx rfl (hb hby d1_99) k)))) ?_
    obtain ⟨cl12, Ar12, -, S12, -, P12, -⟩ := id fp0
    have hin12 : ¬ ((1 : Int32) < 0 ∨ cl12.slots.size ≤ ((1 : Int32)).toNatClampNeg) := inb_of S12 ⟨by decide, by decide⟩
    refine own_go (X10.caload hx (j := (1 : Int32)) (v := (.int va1)) (by rw [e10]; exact Ar12.1) (State.isArrayOf_alike hZ.alike Ar12.2.1) Ar12.2.2 hin12 (P12.at hin12 rfl) (g := (mkF m 100 #[iv p1, rv ar, yk, .unset] [(.int (1 : Int32)), (.ref ar), (.int (1 : Int32)), (.ref b2), (.ref b2)])) rfl rfl (hb hby d1_100)) ?_
    obtain ⟨cl13, Ar13, q13, S13, M13, P13, G13⟩ := id f11
    have hin13 : ¬ ((1 : Int32) < 0 ∨ cl13.slots.size ≤ ((1 : Int32)).toNatClampNeg) := inb_of S13 ⟨by decide, by decide⟩
    obtain ⟨T14, h14, X14, e14, W14, st14⟩ := stC X10 hx hZ e10 Ar13 (j := (1 : Int32)) hin13 (g := (mkF m 101 #[iv p1, rv ar, yk, .unset] [(.int va1), (.int (1 : Int32)), (.ref b2), (.ref b2)])) rfl rfl (hb hby d1_101)
    refine own_go st14 ?_
    clear st14 X10 e10
    rw [own_nar8 hc8_1] at W14
    have f15 : Arv Z h14 b2 k2 .char (6 : Int32) [(.int va0), (.int va1), (.int (0 : Int32)), (.int (0 : Int32)), (.int (0 : Int32)), (.int (0 : Int32))] (.int (0 : Int32)) := Arv.set Ar13 q13 S13 M13 P13 G13 (by have q := fits_nar_char va1; rw [own_nar8 hc8_1] at q; exact q) W14 1 rfl (Nat.le_of_ble_eq_true rfl)
    replace N0 := Fr.snoc X14 N0 big4
    replace fp0 := fp0.other W14 ne3
    clear f11
    replace O0 := own_oldWr O0 W14 big4
    replace K0 := K0.wr W14 (Or.inr sz5)
    replace K1 := K1.wr W14 (Or.inr sz6)
    clear W14
    clear Ar13 q13 S13 M13 P13 G13 hin13
    refine own_go (fun _ k => XS.dup X14.here hx rfl (hb hby d1_102) rfl rfl (XS.iconst X14.here hx rfl (hb hby d1_103) (XS.aloadN X14.here hx rfl (hb hby d1_104) rfl rfl (XS.iconst X14.here hx rfl (hb hby d1_105) k)))) ?_
    obtain ⟨cl16, Ar16, -, S16, -, P16, -⟩ := id fp0
    have hin16 : ¬ ((2 : Int32) < 0 ∨ cl16.slots.size ≤ ((2 : Int32)).toNatClampNeg) := inb_of S16 ⟨by decide, by decide⟩
    refine own_go (X14.caload hx (j := (2 : Int32)) (v := (.int va2)) (by rw [e14]; exact Ar16.1) (State.isArrayOf_alike hZ.alike Ar16.2.1) Ar16.2.2 hin16 (P16.at hin16 rfl) (g := (mkF m 106 #[iv p1, rv ar, yk, .unset] [(.int (2 : Int32)), (.ref ar), (.int (2 : Int32)), (.ref b2), (.ref b2)])) rfl rfl (hb hby d1_106)) ?_
    obtain ⟨cl17, Ar17, q17, S17, M17, P17, G17⟩ := id f15
    have hin17 : ¬ ((2 : Int32) < 0 ∨ cl17.slots.size ≤ ((2 : Int32)).toNatClampNeg) := inb_of S17 ⟨by decide, by decide⟩
    obtain ⟨T18, h18, X18, e18, W18, st18⟩ := stC X14 hx hZ e14 Ar17 (j := (2 : Int32)) hin17 (g := (mkF m 107 #[iv p1, rv ar, yk, .unset] [(.int va2), (.int (2 : Int32)), (.ref b2), (.ref b2)])) rfl rfl (hb hby d1_107)
    refine own_go st18 ?_
    clear st18 X14 e14
    rw [own_nar8 hc8_2] at W18
    have f19 : Arv Z h18 b2 k2 .char (6 : Int32) [(.int va0), (.int va1), (.int va2), (.int (0 : Int32)), (.int (0 : Int32)), (.int (0 : Int32))] (.int (0 : Int32)) := Arv.set Ar17 q17 S17 M17 P17 G17 (by have q := fits_nar_char va2; rw [own_nar8 hc8_2] at q; exact q) W18 2 rfl (Nat.le_of_ble_eq_true rfl)
    replace N0 := Fr.snoc X18 N0 big4
    replace fp0 := fp0.other W18 ne3
    clear f15
    replace O0 := own_oldWr O0 W18 big4
    replace K0 := K0.wr W18 (Or.inr sz5)
    replace K1 := K1.wr W18 (Or.inr sz6)
    clear W18
    clear Ar17 q17 S17 M17 P17 G17 hin17
    refine own_go (fun _ k => XS.dup X18.here hx rfl (hb hby d1_108) rfl rfl (XS.iconst X18.here hx rfl (hb hby d1_109) (XS.aloadN X18.here hx rfl (hb hby d1_110) rfl rfl (XS.iconst X18.here hx rfl (hb hby d1_111) k)))) ?_
    obtain ⟨cl20, Ar20, -, S20, -, P20, -⟩ := id fp0
    have hin20 : ¬ ((3 : Int32) < 0 ∨ cl20.slots.size ≤ ((3 : Int32)).toNatClampNeg) := inb_of S20 ⟨by decide, by decide⟩
    refine own_go (X18.caload hx (j := (3 : Int32)) (v := (.int va3)) (by rw [e18]; exact Ar20.1) (State.isArrayOf_alike hZ.alike Ar20.2.1) Ar20.2.2 hin20 (P20.at hin20 rfl) (g := (mkF m 112 #[iv p1, rv ar, yk, .unset] [(.int (3 : Int32)), (.ref ar), (.int (3 : Int32)), (.ref b2), (.ref b2)])) rfl rfl (hb hby d1_112)) ?_
    show own_Go p e below s _ _ _ (T18.setTop (mkF m 113 #[iv p1, rv ar, yk, .unset] [(.int va3), (.int (3 : Int32)), (.ref b2), (.ref b2)]))
    obtain ⟨cl21, Ar21, q21, S21, M21, P21, G21⟩ := id f19
    have hin21 : ¬ ((3 : Int32) < 0 ∨ cl21.slots.size ≤ ((3 : Int32)).toNatClampNeg) := inb_of S21 ⟨by decide, by decide⟩
    obtain ⟨T22, h22, X22, e22, W22, st22⟩ := stC X18 hx hZ e18 Ar21 (j := (3 : Int32)) hin21 (g := (mkF m 113 #[iv p1, rv ar, yk, .unset] [(.int va3), (.int (3 : Int32)), (.ref b2), (.ref b2)])) rfl rfl (hb hby d1_113)
    refine own_go st22 ?_
    clear st22 X18 e18
    rw [own_nar8 hc8_3] at W22
    have f23 : Arv Z h22 b2 k2 .char (6 : Int32) [(.int va0), (.int va1), (.int va2), (.int va3), (.int (0 : Int32)), (.int (0 : Int32))] (.int (0 : Int32)) := Arv.set Ar21 q21 S21 M21 P21 G21 (by have q := fits_nar_char va3; rw [own_nar8 hc8_3] at q; exact q) W22 3 rfl (Nat.le_of_ble_eq_true rfl)
    replace N0 := Fr.snoc X22 N0 big4
    replace fp0 := fp0.other W22 ne3
    clear f19
    replace O0 := own_oldWr O0 W22 big4
    replace K0 := K0.wr W22 (Or.inr sz5)
    replace K1 := K1.wr W22 (Or.inr sz6)
    clear W22
    clear Ar21 q21 S21 M21 P21 G21 hin21
    refine own_go (fun _ k => XS.dup X22.here hx rfl (hb hby d1_114) rfl rfl (XS.iconst X22.here hx rfl (hb hby d1_115) (XS.aloadN X22.here hx rfl (hb hby d1_116) rfl rfl (XS.iconst X22.here hx rfl (hb hby d1_117) k)))) ?_
    obtain ⟨cl24, Ar24, -, S24, -, P24, -⟩ := id fp0
    have hin24 : ¬ ((4 : Int32) < 0 ∨ cl24.slots.size ≤ ((4 : Int32)).toNatClampNeg) := inb_of S24 ⟨by decide, by decide⟩
    refine own_go (X22.caload hx (j := (4 : Int32)) (v := (.int va4)) (by rw [e22]; exact Ar24.1) (State.isArrayOf_alike hZ.alike Ar24.2.1) Ar24.2.2 hin24 (P24.at hin24 rfl) (g := (mkF m 118 #[iv p1, rv ar, yk, .unset] [(.int (4 : Int32)), (.ref ar), (.int (4 : Int32)), (.ref b2), (.ref b2)])) rfl rfl (hb hby d1_118)) ?_
    obtain ⟨cl25, Ar25, q25, S25, M25, P25, G25⟩ := id f23
    have hin25 : ¬ ((4 : Int32) < 0 ∨ cl25.slots.size ≤ ((4 : Int32)).toNatClampNeg) := inb_of S25 ⟨by decide, by decide⟩
    obtain ⟨T26, h26, X26, e26, W26, st26⟩ := stC X22 hx hZ e22 Ar25 (j := (4 : Int32)) hin25 (g := (mkF m 119 #[iv p1, rv ar, yk, .unset] [(.int va4), (.int (4 : Int32)), (.ref b2), (.ref b2)])) rfl rfl (hb hby d1_119)
    refine own_go st26 ?_
    clear st26 X22 e22
    rw [own_nar8 hc8_4] at W26
    have f27 : Arv Z h26 b2 k2 .char (6 : Int32) [(.int va0), (.int va1), (.int va2), (.int va3), (.int va4), (.int (0 : Int32))] (.int (0 : Int32)) := Arv.set Ar25 q25 S25 M25 P25 G25 (by have q := fits_nar_char va4; rw [own_nar8 hc8_4] at q; exact q) W26 4 rfl (Nat.le_of_ble_eq_true rfl)
    replace N0 := Fr.snoc X26 N0 big4
    replace fp0 := fp0.other W26 ne3
    clear f23
    replace O0 := own_oldWr O0 W26 big4
    replace K0 := K0.wr W26 (Or.inr sz5)
    replace K1 := K1.wr W26 (Or.inr sz6)
    clear W26
    clear Ar25 q25 S25 M25 P25 G25 hin25
    refine own_go (fun _ k => XS.dup X26.here hx rfl (hb hby d1_120) rfl rfl (XS.iconst X26.here hx rfl (hb hby d1_121) (XS.aloadN X26.here hx rfl (hb hby d1_122) rfl rfl (XS.iconst X26.here hx rfl (hb hby d1_123) k)))) ?_
    obtain ⟨cl28, Ar28, -, S28, -, P28, -⟩ := id fp0
    have hin28 : ¬ ((5 : Int32) < 0 ∨ cl28.slots.size ≤ ((5 : Int32)).toNatClampNeg) := inb_of S28 ⟨by decide, by decide⟩
    refine own_go (X26.caload hx (j := (5 : Int32)) (v := (.int va5)) (by rw [e26]; exact Ar28.1) (State.isArrayOf_alike hZ.alike Ar28.2.1) Ar28.2.2 hin28 (P28.at hin28 rfl) (g := (mkF m 124 #[iv p1, rv ar, yk, .unset] [(.int (5 : Int32)), (.ref ar), (.int (5 : Int32)), (.ref b2), (.ref b2)])) rfl rfl (hb hby d1_124)) ?_
    obtain ⟨cl29, Ar29, q29, S29, M29, P29, G29⟩ := id f27
    have hin29 : ¬ ((5 : Int32) < 0 ∨ cl29.slots.size ≤ ((5 : Int32)).toNatClampNeg) := inb_of S29 ⟨by decide, by decide⟩
    obtain ⟨T30, h30, X30, e30, W30, st30⟩ := stC X26 hx hZ e26 Ar29 (j := (5 : Int32)) hin29 (g := (mkF m 125 #[iv p1, rv ar, yk, .unset] [(.int va5), (.int (5 : Int32)), (.ref b2), (.ref b2)])) rfl rfl (hb hby d1_125)
    refine own_go st30 ?_
    clear st30 X26 e26
    rw [own_nar8 hc8_5] at W30
    have f31 : Arv Z h30 b2 k2 .char (6 : Int32) [(.int va0), (.int va1), (.int va2), (.int va3), (.int va4), (.int va5)] (.int (0 : Int32)) := Arv.set Ar29 q29 S29 M29 P29 G29 (by have q := fits_nar_char va5; rw [own_nar8 hc8_5] at q; exact q) W30 5 rfl (Nat.le_of_ble_eq_true rfl)
    replace N0 := Fr.snoc X30 N0 big4
    replace fp0 := fp0.other W30 ne3
    clear f27
    replace O0 := own_oldWr O0 W30 big4
    replace K0 := K0.wr W30 (Or.inr sz5)
    replace K1 := K1.wr W30 (Or.inr sz6)
    clear W30
    clear Ar29 q29 S29 M29 P29 G29 hin29
    refine own_go (fun _ k => XS.astoreN X30.here hx rfl (hb hby d1_126) rfl rfl (l' := #[iv p1, rv ar, yk, rv b2]) rfl k) ?_
    obtain ⟨T32, h32, X32, e32, E32, A32, D32, -, st32⟩ := newO X30 hx hZ hown (ow9 hw) (ow10 hw) (ow11 hw) e30 (g := (mkF m 127 #[iv p1, rv ar, yk, rv b2] [])) rfl (hb hby d1_127) (by show _ ≤ 4; omega) (by show _ ≤ 26; omega)
    obtain ⟨b32, g32⟩ : ∃ z, z = h30.size := ⟨_, rfl⟩
    rw [← g32] at A32 D32 st32
    refine own_go st32 ?_
    clear st32 X30 e30
    have ge32 := Nat.le_of_eq g32.symm
    have ne33 : ar ≠ b32 := Nat.ne_of_lt (Nat.lt_of_lt_of_le fp0.lt ge32)
    have ne34 : b2 ≠ b32 := Nat.ne_of_lt (Nat.lt_of_lt_of_le f31.lt ge32)
    have big35 : Z.heap.size ≤ b32 := Nat.le_trans O0.1 ge32
    have sz36 : h0.size ≤ b32 := Nat.le_trans K0.1 ge32
    have sz37 : hs1.size ≤ b32 := Nat.le_trans K1.1 ge32
    replace fp0 := fp0.ext E32
    replace f31 := f31.ext E32
    replace O0 := own_oldExt O0 E32
    replace K0 := K0.ext E32
    replace K1 := K1.ext E32
    clear E32
    have f38 : Fld Z h32 b32 "java/lang/String" "coder" "B" (.int (0 : Int32)) := D32 (Or.inr (ow35 hw)) (ty := .byte) own_fd2
    have f39 : Fld Z h32 b32 "java/lang/String" "value" "[B" .null := D32 (Or.inr (ow37 hw)) (ty := (.array .byte)) own_fd3
    refine own_go (fun _ k => XS.dup X32.here hx rfl (hb hby d1_130) rfl rfl (XS.aloadN X32.here hx rfl (hb hby d1_131) rfl rfl k)) ?_
    obtain ⟨v40, T40, L40, X40, hQ40, st40⟩ := own_callIB (y := own_y21) X32 hx hZ hown (ow12 hw) (ow13 hw) (ow11 hw) (ow14 hw) 1 1 6 (StrChars.Road.backV (W := 1) hZ (own_sw1 hw) (kI := 4) (ow10 hw) (cs := ([va0, va1, va2, va3, va4, va5] : List Int32)) (bs := ([va0, va1, va2, va3, va4, va5] : List Int32).map (fun c => c.toInt8.toInt32)) (n := 6) (n0 := Z.heap.size) big35 (Nat.le_trans O0.1 (Nat.le_refl _)) A32 f39 f38 f31 (oCS.ext O0) oCz rfl rfl (by decide) (by decide) (own_cC hc8_0 (own_cC hc8_1 (own_cC hc8_2 (own_cC hc8_3 (own_cC hc8_4 (own_cC hc8_5 own_cN)))))) rfl (by decide) (by decide)) rfl (by show _ ≤ 4; omega) (by show _ ≤ 26; omega) e32 (g := (mkF m 132 #[iv p1, rv ar, yk, rv b2] [(.ref b2), (.ref b32), (.ref b32)])) rfl (by rw [hml]; rfl) b32 [(.ref b2)] [(.ref b32)] (lenOf own_pd_12 rfl) rfl rfl (hb hby d1_132)
    obtain ⟨rfl, Nc40, Kc40, f140, f240, t40, kb40, tb40, ts40, tn40, f340, f440⟩ := hQ40
    refine own_go st40 ?_
    clear st40 X32 e32
    replace N0 := Fr.app N0 Nc40
    clear Nc40
    have ne41 : ar ≠ t40 := Nat.ne_of_lt (Nat.lt_of_lt_of_le fp0.lt ts40)
    have ne42 : b2 ≠ t40 := Nat.ne_of_lt (Nat.lt_of_lt_of_le f31.lt ts40)
    have ne43 : b32 ≠ t40 := Nat.ne_of_lt (Nat.lt_of_lt_of_le A32.lt ts40)
    have big44 : Z.heap.size ≤ t40 := Nat.le_trans O0.1 ts40
    have sz45 : h0.size ≤ t40 := Nat.le_trans K0.1 ts40
    have sz46 : hs1.size ≤ t40 := Nat.le_trans K1.1 ts40
    replace fp0 := fp0.keep Kc40 (ninS ne33 nin0)
    replace f31 := f31.keep Kc40 (ninS ne34 nin0)
    replace A32 := A32.keep Kc40
    clear f38
    clear f39
    replace O0 := own_oldKeep O0 Kc40 (allS big35 all0)
    replace K0 := K0.trans Kc40 (allS (Or.inr sz36) all0)
    replace K1 := K1.trans Kc40 (allS (Or.inr sz37) all0)
    clear Kc40
    replace f440 : Arv Z T40.heap t40 kb40 .byte (6 : Int32) [(.int (va0.toInt8.toInt32)), (.int (va1.toInt8.toInt32)), (.int (va2.toInt8.toInt32)), (.int (va3.toInt8.toInt32)), (.int (va4.toInt8.toInt32)), (.int (va5.toInt8.toInt32))] (.int (0 : Int32)) := f440
    show own_Go p e below s _ _ _ (T40.setTop (mkF m 135 #[iv p1, rv ar, yk, rv b2] [(.ref b32)]))
    have ns47 : own_NS Z T40.heap b32 (own_Sp p1) := Or.inr ⟨_, _, _, _, _, _, _, _, f340, f240, f440, fun h => h.1 hc1⟩
    refine own_retA X40 hx hlk (rfl : T40.heap = T40.heap) hret rfl rfl (hb hby d1_135) (by show _ ≤ 4; omega) (by show _ ≤ 26; omega) ?_
    exact ⟨b32, rfl, N0, K0, sz36, f140, ns47⟩
  · refine own_go (fun _ k => XS.ifYes X0.here hx rfl (pc0 := 83) (pc' := 136) rfl (hb hby d1_83) rfl ((if0 _ _).trans (feq hc1).2) (by decide) (by decide) k) ?_
    show own_Go p e below s _ _ _ (T.setTop (mkF m 136 #[iv p1, rv ar, yk, .unset] []))
    obtain ⟨T48, h48, X48, e48, E48, A48, D48, -, st48⟩ := newO X0 hx hZ hown (ow9 hw) (ow10 hw) (ow11 hw) e0 (g := (mkF m 136 #[iv p1, rv ar, yk, .unset] [])) rfl (hb hby d1_136) (by show _ ≤ 4; omega) (by show _ ≤ 26; omega)
    obtain ⟨b48, g48⟩ : ∃ z, z = hs1.size := ⟨_, rfl⟩
    rw [← g48] at A48 D48 st48
    refine own_go st48 ?_
    clear st48 X0 e0
    have ge48 := Nat.le_of_eq g48.symm
    have ne49 : ar ≠ b48 := Nat.ne_of_lt (Nat.lt_of_lt_of_le fp0.lt ge48)
    have big50 : Z.heap.size ≤ b48 := Nat.le_trans O0.1 ge48
    have sz51 : h0.size ≤ b48 := Nat.le_trans K0.1 ge48
    have sz52 : hs1.size ≤ b48 := Nat.le_trans K1.1 ge48
    replace fp0 := fp0.ext E48
    replace O0 := own_oldExt O0 E48
    replace K0 := K0.ext E48
    replace K1 := K1.ext E48
    clear E48
    have f53 : Fld Z h48 b48 "java/lang/String" "coder" "B" (.int (0 : Int32)) := D48 (Or.inr (ow35 hw)) (ty := .byte) own_fd2
    have f54 : Fld Z h48 b48 "java/lang/String" "value" "[B" .null := D48 (Or.inr (ow37 hw)) (ty := (.array .byte)) own_fd3
    refine own_go (fun _ k => XS.dup X48.here hx rfl (hb hby d1_139) rfl rfl (XS.aloadN X48.here hx rfl (hb hby d1_140) rfl rfl k)) ?_
    obtain ⟨v55, T55, L55, X55, hQ55, st55⟩ := own_callIB (y := own_y21) X48 hx hZ hown (ow12 hw) (ow13 hw) (ow11 hw) (ow14 hw) 1 1 8 (StrChars.Road.backV (W := 1) hZ (own_sw1 hw) (kI := 4) (ow10 hw) (cs := ([va0, va1, va2, va3, va4, va5, va6, va7] : List Int32)) (bs := ([va0, va1, va2, va3, va4, va5, va6, va7] : List Int32).map (fun c => c.toInt8.toInt32)) (n := 8) (n0 := Z.heap.size) big50 (Nat.le_trans O0.1 (Nat.le_refl _)) A48 f54 f53 fp0 (oCS.ext O0) oCz rfl rfl (by decide) (by decide) (own_cC hc8_0 (own_cC hc8_1 (own_cC hc8_2 (own_cC hc8_3 (own_cC hc8_4 (own_cC hc8_5 (own_cC hc8_6 (own_cC hc8_7 own_cN)))))))) rfl (by decide) (by decide)) rfl (by show _ ≤ 4; omega) (by show _ ≤ 26; omega) e48 (g := (mkF m 141 #[iv p1, rv ar, yk, .unset] [(.ref ar), (.ref b48), (.ref b48)])) rfl (by rw [hml]; rfl) b48 [(.ref ar)] [(.ref b48)] (lenOf own_pd_12 rfl) rfl rfl (hb hby d1_141)
    obtain ⟨rfl, Nc55, Kc55, f155, f255, t55, kb55, tb55, ts55, tn55, f355, f455⟩ := hQ55
    refine own_go st55 ?_
    clear st55 X48 e48
    replace N0 := Fr.app N0 Nc55
    clear Nc55
    have ne56 : ar ≠ t55 := Nat.ne_of_lt (Nat.lt_of_lt_of_le fp0.lt ts55)
    have ne57 : b48 ≠ t55 := Nat.ne_of_lt (Nat.lt_of_lt_of_le A48.lt ts55)
    have big58 : Z.heap.size ≤ t55 := Nat.le_trans O0.1 ts55
    have sz59 : h0.size ≤ t55 := Nat.le_trans K0.1 ts55
    have sz60 : hs1.size ≤ t55 := Nat.le_trans K1.1 ts55
    replace fp0 := fp0.keep Kc55 (ninS ne49 nin0)
    replace A48 := A48.keep Kc55
    clear f53
    clear f54
    replace O0 := own_oldKeep O0 Kc55 (allS big50 all0)
    replace K0 := K0.trans Kc55 (allS (Or.inr sz51) all0)
    replace K1 := K1.trans Kc55 (allS (Or.inr sz52) all0)
    clear Kc55
    replace f455 : Arv Z T55.heap t55 kb55 .byte (8 : Int32) [(.int (va0.toInt8.toInt32)), (.int (va1.toInt8.toInt32)), (.int (va2.toInt8.toInt32)), (.int (va3.toInt8.toInt32)), (.int (va4.toInt8.toInt32)), (.int (va5.toInt8.toInt32)), (.int (va6.toInt8.toInt32)), (.int (va7.toInt8.toInt32))] (.int (0 : Int32)) := f455
    show own_Go p e below s _ _ _ (T55.setTop (mkF m 144 #[iv p1, rv ar, yk, .unset] [(.ref b48)]))
    have ns61 : own_NS Z T55.heap b48 (own_Sp p1) := Or.inl ⟨_, _, _, _, _, _, _, _, _, _, f355, f255, f455, (own_P8 hc8_0 hc8_1 hc8_2 hc8_3 hc8_4 hc8_5 hc8_6).trans (hC7.trans ⟨fun h => ⟨hc1, h⟩, fun h => h.2⟩)⟩
    refine own_retA X55 hx hlk (rfl : T55.heap = T55.heap) hret rfl rfl (hb hby d1_144) (by show _ ≤ 4; omega) (by show _ ≤ 26; omega) ?_
    exact ⟨b48, rfl, N0, K0, sz51, f155, ns61⟩
theorem ef_node (m : MethodId) (x0 : Int32) : entryFrame m #[(.int x0)] 4 = mkF m 0 #[iv x0, .unset, .unset, .unset] [] := by first | (simp [entryFrame, mkF, argsToLocals, Value.category]; done) | rfl
set_option maxRecDepth 65536 in
set_option maxHeartbeats 40000000 in
theorem rm_node (l : Launch) (Z : State) (a0 : Array Value) (hw : own_W Z a0) {zc : Int32} {wd : Addr} {kd : ClassId} {wx : Addr} {wy : Addr} {wsp : Addr} {wspv : Addr} {wspk : ClassId} (hO : own_Olds Z zc wd kd wx wy wsp wspv wspk) (ws : List Jvm.Cond) (p1 : Int32) (h0 : Heap) (O0 : Ext Z.heap h0) :
    own_MF l Z h0 own_y22 method_2_code 4 (some (.object "java/lang/String")) ({ frames := 4, cells := 4, slots := 26, locals := 66 } : Room) #[(.int p1)] (Q_node Z zc wd kd wx wy wsp wspv wspk p1 h0) ws := by
  refine own_met (Q := (Q_node Z zc wd kd wx wy wsp wspv wspk p1 h0)) _ _ (plainFor_of_name own_pn_8) ?_
  intro p e s m below meth c T X0 hx hby hml hret hlk hZ hown hnm e0
  replace hown : s.vm.findClass "com/example/padlock/padlock/lock/AccessAnnouncedPinLaw" = some m.cls := hown
  replace hnm : meth.name = "node" := hnm
  have hml : c.maxLocals = 4 := hml
  obtain ⟨oCS, oCz, oDE, oDV, oEx, oSh, oE1, oE2, oPF, oSPE, oSPC, oSPF, oSPV, oNe⟩ := id hO
  have N0 := Fr.nil Z.heap.size
  have K0 := Keep.refl h0 []
  refine own_go (fun _ k => castTop (ef_node m p1) k) ?_
  show own_Go p e below s _ _ _ (T.setTop (mkF m 0 #[iv p1, .unset, .unset, .unset] []))
  refine own_go (fun _ k => XS.bipush X0.here hx rfl (hb hby d1_0) k) ?_
  obtain ⟨T62, h62, k62, X62, e62, E62, A62, st62⟩ := newP (aty := .char) X0 hx hZ (ow8 hw) e0 (g := (mkF m 2 #[iv p1, .unset, .unset, .unset] [(.int (8 : Int32))])) rfl (hb hby d1_2) rfl (by decide) (cap := 8) (by decide) (by decide) (by show _ ≤ 4; omega) (by show _ ≤ 26; omega)
  obtain ⟨b62, g62⟩ : ∃ z, z = h0.size := ⟨_, rfl⟩
  rw [← g62] at A62 st62
  refine own_go st62 ?_
  clear st62 X0 e0
  have ge62 := Nat.le_of_eq g62.symm
  have big63 : Z.heap.size ≤ b62 := Nat.le_trans O0.1 ge62
  have sz64 : h0.size ≤ b62 := Nat.le_trans K0.1 ge62
  replace O0 := own_oldExt O0 E62
  replace K0 := K0.ext E62
  clear E62
  have f65 : Arv Z h62 b62 k62 .char (8 : Int32) [(.int (0 : Int32)), (.int (0 : Int32)), (.int (0 : Int32)), (.int (0 : Int32)), (.int (0 : Int32)), (.int (0 : Int32)), (.int (0 : Int32)), (.int (0 : Int32))] (.int (0 : Int32)) := (Arv.new A62 (by decide)).pad (pad_rep [] (.int (0 : Int32)) 8)
  refine own_go (fun _ k => XS.dup X62.here hx rfl (hb hby d1_4) rfl rfl (XS.iconst X62.here hx rfl (hb hby d1_5) (XS.bipush X62.here hx rfl (hb hby d1_6) k))) ?_
  obtain ⟨cl66, Ar66, q66, S66, M66, P66, G66⟩ := id f65
  have hin66 : ¬ ((0 : Int32) < 0 ∨ cl66.slots.size ≤ ((0 : Int32)).toNatClampNeg) := inb_of S66 ⟨by decide, by decide⟩
  obtain ⟨T67, h67, X67, e67, W67, st67⟩ := stC X62 hx hZ e62 Ar66 (j := (0 : Int32)) hin66 (g := (mkF m 8 #[iv p1, .unset, .unset, .unset] [(.int (115 : Int32)), (.int (0 : Int32)), (.ref b62), (.ref b62)])) rfl rfl (hb hby d1_8)
  refine own_go st67 ?_
  clear st67 X62 e62
  rw [show nar .char (115 : Int32) = (115 : Int32) from by decide] at W67
  have f68 : Arv Z h67 b62 k62 .char (8 : Int32) [(.int (115 : Int32)), (.int (0 : Int32)), (.int (0 : Int32)), (.int (0 : Int32)), (.int (0 : Int32)), (.int (0 : Int32)), (.int (0 : Int32)), (.int (0 : Int32))] (.int (0 : Int32)) := Arv.set Ar66 q66 S66 M66 P66 G66 (by have q := fits_nar_char (115 : Int32); rw [show nar .char (115 : Int32) = (115 : Int32) from by decide] at q; exact q) W67 0 rfl (Nat.le_of_ble_eq_true rfl)
  replace N0 := Fr.snoc X67 N0 big63
  clear f65
  replace O0 := own_oldWr O0 W67 big63
  replace K0 := K0.wr W67 (Or.inr sz64)
  clear W67
  clear Ar66 q66 S66 M66 P66 G66 hin66
  refine own_go (fun _ k => XS.dup X67.here hx rfl (hb hby d1_9) rfl rfl (XS.iconst X67.here hx rfl (hb hby d1_10) (XS.bipush X67.here hx rfl (hb hby d1_11) k))) ?_
  obtain ⟨cl69, Ar69, q69, S69, M69, P69, G69⟩ := id f68
  have hin69 : ¬ ((1 : Int32) < 0 ∨ cl69.slots.size ≤ ((1 : Int32)).toNatClampNeg) := inb_of S69 ⟨by decide, by decide⟩
  obtain ⟨T70, h70, X70, e70, W70, st70⟩ := stC X67 hx hZ e67 Ar69 (j := (1 : Int32)) hin69 (g := (mkF m 13 #[iv p1, .unset, .unset, .unset] [(.int (104 : Int32)), (.int (1 : Int32)), (.ref b62), (.ref b62)])) rfl rfl (hb hby d1_13)
  refine own_go st70 ?_
  clear st70 X67 e67
  rw [show nar .char (104 : Int32) = (104 : Int32) from by decide] at W70
  have f71 : Arv Z h70 b62 k62 .char (8 : Int32) [(.int (115 : Int32)), (.int (104 : Int32)), (.int (0 : Int32)), (.int (0 : Int32)), (.int (0 : Int32)), (.int (0 : Int32)), (.int (0 : Int32)), (.int (0 : Int32))] (.int (0 : Int32)) := Arv.set Ar69 q69 S69 M69 P69 G69 (by have q := fits_nar_char (104 : Int32); rw [show nar .char (104 : Int32) = (104 : Int32) from by decide] at q; exact q) W70 1 rfl (Nat.le_of_ble_eq_true rfl)
  replace N0 := Fr.snoc X70 N0 big63
  clear f68
  replace O0 := own_oldWr O0 W70 big63
  replace K0 := K0.wr W70 (Or.inr sz64)
  clear W70
  clear Ar69 q69 S69 M69 P69 G69 hin69
  refine own_go (fun _ k => XS.dup X70.here hx rfl (hb hby d1_14) rfl rfl (XS.iconst X70.here hx rfl (hb hby d1_15) (XS.bipush X70.here hx rfl (hb hby d1_16) k))) ?_
  obtain ⟨cl72, Ar72, q72, S72, M72, P72, G72⟩ := id f71
  have hin72 : ¬ ((2 : Int32) < 0 ∨ cl72.slots.size ≤ ((2 : Int32)).toNatClampNeg) := inb_of S72 ⟨by decide, by decide⟩
  obtain ⟨T73, h73, X73, e73, W73, st73⟩ := stC X70 hx hZ e70 Ar72 (j := (2 : Int32)) hin72 (g := (mkF m 18 #[iv p1, .unset, .unset, .unset] [(.int (97 : Int32)), (.int (2 : Int32)), (.ref b62), (.ref b62)])) rfl rfl (hb hby d1_18)
  refine own_go st73 ?_
  clear st73 X70 e70
  rw [show nar .char (97 : Int32) = (97 : Int32) from by decide] at W73
  have f74 : Arv Z h73 b62 k62 .char (8 : Int32) [(.int (115 : Int32)), (.int (104 : Int32)), (.int (97 : Int32)), (.int (0 : Int32)), (.int (0 : Int32)), (.int (0 : Int32)), (.int (0 : Int32)), (.int (0 : Int32))] (.int (0 : Int32)) := Arv.set Ar72 q72 S72 M72 P72 G72 (by have q := fits_nar_char (97 : Int32); rw [show nar .char (97 : Int32) = (97 : Int32) from by decide] at q; exact q) W73 2 rfl (Nat.le_of_ble_eq_true rfl)
  replace N0 := Fr.snoc X73 N0 big63
  clear f71
  replace O0 := own_oldWr O0 W73 big63
  replace K0 := K0.wr W73 (Or.inr sz64)
  clear W73
  clear Ar72 q72 S72 M72 P72 G72 hin72
  refine own_go (fun _ k => XS.dup X73.here hx rfl (hb hby d1_19) rfl rfl (XS.iconst X73.here hx rfl (hb hby d1_20) (XS.bipush X73.here hx rfl (hb hby d1_21) k))) ?_
  obtain ⟨cl75, Ar75, q75, S75, M75, P75, G75⟩ := id f74
  have hin75 : ¬ ((3 : Int32) < 0 ∨ cl75.slots.size ≤ ((3 : Int32)).toNatClampNeg) := inb_of S75 ⟨by decide, by decide⟩
  obtain ⟨T76, h76, X76, e76, W76, st76⟩ := stC X73 hx hZ e73 Ar75 (j := (3 : Int32)) hin75 (g := (mkF m 23 #[iv p1, .unset, .unset, .unset] [(.int (114 : Int32)), (.int (3 : Int32)), (.ref b62), (.ref b62)])) rfl rfl (hb hby d1_23)
  refine own_go st76 ?_
  clear st76 X73 e73
  rw [show nar .char (114 : Int32) = (114 : Int32) from by decide] at W76
  have f77 : Arv Z h76 b62 k62 .char (8 : Int32) [(.int (115 : Int32)), (.int (104 : Int32)), (.int (97 : Int32)), (.int (114 : Int32)), (.int (0 : Int32)), (.int (0 : Int32)), (.int (0 : Int32)), (.int (0 : Int32))] (.int (0 : Int32)) := Arv.set Ar75 q75 S75 M75 P75 G75 (by have q := fits_nar_char (114 : Int32); rw [show nar .char (114 : Int32) = (114 : Int32) from by decide] at q; exact q) W76 3 rfl (Nat.le_of_ble_eq_true rfl)
  replace N0 := Fr.snoc X76 N0 big63
  clear f74
  replace O0 := own_oldWr O0 W76 big63
  replace K0 := K0.wr W76 (Or.inr sz64)
  clear W76
  clear Ar75 q75 S75 M75 P75 G75 hin75
  refine own_go (fun _ k => XS.dup X76.here hx rfl (hb hby d1_24) rfl rfl (XS.iconst X76.here hx rfl (hb hby d1_25) (XS.bipush X76.here hx rfl (hb hby d1_26) k))) ?_
  obtain ⟨cl78, Ar78, q78, S78, M78, P78, G78⟩ := id f77
  have hin78 : ¬ ((4 : Int32) < 0 ∨ cl78.slots.size ≤ ((4 : Int32)).toNatClampNeg) := inb_of S78 ⟨by decide, by decide⟩
  obtain ⟨T79, h79, X79, e79, W79, st79⟩ := stC X76 hx hZ e76 Ar78 (j := (4 : Int32)) hin78 (g := (mkF m 28 #[iv p1, .unset, .unset, .unset] [(.int (101 : Int32)), (.int (4 : Int32)), (.ref b62), (.ref b62)])) rfl rfl (hb hby d1_28)
  refine own_go st79 ?_
  clear st79 X76 e76
  rw [show nar .char (101 : Int32) = (101 : Int32) from by decide] at W79
  have f80 : Arv Z h79 b62 k62 .char (8 : Int32) [(.int (115 : Int32)), (.int (104 : Int32)), (.int (97 : Int32)), (.int (114 : Int32)), (.int (101 : Int32)), (.int (0 : Int32)), (.int (0 : Int32)), (.int (0 : Int32))] (.int (0 : Int32)) := Arv.set Ar78 q78 S78 M78 P78 G78 (by have q := fits_nar_char (101 : Int32); rw [show nar .char (101 : Int32) = (101 : Int32) from by decide] at q; exact q) W79 4 rfl (Nat.le_of_ble_eq_true rfl)
  replace N0 := Fr.snoc X79 N0 big63
  clear f77
  replace O0 := own_oldWr O0 W79 big63
  replace K0 := K0.wr W79 (Or.inr sz64)
  clear W79
  clear Ar78 q78 S78 M78 P78 G78 hin78
  refine own_go (fun _ k => XS.dup X79.here hx rfl (hb hby d1_29) rfl rfl (XS.iconst X79.here hx rfl (hb hby d1_30) (XS.bipush X79.here hx rfl (hb hby d1_31) k))) ?_
  show own_Go p e below s _ _ _ (T79.setTop (mkF m 33 #[iv p1, .unset, .unset, .unset] [(.int (100 : Int32)), (.int (5 : Int32)), (.ref b62), (.ref b62)]))
  obtain ⟨cl81, Ar81, q81, S81, M81, P81, G81⟩ := id f80
  have hin81 : ¬ ((5 : Int32) < 0 ∨ cl81.slots.size ≤ ((5 : Int32)).toNatClampNeg) := inb_of S81 ⟨by decide, by decide⟩
  obtain ⟨T82, h82, X82, e82, W82, st82⟩ := stC X79 hx hZ e79 Ar81 (j := (5 : Int32)) hin81 (g := (mkF m 33 #[iv p1, .unset, .unset, .unset] [(.int (100 : Int32)), (.int (5 : Int32)), (.ref b62), (.ref b62)])) rfl rfl (hb hby d1_33)
  refine own_go st82 ?_
  clear st82 X79 e79
  rw [show nar .char (100 : Int32) = (100 : Int32) from by decide] at W82
  have f83 : Arv Z h82 b62 k62 .char (8 : Int32) [(.int (115 : Int32)), (.int (104 : Int32)), (.int (97 : Int32)), (.int (114 : Int32)), (.int (101 : Int32)), (.int (100 : Int32)), (.int (0 : Int32)), (.int (0 : Int32))] (.int (0 : Int32)) := Arv.set Ar81 q81 S81 M81 P81 G81 (by have q := fits_nar_char (100 : Int32); rw [show nar .char (100 : Int32) = (100 : Int32) from by decide] at q; exact q) W82 5 rfl (Nat.le_of_ble_eq_true rfl)
  replace N0 := Fr.snoc X82 N0 big63
  clear f80
  replace O0 := own_oldWr O0 W82 big63
  replace K0 := K0.wr W82 (Or.inr sz64)
  clear W82
  clear Ar81 q81 S81 M81 P81 G81 hin81
  refine own_go (fun _ k => XS.dup X82.here hx rfl (hb hby d1_34) rfl rfl (XS.bipush X82.here hx rfl (hb hby d1_35) (XS.bipush X82.here hx rfl (hb hby d1_37) k))) ?_
  obtain ⟨cl84, Ar84, q84, S84, M84, P84, G84⟩ := id f83
  have hin84 : ¬ ((6 : Int32) < 0 ∨ cl84.slots.size ≤ ((6 : Int32)).toNatClampNeg) := inb_of S84 ⟨by decide, by decide⟩
  obtain ⟨T85, h85, X85, e85, W85, st85⟩ := stC X82 hx hZ e82 Ar84 (j := (6 : Int32)) hin84 (g := (mkF m 39 #[iv p1, .unset, .unset, .unset] [(.int (45 : Int32)), (.int (6 : Int32)), (.ref b62), (.ref b62)])) rfl rfl (hb hby d1_39)
  refine own_go st85 ?_
  clear st85 X82 e82
  rw [show nar .char (45 : Int32) = (45 : Int32) from by decide] at W85
  have f86 : Arv Z h85 b62 k62 .char (8 : Int32) [(.int (115 : Int32)), (.int (104 : Int32)), (.int (97 : Int32)), (.int (114 : Int32)), (.int (101 : Int32)), (.int (100 : Int32)), (.int (45 : Int32)), (.int (0 : Int32))] (.int (0 : Int32)) := Arv.set Ar84 q84 S84 M84 P84 G84 (by have q := fits_nar_char (45 : Int32); rw [show nar .char (45 : Int32) = (45 : Int32) from by decide] at q; exact q) W85 6 rfl (Nat.le_of_ble_eq_true rfl)
  replace N0 := Fr.snoc X85 N0 big63
  clear f83
  replace O0 := own_oldWr O0 W85 big63
  replace K0 := K0.wr W85 (Or.inr sz64)
  clear W85
  clear Ar84 q84 S84 M84 P84 G84 hin84
  refine own_go (fun _ k => XS.dup X85.here hx rfl (hb hby d1_40) rfl rfl (XS.bipush X85.here hx rfl (hb hby d1_41) (XS.iloadN X85.here hx rfl (hb hby d1_43) rfl (XS.bipush X85.here hx rfl (hb hby d1_44) (XS.iushr X85.here hx rfl (hb hby d1_46) rfl (XS.sipush X85.here hx rfl (hb hby d1_47) k)))))) ?_
  refine own_go (fun _ k => XS.iand X85.here hx rfl (hb hby d1_50) rfl (XS.i2c X85.here hx rfl (hb hby d1_51) rfl k)) ?_
  show own_Go p e below s _ _ _ (T85.setTop (mkF m 52 #[iv p1, .unset, .unset, .unset] [(.int ((((p1.toUInt32 >>> ((8 : Int32) &&& 31).toUInt32).toInt32) &&& (255 : Int32)).toUInt32.toUInt16.toUInt32.toInt32)), (.int (7 : Int32)), (.ref b62), (.ref b62)]))
  rw [i2c_mask ((p1.toUInt32 >>> ((8 : Int32) &&& 31).toUInt32).toInt32)]
  obtain ⟨cl87, Ar87, q87, S87, M87, P87, G87⟩ := id f86
  have hin87 : ¬ ((7 : Int32) < 0 ∨ cl87.slots.size ≤ ((7 : Int32)).toNatClampNeg) := inb_of S87 ⟨by decide, by decide⟩
  obtain ⟨T88, h88, X88, e88, W88, st88⟩ := stC X85 hx hZ e85 Ar87 (j := (7 : Int32)) hin87 (g := (mkF m 52 #[iv p1, .unset, .unset, .unset] [(.int (((p1.toUInt32 >>> ((8 : Int32) &&& 31).toUInt32).toInt32) &&& (255 : Int32))), (.int (7 : Int32)), (.ref b62), (.ref b62)])) rfl rfl (hb hby d1_52)
  refine own_go st88 ?_
  clear st88 X85 e85
  rw [own_narM ((p1.toUInt32 >>> ((8 : Int32) &&& 31).toUInt32).toInt32)] at W88
  have f89 : Arv Z h88 b62 k62 .char (8 : Int32) [(.int (115 : Int32)), (.int (104 : Int32)), (.int (97 : Int32)), (.int (114 : Int32)), (.int (101 : Int32)), (.int (100 : Int32)), (.int (45 : Int32)), (.int (((p1.toUInt32 >>> ((8 : Int32) &&& 31).toUInt32).toInt32) &&& (255 : Int32)))] (.int (0 : Int32)) := Arv.set Ar87 q87 S87 M87 P87 G87 (by have q := fits_nar_char (((p1.toUInt32 >>> ((8 : Int32) &&& 31).toUInt32).toInt32) &&& (255 : Int32)); rw [own_narM ((p1.toUInt32 >>> ((8 : Int32) &&& 31).toUInt32).toInt32)] at q; exact q) W88 7 rfl (Nat.le_of_ble_eq_true rfl)
  replace N0 := Fr.snoc X88 N0 big63
  clear f86
  replace O0 := own_oldWr O0 W88 big63
  replace K0 := K0.wr W88 (Or.inr sz64)
  clear W88
  clear Ar87 q87 S87 M87 P87 G87 hin87
  refine own_go (fun _ k => XS.astoreN X88.here hx rfl (hb hby d1_53) rfl rfl (l' := #[iv p1, rv b62, .unset, .unset]) rfl (XS.iloadN X88.here hx rfl (hb hby d1_54) rfl (XS.bipush X88.here hx rfl (hb hby d1_55) (XS.iand X88.here hx rfl (hb hby d1_57) rfl (XS.istoreN X88.here hx rfl (hb hby d1_58) rfl (l' := #[iv p1, rv b62, iv (p1 &&& (15 : Int32)), .unset]) rfl (XS.iloadN X88.here hx rfl (hb hby d1_59) rfl k)))))) ?_
  refine own_go (fun _ k => XS.bipush X88.here hx rfl (hb hby d1_60) k) ?_
  by_cases hc90 : (p1 &&& (15 : Int32)) < (7 : Int32)
  · refine own_go (fun _ k => XS.icmpNo X88.here hx rfl (hb hby d1_62) rfl (tlt hc90).2.1 k) ?_
    show own_Go p e below s _ _ _ (T88.setTop (mkF m 65 #[iv p1, rv b62, iv (p1 &&& (15 : Int32)), .unset] []))
    refine own_go (fun _ k => XS.aloadN X88.here hx rfl (hb hby d1_65) rfl rfl (XS.iloadN X88.here hx rfl (hb hby d1_66) rfl (XS.iloadN X88.here hx rfl (hb hby d1_67) rfl (XS.bipush X88.here hx rfl (hb hby d1_68) (XS.iushr X88.here hx rfl (hb hby d1_70) rfl (XS.sipush X88.here hx rfl (hb hby d1_71) k)))))) ?_
    refine own_go (fun _ k => XS.iand X88.here hx rfl (hb hby d1_74) rfl (XS.i2c X88.here hx rfl (hb hby d1_75) rfl k)) ?_
    show own_Go p e below s _ _ _ (T88.setTop (mkF m 76 #[iv p1, rv b62, iv (p1 &&& (15 : Int32)), .unset] [(.int ((((p1.toUInt32 >>> ((16 : Int32) &&& 31).toUInt32).toInt32) &&& (255 : Int32)).toUInt32.toUInt16.toUInt32.toInt32)), (.int (p1 &&& (15 : Int32))), (.ref b62)]))
    rw [i2c_mask ((p1.toUInt32 >>> ((16 : Int32) &&& 31).toUInt32).toInt32)]
    show own_Go p e below s _ _ _ (T88.setTop (mkF m 76 #[iv p1, rv b62, iv (p1 &&& (15 : Int32)), .unset] [(.int (((p1.toUInt32 >>> ((16 : Int32) &&& 31).toUInt32).toInt32) &&& (255 : Int32))), (.int (p1 &&& (15 : Int32))), (.ref b62)]))
    rcases own_lt7 hc90 with hk | hk | hk | hk | hk | hk | hk
    · rw [hk]
      show own_Go p e below s _ _ _ (T88.setTop (mkF m 76 #[iv p1, rv b62, iv (0 : Int32), .unset] [(.int (((p1.toUInt32 >>> ((16 : Int32) &&& 31).toUInt32).toInt32) &&& (255 : Int32))), (.int (0 : Int32)), (.ref b62)]))
      show own_Go p e below s _ _ _ (T88.setTop (mkF m 76 #[iv p1, rv b62, iv (0 : Int32), .unset] [(.int (((p1.toUInt32 >>> ((16 : Int32) &&& 31).toUInt32).toInt32) &&& (255 : Int32))), (.int (0 : Int32)), (.ref b62)]))
      obtain ⟨cl91, Ar91, q91, S91, M91, P91, G91⟩ := id f89
      have hin91 : ¬ ((0 : Int32) < 0 ∨ cl91.slots.size ≤ ((0 : Int32)).toNatClampNeg) := inb_of S91 ⟨by decide, by decide⟩
      obtain ⟨T92, h92, X92, e92, W92, st92⟩ := stC X88 hx hZ e88 Ar91 (j := (0 : Int32)) hin91 (g := (mkF m 76 #[iv p1, rv b62, iv (0 : Int32), .unset] [(.int (((p1.toUInt32 >>> ((16 : Int32) &&& 31).toUInt32).toInt32) &&& (255 : Int32))), (.int (0 : Int32)), (.ref b62)])) rfl rfl (hb hby d1_76)
      refine own_go st92 ?_
      clear st92 X88 e88
      rw [own_narM ((p1.toUInt32 >>> ((16 : Int32) &&& 31).toUInt32).toInt32)] at W92
      have f93 : Arv Z h92 b62 k62 .char (8 : Int32) [(.int (((p1.toUInt32 >>> ((16 : Int32) &&& 31).toUInt32).toInt32) &&& (255 : Int32))), (.int (104 : Int32)), (.int (97 : Int32)), (.int (114 : Int32)), (.int (101 : Int32)), (.int (100 : Int32)), (.int (45 : Int32)), (.int (((p1.toUInt32 >>> ((8 : Int32) &&& 31).toUInt32).toInt32) &&& (255 : Int32)))] (.int (0 : Int32)) := Arv.set Ar91 q91 S91 M91 P91 G91 (by have q := fits_nar_char (((p1.toUInt32 >>> ((16 : Int32) &&& 31).toUInt32).toInt32) &&& (255 : Int32)); rw [own_narM ((p1.toUInt32 >>> ((16 : Int32) &&& 31).toUInt32).toInt32)] at q; exact q) W92 0 rfl (Nat.le_of_ble_eq_true rfl)
      replace N0 := Fr.snoc X92 N0 big63
      clear f89
      replace O0 := own_oldWr O0 W92 big63
      replace K0 := K0.wr W92 (Or.inr sz64)
      clear W92
      clear Ar91 q91 S91 M91 P91 G91 hin91
      show own_Go p e below s _ _ _ (T92.setTop (mkF m 77 #[iv p1, rv b62, iv (0 : Int32), .unset] []))
      exact sg_nd77 hw hO p1 b62 k62 (iv (0 : Int32) : Slot) (((p1.toUInt32 >>> ((16 : Int32) &&& 31).toUInt32).toInt32) &&& (255 : Int32)) (104 : Int32) (97 : Int32) (114 : Int32) (101 : Int32) (100 : Int32) (45 : Int32) (((p1.toUInt32 >>> ((8 : Int32) &&& 31).toUInt32).toInt32) &&& (255 : Int32)) h0 h92 X92 hx hby hml hret hlk hZ hown hnm e92 N0 O0 K0 f93 big63 sz64 (own_c8m ((p1.toUInt32 >>> ((16 : Int32) &&& 31).toUInt32).toInt32)) (⟨by decide, by decide⟩ : own_C8 (104 : Int32)) (⟨by decide, by decide⟩ : own_C8 (97 : Int32)) (⟨by decide, by decide⟩ : own_C8 (114 : Int32)) (⟨by decide, by decide⟩ : own_C8 (101 : Int32)) (⟨by decide, by decide⟩ : own_C8 (100 : Int32)) (⟨by decide, by decide⟩ : own_C8 (45 : Int32)) (own_c8m ((p1.toUInt32 >>> ((8 : Int32) &&& 31).toUInt32).toInt32)) (own_C7_0 hk) (by omega) (by omega)
    · rw [hk]
      show own_Go p e below s _ _ _ (T88.setTop (mkF m 76 #[iv p1, rv b62, iv (1 : Int32), .unset] [(.int (((p1.toUInt32 >>> ((16 : Int32) &&& 31).toUInt32).toInt32) &&& (255 : Int32))), (.int (1 : Int32)), (.ref b62)]))
      show own_Go p e below s _ _ _ (T88.setTop (mkF m 76 #[iv p1, rv b62, iv (1 : Int32), .unset] [(.int (((p1.toUInt32 >>> ((16 : Int32) &&& 31).toUInt32).toInt32) &&& (255 : Int32))), (.int (1 : Int32)), (.ref b62)]))
      obtain ⟨cl94, Ar94, q94, S94, M94, P94, G94⟩ := id f89
      have hin94 : ¬ ((1 : Int32) < 0 ∨ cl94.slots.size ≤ ((1 : Int32)).toNatClampNeg) := inb_of S94 ⟨by decide, by decide⟩
      obtain ⟨T95, h95, X95, e95, W95, st95⟩ := stC X88 hx hZ e88 Ar94 (j := (1 : Int32)) hin94 (g := (mkF m 76 #[iv p1, rv b62, iv (1 : Int32), .unset] [(.int (((p1.toUInt32 >>> ((16 : Int32) &&& 31).toUInt32).toInt32) &&& (255 : Int32))), (.int (1 : Int32)), (.ref b62)])) rfl rfl (hb hby d1_76)
      refine own_go st95 ?_
      clear st95 X88 e88
      rw [own_narM ((p1.toUInt32 >>> ((16 : Int32) &&& 31).toUInt32).toInt32)] at W95
      have f96 : Arv Z h95 b62 k62 .char (8 : Int32) [(.int (115 : Int32)), (.int (((p1.toUInt32 >>> ((16 : Int32) &&& 31).toUInt32).toInt32) &&& (255 : Int32))), (.int (97 : Int32)), (.int (114 : Int32)), (.int (101 : Int32)), (.int (100 : Int32)), (.int (45 : Int32)), (.int (((p1.toUInt32 >>> ((8 : Int32) &&& 31).toUInt32).toInt32) &&& (255 : Int32)))] (.int (0 : Int32)) := Arv.set Ar94 q94 S94 M94 P94 G94 (by have q := fits_nar_char (((p1.toUInt32 >>> ((16 : Int32) &&& 31).toUInt32).toInt32) &&& (255 : Int32)); rw [own_narM ((p1.toUInt32 >>> ((16 : Int32) &&& 31).toUInt32).toInt32)] at q; exact q) W95 1 rfl (Nat.le_of_ble_eq_true rfl)
      replace N0 := Fr.snoc X95 N0 big63
      clear f89
      replace O0 := own_oldWr O0 W95 big63
      replace K0 := K0.wr W95 (Or.inr sz64)
      clear W95
      clear Ar94 q94 S94 M94 P94 G94 hin94
      show own_Go p e below s _ _ _ (T95.setTop (mkF m 77 #[iv p1, rv b62, iv (1 : Int32), .unset] []))
      exact sg_nd77 hw hO p1 b62 k62 (iv (1 : Int32) : Slot) (115 : Int32) (((p1.toUInt32 >>> ((16 : Int32) &&& 31).toUInt32).toInt32) &&& (255 : Int32)) (97 : Int32) (114 : Int32) (101 : Int32) (100 : Int32) (45 : Int32) (((p1.toUInt32 >>> ((8 : Int32) &&& 31).toUInt32).toInt32) &&& (255 : Int32)) h0 h95 X95 hx hby hml hret hlk hZ hown hnm e95 N0 O0 K0 f96 big63 sz64 (⟨by decide, by decide⟩ : own_C8 (115 : Int32)) (own_c8m ((p1.toUInt32 >>> ((16 : Int32) &&& 31).toUInt32).toInt32)) (⟨by decide, by decide⟩ : own_C8 (97 : Int32)) (⟨by decide, by decide⟩ : own_C8 (114 : Int32)) (⟨by decide, by decide⟩ : own_C8 (101 : Int32)) (⟨by decide, by decide⟩ : own_C8 (100 : Int32)) (⟨by decide, by decide⟩ : own_C8 (45 : Int32)) (own_c8m ((p1.toUInt32 >>> ((8 : Int32) &&& 31).toUInt32).toInt32)) (own_C7_1 hk) (by omega) (by omega)
    · rw [hk]
      show own_Go p e below s _ _ _ (T88.setTop (mkF m 76 #[iv p1, rv b62, iv (2 : Int32), .unset] [(.int (((p1.toUInt32 >>> ((16 : Int32) &&& 31).toUInt32).toInt32) &&& (255 : Int32))), (.int (2 : Int32)), (.ref b62)]))
      show own_Go p e below s _ _ _ (T88.setTop (mkF m 76 #[iv p1, rv b62, iv (2 : Int32), .unset] [(.int (((p1.toUInt32 >>> ((16 : Int32) &&& 31).toUInt32).toInt32) &&& (255 : Int32))), (.int (2 : Int32)), (.ref b62)]))
      obtain ⟨cl97, Ar97, q97, S97, M97, P97, G97⟩ := id f89
      have hin97 : ¬ ((2 : Int32) < 0 ∨ cl97.slots.size ≤ ((2 : Int32)).toNatClampNeg) := inb_of S97 ⟨by decide, by decide⟩
      obtain ⟨T98, h98, X98, e98, W98, st98⟩ := stC X88 hx hZ e88 Ar97 (j := (2 : Int32)) hin97 (g := (mkF m 76 #[iv p1, rv b62, iv (2 : Int32), .unset] [(.int (((p1.toUInt32 >>> ((16 : Int32) &&& 31).toUInt32).toInt32) &&& (255 : Int32))), (.int (2 : Int32)), (.ref b62)])) rfl rfl (hb hby d1_76)
      refine own_go st98 ?_
      clear st98 X88 e88
      rw [own_narM ((p1.toUInt32 >>> ((16 : Int32) &&& 31).toUInt32).toInt32)] at W98
      have f99 : Arv Z h98 b62 k62 .char (8 : Int32) [(.int (115 : Int32)), (.int (104 : Int32)), (.int (((p1.toUInt32 >>> ((16 : Int32) &&& 31).toUInt32).toInt32) &&& (255 : Int32))), (.int (114 : Int32)), (.int (101 : Int32)), (.int (100 : Int32)), (.int (45 : Int32)), (.int (((p1.toUInt32 >>> ((8 : Int32) &&& 31).toUInt32).toInt32) &&& (255 : Int32)))] (.int (0 : Int32)) := Arv.set Ar97 q97 S97 M97 P97 G97 (by have q := fits_nar_char (((p1.toUInt32 >>> ((16 : Int32) &&& 31).toUInt32).toInt32) &&& (255 : Int32)); rw [own_narM ((p1.toUInt32 >>> ((16 : Int32) &&& 31).toUInt32).toInt32)] at q; exact q) W98 2 rfl (Nat.le_of_ble_eq_true rfl)
      replace N0 := Fr.snoc X98 N0 big63
      clear f89
      replace O0 := own_oldWr O0 W98 big63
      replace K0 := K0.wr W98 (Or.inr sz64)
      clear W98
      clear Ar97 q97 S97 M97 P97 G97 hin97
      show own_Go p e below s _ _ _ (T98.setTop (mkF m 77 #[iv p1, rv b62, iv (2 : Int32), .unset] []))
      exact sg_nd77 hw hO p1 b62 k62 (iv (2 : Int32) : Slot) (115 : Int32) (104 : Int32) (((p1.toUInt32 >>> ((16 : Int32) &&& 31).toUInt32).toInt32) &&& (255 : Int32)) (114 : Int32) (101 : Int32) (100 : Int32) (45 : Int32) (((p1.toUInt32 >>> ((8 : Int32) &&& 31).toUInt32).toInt32) &&& (255 : Int32)) h0 h98 X98 hx hby hml hret hlk hZ hown hnm e98 N0 O0 K0 f99 big63 sz64 (⟨by decide, by decide⟩ : own_C8 (115 : Int32)) (⟨by decide, by decide⟩ : own_C8 (104 : Int32)) (own_c8m ((p1.toUInt32 >>> ((16 : Int32) &&& 31).toUInt32).toInt32)) (⟨by decide, by decide⟩ : own_C8 (114 : Int32)) (⟨by decide, by decide⟩ : own_C8 (101 : Int32)) (⟨by decide, by decide⟩ : own_C8 (100 : Int32)) (⟨by decide, by decide⟩ : own_C8 (45 : Int32)) (own_c8m ((p1.toUInt32 >>> ((8 : Int32) &&& 31).toUInt32).toInt32)) (own_C7_2 hk) (by omega) (by omega)
    · rw [hk]
      show own_Go p e below s _ _ _ (T88.setTop (mkF m 76 #[iv p1, rv b62, iv (3 : Int32), .unset] [(.int (((p1.toUInt32 >>> ((16 : Int32) &&& 31).toUInt32).toInt32) &&& (255 : Int32))), (.int (3 : Int32)), (.ref b62)]))
      show own_Go p e below s _ _ _ (T88.setTop (mkF m 76 #[iv p1, rv b62, iv (3 : Int32), .unset] [(.int (((p1.toUInt32 >>> ((16 : Int32) &&& 31).toUInt32).toInt32) &&& (255 : Int32))), (.int (3 : Int32)), (.ref b62)]))
      obtain ⟨cl100, Ar100, q100, S100, M100, P100, G100⟩ := id f89
      have hin100 : ¬ ((3 : Int32) < 0 ∨ cl100.slots.size ≤ ((3 : Int32)).toNatClampNeg) := inb_of S100 ⟨by decide, by decide⟩
      obtain ⟨T101, h101, X101, e101, W101, st101⟩ := stC X88 hx hZ e88 Ar100 (j := (3 : Int32)) hin100 (g := (mkF m 76 #[iv p1, rv b62, iv (3 : Int32), .unset] [(.int (((p1.toUInt32 >>> ((16 : Int32) &&& 31).toUInt32).toInt32) &&& (255 : Int32))), (.int (3 : Int32)), (.ref b62)])) rfl rfl (hb hby d1_76)
      refine own_go st101 ?_
      clear st101 X88 e88
      rw [own_narM ((p1.toUInt32 >>> ((16 : Int32) &&& 31).toUInt32).toInt32)] at W101
      have f102 : Arv Z h101 b62 k62 .char (8 : Int32) [(.int (115 : Int32)), (.int (104 : Int32)), (.int (97 : Int32)), (.int (((p1.toUInt32 >>> ((16 : Int32) &&& 31).toUInt32).toInt32) &&& (255 : Int32))), (.int (101 : Int32)), (.int (100 : Int32)), (.int (45 : Int32)), (.int (((p1.toUInt32 >>> ((8 : Int32) &&& 31).toUInt32).toInt32) &&& (255 : Int32)))] (.int (0 : Int32)) := Arv.set Ar100 q100 S100 M100 P100 G100 (by have q := fits_nar_char (((p1.toUInt32 >>> ((16 : Int32) &&& 31).toUInt32).toInt32) &&& (255 : Int32)); rw [own_narM ((p1.toUInt32 >>> ((16 : Int32) &&& 31).toUInt32).toInt32)] at q; exact q) W101 3 rfl (Nat.le_of_ble_eq_true rfl)
      replace N0 := Fr.snoc X101 N0 big63
      clear f89
      replace O0 := own_oldWr O0 W101 big63
      replace K0 := K0.wr W101 (Or.inr sz64)
      clear W101
      clear Ar100 q100 S100 M100 P100 G100 hin100
      show own_Go p e below s _ _ _ (T101.setTop (mkF m 77 #[iv p1, rv b62, iv (3 : Int32), .unset] []))
      exact sg_nd77 hw hO p1 b62 k62 (iv (3 : Int32) : Slot) (115 : Int32) (104 : Int32) (97 : Int32) (((p1.toUInt32 >>> ((16 : Int32) &&& 31).toUInt32).toInt32) &&& (255 : Int32)) (101 : Int32) (100 : Int32) (45 : Int32) (((p1.toUInt32 >>> ((8 : Int32) &&& 31).toUInt32).toInt32) &&& (255 : Int32)) h0 h101 X101 hx hby hml hret hlk hZ hown hnm e101 N0 O0 K0 f102 big63 sz64 (⟨by decide, by decide⟩ : own_C8 (115 : Int32)) (⟨by decide, by decide⟩ : own_C8 (104 : Int32)) (⟨by decide, by decide⟩ : own_C8 (97 : Int32)) (own_c8m ((p1.toUInt32 >>> ((16 : Int32) &&& 31).toUInt32).toInt32)) (⟨by decide, by decide⟩ : own_C8 (101 : Int32)) (⟨by decide, by decide⟩ : own_C8 (100 : Int32)) (⟨by decide, by decide⟩ : own_C8 (45 : Int32)) (own_c8m ((p1.toUInt32 >>> ((8 : Int32) &&& 31).toUInt32).toInt32)) (own_C7_3 hk) (by omega) (by omega)
    · rw [hk]
      show own_Go p e below s _ _ _ (T88.setTop (mkF m 76 #[iv p1, rv b62, iv (4 : Int32), .unset] [(.int (((p1.toUInt32 >>> ((16 : Int32) &&& 31).toUInt32).toInt32) &&& (255 : Int32))), (.int (4 : Int32)), (.ref b62)]))
      show own_Go p e below s _ _ _ (T88.setTop (mkF m 76 #[iv p1, rv b62, iv (4 : Int32), .unset] [(.int (((p1.toUInt32 >>> ((16 : Int32) &&& 31).toUInt32).toInt32) &&& (255 : Int32))), (.int (4 : Int32)), (.ref b62)]))
      obtain ⟨cl103, Ar103, q103, S103, M103, P103, G103⟩ := id f89
      have hin103 : ¬ ((4 : Int32) < 0 ∨ cl103.slots.size ≤ ((4 : Int32)).toNatClampNeg) := inb_of S103 ⟨by decide, by decide⟩
      obtain ⟨T104, h104, X104, e104, W104, st104⟩ := stC X88 hx hZ e88 Ar103 (j := (4 : Int32)) hin103 (g := (mkF m 76 #[iv p1, rv b62, iv (4 : Int32), .unset] [(.int (((p1.toUInt32 >>> ((16 : Int32) &&& 31).toUInt32).toInt32) &&& (255 : Int32))), (.int (4 : Int32)), (.ref b62)])) rfl rfl (hb hby d1_76)
      refine own_go st104 ?_
      clear st104 X88 e88
      rw [own_narM ((p1.toUInt32 >>> ((16 : Int32) &&& 31).toUInt32).toInt32)] at W104
      have f105 : Arv Z h104 b62 k62 .char (8 : Int32) [(.int (115 : Int32)), (.int (104 : Int32)), (.int (97 : Int32)), (.int (114 : Int32)), (.int (((p1.toUInt32 >>> ((16 : Int32) &&& 31).toUInt32).toInt32) &&& (255 : Int32))), (.int (100 : Int32)), (.int (45 : Int32)), (.int (((p1.toUInt32 >>> ((8 : Int32) &&& 31).toUInt32).toInt32) &&& (255 : Int32)))] (.int (0 : Int32)) := Arv.set Ar103 q103 S103 M103 P103 G103 (by have q := fits_nar_char (((p1.toUInt32 >>> ((16 : Int32) &&& 31).toUInt32).toInt32) &&& (255 : Int32)); rw [own_narM ((p1.toUInt32 >>> ((16 : Int32) &&& 31).toUInt32).toInt32)] at q; exact q) W104 4 rfl (Nat.le_of_ble_eq_true rfl)
      replace N0 := Fr.snoc X104 N0 big63
      clear f89
      replace O0 := own_oldWr O0 W104 big63
      replace K0 := K0.wr W104 (Or.inr sz64)
      clear W104
      clear Ar103 q103 S103 M103 P103 G103 hin103
      show own_Go p e below s _ _ _ (T104.setTop (mkF m 77 #[iv p1, rv b62, iv (4 : Int32), .unset] []))
      exact sg_nd77 hw hO p1 b62 k62 (iv (4 : Int32) : Slot) (115 : Int32) (104 : Int32) (97 : Int32) (114 : Int32) (((p1.toUInt32 >>> ((16 : Int32) &&& 31).toUInt32).toInt32) &&& (255 : Int32)) (100 : Int32) (45 : Int32) (((p1.toUInt32 >>> ((8 : Int32) &&& 31).toUInt32).toInt32) &&& (255 : Int32)) h0 h104 X104 hx hby hml hret hlk hZ hown hnm e104 N0 O0 K0 f105 big63 sz64 (⟨by decide, by decide⟩ : own_C8 (115 : Int32)) (⟨by decide, by decide⟩ : own_C8 (104 : Int32)) (⟨by decide, by decide⟩ : own_C8 (97 : Int32)) (⟨by decide, by decide⟩ : own_C8 (114 : Int32)) (own_c8m ((p1.toUInt32 >>> ((16 : Int32) &&& 31).toUInt32).toInt32)) (⟨by decide, by decide⟩ : own_C8 (100 : Int32)) (⟨by decide, by decide⟩ : own_C8 (45 : Int32)) (own_c8m ((p1.toUInt32 >>> ((8 : Int32) &&& 31).toUInt32).toInt32)) (own_C7_4 hk) (by omega) (by omega)
    · rw [hk]
      show own_Go p e below s _ _ _ (T88.setTop (mkF m 76 #[iv p1, rv b62, iv (5 : Int32), .unset] [(.int (((p1.toUInt32 >>> ((16 : Int32) &&& 31).toUInt32).toInt32) &&& (255 : Int32))), (.int (5 : Int32)), (.ref b62)]))
      show own_Go p e below s _ _ _ (T88.setTop (mkF m 76 #[iv p1, rv b62, iv (5 : Int32), .unset] [(.int (((p1.toUInt32 >>> ((16 : Int32) &&& 31).toUInt32).toInt32) &&& (255 : Int32))), (.int (5 : Int32)), (.ref b62)]))
      obtain ⟨cl106, Ar106, q106, S106, M106, P106, G106⟩ := id f89
      have hin106 : ¬ ((5 : Int32) < 0 ∨ cl106.slots.size ≤ ((5 : Int32)).toNatClampNeg) := inb_of S106 ⟨by decide, by decide⟩
      obtain ⟨T107, h107, X107, e107, W107, st107⟩ := stC X88 hx hZ e88 Ar106 (j := (5 : Int32)) hin106 (g := (mkF m 76 #[iv p1, rv b62, iv (5 : Int32), .unset] [(.int (((p1.toUInt32 >>> ((16 : Int32) &&& 31).toUInt32).toInt32) &&& (255 : Int32))), (.int (5 : Int32)), (.ref b62)])) rfl rfl (hb hby d1_76)
      refine own_go st107 ?_
      clear st107 X88 e88
      rw [own_narM ((p1.toUInt32 >>> ((16 : Int32) &&& 31).toUInt32).toInt32)] at W107
      have f108 : Arv Z h107 b62 k62 .char (8 : Int32) [(.int (115 : Int32)), (.int (104 : Int32)), (.int (97 : Int32)), (.int (114 : Int32)), (.int (101 : Int32)), (.int (((p1.toUInt32 >>> ((16 : Int32) &&& 31).toUInt32).toInt32) &&& (255 : Int32))), (.int (45 : Int32)), (.int (((p1.toUInt32 >>> ((8 : Int32) &&& 31).toUInt32).toInt32) &&& (255 : Int32)))] (.int (0 : Int32)) := Arv.set Ar106 q106 S106 M106 P106 G106 (by have q := fits_nar_char (((p1.toUInt32 >>> ((16 : Int32) &&& 31).toUInt32).toInt32) &&& (255 : Int32)); rw [own_narM ((p1.toUInt32 >>> ((16 : Int32) &&& 31).toUInt32).toInt32)] at q; exact q) W107 5 rfl (Nat.le_of_ble_eq_true rfl)
      replace N0 := Fr.snoc X107 N0 big63
      clear f89
      replace O0 := own_oldWr O0 W107 big63
      replace K0 := K0.wr W107 (Or.inr sz64)
      clear W107
      clear Ar106 q106 S106 M106 P106 G106 hin106
      show own_Go p e below s _ _ _ (T107.setTop (mkF m 77 #[iv p1, rv b62, iv (5 : Int32), .unset] []))
      exact sg_nd77 hw hO p1 b62 k62 (iv (5 : Int32) : Slot) (115 : Int32) (104 : Int32) (97 : Int32) (114 : Int32) (101 : Int32) (((p1.toUInt32 >>> ((16 : Int32) &&& 31).toUInt32).toInt32) &&& (255 : Int32)) (45 : Int32) (((p1.toUInt32 >>> ((8 : Int32) &&& 31).toUInt32).toInt32) &&& (255 : Int32)) h0 h107 X107 hx hby hml hret hlk hZ hown hnm e107 N0 O0 K0 f108 big63 sz64 (⟨by decide, by decide⟩ : own_C8 (115 : Int32)) (⟨by decide, by decide⟩ : own_C8 (104 : Int32)) (⟨by decide, by decide⟩ : own_C8 (97 : Int32)) (⟨by decide, by decide⟩ : own_C8 (114 : Int32)) (⟨by decide, by decide⟩ : own_C8 (101 : Int32)) (own_c8m ((p1.toUInt32 >>> ((16 : Int32) &&& 31).toUInt32).toInt32)) (⟨by decide, by decide⟩ : own_C8 (45 : Int32)) (own_c8m ((p1.toUInt32 >>> ((8 : Int32) &&& 31).toUInt32).toInt32)) (own_C7_5 hk) (by omega) (by omega)
    · rw [hk]
      show own_Go p e below s _ _ _ (T88.setTop (mkF m 76 #[iv p1, rv b62, iv (6 : Int32), .unset] [(.int (((p1.toUInt32 >>> ((16 : Int32) &&& 31).toUInt32).toInt32) &&& (255 : Int32))), (.int (6 : Int32)), (.ref b62)]))
      show own_Go p e below s _ _ _ (T88.setTop (mkF m 76 #[iv p1, rv b62, iv (6 : Int32), .unset] [(.int (((p1.toUInt32 >>> ((16 : Int32) &&& 31).toUInt32).toInt32) &&& (255 : Int32))), (.int (6 : Int32)), (.ref b62)]))
      obtain ⟨cl109, Ar109, q109, S109, M109, P109, G109⟩ := id f89
      have hin109 : ¬ ((6 : Int32) < 0 ∨ cl109.slots.size ≤ ((6 : Int32)).toNatClampNeg) := inb_of S109 ⟨by decide, by decide⟩
      obtain ⟨T110, h110, X110, e110, W110, st110⟩ := stC X88 hx hZ e88 Ar109 (j := (6 : Int32)) hin109 (g := (mkF m 76 #[iv p1, rv b62, iv (6 : Int32), .unset] [(.int (((p1.toUInt32 >>> ((16 : Int32) &&& 31).toUInt32).toInt32) &&& (255 : Int32))), (.int (6 : Int32)), (.ref b62)])) rfl rfl (hb hby d1_76)
      refine own_go st110 ?_
      clear st110 X88 e88
      rw [own_narM ((p1.toUInt32 >>> ((16 : Int32) &&& 31).toUInt32).toInt32)] at W110
      have f111 : Arv Z h110 b62 k62 .char (8 : Int32) [(.int (115 : Int32)), (.int (104 : Int32)), (.int (97 : Int32)), (.int (114 : Int32)), (.int (101 : Int32)), (.int (100 : Int32)), (.int (((p1.toUInt32 >>> ((16 : Int32) &&& 31).toUInt32).toInt32) &&& (255 : Int32))), (.int (((p1.toUInt32 >>> ((8 : Int32) &&& 31).toUInt32).toInt32) &&& (255 : Int32)))] (.int (0 : Int32)) := Arv.set Ar109 q109 S109 M109 P109 G109 (by have q := fits_nar_char (((p1.toUInt32 >>> ((16 : Int32) &&& 31).toUInt32).toInt32) &&& (255 : Int32)); rw [own_narM ((p1.toUInt32 >>> ((16 : Int32) &&& 31).toUInt32).toInt32)] at q; exact q) W110 6 rfl (Nat.le_of_ble_eq_true rfl)
      replace N0 := Fr.snoc X110 N0 big63
      clear f89
      replace O0 := own_oldWr O0 W110 big63
      replace K0 := K0.wr W110 (Or.inr sz64)
      clear W110
      clear Ar109 q109 S109 M109 P109 G109 hin109
      show own_Go p e below s _ _ _ (T110.setTop (mkF m 77 #[iv p1, rv b62, iv (6 : Int32), .unset] []))
      exact sg_nd77 hw hO p1 b62 k62 (iv (6 : Int32) : Slot) (115 : Int32) (104 : Int32) (97 : Int32) (114 : Int32) (101 : Int32) (100 : Int32) (((p1.toUInt32 >>> ((16 : Int32) &&& 31).toUInt32).toInt32) &&& (255 : Int32)) (((p1.toUInt32 >>> ((8 : Int32) &&& 31).toUInt32).toInt32) &&& (255 : Int32)) h0 h110 X110 hx hby hml hret hlk hZ hown hnm e110 N0 O0 K0 f111 big63 sz64 (⟨by decide, by decide⟩ : own_C8 (115 : Int32)) (⟨by decide, by decide⟩ : own_C8 (104 : Int32)) (⟨by decide, by decide⟩ : own_C8 (97 : Int32)) (⟨by decide, by decide⟩ : own_C8 (114 : Int32)) (⟨by decide, by decide⟩ : own_C8 (101 : Int32)) (⟨by decide, by decide⟩ : own_C8 (100 : Int32)) (own_c8m ((p1.toUInt32 >>> ((16 : Int32) &&& 31).toUInt32).toInt32)) (own_c8m ((p1.toUInt32 >>> ((8 : Int32) &&& 31).toUInt32).toInt32)) (own_C7_6 hk) (by omega) (by omega)
  · refine own_go (fun _ k => XS.icmpYes X88.here hx rfl (pc0 := 62) (pc' := 77) rfl (hb hby d1_62) rfl (flt hc90).2.1 (by decide) (by decide) k) ?_
    show own_Go p e below s _ _ _ (T88.setTop (mkF m 77 #[iv p1, rv b62, iv (p1 &&& (15 : Int32)), .unset] []))
    exact sg_nd77 hw hO p1 b62 k62 (iv (p1 &&& (15 : Int32)) : Slot) (115 : Int32) (104 : Int32) (97 : Int32) (114 : Int32) (101 : Int32) (100 : Int32) (45 : Int32) (((p1.toUInt32 >>> ((8 : Int32) &&& 31).toUInt32).toInt32) &&& (255 : Int32)) h0 h88 X88 hx hby hml hret hlk hZ hown hnm e88 N0 O0 K0 f89 big63 sz64 (⟨by decide, by decide⟩ : own_C8 (115 : Int32)) (⟨by decide, by decide⟩ : own_C8 (104 : Int32)) (⟨by decide, by decide⟩ : own_C8 (97 : Int32)) (⟨by decide, by decide⟩ : own_C8 (114 : Int32)) (⟨by decide, by decide⟩ : own_C8 (101 : Int32)) (⟨by decide, by decide⟩ : own_C8 (100 : Int32)) (⟨by decide, by decide⟩ : own_C8 (45 : Int32)) (own_c8m ((p1.toUInt32 >>> ((8 : Int32) &&& 31).toUInt32).toInt32)) (own_C7_n hc90) (by omega) (by omega)
theorem d11_0 : decode prog_5_method_10_code 0 = .ok (.new 91, 3) := by decide +kernel
theorem d11_3 : decode prog_5_method_10_code 3 = .ok (.dup, 1) := by decide +kernel
theorem d11_4 : decode prog_5_method_10_code 4 = .ok (.invokespecial 93, 3) := by decide +kernel
theorem d11_7 : decode prog_5_method_10_code 7 = .ok (.astore_n 2, 1) := by decide +kernel
theorem d11_8 : decode prog_5_method_10_code 8 = .ok (.iconst 0, 1) := by decide +kernel
theorem d11_9 : decode prog_5_method_10_code 9 = .ok (.istore_n 3, 1) := by decide +kernel
theorem d11_10 : decode prog_5_method_10_code 10 = .ok (.iload_n 3, 1) := by decide +kernel
theorem d11_11 : decode prog_5_method_10_code 11 = .ok (.iconst 1, 1) := by decide +kernel
theorem d11_12 : decode prog_5_method_10_code 12 = .ok (.iadd, 1) := by decide +kernel
theorem d11_13 : decode prog_5_method_10_code 13 = .ok (.aload_n 1, 1) := by decide +kernel
theorem d11_14 : decode prog_5_method_10_code 14 = .ok (.invokeinterface 66 1, 5) := by decide +kernel
theorem d11_19 : decode prog_5_method_10_code 19 = .ok (.if_icmp .ge 68, 3) := by decide +kernel
theorem d11_87 : decode prog_5_method_10_code 87 = .ok (.aload_n 2, 1) := by decide +kernel
theorem d11_88 : decode prog_5_method_10_code 88 = .ok (.areturn, 1) := by decide +kernel
def Q_annx0 (Z : State) (zc : Int32) (wd : Addr) (kd : ClassId) (wx : Addr) (wy : Addr) (wsp : Addr) (wspv : Addr) (wspk : ClassId) (a2 : Addr) (mc : Int32) (h0 : Heap) (v : Option Value) (h : Heap) (L : List Loc) : Prop := (∃ c : Addr, v = some (.ref c) ∧ Fr Z.heap.size L ∧ Keep h0 h [] ∧ h0.size ≤ c ∧ Exa Z h c "java/util/ArrayList" ∧ Fld Z h c "java/util/ArrayList" "size" "I" (.int (0 : Int32)))
theorem ef_annx0 (m : MethodId) (x0 : Addr) (x1 : Addr) : entryFrame m #[(.ref x0), (.ref x1)] 4 = mkF m 0 #[rv x0, rv x1, .unset, .unset] [] := by first | (simp [entryFrame, mkF, argsToLocals, Value.category]; done) | rfl
set_option maxRecDepth 65536 in
set_option maxHeartbeats 40000000 in
theorem rm_annx0 (l : Launch) (Z : State) (a0 : Array Value) (hw : own_W Z a0) {zc : Int32} {wd : Addr} {kd : ClassId} {wx : Addr} {wy : Addr} {wsp : Addr} {wspv : Addr} {wspk : ClassId} (hO : own_Olds Z zc wd kd wx wy wsp wspv wspk) (ws : List Jvm.Cond) (a2 : Addr) (mc : Int32) (h0 : Heap) (O0 : Ext Z.heap h0) (fp0 : Exa Z h0 a2 "java/util/ArrayList") (fp1 : Fld Z h0 a2 "java/util/ArrayList" "size" "I" (.int (0 : Int32))) (fp2 : Fld Z h0 a2 "java/util/ArrayList" "elementData" "[Ljava/lang/Object;" (.ref wd)) (fp3 : Fld Z h0 a2 "java/util/AbstractList" "modCount" "I" (.int mc)) :
    own_MF l Z h0 own_y24 prog_5_method_10_code 4 (some (.object "java/util/List")) ({ frames := 4, cells := 1, slots := 3, locals := 49 } : Room) #[(.ref wx), (.ref a2)] (Q_annx0 Z zc wd kd wx wy wsp wspv wspk a2 mc h0) ws := by
  refine own_met (Q := (Q_annx0 Z zc wd kd wx wy wsp wspv wspk a2 mc h0)) _ _ (plainFor_of_name own_pn_7) ?_
  intro p e s m below meth c T X0 hx hby hml hret hlk hZ hown hnm e0
  replace hown : s.vm.findClass "com/example/padlock/padlock/lock/Access" = some m.cls := hown
  replace hnm : meth.name = "announced" := hnm
  have hml : c.maxLocals = 4 := hml
  obtain ⟨oCS, oCz, oDE, oDV, oEx, oSh, oE1, oE2, oPF, oSPE, oSPC, oSPF, oSPV, oNe⟩ := id hO
  have N0 := Fr.nil Z.heap.size
  have K0 := Keep.refl h0 []
  refine own_go (fun _ k => castTop (ef_annx0 m wx a2) k) ?_
  show own_Go p e below s _ _ _ (T.setTop (mkF m 0 #[rv wx, rv a2, .unset, .unset] []))
  obtain ⟨T1, h1, X1, e1, E1, A1, D1, -, st1⟩ := newO X0 hx hZ hown (ow67 hw) (ow39 hw) (ow40 hw) e0 (g := (mkF m 0 #[rv wx, rv a2, .unset, .unset] [])) rfl (hb hby d11_0) (by show _ ≤ 1; omega) (by show _ ≤ 3; omega)
  obtain ⟨b1, g1⟩ : ∃ z, z = h0.size := ⟨_, rfl⟩
  rw [← g1] at A1 D1 st1
  refine own_go st1 ?_
  clear st1 X0 e0
  have ge1 := Nat.le_of_eq g1.symm
  have big2 : Z.heap.size ≤ b1 := Nat.le_trans O0.1 ge1
  have sz3 : h0.size ≤ b1 := Nat.le_trans K0.1 ge1
  replace O0 := own_oldExt O0 E1
  replace K0 := K0.ext E1
  clear E1
  have f4 : Fld Z h1 b1 "java/util/AbstractList" "modCount" "I" (.int (0 : Int32)) := D1 (Or.inl (ow58 hw)) (ty := .int) own_fd0
  have f5 : Fld Z h1 b1 "java/util/ArrayList" "elementData" "[Ljava/lang/Object;" .null := D1 (Or.inl (ow61 hw)) (ty := (.array (.object "java/lang/Object"))) own_fd1
  have f6 : Fld Z h1 b1 "java/util/ArrayList" "size" "I" (.int (0 : Int32)) := D1 (Or.inl (ow79 hw)) (ty := .int) own_fd0
  refine own_go (fun _ k => XS.dup X1.here hx rfl (hb hby d11_3) rfl rfl k) ?_
  obtain ⟨v7, T7, L7, X7, hQ7, st7⟩ := own_callI (y := own_y2) X1 hx hZ hown (ow68 hw) (ow42 hw) (ow40 hw) (ow43 hw) (rm_alinit l Z a0 hw hO [] b1 h1 O0 A1 f6 f5 f4 big2) 1 0 0 rfl (by show _ ≤ 1; omega) (by show _ ≤ 3; omega) e1 (g := (mkF m 4 #[rv wx, rv a2, .unset, .unset] [(.ref b1), (.ref b1)])) rfl (by rw [hml]; rfl) b1 [] [(.ref b1)] (lenOf own_pd_0 rfl) rfl rfl (hb hby d11_4)
  obtain ⟨rfl, Nc13, Kc12, f8, f9, f10, f11⟩ := hQ7
  refine own_go st7 ?_
  clear st7 X1 e1
  replace N0 := Fr.app N0 Nc13
  clear Nc13
  replace A1 := A1.keep Kc12
  clear f4
  clear f5
  clear f6
  replace O0 := own_oldKeep O0 Kc12 (allS big2 all0)
  replace K0 := K0.trans Kc12 (allS (Or.inr sz3) all0)
  clear Kc12
  refine own_go (fun _ k => XS.astoreN X7.here hx rfl (hb hby d11_7) rfl rfl (l' := #[rv wx, rv a2, rv b1, .unset]) rfl (XS.iconst X7.here hx rfl (hb hby d11_8) (XS.istoreN X7.here hx rfl (hb hby d11_9) rfl (l' := #[rv wx, rv a2, rv b1, iv (0 : Int32)]) rfl (XS.iloadN X7.here hx rfl (hb hby d11_10) rfl (XS.iconst X7.here hx rfl (hb hby d11_11) k))))) ?_
  show own_Go p e below s _ _ _ (T7.setTop (mkF m 12 #[rv wx, rv a2, rv b1, iv (0 : Int32)] [(.int (1 : Int32)), (.int (0 : Int32))]))
  refine own_go (fun _ k => XS.iadd X7.here hx rfl (hb hby d11_12) rfl (XS.aloadN X7.here hx rfl (hb hby d11_13) rfl rfl k)) ?_
  obtain ⟨v14, T14, L14, X14, hQ14, st14⟩ := own_callF (xi := own_y23) (y := own_y8) X7 hx hZ hown (ow69 hw) (ow70 hw) (ow71 hw) (ow72 hw) (ow73 hw) (ow74 hw) (ow75 hw) (ow76 hw) (ow40 hw) (ow77 hw) (by decide) (rm_alsize l Z a0 hw hO [] a2 (0 : Int32) T7.heap O0 (fp1.keep K0 nin0)) 1 0 0 (by show _ ≤ 1; omega) (by show _ ≤ 3; omega) (rfl : T7.heap = T7.heap) (fp0.keep K0) (g := (mkF m 14 #[rv wx, rv a2, rv b1, iv (0 : Int32)] [(.ref a2), (.int (1 : Int32))])) rfl (by rw [hml]; rfl) [] [(.int (1 : Int32))] (lenOf own_pd_8 rfl) rfl rfl (hb hby d11_14)
  obtain ⟨rfl, Nc16, Kc15⟩ := hQ14
  refine own_go st14 ?_
  clear st14 X7
  replace N0 := Fr.app N0 Nc16
  clear Nc16
  refine own_go (fun _ k => XS.icmpYes X14.here hx rfl (pc0 := 19) (pc' := 87) rfl (hb hby d11_19) rfl (flt (by decide : ¬ ((1 : Int32) < (0 : Int32)))).2.1 (by decide) (by decide) (XS.aloadN X14.here hx rfl (hb hby d11_87) rfl rfl k)) ?_
  show own_Go p e below s _ _ _ (T14.setTop (mkF m 88 #[rv wx, rv a2, rv b1, iv (0 : Int32)] [(.ref b1)]))
  refine own_retA X14 hx hlk Kc15 hret rfl rfl (hb hby d11_88) (by show _ ≤ 1; omega) (by show _ ≤ 3; omega) ?_
  exact ⟨b1, rfl, N0, K0, sz3, f8, f9⟩
def Q_anny0 (Z : State) (zc : Int32) (wd : Addr) (kd : ClassId) (wx : Addr) (wy : Addr) (wsp : Addr) (wspv : Addr) (wspk : ClassId) (a2 : Addr) (mc : Int32) (h0 : Heap) (v : Option Value) (h : Heap) (L : List Loc) : Prop := (∃ c : Addr, v = some (.ref c) ∧ Fr Z.heap.size L ∧ Keep h0 h [] ∧ h0.size ≤ c ∧ Exa Z h c "java/util/ArrayList" ∧ Fld Z h c "java/util/ArrayList" "size" "I" (.int (0 : Int32)))
theorem ef_anny0 (m : MethodId) (x0 : Addr) (x1 : Addr) : entryFrame m #[(.ref x0), (.ref x1)] 4 = mkF m 0 #[rv x0, rv x1, .unset, .unset] [] := by first | (simp [entryFrame, mkF, argsToLocals, Value.category]; done) | rfl
set_option maxRecDepth 65536 in
set_option maxHeartbeats 40000000 in
theorem rm_anny0 (l : Launch) (Z : State) (a0 : Array Value) (hw : own_W Z a0) {zc : Int32} {wd : Addr} {kd : ClassId} {wx : Addr} {wy : Addr} {wsp : Addr} {wspv : Addr} {wspk : ClassId} (hO : own_Olds Z zc wd kd wx wy wsp wspv wspk) (ws : List Jvm.Cond) (a2 : Addr) (mc : Int32) (h0 : Heap) (O0 : Ext Z.heap h0) (fp0 : Exa Z h0 a2 "java/util/ArrayList") (fp1 : Fld Z h0 a2 "java/util/ArrayList" "size" "I" (.int (0 : Int32))) (fp2 : Fld Z h0 a2 "java/util/ArrayList" "elementData" "[Ljava/lang/Object;" (.ref wd)) (fp3 : Fld Z h0 a2 "java/util/AbstractList" "modCount" "I" (.int mc)) :
    own_MF l Z h0 own_y24 prog_5_method_10_code 4 (some (.object "java/util/List")) ({ frames := 4, cells := 1, slots := 3, locals := 49 } : Room) #[(.ref wy), (.ref a2)] (Q_anny0 Z zc wd kd wx wy wsp wspv wspk a2 mc h0) ws := by
  refine own_met (Q := (Q_anny0 Z zc wd kd wx wy wsp wspv wspk a2 mc h0)) _ _ (plainFor_of_name own_pn_7) ?_
  intro p e s m below meth c T X0 hx hby hml hret hlk hZ hown hnm e0
  replace hown : s.vm.findClass "com/example/padlock/padlock/lock/Access" = some m.cls := hown
  replace hnm : meth.name = "announced" := hnm
  have hml : c.maxLocals = 4 := hml
  obtain ⟨oCS, oCz, oDE, oDV, oEx, oSh, oE1, oE2, oPF, oSPE, oSPC, oSPF, oSPV, oNe⟩ := id hO
  have N0 := Fr.nil Z.heap.size
  have K0 := Keep.refl h0 []
  refine own_go (fun _ k => castTop (ef_anny0 m wy a2) k) ?_
  show own_Go p e below s _ _ _ (T.setTop (mkF m 0 #[rv wy, rv a2, .unset, .unset] []))
  obtain ⟨T1, h1, X1, e1, E1, A1, D1, -, st1⟩ := newO X0 hx hZ hown (ow67 hw) (ow39 hw) (ow40 hw) e0 (g := (mkF m 0 #[rv wy, rv a2, .unset, .unset] [])) rfl (hb hby d11_0) (by show _ ≤ 1; omega) (by show _ ≤ 3; omega)
  obtain ⟨b1, g1⟩ : ∃ z, z = h0.size := ⟨_, rfl⟩
  rw [← g1] at A1 D1 st1
  refine own_go st1 ?_
  clear st1 X0 e0
  have ge1 := Nat.le_of_eq g1.symm
  have big2 : Z.heap.size ≤ b1 := Nat.le_trans O0.1 ge1
  have sz3 : h0.size ≤ b1 := Nat.le_trans K0.1 ge1
  replace O0 := own_oldExt O0 E1
  replace K0 := K0.ext E1
  clear E1
  have f4 : Fld Z h1 b1 "java/util/AbstractList" "modCount" "I" (.int (0 : Int32)) := D1 (Or.inl (ow58 hw)) (ty := .int) own_fd0
  have f5 : Fld Z h1 b1 "java/util/ArrayList" "elementData" "[Ljava/lang/Object;" .null := D1 (Or.inl (ow61 hw)) (ty := (.array (.object "java/lang/Object"))) own_fd1
  have f6 : Fld Z h1 b1 "java/util/ArrayList" "size" "I" (.int (0 : Int32)) := D1 (Or.inl (ow79 hw)) (ty := .int) own_fd0
  refine own_go (fun _ k => XS.dup X1.here hx rfl (hb hby d11_3) rfl rfl k) ?_
  obtain ⟨v7, T7, L7, X7, hQ7, st7⟩ := own_callI (y := own_y2) X1 hx hZ hown (ow68 hw) (ow42 hw) (ow40 hw) (ow43 hw) (rm_alinit l Z a0 hw hO [] b1 h1 O0 A1 f6 f5 f4 big2) 1 0 0 rfl (by show _ ≤ 1; omega) (by show _ ≤ 3; omega) e1 (g := (mkF m 4 #[rv wy, rv a2, .unset, .unset] [(.ref b1), (.ref b1)])) rfl (by rw [hml]; rfl) b1 [] [(.ref b1)] (lenOf own_pd_0 rfl) rfl rfl (hb hby d11_4)
  obtain ⟨rfl, Nc13, Kc12, f8, f9, f10, f11⟩ := hQ7
  refine own_go st7 ?_
  clear st7 X1 e1
  replace N0 := Fr.app N0 Nc13
  clear Nc13
  replace A1 := A1.keep Kc12
  clear f4
  clear f5
  clear f6
  replace O0 := own_oldKeep O0 Kc12 (allS big2 all0)
  replace K0 := K0.trans Kc12 (allS (Or.inr sz3) all0)
  clear Kc12
  refine own_go (fun _ k => XS.astoreN X7.here hx rfl (hb hby d11_7) rfl rfl (l' := #[rv wy, rv a2, rv b1, .unset]) rfl (XS.iconst X7.here hx rfl (hb hby d11_8) (XS.istoreN X7.here hx rfl (hb hby d11_9) rfl (l' := #[rv wy, rv a2, rv b1, iv (0 : Int32)]) rfl (XS.iloadN X7.here hx rfl (hb hby d11_10) rfl (XS.iconst X7.here hx rfl (hb hby d11_11) k))))) ?_
  show own_Go p e below s _ _ _ (T7.setTop (mkF m 12 #[rv wy, rv a2, rv b1, iv (0 : Int32)] [(.int (1 : Int32)), (.int (0 : Int32))]))
  refine own_go (fun _ k => XS.iadd X7.here hx rfl (hb hby d11_12) rfl (XS.aloadN X7.here hx rfl (hb hby d11_13) rfl rfl k)) ?_
  obtain ⟨v14, T14, L14, X14, hQ14, st14⟩ := own_callF (xi := own_y23) (y := own_y8) X7 hx hZ hown (ow69 hw) (ow70 hw) (ow71 hw) (ow72 hw) (ow73 hw) (ow74 hw) (ow75 hw) (ow76 hw) (ow40 hw) (ow77 hw) (by decide) (rm_alsize l Z a0 hw hO [] a2 (0 : Int32) T7.heap O0 (fp1.keep K0 nin0)) 1 0 0 (by show _ ≤ 1; omega) (by show _ ≤ 3; omega) (rfl : T7.heap = T7.heap) (fp0.keep K0) (g := (mkF m 14 #[rv wy, rv a2, rv b1, iv (0 : Int32)] [(.ref a2), (.int (1 : Int32))])) rfl (by rw [hml]; rfl) [] [(.int (1 : Int32))] (lenOf own_pd_8 rfl) rfl rfl (hb hby d11_14)
  obtain ⟨rfl, Nc16, Kc15⟩ := hQ14
  refine own_go st14 ?_
  clear st14 X7
  replace N0 := Fr.app N0 Nc16
  clear Nc16
  refine own_go (fun _ k => XS.icmpYes X14.here hx rfl (pc0 := 19) (pc' := 87) rfl (hb hby d11_19) rfl (flt (by decide : ¬ ((1 : Int32) < (0 : Int32)))).2.1 (by decide) (by decide) (XS.aloadN X14.here hx rfl (hb hby d11_87) rfl rfl k)) ?_
  show own_Go p e below s _ _ _ (T14.setTop (mkF m 88 #[rv wy, rv a2, rv b1, iv (0 : Int32)] [(.ref b1)]))
  refine own_retA X14 hx hlk Kc15 hret rfl rfl (hb hby d11_88) (by show _ ≤ 1; omega) (by show _ ≤ 3; omega) ?_
  exact ⟨b1, rfl, N0, K0, sz3, f8, f9⟩
def Q_annx1 (Z : State) (zc : Int32) (wd : Addr) (kd : ClassId) (wx : Addr) (wy : Addr) (wsp : Addr) (wspv : Addr) (wspk : ClassId) (a2 : Addr) (mc : Int32) (b : Addr) (k : ClassId) (el1 : Addr) (pp1 : Int32) (h0 : Heap) (v : Option Value) (h : Heap) (L : List Loc) : Prop := (∃ c : Addr, v = some (.ref c) ∧ Fr Z.heap.size L ∧ Keep h0 h [] ∧ h0.size ≤ c ∧ Exa Z h c "java/util/ArrayList" ∧ Fld Z h c "java/util/ArrayList" "size" "I" (.int (0 : Int32)))
theorem ef_annx1 (m : MethodId) (x0 : Addr) (x1 : Addr) : entryFrame m #[(.ref x0), (.ref x1)] 4 = mkF m 0 #[rv x0, rv x1, .unset, .unset] [] := by first | (simp [entryFrame, mkF, argsToLocals, Value.category]; done) | rfl
set_option maxRecDepth 65536 in
set_option maxHeartbeats 40000000 in
theorem rm_annx1 (l : Launch) (Z : State) (a0 : Array Value) (hw : own_W Z a0) {zc : Int32} {wd : Addr} {kd : ClassId} {wx : Addr} {wy : Addr} {wsp : Addr} {wspv : Addr} {wspk : ClassId} (hO : own_Olds Z zc wd kd wx wy wsp wspv wspk) (ws : List Jvm.Cond) (a2 : Addr) (mc : Int32) (b : Addr) (k : ClassId) (el1 : Addr) (pp1 : Int32) (h0 : Heap) (O0 : Ext Z.heap h0) (fp0 : Exa Z h0 a2 "java/util/ArrayList") (fp1 : Fld Z h0 a2 "java/util/ArrayList" "size" "I" (.int (1 : Int32))) (fp2 : Fld Z h0 a2 "java/util/ArrayList" "elementData" "[Ljava/lang/Object;" (.ref b)) (fp3 : Fld Z h0 a2 "java/util/AbstractList" "modCount" "I" (.int mc)) (fp4 : Arv Z h0 b k (.object "java/lang/Object") (10 : Int32) [(.ref el1), .null, .null, .null, .null, .null, .null, .null, .null, .null] .null) (fp5 : Exa Z h0 el1 "java/lang/String") (fp6 : own_NS Z h0 el1 (own_Sp pp1)) :
    own_MF l Z h0 own_y24 prog_5_method_10_code 4 (some (.object "java/util/List")) ({ frames := 4, cells := 1, slots := 3, locals := 49 } : Room) #[(.ref wx), (.ref a2)] (Q_annx1 Z zc wd kd wx wy wsp wspv wspk a2 mc b k el1 pp1 h0) ws := by
  refine own_met (Q := (Q_annx1 Z zc wd kd wx wy wsp wspv wspk a2 mc b k el1 pp1 h0)) _ _ (plainFor_of_name own_pn_7) ?_
  intro p e s m below meth c T X0 hx hby hml hret hlk hZ hown hnm e0
  replace hown : s.vm.findClass "com/example/padlock/padlock/lock/Access" = some m.cls := hown
  replace hnm : meth.name = "announced" := hnm
  have hml : c.maxLocals = 4 := hml
  obtain ⟨oCS, oCz, oDE, oDV, oEx, oSh, oE1, oE2, oPF, oSPE, oSPC, oSPF, oSPV, oNe⟩ := id hO
  have N0 := Fr.nil Z.heap.size
  have K0 := Keep.refl h0 []
  refine own_go (fun _ k => castTop (ef_annx1 m wx a2) k) ?_
  show own_Go p e below s _ _ _ (T.setTop (mkF m 0 #[rv wx, rv a2, .unset, .unset] []))
  obtain ⟨T1, h1, X1, e1, E1, A1, D1, -, st1⟩ := newO X0 hx hZ hown (ow67 hw) (ow39 hw) (ow40 hw) e0 (g := (mkF m 0 #[rv wx, rv a2, .unset, .unset] [])) rfl (hb hby d11_0) (by show _ ≤ 1; omega) (by show _ ≤ 3; omega)
  obtain ⟨b1, g1⟩ : ∃ z, z = h0.size := ⟨_, rfl⟩
  rw [← g1] at A1 D1 st1
  refine own_go st1 ?_
  clear st1 X0 e0
  have ge1 := Nat.le_of_eq g1.symm
  have big2 : Z.heap.size ≤ b1 := Nat.le_trans O0.1 ge1
  have sz3 : h0.size ≤ b1 := Nat.le_trans K0.1 ge1
  replace O0 := own_oldExt O0 E1
  replace K0 := K0.ext E1
  clear E1
  have f4 : Fld Z h1 b1 "java/util/AbstractList" "modCount" "I" (.int (0 : Int32)) := D1 (Or.inl (ow58 hw)) (ty := .int) own_fd0
  have f5 : Fld Z h1 b1 "java/util/ArrayList" "elementData" "[Ljava/lang/Object;" .null := D1 (Or.inl (ow61 hw)) (ty := (.array (.object "java/lang/Object"))) own_fd1
  have f6 : Fld Z h1 b1 "java/util/ArrayList" "size" "I" (.int (0 : Int32)) := D1 (Or.inl (ow79 hw)) (ty := .int) own_fd0
  refine own_go (fun _ k => XS.dup X1.here hx rfl (hb hby d11_3) rfl rfl k) ?_
  obtain ⟨v7, T7, L7, X7, hQ7, st7⟩ := own_callI (y := own_y2) X1 hx hZ hown (ow68 hw) (ow42 hw) (ow40 hw) (ow43 hw) (rm_alinit l Z a0 hw hO [] b1 h1 O0 A1 f6 f5 f4 big2) 1 0 0 rfl (by show _ ≤ 1; omega) (by show _ ≤ 3; omega) e1 (g := (mkF m 4 #[rv wx, rv a2, .unset, .unset] [(.ref b1), (.ref b1)])) rfl (by rw [hml]; rfl) b1 [] [(.ref b1)] (lenOf own_pd_0 rfl) rfl rfl (hb hby d11_4)
  obtain ⟨rfl, Nc13, Kc12, f8, f9, f10, f11⟩ := hQ7
  refine own_go st7 ?_
  clear st7 X1 e1
  replace N0 := Fr.app N0 Nc13
  clear Nc13
  replace A1 := A1.keep Kc12
  clear f4
  clear f5
  clear f6
  replace O0 := own_oldKeep O0 Kc12 (allS big2 all0)
  replace K0 := K0.trans Kc12 (allS (Or.inr sz3) all0)
  clear Kc12
  refine own_go (fun _ k => XS.astoreN X7.here hx rfl (hb hby d11_7) rfl rfl (l' := #[rv wx, rv a2, rv b1, .unset]) rfl (XS.iconst X7.here hx rfl (hb hby d11_8) (XS.istoreN X7.here hx rfl (hb hby d11_9) rfl (l' := #[rv wx, rv a2, rv b1, iv (0 : Int32)]) rfl (XS.iloadN X7.here hx rfl (hb hby d11_10) rfl (XS.iconst X7.here hx rfl (hb hby d11_11) k))))) ?_
  show own_Go p e below s _ _ _ (T7.setTop (mkF m 12 #[rv wx, rv a2, rv b1, iv (0 : Int32)] [(.int (1 : Int32)), (.int (0 : Int32))]))
  refine own_go (fun _ k => XS.iadd X7.here hx rfl (hb hby d11_12) rfl (XS.aloadN X7.here hx rfl (hb hby d11_13) rfl rfl k)) ?_
  obtain ⟨v14, T14, L14, X14, hQ14, st14⟩ := own_callF (xi := own_y23) (y := own_y8) X7 hx hZ hown (ow69 hw) (ow70 hw) (ow71 hw) (ow72 hw) (ow73 hw) (ow74 hw) (ow75 hw) (ow76 hw) (ow40 hw) (ow77 hw) (by decide) (rm_alsize l Z a0 hw hO [] a2 (1 : Int32) T7.heap O0 (fp1.keep K0 nin0)) 1 0 0 (by show _ ≤ 1; omega) (by show _ ≤ 3; omega) (rfl : T7.heap = T7.heap) (fp0.keep K0) (g := (mkF m 14 #[rv wx, rv a2, rv b1, iv (0 : Int32)] [(.ref a2), (.int (1 : Int32))])) rfl (by rw [hml]; rfl) [] [(.int (1 : Int32))] (lenOf own_pd_8 rfl) rfl rfl (hb hby d11_14)
  obtain ⟨rfl, Nc16, Kc15⟩ := hQ14
  refine own_go st14 ?_
  clear st14 X7
  replace N0 := Fr.app N0 Nc16
  clear Nc16
  refine own_go (fun _ k => XS.icmpYes X14.here hx rfl (pc0 := 19) (pc' := 87) rfl (hb hby d11_19) rfl (flt (by decide : ¬ ((1 : Int32) < (1 : Int32)))).2.1 (by decide) (by decide) (XS.aloadN X14.here hx rfl (hb hby d11_87) rfl rfl k)) ?_
  show own_Go p e below s _ _ _ (T14.setTop (mkF m 88 #[rv wx, rv a2, rv b1, iv (0 : Int32)] [(.ref b1)]))
  refine own_retA X14 hx hlk Kc15 hret rfl rfl (hb hby d11_88) (by show _ ≤ 1; omega) (by show _ ≤ 3; omega) ?_
  exact ⟨b1, rfl, N0, K0, sz3, f8, f9⟩
def Q_anny1 (Z : State) (zc : Int32) (wd : Addr) (kd : ClassId) (wx : Addr) (wy : Addr) (wsp : Addr) (wspv : Addr) (wspk : ClassId) (a2 : Addr) (mc : Int32) (b : Addr) (k : ClassId) (el1 : Addr) (pp1 : Int32) (h0 : Heap) (v : Option Value) (h : Heap) (L : List Loc) : Prop := (∃ c : Addr, v = some (.ref c) ∧ Fr Z.heap.size L ∧ Keep h0 h [] ∧ h0.size ≤ c ∧ Exa Z h c "java/util/ArrayList" ∧ Fld Z h c "java/util/ArrayList" "size" "I" (.int (0 : Int32)))
theorem ef_anny1 (m : MethodId) (x0 : Addr) (x1 : Addr) : entryFrame m #[(.ref x0), (.ref x1)] 4 = mkF m 0 #[rv x0, rv x1, .unset, .unset] [] := by first | (simp [entryFrame, mkF, argsToLocals, Value.category]; done) | rfl
set_option maxRecDepth 65536 in
set_option maxHeartbeats 40000000 in
theorem rm_anny1 (l : Launch) (Z : State) (a0 : Array Value) (hw : own_W Z a0) {zc : Int32} {wd : Addr} {kd : ClassId} {wx : Addr} {wy : Addr} {wsp : Addr} {wspv : Addr} {wspk : ClassId} (hO : own_Olds Z zc wd kd wx wy wsp wspv wspk) (ws : List Jvm.Cond) (a2 : Addr) (mc : Int32) (b : Addr) (k : ClassId) (el1 : Addr) (pp1 : Int32) (h0 : Heap) (O0 : Ext Z.heap h0) (fp0 : Exa Z h0 a2 "java/util/ArrayList") (fp1 : Fld Z h0 a2 "java/util/ArrayList" "size" "I" (.int (1 : Int32))) (fp2 : Fld Z h0 a2 "java/util/ArrayList" "elementData" "[Ljava/lang/Object;" (.ref b)) (fp3 : Fld Z h0 a2 "java/util/AbstractList" "modCount" "I" (.int mc)) (fp4 : Arv Z h0 b k (.object "java/lang/Object") (10 : Int32) [(.ref el1), .null, .null, .null, .null, .null, .null, .null, .null, .null] .null) (fp5 : Exa Z h0 el1 "java/lang/String") (fp6 : own_NS Z h0 el1 (own_Sp pp1)) :
    own_MF l Z h0 own_y24 prog_5_method_10_code 4 (some (.object "java/util/List")) ({ frames := 4, cells := 1, slots := 3, locals := 49 } : Room) #[(.ref wy), (.ref a2)] (Q_anny1 Z zc wd kd wx wy wsp wspv wspk a2 mc b k el1 pp1 h0) ws := by
  refine own_met (Q := (Q_anny1 Z zc wd kd wx wy wsp wspv wspk a2 mc b k el1 pp1 h0)) _ _ (plainFor_of_name own_pn_7) ?_
  intro p e s m below meth c T X0 hx hby hml hret hlk hZ hown hnm e0
  replace hown : s.vm.findClass "com/example/padlock/padlock/lock/Access" = some m.cls := hown
  replace hnm : meth.name = "announced" := hnm
  have hml : c.maxLocals = 4 := hml
  obtain ⟨oCS, oCz, oDE, oDV, oEx, oSh, oE1, oE2, oPF, oSPE, oSPC, oSPF, oSPV, oNe⟩ := id hO
  have N0 := Fr.nil Z.heap.size
  have K0 := Keep.refl h0 []
  refine own_go (fun _ k => castTop (ef_anny1 m wy a2) k) ?_
  show own_Go p e below s _ _ _ (T.setTop (mkF m 0 #[rv wy, rv a2, .unset, .unset] []))
  obtain ⟨T1, h1, X1, e1, E1, A1, D1, -, st1⟩ := newO X0 hx hZ hown (ow67 hw) (ow39 hw) (ow40 hw) e0 (g := (mkF m 0 #[rv wy, rv a2, .unset, .unset] [])) rfl (hb hby d11_0) (by show _ ≤ 1; omega) (by show _ ≤ 3; omega)
  obtain ⟨b1, g1⟩ : ∃ z, z = h0.size := ⟨_, rfl⟩
  rw [← g1] at A1 D1 st1
  refine own_go st1 ?_
  clear st1 X0 e0
  have ge1 := Nat.le_of_eq g1.symm
  have big2 : Z.heap.size ≤ b1 := Nat.le_trans O0.1 ge1
  have sz3 : h0.size ≤ b1 := Nat.le_trans K0.1 ge1
  replace O0 := own_oldExt O0 E1
  replace K0 := K0.ext E1
  clear E1
  have f4 : Fld Z h1 b1 "java/util/AbstractList" "modCount" "I" (.int (0 : Int32)) := D1 (Or.inl (ow58 hw)) (ty := .int) own_fd0
  have f5 : Fld Z h1 b1 "java/util/ArrayList" "elementData" "[Ljava/lang/Object;" .null := D1 (Or.inl (ow61 hw)) (ty := (.array (.object "java/lang/Object"))) own_fd1
  have f6 : Fld Z h1 b1 "java/util/ArrayList" "size" "I" (.int (0 : Int32)) := D1 (Or.inl (ow79 hw)) (ty := .int) own_fd0
  refine own_go (fun _ k => XS.dup X1.here hx rfl (hb hby d11_3) rfl rfl k) ?_
  obtain ⟨v7, T7, L7, X7, hQ7, st7⟩ := own_callI (y := own_y2) X1 hx hZ hown (ow68 hw) (ow42 hw) (ow40 hw) (ow43 hw) (rm_alinit l Z a0 hw hO [] b1 h1 O0 A1 f6 f5 f4 big2) 1 0 0 rfl (by show _ ≤ 1; omega) (by show _ ≤ 3; omega) e1 (g := (mkF m 4 #[rv wy, rv a2, .unset, .unset] [(.ref b1), (.ref b1)])) rfl (by rw [hml]; rfl) b1 [] [(.ref b1)] (lenOf own_pd_0 rfl) rfl rfl (hb hby d11_4)
  obtain ⟨rfl, Nc13, Kc12, f8, f9, f10, f11⟩ := hQ7
  refine own_go st7 ?_
  clear st7 X1 e1
  replace N0 := Fr.app N0 Nc13
  clear Nc13
  replace A1 := A1.keep Kc12
  clear f4
  clear f5
  clear f6
  replace O0 := own_oldKeep O0 Kc12 (allS big2 all0)
  replace K0 := K0.trans Kc12 (allS (Or.inr sz3) all0)
  clear Kc12
  refine own_go (fun _ k => XS.astoreN X7.here hx rfl (hb hby d11_7) rfl rfl (l' := #[rv wy, rv a2, rv b1, .unset]) rfl (XS.iconst X7.here hx rfl (hb hby d11_8) (XS.istoreN X7.here hx rfl (hb hby d11_9) rfl (l' := #[rv wy, rv a2, rv b1, iv (0 : Int32)]) rfl (XS.iloadN X7.here hx rfl (hb hby d11_10) rfl (XS.iconst X7.here hx rfl (hb hby d11_11) k))))) ?_
  show own_Go p e below s _ _ _ (T7.setTop (mkF m 12 #[rv wy, rv a2, rv b1, iv (0 : Int32)] [(.int (1 : Int32)), (.int (0 : Int32))]))
  refine own_go (fun _ k => XS.iadd X7.here hx rfl (hb hby d11_12) rfl (XS.aloadN X7.here hx rfl (hb hby d11_13) rfl rfl k)) ?_
  obtain ⟨v14, T14, L14, X14, hQ14, st14⟩ := own_callF (xi := own_y23) (y := own_y8) X7 hx hZ hown (ow69 hw) (ow70 hw) (ow71 hw) (ow72 hw) (ow73 hw) (ow74 hw) (ow75 hw) (ow76 hw) (ow40 hw) (ow77 hw) (by decide) (rm_alsize l Z a0 hw hO [] a2 (1 : Int32) T7.heap O0 (fp1.keep K0 nin0)) 1 0 0 (by show _ ≤ 1; omega) (by show _ ≤ 3; omega) (rfl : T7.heap = T7.heap) (fp0.keep K0) (g := (mkF m 14 #[rv wy, rv a2, rv b1, iv (0 : Int32)] [(.ref a2), (.int (1 : Int32))])) rfl (by rw [hml]; rfl) [] [(.int (1 : Int32))] (lenOf own_pd_8 rfl) rfl rfl (hb hby d11_14)
  obtain ⟨rfl, Nc16, Kc15⟩ := hQ14
  refine own_go st14 ?_
  clear st14 X7
  replace N0 := Fr.app N0 Nc16
  clear Nc16
  refine own_go (fun _ k => XS.icmpYes X14.here hx rfl (pc0 := 19) (pc' := 87) rfl (hb hby d11_19) rfl (flt (by decide : ¬ ((1 : Int32) < (1 : Int32)))).2.1 (by decide) (by decide) (XS.aloadN X14.here hx rfl (hb hby d11_87) rfl rfl k)) ?_
  show own_Go p e below s _ _ _ (T14.setTop (mkF m 88 #[rv wy, rv a2, rv b1, iv (0 : Int32)] [(.ref b1)]))
  refine own_retA X14 hx hlk Kc15 hret rfl rfl (hb hby d11_88) (by show _ ≤ 1; omega) (by show _ ≤ 3; omega) ?_
  exact ⟨b1, rfl, N0, K0, sz3, f8, f9⟩
theorem d11_22 : decode prog_5_method_10_code 22 = .ok (.aload_n 0, 1) := by decide +kernel
theorem d11_23 : decode prog_5_method_10_code 23 = .ok (.aload_n 1, 1) := by decide +kernel
theorem d11_24 : decode prog_5_method_10_code 24 = .ok (.iload_n 3, 1) := by decide +kernel
theorem d11_25 : decode prog_5_method_10_code 25 = .ok (.invokeinterface 70 2, 5) := by decide +kernel
theorem d11_30 : decode prog_5_method_10_code 30 = .ok (.checkcast 37, 3) := by decide +kernel
theorem d11_33 : decode prog_5_method_10_code 33 = .ok (.invokestatic 80, 3) := by decide +kernel
theorem d11_36 : decode prog_5_method_10_code 36 = .ok (.invokevirtual 84, 3) := by decide +kernel
theorem d11_39 : decode prog_5_method_10_code 39 = .ok (.ifCond .ne 48, 3) := by decide +kernel
def Q_annx2 (Z : State) (zc : Int32) (wd : Addr) (kd : ClassId) (wx : Addr) (wy : Addr) (wsp : Addr) (wspv : Addr) (wspk : ClassId) (a2 : Addr) (mc : Int32) (b : Addr) (k : ClassId) (el1 : Addr) (el2 : Addr) (pp1 : Int32) (pp2 : Int32) (h0 : Heap) (v : Option Value) (h : Heap) (L : List Loc) : Prop := (∃ c : Addr, v = some (.ref c) ∧ Fr Z.heap.size L ∧ Keep h0 h [] ∧ h0.size ≤ c ∧ Exa Z h c "java/util/ArrayList" ∧ Fld Z h c "java/util/ArrayList" "size" "I" (.int (0 : Int32)))
theorem ef_annx2 (m : MethodId) (x0 : Addr) (x1 : Addr) : entryFrame m #[(.ref x0), (.ref x1)] 4 = mkF m 0 #[rv x0, rv x1, .unset, .unset] [] := by first | (simp [entryFrame, mkF, argsToLocals, Value.category]; done) | rfl
set_option maxRecDepth 65536 in
set_option maxHeartbeats 40000000 in
theorem rm_annx2 (l : Launch) (Z : State) (a0 : Array Value) (hw : own_W Z a0) {zc : Int32} {wd : Addr} {kd : ClassId} {wx : Addr} {wy : Addr} {wsp : Addr} {wspv : Addr} {wspk : ClassId} (hO : own_Olds Z zc wd kd wx wy wsp wspv wspk) (ws : List Jvm.Cond) (a2 : Addr) (mc : Int32) (b : Addr) (k : ClassId) (el1 : Addr) (el2 : Addr) (pp1 : Int32) (pp2 : Int32) (h0 : Heap) (O0 : Ext Z.heap h0) (fp0 : Exa Z h0 a2 "java/util/ArrayList") (fp1 : Fld Z h0 a2 "java/util/ArrayList" "size" "I" (.int (2 : Int32))) (fp2 : Fld Z h0 a2 "java/util/ArrayList" "elementData" "[Ljava/lang/Object;" (.ref b)) (fp3 : Fld Z h0 a2 "java/util/AbstractList" "modCount" "I" (.int mc)) (fp4 : Arv Z h0 b k (.object "java/lang/Object") (10 : Int32) [(.ref el1), (.ref el2), .null, .null, .null, .null, .null, .null, .null, .null] .null) (fp5 : Exa Z h0 el1 "java/lang/String") (fp6 : Exa Z h0 el2 "java/lang/String") (fp7 : own_NS Z h0 el1 (own_Sp pp1)) (fp8 : own_NS Z h0 el2 (own_Sp pp2)) :
    own_MF l Z h0 own_y24 prog_5_method_10_code 4 (some (.object "java/util/List")) ({ frames := 5, cells := 1, slots := 3, locals := 72 } : Room) #[(.ref wx), (.ref a2)] (Q_annx2 Z zc wd kd wx wy wsp wspv wspk a2 mc b k el1 el2 pp1 pp2 h0) ws := by
  refine own_met (Q := (Q_annx2 Z zc wd kd wx wy wsp wspv wspk a2 mc b k el1 el2 pp1 pp2 h0)) _ _ (plainFor_of_name own_pn_7) ?_
  intro p e s m below meth c T X0 hx hby hml hret hlk hZ hown hnm e0
  replace hown : s.vm.findClass "com/example/padlock/padlock/lock/Access" = some m.cls := hown
  replace hnm : meth.name = "announced" := hnm
  have hml : c.maxLocals = 4 := hml
  obtain ⟨oCS, oCz, oDE, oDV, oEx, oSh, oE1, oE2, oPF, oSPE, oSPC, oSPF, oSPV, oNe⟩ := id hO
  have N0 := Fr.nil Z.heap.size
  have K0 := Keep.refl h0 []
  refine own_go (fun _ k => castTop (ef_annx2 m wx a2) k) ?_
  show own_Go p e below s _ _ _ (T.setTop (mkF m 0 #[rv wx, rv a2, .unset, .unset] []))
  obtain ⟨T1, h1, X1, e1, E1, A1, D1, -, st1⟩ := newO X0 hx hZ hown (ow67 hw) (ow39 hw) (ow40 hw) e0 (g := (mkF m 0 #[rv wx, rv a2, .unset, .unset] [])) rfl (hb hby d11_0) (by show _ ≤ 1; omega) (by show _ ≤ 3; omega)
  obtain ⟨b1, g1⟩ : ∃ z, z = h0.size := ⟨_, rfl⟩
  rw [← g1] at A1 D1 st1
  refine own_go st1 ?_
  clear st1 X0 e0
  have ge1 := Nat.le_of_eq g1.symm
  have big2 : Z.heap.size ≤ b1 := Nat.le_trans O0.1 ge1
  have sz3 : h0.size ≤ b1 := Nat.le_trans K0.1 ge1
  replace O0 := own_oldExt O0 E1
  replace K0 := K0.ext E1
  clear E1
  have f4 : Fld Z h1 b1 "java/util/AbstractList" "modCount" "I" (.int (0 : Int32)) := D1 (Or.inl (ow58 hw)) (ty := .int) own_fd0
  have f5 : Fld Z h1 b1 "java/util/ArrayList" "elementData" "[Ljava/lang/Object;" .null := D1 (Or.inl (ow61 hw)) (ty := (.array (.object "java/lang/Object"))) own_fd1
  have f6 : Fld Z h1 b1 "java/util/ArrayList" "size" "I" (.int (0 : Int32)) := D1 (Or.inl (ow79 hw)) (ty := .int) own_fd0
  refine own_go (fun _ k => XS.dup X1.here hx rfl (hb hby d11_3) rfl rfl k) ?_
  obtain ⟨v7, T7, L7, X7, hQ7, st7⟩ := own_callI (y := own_y2) X1 hx hZ hown (ow68 hw) (ow42 hw) (ow40 hw) (ow43 hw) (rm_alinit l Z a0 hw hO [] b1 h1 O0 A1 f6 f5 f4 big2) 1 0 0 rfl (by show _ ≤ 1; omega) (by show _ ≤ 3; omega) e1 (g := (mkF m 4 #[rv wx, rv a2, .unset, .unset] [(.ref b1), (.ref b1)])) rfl (by rw [hml]; rfl) b1 [] [(.ref b1)] (lenOf own_pd_0 rfl) rfl rfl (hb hby d11_4)
  obtain ⟨rfl, Nc13, Kc12, f8, f9, f10, f11⟩ := hQ7
  refine own_go st7 ?_
  clear st7 X1 e1
  replace N0 := Fr.app N0 Nc13
  clear Nc13
  replace A1 := A1.keep Kc12
  clear f4
  clear f5
  clear f6
  replace O0 := own_oldKeep O0 Kc12 (allS big2 all0)
  replace K0 := K0.trans Kc12 (allS (Or.inr sz3) all0)
  clear Kc12
  refine own_go (fun _ k => XS.astoreN X7.here hx rfl (hb hby d11_7) rfl rfl (l' := #[rv wx, rv a2, rv b1, .unset]) rfl (XS.iconst X7.here hx rfl (hb hby d11_8) (XS.istoreN X7.here hx rfl (hb hby d11_9) rfl (l' := #[rv wx, rv a2, rv b1, iv (0 : Int32)]) rfl (XS.iloadN X7.here hx rfl (hb hby d11_10) rfl (XS.iconst X7.here hx rfl (hb hby d11_11) k))))) ?_
  show own_Go p e below s _ _ _ (T7.setTop (mkF m 12 #[rv wx, rv a2, rv b1, iv (0 : Int32)] [(.int (1 : Int32)), (.int (0 : Int32))]))
  refine own_go (fun _ k => XS.iadd X7.here hx rfl (hb hby d11_12) rfl (XS.aloadN X7.here hx rfl (hb hby d11_13) rfl rfl k)) ?_
  obtain ⟨v14, T14, L14, X14, hQ14, st14⟩ := own_callF (xi := own_y23) (y := own_y8) X7 hx hZ hown (ow69 hw) (ow70 hw) (ow71 hw) (ow72 hw) (ow73 hw) (ow74 hw) (ow75 hw) (ow76 hw) (ow40 hw) (ow77 hw) (by decide) (rm_alsize l Z a0 hw hO [] a2 (2 : Int32) T7.heap O0 (fp1.keep K0 nin0)) 1 0 0 (by show _ ≤ 1; omega) (by show _ ≤ 3; omega) (rfl : T7.heap = T7.heap) (fp0.keep K0) (g := (mkF m 14 #[rv wx, rv a2, rv b1, iv (0 : Int32)] [(.ref a2), (.int (1 : Int32))])) rfl (by rw [hml]; rfl) [] [(.int (1 : Int32))] (lenOf own_pd_8 rfl) rfl rfl (hb hby d11_14)
  obtain ⟨rfl, Nc16, Kc15⟩ := hQ14
  refine own_go st14 ?_
  clear st14 X7
  replace N0 := Fr.app N0 Nc16
  clear Nc16
  refine own_go (fun _ k => XS.icmpNo X14.here hx rfl (hb hby d11_19) rfl (tlt (by decide : (1 : Int32) < (2 : Int32))).2.1 (XS.aloadN X14.here hx rfl (hb hby d11_22) rfl rfl (XS.aloadN X14.here hx rfl (hb hby d11_23) rfl rfl (XS.iloadN X14.here hx rfl (hb hby d11_24) rfl k)))) ?_
  obtain ⟨v17, T17, L17, X17, hQ17, st17⟩ := own_callF (xi := own_y25) (y := own_y12) X14 hx hZ hown (ow116 hw) (ow117 hw) (ow118 hw) (ow119 hw) (ow120 hw) (ow121 hw) (ow122 hw) (ow76 hw) (ow40 hw) (ow123 hw) (by decide) (rm_alget_0 l Z a0 hw hO [] a2 b k el1 (.ref el2) .null .null .null .null .null .null .null .null (2 : Int32) T7.heap O0 (rfl : ((.ref el2) : Value).isRef = true) (rfl : (.null : Value).isRef = true) (rfl : (.null : Value).isRef = true) (rfl : (.null : Value).isRef = true) (rfl : (.null : Value).isRef = true) (rfl : (.null : Value).isRef = true) (rfl : (.null : Value).isRef = true) (rfl : (.null : Value).isRef = true) (rfl : (.null : Value).isRef = true) (fp0.keep K0) (fp2.keep K0 nin0) (fp4.keep K0 nin0) (fp1.keep K0 nin0) (by decide : (0 : Int32) < (2 : Int32))) 1 0 0 (by show _ ≤ 1; omega) (by show _ ≤ 3; omega) Kc15 (fp0.keep K0) (g := (mkF m 25 #[rv wx, rv a2, rv b1, iv (0 : Int32)] [(.int (0 : Int32)), (.ref a2), (.ref wx)])) rfl (by rw [hml]; rfl) [(.int (0 : Int32))] [(.ref wx)] (lenOf own_pd_6 rfl) rfl rfl (hb hby d11_25)
  obtain ⟨rfl, Nc19, Kc18⟩ := hQ17
  refine own_go st17 ?_
  clear st17 X14 Kc15
  replace N0 := Fr.app N0 Nc19
  clear Nc19
  show own_Go p e below s _ _ _ (T17.setTop (mkF m 30 #[rv wx, rv a2, rv b1, iv (0 : Int32)] [(.ref el1), (.ref wx)]))
  obtain ⟨T20, X20, e20, st20⟩ := castY X17 hx hZ hown (ow137 hw) Kc18 (Ins.self (fp5.keep K0)) (g := (mkF m 30 #[rv wx, rv a2, rv b1, iv (0 : Int32)] [(.ref el1), (.ref wx)])) rfl rfl (hb hby d11_30)
  refine own_go st20 ?_
  clear st20 X17 Kc18
  obtain ⟨v21, T21, L21, X21, hQ21, st21⟩ := own_callS (y := own_y18) X20 hx hZ hown (ow138 hw) (ow139 hw) (ow2 hw) (ow140 hw) (rm_ofn l Z a0 hw hO [] el1 pp1 T7.heap O0 (fp5.keep K0) (own_NSkeep fp7 fp5 K0 all0)) 1 0 0 (by show _ ≤ 1; omega) (by show _ ≤ 3; omega) e20 (g := (mkF m 33 #[rv wx, rv a2, rv b1, iv (0 : Int32)] [(.ref el1), (.ref wx)])) rfl (by rw [hml]; rfl) [(.ref el1)] [(.ref wx)] (lenOf own_pd_13 rfl) rfl rfl (hb hby d11_33)
  rcases hQ21 with hQ21 | hQ21
  · obtain ⟨rfl, Nc24, hp22, Kc23⟩ := hQ21
    refine own_go st21 ?_
    clear st21 X20 e20
    replace N0 := Fr.app N0 Nc24
    clear Nc24
    show own_Go p e below s _ _ _ (T21.setTop (mkF m 36 #[rv wx, rv a2, rv b1, iv (0 : Int32)] [(.ref wy), (.ref wx)]))
    obtain ⟨v25, T25, L25, X25, hQ25, st25⟩ := own_callV (y := own_y19) (z := own_y19) X21 hx hZ hown (ow166 hw) (ow167 hw) (notFace_of_selects (args := #[]) (mvT hZ (ow169 hw))) (ow169 hw) (ow168 hw) (ow2 hw) (ow170 hw) (rm_cfxy l Z a0 hw hO []  T7.heap O0) 0 0 0 (by show _ ≤ 1; omega) (by show _ ≤ 3; omega) Kc23 (oE1.ext O0) (g := (mkF m 36 #[rv wx, rv a2, rv b1, iv (0 : Int32)] [(.ref wy), (.ref wx)])) rfl (by rw [hml]; rfl) [(.ref wy)] [] (lenOf own_pd_14 rfl) rfl rfl (hb hby d11_36)
    obtain ⟨rfl, Nc27, Kc26⟩ := hQ25
    refine own_go st25 ?_
    clear st25 X21 Kc23
    replace N0 := Fr.app N0 Nc27
    clear Nc27
    refine own_go (fun _ k => XS.ifYes X25.here hx rfl (pc0 := 39) (pc' := 87) rfl (hb hby d11_39) rfl ((if0 _ _).trans (feq (by decide : ¬ ((1 : Int32) = (0 : Int32)))).2) (by decide) (by decide) (XS.aloadN X25.here hx rfl (hb hby d11_87) rfl rfl k)) ?_
    show own_Go p e below s _ _ _ (T25.setTop (mkF m 88 #[rv wx, rv a2, rv b1, iv (0 : Int32)] [(.ref b1)]))
    refine own_retA X25 hx hlk Kc26 hret rfl rfl (hb hby d11_88) (by show _ ≤ 1; omega) (by show _ ≤ 3; omega) ?_
    exact ⟨b1, rfl, N0, K0, sz3, f8, f9⟩
  · obtain ⟨rfl, Nc30, hp28, Kc29⟩ := hQ21
    refine own_go st21 ?_
    clear st21 X20 e20
    replace N0 := Fr.app N0 Nc30
    clear Nc30
    show own_Go p e below s _ _ _ (T21.setTop (mkF m 36 #[rv wx, rv a2, rv b1, iv (0 : Int32)] [(.ref wx), (.ref wx)]))
    obtain ⟨v31, T31, L31, X31, hQ31, st31⟩ := own_callV (y := own_y19) (z := own_y19) X21 hx hZ hown (ow166 hw) (ow167 hw) (notFace_of_selects (args := #[]) (mvT hZ (ow169 hw))) (ow169 hw) (ow168 hw) (ow2 hw) (ow170 hw) (rm_cfxx l Z a0 hw hO []  T7.heap O0) 0 0 0 (by show _ ≤ 1; omega) (by show _ ≤ 3; omega) Kc29 (oE1.ext O0) (g := (mkF m 36 #[rv wx, rv a2, rv b1, iv (0 : Int32)] [(.ref wx), (.ref wx)])) rfl (by rw [hml]; rfl) [(.ref wx)] [] (lenOf own_pd_14 rfl) rfl rfl (hb hby d11_36)
    obtain ⟨rfl, Nc33, Kc32⟩ := hQ31
    refine own_go st31 ?_
    clear st31 X21 Kc29
    replace N0 := Fr.app N0 Nc33
    clear Nc33
    refine own_go (fun _ k => XS.ifYes X31.here hx rfl (pc0 := 39) (pc' := 87) rfl (hb hby d11_39) rfl ((if0 _ _).trans (feq (by decide : ¬ ((1 : Int32) = (0 : Int32)))).2) (by decide) (by decide) (XS.aloadN X31.here hx rfl (hb hby d11_87) rfl rfl k)) ?_
    show own_Go p e below s _ _ _ (T31.setTop (mkF m 88 #[rv wx, rv a2, rv b1, iv (0 : Int32)] [(.ref b1)]))
    refine own_retA X31 hx hlk Kc32 hret rfl rfl (hb hby d11_88) (by show _ ≤ 1; omega) (by show _ ≤ 3; omega) ?_
    exact ⟨b1, rfl, N0, K0, sz3, f8, f9⟩
theorem d11_42 : decode prog_5_method_10_code 42 = .ok (.aload_n 0, 1) := by decide +kernel
theorem d11_43 : decode prog_5_method_10_code 43 = .ok (.aload_n 1, 1) := by decide +kernel
theorem d11_44 : decode prog_5_method_10_code 44 = .ok (.iload_n 3, 1) := by decide +kernel
theorem d11_45 : decode prog_5_method_10_code 45 = .ok (.iconst 1, 1) := by decide +kernel
theorem d11_46 : decode prog_5_method_10_code 46 = .ok (.iadd, 1) := by decide +kernel
theorem d11_47 : decode prog_5_method_10_code 47 = .ok (.invokeinterface 70 2, 5) := by decide +kernel
theorem d11_52 : decode prog_5_method_10_code 52 = .ok (.checkcast 37, 3) := by decide +kernel
theorem d11_55 : decode prog_5_method_10_code 55 = .ok (.invokestatic 80, 3) := by decide +kernel
theorem d11_58 : decode prog_5_method_10_code 58 = .ok (.invokevirtual 84, 3) := by decide +kernel
theorem d11_61 : decode prog_5_method_10_code 61 = .ok (.ifCond .ne 20, 3) := by decide +kernel
theorem d11_64 : decode prog_5_method_10_code 64 = .ok (.aload_n 2, 1) := by decide +kernel
theorem d11_65 : decode prog_5_method_10_code 65 = .ok (.aload_n 1, 1) := by decide +kernel
theorem d11_66 : decode prog_5_method_10_code 66 = .ok (.iload_n 3, 1) := by decide +kernel
theorem d11_67 : decode prog_5_method_10_code 67 = .ok (.invokeinterface 70 2, 5) := by decide +kernel
theorem d11_72 : decode prog_5_method_10_code 72 = .ok (.checkcast 37, 3) := by decide +kernel
theorem d11_75 : decode prog_5_method_10_code 75 = .ok (.invokeinterface 96 2, 5) := by decide +kernel
theorem d11_80 : decode prog_5_method_10_code 80 = .ok (.pop, 1) := by decide +kernel
theorem d11_81 : decode prog_5_method_10_code 81 = .ok (.iinc 3 1, 3) := by decide +kernel
theorem d11_84 : decode prog_5_method_10_code 84 = .ok (.goto (-74), 3) := by decide +kernel
def Q_anny2 (Z : State) (zc : Int32) (wd : Addr) (kd : ClassId) (wx : Addr) (wy : Addr) (wsp : Addr) (wspv : Addr) (wspk : ClassId) (a2 : Addr) (mc : Int32) (b : Addr) (k : ClassId) (el1 : Addr) (el2 : Addr) (pp1 : Int32) (pp2 : Int32) (h0 : Heap) (v : Option Value) (h : Heap) (L : List Loc) : Prop := (∃ c : Addr, v = some (.ref c) ∧ Fr Z.heap.size L ∧ ¬ (own_Sp pp1) ∧ Keep h0 h [] ∧ h0.size ≤ c ∧ Exa Z h c "java/util/ArrayList" ∧ Fld Z h c "java/util/ArrayList" "size" "I" (.int (0 : Int32))) ∨ (∃ c : Addr, v = some (.ref c) ∧ Fr Z.heap.size L ∧ own_Sp pp1 ∧ ¬ (own_Sp pp2) ∧ Keep h0 h [] ∧ h0.size ≤ c ∧ Exa Z h c "java/util/ArrayList" ∧ Fld Z h c "java/util/ArrayList" "size" "I" (.int (0 : Int32))) ∨ (∃ c : Addr, ∃ d : Addr, ∃ kd2 : ClassId, v = some (.ref c) ∧ Fr Z.heap.size L ∧ own_Sp pp1 ∧ own_Sp pp2 ∧ Keep h0 h [] ∧ h0.size ≤ c ∧ Exa Z h c "java/util/ArrayList" ∧ Fld Z h c "java/util/ArrayList" "size" "I" (.int (1 : Int32)) ∧ Fld Z h c "java/util/ArrayList" "elementData" "[Ljava/lang/Object;" (.ref d) ∧ Arv Z h d kd2 (.object "java/lang/Object") (10 : Int32) [(.ref el1), .null, .null, .null, .null, .null, .null, .null, .null, .null] .null)
theorem ef_anny2 (m : MethodId) (x0 : Addr) (x1 : Addr) : entryFrame m #[(.ref x0), (.ref x1)] 4 = mkF m 0 #[rv x0, rv x1, .unset, .unset] [] := by first | (simp [entryFrame, mkF, argsToLocals, Value.category]; done) | rfl
set_option maxRecDepth 65536 in
set_option maxHeartbeats 40000000 in
theorem rm_anny2 (l : Launch) (Z : State) (a0 : Array Value) (hw : own_W Z a0) {zc : Int32} {wd : Addr} {kd : ClassId} {wx : Addr} {wy : Addr} {wsp : Addr} {wspv : Addr} {wspk : ClassId} (hO : own_Olds Z zc wd kd wx wy wsp wspv wspk) (ws : List Jvm.Cond) (a2 : Addr) (mc : Int32) (b : Addr) (k : ClassId) (el1 : Addr) (el2 : Addr) (pp1 : Int32) (pp2 : Int32) (h0 : Heap) (O0 : Ext Z.heap h0) (fp0 : Exa Z h0 a2 "java/util/ArrayList") (fp1 : Fld Z h0 a2 "java/util/ArrayList" "size" "I" (.int (2 : Int32))) (fp2 : Fld Z h0 a2 "java/util/ArrayList" "elementData" "[Ljava/lang/Object;" (.ref b)) (fp3 : Fld Z h0 a2 "java/util/AbstractList" "modCount" "I" (.int mc)) (fp4 : Arv Z h0 b k (.object "java/lang/Object") (10 : Int32) [(.ref el1), (.ref el2), .null, .null, .null, .null, .null, .null, .null, .null] .null) (fp5 : Exa Z h0 el1 "java/lang/String") (fp6 : Exa Z h0 el2 "java/lang/String") (fp7 : own_NS Z h0 el1 (own_Sp pp1)) (fp8 : own_NS Z h0 el2 (own_Sp pp2)) :
    own_MF l Z h0 own_y24 prog_5_method_10_code 4 (some (.object "java/util/List")) ({ frames := 5, cells := 2, slots := 13, locals := 72 } : Room) #[(.ref wy), (.ref a2)] (Q_anny2 Z zc wd kd wx wy wsp wspv wspk a2 mc b k el1 el2 pp1 pp2 h0) ws := by
  refine own_met (Q := (Q_anny2 Z zc wd kd wx wy wsp wspv wspk a2 mc b k el1 el2 pp1 pp2 h0)) _ _ (plainFor_of_name own_pn_7) ?_
  intro p e s m below meth c T X0 hx hby hml hret hlk hZ hown hnm e0
  replace hown : s.vm.findClass "com/example/padlock/padlock/lock/Access" = some m.cls := hown
  replace hnm : meth.name = "announced" := hnm
  have hml : c.maxLocals = 4 := hml
  obtain ⟨oCS, oCz, oDE, oDV, oEx, oSh, oE1, oE2, oPF, oSPE, oSPC, oSPF, oSPV, oNe⟩ := id hO
  have N0 := Fr.nil Z.heap.size
  have K0 := Keep.refl h0 []
  refine own_go (fun _ k => castTop (ef_anny2 m wy a2) k) ?_
  show own_Go p e below s _ _ _ (T.setTop (mkF m 0 #[rv wy, rv a2, .unset, .unset] []))
  obtain ⟨T1, h1, X1, e1, E1, A1, D1, -, st1⟩ := newO X0 hx hZ hown (ow67 hw) (ow39 hw) (ow40 hw) e0 (g := (mkF m 0 #[rv wy, rv a2, .unset, .unset] [])) rfl (hb hby d11_0) (by show _ ≤ 2; omega) (by show _ ≤ 13; omega)
  obtain ⟨b1, g1⟩ : ∃ z, z = h0.size := ⟨_, rfl⟩
  rw [← g1] at A1 D1 st1
  refine own_go st1 ?_
  clear st1 X0 e0
  have ge1 := Nat.le_of_eq g1.symm
  have big2 : Z.heap.size ≤ b1 := Nat.le_trans O0.1 ge1
  have sz3 : h0.size ≤ b1 := Nat.le_trans K0.1 ge1
  replace O0 := own_oldExt O0 E1
  replace K0 := K0.ext E1
  clear E1
  have f4 : Fld Z h1 b1 "java/util/AbstractList" "modCount" "I" (.int (0 : Int32)) := D1 (Or.inl (ow58 hw)) (ty := .int) own_fd0
  have f5 : Fld Z h1 b1 "java/util/ArrayList" "elementData" "[Ljava/lang/Object;" .null := D1 (Or.inl (ow61 hw)) (ty := (.array (.object "java/lang/Object"))) own_fd1
  have f6 : Fld Z h1 b1 "java/util/ArrayList" "size" "I" (.int (0 : Int32)) := D1 (Or.inl (ow79 hw)) (ty := .int) own_fd0
  refine own_go (fun _ k => XS.dup X1.here hx rfl (hb hby d11_3) rfl rfl k) ?_
  obtain ⟨v7, T7, L7, X7, hQ7, st7⟩ := own_callI (y := own_y2) X1 hx hZ hown (ow68 hw) (ow42 hw) (ow40 hw) (ow43 hw) (rm_alinit l Z a0 hw hO [] b1 h1 O0 A1 f6 f5 f4 big2) 1 0 0 rfl (by show _ ≤ 2; omega) (by show _ ≤ 13; omega) e1 (g := (mkF m 4 #[rv wy, rv a2, .unset, .unset] [(.ref b1), (.ref b1)])) rfl (by rw [hml]; rfl) b1 [] [(.ref b1)] (lenOf own_pd_0 rfl) rfl rfl (hb hby d11_4)
  obtain ⟨rfl, Nc13, Kc12, f8, f9, f10, f11⟩ := hQ7
  refine own_go st7 ?_
  clear st7 X1 e1
  replace N0 := Fr.app N0 Nc13
  clear Nc13
  replace A1 := A1.keep Kc12
  clear f4
  clear f5
  clear f6
  replace O0 := own_oldKeep O0 Kc12 (allS big2 all0)
  replace K0 := K0.trans Kc12 (allS (Or.inr sz3) all0)
  clear Kc12
  refine own_go (fun _ k => XS.astoreN X7.here hx rfl (hb hby d11_7) rfl rfl (l' := #[rv wy, rv a2, rv b1, .unset]) rfl (XS.iconst X7.here hx rfl (hb hby d11_8) (XS.istoreN X7.here hx rfl (hb hby d11_9) rfl (l' := #[rv wy, rv a2, rv b1, iv (0 : Int32)]) rfl (XS.iloadN X7.here hx rfl (hb hby d11_10) rfl (XS.iconst X7.here hx rfl (hb hby d11_11) k))))) ?_
  show own_Go p e below s _ _ _ (T7.setTop (mkF m 12 #[rv wy, rv a2, rv b1, iv (0 : Int32)] [(.int (1 : Int32)), (.int (0 : Int32))]))
  refine own_go (fun _ k => XS.iadd X7.here hx rfl (hb hby d11_12) rfl (XS.aloadN X7.here hx rfl (hb hby d11_13) rfl rfl k)) ?_
  obtain ⟨v14, T14, L14, X14, hQ14, st14⟩ := own_callF (xi := own_y23) (y := own_y8) X7 hx hZ hown (ow69 hw) (ow70 hw) (ow71 hw) (ow72 hw) (ow73 hw) (ow74 hw) (ow75 hw) (ow76 hw) (ow40 hw) (ow77 hw) (by decide) (rm_alsize l Z a0 hw hO [] a2 (2 : Int32) T7.heap O0 (fp1.keep K0 nin0)) 1 0 0 (by show _ ≤ 2; omega) (by show _ ≤ 13; omega) (rfl : T7.heap = T7.heap) (fp0.keep K0) (g := (mkF m 14 #[rv wy, rv a2, rv b1, iv (0 : Int32)] [(.ref a2), (.int (1 : Int32))])) rfl (by rw [hml]; rfl) [] [(.int (1 : Int32))] (lenOf own_pd_8 rfl) rfl rfl (hb hby d11_14)
  obtain ⟨rfl, Nc16, Kc15⟩ := hQ14
  refine own_go st14 ?_
  clear st14 X7
  replace N0 := Fr.app N0 Nc16
  clear Nc16
  refine own_go (fun _ k => XS.icmpNo X14.here hx rfl (hb hby d11_19) rfl (tlt (by decide : (1 : Int32) < (2 : Int32))).2.1 (XS.aloadN X14.here hx rfl (hb hby d11_22) rfl rfl (XS.aloadN X14.here hx rfl (hb hby d11_23) rfl rfl (XS.iloadN X14.here hx rfl (hb hby d11_24) rfl k)))) ?_
  obtain ⟨v17, T17, L17, X17, hQ17, st17⟩ := own_callF (xi := own_y25) (y := own_y12) X14 hx hZ hown (ow116 hw) (ow117 hw) (ow118 hw) (ow119 hw) (ow120 hw) (ow121 hw) (ow122 hw) (ow76 hw) (ow40 hw) (ow123 hw) (by decide) (rm_alget_0 l Z a0 hw hO [] a2 b k el1 (.ref el2) .null .null .null .null .null .null .null .null (2 : Int32) T7.heap O0 (rfl : ((.ref el2) : Value).isRef = true) (rfl : (.null : Value).isRef = true) (rfl : (.null : Value).isRef = true) (rfl : (.null : Value).isRef = true) (rfl : (.null : Value).isRef = true) (rfl : (.null : Value).isRef = true) (rfl : (.null : Value).isRef = true) (rfl : (.null : Value).isRef = true) (rfl : (.null : Value).isRef = true) (fp0.keep K0) (fp2.keep K0 nin0) (fp4.keep K0 nin0) (fp1.keep K0 nin0) (by decide : (0 : Int32) < (2 : Int32))) 1 0 0 (by show _ ≤ 2; omega) (by show _ ≤ 13; omega) Kc15 (fp0.keep K0) (g := (mkF m 25 #[rv wy, rv a2, rv b1, iv (0 : Int32)] [(.int (0 : Int32)), (.ref a2), (.ref wy)])) rfl (by rw [hml]; rfl) [(.int (0 : Int32))] [(.ref wy)] (lenOf own_pd_6 rfl) rfl rfl (hb hby d11_25)
  obtain ⟨rfl, Nc19, Kc18⟩ := hQ17
  refine own_go st17 ?_
  clear st17 X14 Kc15
  replace N0 := Fr.app N0 Nc19
  clear Nc19
  show own_Go p e below s _ _ _ (T17.setTop (mkF m 30 #[rv wy, rv a2, rv b1, iv (0 : Int32)] [(.ref el1), (.ref wy)]))
  obtain ⟨T20, X20, e20, st20⟩ := castY X17 hx hZ hown (ow137 hw) Kc18 (Ins.self (fp5.keep K0)) (g := (mkF m 30 #[rv wy, rv a2, rv b1, iv (0 : Int32)] [(.ref el1), (.ref wy)])) rfl rfl (hb hby d11_30)
  refine own_go st20 ?_
  clear st20 X17 Kc18
  obtain ⟨v21, T21, L21, X21, hQ21, st21⟩ := own_callS (y := own_y18) X20 hx hZ hown (ow138 hw) (ow139 hw) (ow2 hw) (ow140 hw) (rm_ofn l Z a0 hw hO [] el1 pp1 T7.heap O0 (fp5.keep K0) (own_NSkeep fp7 fp5 K0 all0)) 1 0 0 (by show _ ≤ 2; omega) (by show _ ≤ 13; omega) e20 (g := (mkF m 33 #[rv wy, rv a2, rv b1, iv (0 : Int32)] [(.ref el1), (.ref wy)])) rfl (by rw [hml]; rfl) [(.ref el1)] [(.ref wy)] (lenOf own_pd_13 rfl) rfl rfl (hb hby d11_33)
  rcases hQ21 with hQ21 | hQ21
  · obtain ⟨rfl, Nc24, hp22, Kc23⟩ := hQ21
    refine own_go st21 ?_
    clear st21 X20 e20
    replace N0 := Fr.app N0 Nc24
    clear Nc24
    show own_Go p e below s _ _ _ (T21.setTop (mkF m 36 #[rv wy, rv a2, rv b1, iv (0 : Int32)] [(.ref wy), (.ref wy)]))
    obtain ⟨v25, T25, L25, X25, hQ25, st25⟩ := own_callV (y := own_y19) (z := own_y19) X21 hx hZ hown (ow166 hw) (ow167 hw) (notFace_of_selects (args := #[]) (mvT hZ (ow169 hw))) (ow169 hw) (ow168 hw) (ow2 hw) (ow170 hw) (rm_cfyy l Z a0 hw hO []  T7.heap O0) 0 0 0 (by show _ ≤ 2; omega) (by show _ ≤ 13; omega) Kc23 (oE2.ext O0) (g := (mkF m 36 #[rv wy, rv a2, rv b1, iv (0 : Int32)] [(.ref wy), (.ref wy)])) rfl (by rw [hml]; rfl) [(.ref wy)] [] (lenOf own_pd_14 rfl) rfl rfl (hb hby d11_36)
    obtain ⟨rfl, Nc27, Kc26⟩ := hQ25
    refine own_go st25 ?_
    clear st25 X21 Kc23
    replace N0 := Fr.app N0 Nc27
    clear Nc27
    refine own_go (fun _ k => XS.ifNo X25.here hx rfl (hb hby d11_39) rfl ((if0 _ _).trans (teq (by decide : (0 : Int32) = (0 : Int32))).2) (XS.aloadN X25.here hx rfl (hb hby d11_42) rfl rfl (XS.aloadN X25.here hx rfl (hb hby d11_43) rfl rfl (XS.iloadN X25.here hx rfl (hb hby d11_44) rfl (XS.iconst X25.here hx rfl (hb hby d11_45) (XS.iadd X25.here hx rfl (hb hby d11_46) rfl k)))))) ?_
    obtain ⟨v28, T28, L28, X28, hQ28, st28⟩ := own_callF (xi := own_y25) (y := own_y12) X25 hx hZ hown (ow116 hw) (ow117 hw) (ow118 hw) (ow119 hw) (ow120 hw) (ow121 hw) (ow122 hw) (ow76 hw) (ow40 hw) (ow123 hw) (by decide) (rm_alget_1 l Z a0 hw hO [] a2 b k el1 el2 .null .null .null .null .null .null .null .null (2 : Int32) T7.heap O0 (rfl : (.null : Value).isRef = true) (rfl : (.null : Value).isRef = true) (rfl : (.null : Value).isRef = true) (rfl : (.null : Value).isRef = true) (rfl : (.null : Value).isRef = true) (rfl : (.null : Value).isRef = true) (rfl : (.null : Value).isRef = true) (rfl : (.null : Value).isRef = true) (fp0.keep K0) (fp2.keep K0 nin0) (fp4.keep K0 nin0) (fp1.keep K0 nin0) (by decide : (1 : Int32) < (2 : Int32))) 1 0 0 (by show _ ≤ 2; omega) (by show _ ≤ 13; omega) Kc26 (fp0.keep K0) (g := (mkF m 47 #[rv wy, rv a2, rv b1, iv (0 : Int32)] [(.int (1 : Int32)), (.ref a2), (.ref wy)])) rfl (by rw [hml]; rfl) [(.int (1 : Int32))] [(.ref wy)] (lenOf own_pd_6 rfl) rfl rfl (hb hby d11_47)
    obtain ⟨rfl, Nc30, Kc29⟩ := hQ28
    refine own_go st28 ?_
    clear st28 X25 Kc26
    replace N0 := Fr.app N0 Nc30
    clear Nc30
    show own_Go p e below s _ _ _ (T28.setTop (mkF m 52 #[rv wy, rv a2, rv b1, iv (0 : Int32)] [(.ref el2), (.ref wy)]))
    obtain ⟨T31, X31, e31, st31⟩ := castY X28 hx hZ hown (ow137 hw) Kc29 (Ins.self (fp6.keep K0)) (g := (mkF m 52 #[rv wy, rv a2, rv b1, iv (0 : Int32)] [(.ref el2), (.ref wy)])) rfl rfl (hb hby d11_52)
    refine own_go st31 ?_
    clear st31 X28 Kc29
    obtain ⟨v32, T32, L32, X32, hQ32, st32⟩ := own_callS (y := own_y18) X31 hx hZ hown (ow138 hw) (ow139 hw) (ow2 hw) (ow140 hw) (rm_ofn l Z a0 hw hO [] el2 pp2 T7.heap O0 (fp6.keep K0) (own_NSkeep fp8 fp6 K0 all0)) 1 0 0 (by show _ ≤ 2; omega) (by show _ ≤ 13; omega) e31 (g := (mkF m 55 #[rv wy, rv a2, rv b1, iv (0 : Int32)] [(.ref el2), (.ref wy)])) rfl (by rw [hml]; rfl) [(.ref el2)] [(.ref wy)] (lenOf own_pd_13 rfl) rfl rfl (hb hby d11_55)
    rcases hQ32 with hQ32 | hQ32
    · obtain ⟨rfl, Nc35, hp33, Kc34⟩ := hQ32
      refine own_go st32 ?_
      clear st32 X31 e31
      replace N0 := Fr.app N0 Nc35
      clear Nc35
      show own_Go p e below s _ _ _ (T32.setTop (mkF m 58 #[rv wy, rv a2, rv b1, iv (0 : Int32)] [(.ref wy), (.ref wy)]))
      obtain ⟨v36, T36, L36, X36, hQ36, st36⟩ := own_callV (y := own_y19) (z := own_y19) X32 hx hZ hown (ow166 hw) (ow167 hw) (notFace_of_selects (args := #[]) (mvT hZ (ow169 hw))) (ow169 hw) (ow168 hw) (ow2 hw) (ow170 hw) (rm_cfyy l Z a0 hw hO []  T7.heap O0) 0 0 0 (by show _ ≤ 2; omega) (by show _ ≤ 13; omega) Kc34 (oE2.ext O0) (g := (mkF m 58 #[rv wy, rv a2, rv b1, iv (0 : Int32)] [(.ref wy), (.ref wy)])) rfl (by rw [hml]; rfl) [(.ref wy)] [] (lenOf own_pd_14 rfl) rfl rfl (hb hby d11_58)
      obtain ⟨rfl, Nc38, Kc37⟩ := hQ36
      refine own_go st36 ?_
      clear st36 X32 Kc34
      replace N0 := Fr.app N0 Nc38
      clear Nc38
      refine own_go (fun _ k => XS.ifNo X36.here hx rfl (hb hby d11_61) rfl ((if0 _ _).trans (teq (by decide : (0 : Int32) = (0 : Int32))).2) (XS.aloadN X36.here hx rfl (hb hby d11_64) rfl rfl (XS.aloadN X36.here hx rfl (hb hby d11_65) rfl rfl (XS.iloadN X36.here hx rfl (hb hby d11_66) rfl k)))) ?_
      obtain ⟨v39, T39, L39, X39, hQ39, st39⟩ := own_callF (xi := own_y25) (y := own_y12) X36 hx hZ hown (ow116 hw) (ow117 hw) (ow118 hw) (ow119 hw) (ow120 hw) (ow121 hw) (ow122 hw) (ow76 hw) (ow40 hw) (ow123 hw) (by decide) (rm_alget_0 l Z a0 hw hO [] a2 b k el1 (.ref el2) .null .null .null .null .null .null .null .null (2 : Int32) T7.heap O0 (rfl : ((.ref el2) : Value).isRef = true) (rfl : (.null : Value).isRef = true) (rfl : (.null : Value).isRef = true) (rfl : (.null : Value).isRef = true) (rfl : (.null : Value).isRef = true) (rfl : (.null : Value).isRef = true) (rfl : (.null : Value).isRef = true) (rfl : (.null : Value).isRef = true) (rfl : (.null : Value).isRef = true) (fp0.keep K0) (fp2.keep K0 nin0) (fp4.keep K0 nin0) (fp1.keep K0 nin0) (by decide : (0 : Int32) < (2 : Int32))) 1 0 0 (by show _ ≤ 2; omega) (by show _ ≤ 13; omega) Kc37 (fp0.keep K0) (g := (mkF m 67 #[rv wy, rv a2, rv b1, iv (0 : Int32)] [(.int (0 : Int32)), (.ref a2), (.ref b1)])) rfl (by rw [hml]; rfl) [(.int (0 : Int32))] [(.ref b1)] (lenOf own_pd_6 rfl) rfl rfl (hb hby d11_67)
      obtain ⟨rfl, Nc41, Kc40⟩ := hQ39
      refine own_go st39 ?_
      clear st39 X36 Kc37
      replace N0 := Fr.app N0 Nc41
      clear Nc41
      obtain ⟨T42, X42, e42, st42⟩ := castY X39 hx hZ hown (ow137 hw) Kc40 (Ins.self (fp5.keep K0)) (g := (mkF m 72 #[rv wy, rv a2, rv b1, iv (0 : Int32)] [(.ref el1), (.ref b1)])) rfl rfl (hb hby d11_72)
      refine own_go st42 ?_
      clear st42 X39 Kc40
      obtain ⟨v43, T43, L43, X43, hQ43, st43⟩ := own_callF (xi := own_y26) (y := own_y7) X42 hx hZ hown (ow177 hw) (ow82 hw) (ow83 hw) (ow84 hw) (ow85 hw) (ow86 hw) (ow87 hw) (ow76 hw) (ow40 hw) (ow88 hw) (by decide) (rm_add1_0 l Z a0 hw hO [] b1 el1 (0 : Int32) T7.heap O0 f8 f9 f10 f11 (Ins.of_exa (fp5.keep K0) (ow112 hw)) big2) 0 1 10 (by show _ ≤ 2; omega) (by show _ ≤ 13; omega) e42 f8 (g := (mkF m 75 #[rv wy, rv a2, rv b1, iv (0 : Int32)] [(.ref el1), (.ref b1)])) rfl (by rw [hml]; rfl) [(.ref el1)] [] (lenOf own_pd_15 rfl) rfl rfl (hb hby d11_75)
      obtain ⟨w44, w45, rfl, Nc54, Kc53, hb46, f47, f48, f49, f50, f51, f52⟩ := hQ43
      refine own_go st43 ?_
      clear st43 X42 e42
      replace N0 := Fr.app N0 Nc54
      clear Nc54
      have ne55 : b1 ≠ w44 := Nat.ne_of_lt (Nat.lt_of_lt_of_le f8.lt hb46)
      have big56 : Z.heap.size ≤ w44 := Nat.le_trans O0.1 hb46
      have sz57 : h0.size ≤ w44 := Nat.le_trans K0.1 hb46
      replace f8 := f8.keep Kc53
      clear f9
      clear f10
      clear f11
      replace O0 := own_oldKeep O0 Kc53 (allS big2 all0)
      replace K0 := K0.trans Kc53 (allS (Or.inr sz3) all0)
      clear Kc53
      show own_Go p e below s _ _ _ (T43.setTop (mkF m 80 #[rv wy, rv a2, rv b1, iv (0 : Int32)] [(.int (1 : Int32))]))
      refine own_go (fun _ k => XS.pop X43.here hx rfl (hb hby d11_80) rfl rfl (XS.iinc X43.here hx rfl (hb hby d11_81) rfl (l' := #[rv wy, rv a2, rv b1, iv (1 : Int32)]) rfl (XS.goto X43.here hx rfl (pc0 := 84) (pc' := 10) rfl (hb hby d11_84) (by decide) (by decide) (XS.iloadN X43.here hx rfl (hb hby d11_10) rfl (XS.iconst X43.here hx rfl (hb hby d11_11) (XS.iadd X43.here hx rfl (hb hby d11_12) rfl k)))))) ?_
      refine own_go (fun _ k => XS.aloadN X43.here hx rfl (hb hby d11_13) rfl rfl k) ?_
      obtain ⟨v58, T58, L58, X58, hQ58, st58⟩ := own_callF (xi := own_y23) (y := own_y8) X43 hx hZ hown (ow69 hw) (ow70 hw) (ow71 hw) (ow72 hw) (ow73 hw) (ow74 hw) (ow75 hw) (ow76 hw) (ow40 hw) (ow77 hw) (by decide) (rm_alsize l Z a0 hw hO [] a2 (2 : Int32) T43.heap O0 (fp1.keep K0 nin0)) 1 0 0 (by show _ ≤ 2; omega) (by show _ ≤ 13; omega) (rfl : T43.heap = T43.heap) (fp0.keep K0) (g := (mkF m 14 #[rv wy, rv a2, rv b1, iv (1 : Int32)] [(.ref a2), (.int (2 : Int32))])) rfl (by rw [hml]; rfl) [] [(.int (2 : Int32))] (lenOf own_pd_8 rfl) rfl rfl (hb hby d11_14)
      obtain ⟨rfl, Nc60, Kc59⟩ := hQ58
      refine own_go st58 ?_
      clear st58 X43
      replace N0 := Fr.app N0 Nc60
      clear Nc60
      show own_Go p e below s _ _ _ (T58.setTop (mkF m 19 #[rv wy, rv a2, rv b1, iv (1 : Int32)] [(.int (2 : Int32)), (.int (2 : Int32))]))
      refine own_go (fun _ k => XS.icmpYes X58.here hx rfl (pc0 := 19) (pc' := 87) rfl (hb hby d11_19) rfl (flt (by decide : ¬ ((2 : Int32) < (2 : Int32)))).2.1 (by decide) (by decide) (XS.aloadN X58.here hx rfl (hb hby d11_87) rfl rfl k)) ?_
      show own_Go p e below s _ _ _ (T58.setTop (mkF m 88 #[rv wy, rv a2, rv b1, iv (1 : Int32)] [(.ref b1)]))
      refine own_retA X58 hx hlk Kc59 hret rfl rfl (hb hby d11_88) (by show _ ≤ 2; omega) (by show _ ≤ 13; omega) ?_
      exact Or.inr (Or.inr (⟨b1, w44, w45, rfl, N0, hp22, hp33, K0, sz3, f47, f48, f49, f51⟩))
    · obtain ⟨rfl, Nc63, hp61, Kc62⟩ := hQ32
      refine own_go st32 ?_
      clear st32 X31 e31
      replace N0 := Fr.app N0 Nc63
      clear Nc63
      show own_Go p e below s _ _ _ (T32.setTop (mkF m 58 #[rv wy, rv a2, rv b1, iv (0 : Int32)] [(.ref wx), (.ref wy)]))
      obtain ⟨v64, T64, L64, X64, hQ64, st64⟩ := own_callV (y := own_y19) (z := own_y19) X32 hx hZ hown (ow166 hw) (ow167 hw) (notFace_of_selects (args := #[]) (mvT hZ (ow169 hw))) (ow169 hw) (ow168 hw) (ow2 hw) (ow170 hw) (rm_cfyx l Z a0 hw hO []  T7.heap O0) 0 0 0 (by show _ ≤ 2; omega) (by show _ ≤ 13; omega) Kc62 (oE2.ext O0) (g := (mkF m 58 #[rv wy, rv a2, rv b1, iv (0 : Int32)] [(.ref wx), (.ref wy)])) rfl (by rw [hml]; rfl) [(.ref wx)] [] (lenOf own_pd_14 rfl) rfl rfl (hb hby d11_58)
      obtain ⟨rfl, Nc66, Kc65⟩ := hQ64
      refine own_go st64 ?_
      clear st64 X32 Kc62
      replace N0 := Fr.app N0 Nc66
      clear Nc66
      refine own_go (fun _ k => XS.ifYes X64.here hx rfl (pc0 := 61) (pc' := 81) rfl (hb hby d11_61) rfl ((if0 _ _).trans (feq (by decide : ¬ ((1 : Int32) = (0 : Int32)))).2) (by decide) (by decide) (XS.iinc X64.here hx rfl (hb hby d11_81) rfl (l' := #[rv wy, rv a2, rv b1, iv (1 : Int32)]) rfl (XS.goto X64.here hx rfl (pc0 := 84) (pc' := 10) rfl (hb hby d11_84) (by decide) (by decide) (XS.iloadN X64.here hx rfl (hb hby d11_10) rfl (XS.iconst X64.here hx rfl (hb hby d11_11) (XS.iadd X64.here hx rfl (hb hby d11_12) rfl k)))))) ?_
      refine own_go (fun _ k => XS.aloadN X64.here hx rfl (hb hby d11_13) rfl rfl k) ?_
      show own_Go p e below s _ _ _ (T64.setTop (mkF m 14 #[rv wy, rv a2, rv b1, iv (1 : Int32)] [(.ref a2), (.int (2 : Int32))]))
      obtain ⟨v67, T67, L67, X67, hQ67, st67⟩ := own_callF (xi := own_y23) (y := own_y8) X64 hx hZ hown (ow69 hw) (ow70 hw) (ow71 hw) (ow72 hw) (ow73 hw) (ow74 hw) (ow75 hw) (ow76 hw) (ow40 hw) (ow77 hw) (by decide) (rm_alsize l Z a0 hw hO [] a2 (2 : Int32) T7.heap O0 (fp1.keep K0 nin0)) 1 0 0 (by show _ ≤ 2; omega) (by show _ ≤ 13; omega) Kc65 (fp0.keep K0) (g := (mkF m 14 #[rv wy, rv a2, rv b1, iv (1 : Int32)] [(.ref a2), (.int (2 : Int32))])) rfl (by rw [hml]; rfl) [] [(.int (2 : Int32))] (lenOf own_pd_8 rfl) rfl rfl (hb hby d11_14)
      obtain ⟨rfl, Nc69, Kc68⟩ := hQ67
      refine own_go st67 ?_
      clear st67 X64 Kc65
      replace N0 := Fr.app N0 Nc69
      clear Nc69
      refine own_go (fun _ k => XS.icmpYes X67.here hx rfl (pc0 := 19) (pc' := 87) rfl (hb hby d11_19) rfl (flt (by decide : ¬ ((2 : Int32) < (2 : Int32)))).2.1 (by decide) (by decide) (XS.aloadN X67.here hx rfl (hb hby d11_87) rfl rfl k)) ?_
      show own_Go p e below s _ _ _ (T67.setTop (mkF m 88 #[rv wy, rv a2, rv b1, iv (1 : Int32)] [(.ref b1)]))
      refine own_retA X67 hx hlk Kc68 hret rfl rfl (hb hby d11_88) (by show _ ≤ 2; omega) (by show _ ≤ 13; omega) ?_
      exact Or.inr (Or.inl ⟨b1, rfl, N0, hp22, hp61, K0, sz3, f8, f9⟩)
  · obtain ⟨rfl, Nc72, hp70, Kc71⟩ := hQ21
    refine own_go st21 ?_
    clear st21 X20 e20
    replace N0 := Fr.app N0 Nc72
    clear Nc72
    show own_Go p e below s _ _ _ (T21.setTop (mkF m 36 #[rv wy, rv a2, rv b1, iv (0 : Int32)] [(.ref wx), (.ref wy)]))
    obtain ⟨v73, T73, L73, X73, hQ73, st73⟩ := own_callV (y := own_y19) (z := own_y19) X21 hx hZ hown (ow166 hw) (ow167 hw) (notFace_of_selects (args := #[]) (mvT hZ (ow169 hw))) (ow169 hw) (ow168 hw) (ow2 hw) (ow170 hw) (rm_cfyx l Z a0 hw hO []  T7.heap O0) 0 0 0 (by show _ ≤ 2; omega) (by show _ ≤ 13; omega) Kc71 (oE2.ext O0) (g := (mkF m 36 #[rv wy, rv a2, rv b1, iv (0 : Int32)] [(.ref wx), (.ref wy)])) rfl (by rw [hml]; rfl) [(.ref wx)] [] (lenOf own_pd_14 rfl) rfl rfl (hb hby d11_36)
    obtain ⟨rfl, Nc75, Kc74⟩ := hQ73
    refine own_go st73 ?_
    clear st73 X21 Kc71
    replace N0 := Fr.app N0 Nc75
    clear Nc75
    refine own_go (fun _ k => XS.ifYes X73.here hx rfl (pc0 := 39) (pc' := 87) rfl (hb hby d11_39) rfl ((if0 _ _).trans (feq (by decide : ¬ ((1 : Int32) = (0 : Int32)))).2) (by decide) (by decide) (XS.aloadN X73.here hx rfl (hb hby d11_87) rfl rfl k)) ?_
    show own_Go p e below s _ _ _ (T73.setTop (mkF m 88 #[rv wy, rv a2, rv b1, iv (0 : Int32)] [(.ref b1)]))
    refine own_retA X73 hx hlk Kc74 hret rfl rfl (hb hby d11_88) (by show _ ≤ 2; omega) (by show _ ≤ 13; omega) ?_
    exact Or.inl ⟨b1, rfl, N0, hp70, K0, sz3, f8, f9⟩
def Q_annx3 (Z : State) (zc : Int32) (wd : Addr) (kd : ClassId) (wx : Addr) (wy : Addr) (wsp : Addr) (wspv : Addr) (wspk : ClassId) (a2 : Addr) (mc : Int32) (b : Addr) (k : ClassId) (el1 : Addr) (el2 : Addr) (el3 : Addr) (pp1 : Int32) (pp2 : Int32) (pp3 : Int32) (h0 : Heap) (v : Option Value) (h : Heap) (L : List Loc) : Prop := (∃ c : Addr, v = some (.ref c) ∧ Fr Z.heap.size L ∧ Keep h0 h [] ∧ h0.size ≤ c ∧ Exa Z h c "java/util/ArrayList" ∧ Fld Z h c "java/util/ArrayList" "size" "I" (.int (0 : Int32)))
theorem ef_annx3 (m : MethodId) (x0 : Addr) (x1 : Addr) : entryFrame m #[(.ref x0), (.ref x1)] 4 = mkF m 0 #[rv x0, rv x1, .unset, .unset] [] := by first | (simp [entryFrame, mkF, argsToLocals, Value.category]; done) | rfl
set_option maxRecDepth 65536 in
set_option maxHeartbeats 40000000 in
theorem rm_annx3 (l : Launch) (Z : State) (a0 : Array Value) (hw : own_W Z a0) {zc : Int32} {wd : Addr} {kd : ClassId} {wx : Addr} {wy : Addr} {wsp : Addr} {wspv : Addr} {wspk : ClassId} (hO : own_Olds Z zc wd kd wx wy wsp wspv wspk) (ws : List Jvm.Cond) (a2 : Addr) (mc : Int32) (b : Addr) (k : ClassId) (el1 : Addr) (el2 : Addr) (el3 : Addr) (pp1 : Int32) (pp2 : Int32) (pp3 : Int32) (h0 : Heap) (O0 : Ext Z.heap h0) (fp0 : Exa Z h0 a2 "java/util/ArrayList") (fp1 : Fld Z h0 a2 "java/util/ArrayList" "size" "I" (.int (3 : Int32))) (fp2 : Fld Z h0 a2 "java/util/ArrayList" "elementData" "[Ljava/lang/Object;" (.ref b)) (fp3 : Fld Z h0 a2 "java/util/AbstractList" "modCount" "I" (.int mc)) (fp4 : Arv Z h0 b k (.object "java/lang/Object") (10 : Int32) [(.ref el1), (.ref el2), (.ref el3), .null, .null, .null, .null, .null, .null, .null] .null) (fp5 : Exa Z h0 el1 "java/lang/String") (fp6 : Exa Z h0 el2 "java/lang/String") (fp7 : Exa Z h0 el3 "java/lang/String") (fp8 : own_NS Z h0 el1 (own_Sp pp1)) (fp9 : own_NS Z h0 el2 (own_Sp pp2)) (fp10 : own_NS Z h0 el3 (own_Sp pp3)) :
    own_MF l Z h0 own_y24 prog_5_method_10_code 4 (some (.object "java/util/List")) ({ frames := 5, cells := 1, slots := 3, locals := 72 } : Room) #[(.ref wx), (.ref a2)] (Q_annx3 Z zc wd kd wx wy wsp wspv wspk a2 mc b k el1 el2 el3 pp1 pp2 pp3 h0) ws := by
  refine own_met (Q := (Q_annx3 Z zc wd kd wx wy wsp wspv wspk a2 mc b k el1 el2 el3 pp1 pp2 pp3 h0)) _ _ (plainFor_of_name own_pn_7) ?_
  intro p e s m below meth c T X0 hx hby hml hret hlk hZ hown hnm e0
  replace hown : s.vm.findClass "com/example/padlock/padlock/lock/Access" = some m.cls := hown
  replace hnm : meth.name = "announced" := hnm
  have hml : c.maxLocals = 4 := hml
  obtain ⟨oCS, oCz, oDE, oDV, oEx, oSh, oE1, oE2, oPF, oSPE, oSPC, oSPF, oSPV, oNe⟩ := id hO
  have N0 := Fr.nil Z.heap.size
  have K0 := Keep.refl h0 []
  refine own_go (fun _ k => castTop (ef_annx3 m wx a2) k) ?_
  show own_Go p e below s _ _ _ (T.setTop (mkF m 0 #[rv wx, rv a2, .unset, .unset] []))
  obtain ⟨T1, h1, X1, e1, E1, A1, D1, -, st1⟩ := newO X0 hx hZ hown (ow67 hw) (ow39 hw) (ow40 hw) e0 (g := (mkF m 0 #[rv wx, rv a2, .unset, .unset] [])) rfl (hb hby d11_0) (by show _ ≤ 1; omega) (by show _ ≤ 3; omega)
  obtain ⟨b1, g1⟩ : ∃ z, z = h0.size := ⟨_, rfl⟩
  rw [← g1] at A1 D1 st1
  refine own_go st1 ?_
  clear st1 X0 e0
  have ge1 := Nat.le_of_eq g1.symm
  have big2 : Z.heap.size ≤ b1 := Nat.le_trans O0.1 ge1
  have sz3 : h0.size ≤ b1 := Nat.le_trans K0.1 ge1
  replace O0 := own_oldExt O0 E1
  replace K0 := K0.ext E1
  clear E1
  have f4 : Fld Z h1 b1 "java/util/AbstractList" "modCount" "I" (.int (0 : Int32)) := D1 (Or.inl (ow58 hw)) (ty := .int) own_fd0
  have f5 : Fld Z h1 b1 "java/util/ArrayList" "elementData" "[Ljava/lang/Object;" .null := D1 (Or.inl (ow61 hw)) (ty := (.array (.object "java/lang/Object"))) own_fd1
  have f6 : Fld Z h1 b1 "java/util/ArrayList" "size" "I" (.int (0 : Int32)) := D1 (Or.inl (ow79 hw)) (ty := .int) own_fd0
  refine own_go (fun _ k => XS.dup X1.here hx rfl (hb hby d11_3) rfl rfl k) ?_
  obtain ⟨v7, T7, L7, X7, hQ7, st7⟩ := own_callI (y := own_y2) X1 hx hZ hown (ow68 hw) (ow42 hw) (ow40 hw) (ow43 hw) (rm_alinit l Z a0 hw hO [] b1 h1 O0 A1 f6 f5 f4 big2) 1 0 0 rfl (by show _ ≤ 1; omega) (by show _ ≤ 3; omega) e1 (g := (mkF m 4 #[rv wx, rv a2, .unset, .unset] [(.ref b1), (.ref b1)])) rfl (by rw [hml]; rfl) b1 [] [(.ref b1)] (lenOf own_pd_0 rfl) rfl rfl (hb hby d11_4)
  obtain ⟨rfl, Nc13, Kc12, f8, f9, f10, f11⟩ := hQ7
  refine own_go st7 ?_
  clear st7 X1 e1
  replace N0 := Fr.app N0 Nc13
  clear Nc13
  replace A1 := A1.keep Kc12
  clear f4
  clear f5
  clear f6
  replace O0 := own_oldKeep O0 Kc12 (allS big2 all0)
  replace K0 := K0.trans Kc12 (allS (Or.inr sz3) all0)
  clear Kc12
  refine own_go (fun _ k => XS.astoreN X7.here hx rfl (hb hby d11_7) rfl rfl (l' := #[rv wx, rv a2, rv b1, .unset]) rfl (XS.iconst X7.here hx rfl (hb hby d11_8) (XS.istoreN X7.here hx rfl (hb hby d11_9) rfl (l' := #[rv wx, rv a2, rv b1, iv (0 : Int32)]) rfl (XS.iloadN X7.here hx rfl (hb hby d11_10) rfl (XS.iconst X7.here hx rfl (hb hby d11_11) k))))) ?_
  show own_Go p e below s _ _ _ (T7.setTop (mkF m 12 #[rv wx, rv a2, rv b1, iv (0 : Int32)] [(.int (1 : Int32)), (.int (0 : Int32))]))
  refine own_go (fun _ k => XS.iadd X7.here hx rfl (hb hby d11_12) rfl (XS.aloadN X7.here hx rfl (hb hby d11_13) rfl rfl k)) ?_
  obtain ⟨v14, T14, L14, X14, hQ14, st14⟩ := own_callF (xi := own_y23) (y := own_y8) X7 hx hZ hown (ow69 hw) (ow70 hw) (ow71 hw) (ow72 hw) (ow73 hw) (ow74 hw) (ow75 hw) (ow76 hw) (ow40 hw) (ow77 hw) (by decide) (rm_alsize l Z a0 hw hO [] a2 (3 : Int32) T7.heap O0 (fp1.keep K0 nin0)) 1 0 0 (by show _ ≤ 1; omega) (by show _ ≤ 3; omega) (rfl : T7.heap = T7.heap) (fp0.keep K0) (g := (mkF m 14 #[rv wx, rv a2, rv b1, iv (0 : Int32)] [(.ref a2), (.int (1 : Int32))])) rfl (by rw [hml]; rfl) [] [(.int (1 : Int32))] (lenOf own_pd_8 rfl) rfl rfl (hb hby d11_14)
  obtain ⟨rfl, Nc16, Kc15⟩ := hQ14
  refine own_go st14 ?_
  clear st14 X7
  replace N0 := Fr.app N0 Nc16
  clear Nc16
  refine own_go (fun _ k => XS.icmpNo X14.here hx rfl (hb hby d11_19) rfl (tlt (by decide : (1 : Int32) < (3 : Int32))).2.1 (XS.aloadN X14.here hx rfl (hb hby d11_22) rfl rfl (XS.aloadN X14.here hx rfl (hb hby d11_23) rfl rfl (XS.iloadN X14.here hx rfl (hb hby d11_24) rfl k)))) ?_
  obtain ⟨v17, T17, L17, X17, hQ17, st17⟩ := own_callF (xi := own_y25) (y := own_y12) X14 hx hZ hown (ow116 hw) (ow117 hw) (ow118 hw) (ow119 hw) (ow120 hw) (ow121 hw) (ow122 hw) (ow76 hw) (ow40 hw) (ow123 hw) (by decide) (rm_alget_0 l Z a0 hw hO [] a2 b k el1 (.ref el2) (.ref el3) .null .null .null .null .null .null .null (3 : Int32) T7.heap O0 (rfl : ((.ref el2) : Value).isRef = true) (rfl : ((.ref el3) : Value).isRef = true) (rfl : (.null : Value).isRef = true) (rfl : (.null : Value).isRef = true) (rfl : (.null : Value).isRef = true) (rfl : (.null : Value).isRef = true) (rfl : (.null : Value).isRef = true) (rfl : (.null : Value).isRef = true) (rfl : (.null : Value).isRef = true) (fp0.keep K0) (fp2.keep K0 nin0) (fp4.keep K0 nin0) (fp1.keep K0 nin0) (by decide : (0 : Int32) < (3 : Int32))) 1 0 0 (by show _ ≤ 1; omega) (by show _ ≤ 3; omega) Kc15 (fp0.keep K0) (g := (mkF m 25 #[rv wx, rv a2, rv b1, iv (0 : Int32)] [(.int (0 : Int32)), (.ref a2), (.ref wx)])) rfl (by rw [hml]; rfl) [(.int (0 : Int32))] [(.ref wx)] (lenOf own_pd_6 rfl) rfl rfl (hb hby d11_25)
  obtain ⟨rfl, Nc19, Kc18⟩ := hQ17
  refine own_go st17 ?_
  clear st17 X14 Kc15
  replace N0 := Fr.app N0 Nc19
  clear Nc19
  show own_Go p e below s _ _ _ (T17.setTop (mkF m 30 #[rv wx, rv a2, rv b1, iv (0 : Int32)] [(.ref el1), (.ref wx)]))
  obtain ⟨T20, X20, e20, st20⟩ := castY X17 hx hZ hown (ow137 hw) Kc18 (Ins.self (fp5.keep K0)) (g := (mkF m 30 #[rv wx, rv a2, rv b1, iv (0 : Int32)] [(.ref el1), (.ref wx)])) rfl rfl (hb hby d11_30)
  refine own_go st20 ?_
  clear st20 X17 Kc18
  obtain ⟨v21, T21, L21, X21, hQ21, st21⟩ := own_callS (y := own_y18) X20 hx hZ hown (ow138 hw) (ow139 hw) (ow2 hw) (ow140 hw) (rm_ofn l Z a0 hw hO [] el1 pp1 T7.heap O0 (fp5.keep K0) (own_NSkeep fp8 fp5 K0 all0)) 1 0 0 (by show _ ≤ 1; omega) (by show _ ≤ 3; omega) e20 (g := (mkF m 33 #[rv wx, rv a2, rv b1, iv (0 : Int32)] [(.ref el1), (.ref wx)])) rfl (by rw [hml]; rfl) [(.ref el1)] [(.ref wx)] (lenOf own_pd_13 rfl) rfl rfl (hb hby d11_33)
  rcases hQ21 with hQ21 | hQ21
  · obtain ⟨rfl, Nc24, hp22, Kc23⟩ := hQ21
    refine own_go st21 ?_
    clear st21 X20 e20
    replace N0 := Fr.app N0 Nc24
    clear Nc24
    show own_Go p e below s _ _ _ (T21.setTop (mkF m 36 #[rv wx, rv a2, rv b1, iv (0 : Int32)] [(.ref wy), (.ref wx)]))
    obtain ⟨v25, T25, L25, X25, hQ25, st25⟩ := own_callV (y := own_y19) (z := own_y19) X21 hx hZ hown (ow166 hw) (ow167 hw) (notFace_of_selects (args := #[]) (mvT hZ (ow169 hw))) (ow169 hw) (ow168 hw) (ow2 hw) (ow170 hw) (rm_cfxy l Z a0 hw hO []  T7.heap O0) 0 0 0 (by show _ ≤ 1; omega) (by show _ ≤ 3; omega) Kc23 (oE1.ext O0) (g := (mkF m 36 #[rv wx, rv a2, rv b1, iv (0 : Int32)] [(.ref wy), (.ref wx)])) rfl (by rw [hml]; rfl) [(.ref wy)] [] (lenOf own_pd_14 rfl) rfl rfl (hb hby d11_36)
    obtain ⟨rfl, Nc27, Kc26⟩ := hQ25
    refine own_go st25 ?_
    clear st25 X21 Kc23
    replace N0 := Fr.app N0 Nc27
    clear Nc27
    refine own_go (fun _ k => XS.ifYes X25.here hx rfl (pc0 := 39) (pc' := 87) rfl (hb hby d11_39) rfl ((if0 _ _).trans (feq (by decide : ¬ ((1 : Int32) = (0 : Int32)))).2) (by decide) (by decide) (XS.aloadN X25.here hx rfl (hb hby d11_87) rfl rfl k)) ?_
    show own_Go p e below s _ _ _ (T25.setTop (mkF m 88 #[rv wx, rv a2, rv b1, iv (0 : Int32)] [(.ref b1)]))
    refine own_retA X25 hx hlk Kc26 hret rfl rfl (hb hby d11_88) (by show _ ≤ 1; omega) (by show _ ≤ 3; omega) ?_
    exact ⟨b1, rfl, N0, K0, sz3, f8, f9⟩
  · obtain ⟨rfl, Nc30, hp28, Kc29⟩ := hQ21
    refine own_go st21 ?_
    clear st21 X20 e20
    replace N0 := Fr.app N0 Nc30
    clear Nc30
    show own_Go p e below s _ _ _ (T21.setTop (mkF m 36 #[rv wx, rv a2, rv b1, iv (0 : Int32)] [(.ref wx), (.ref wx)]))
    obtain ⟨v31, T31, L31, X31, hQ31, st31⟩ := own_callV (y := own_y19) (z := own_y19) X21 hx hZ hown (ow166 hw) (ow167 hw) (notFace_of_selects (args := #[]) (mvT hZ (ow169 hw))) (ow169 hw) (ow168 hw) (ow2 hw) (ow170 hw) (rm_cfxx l Z a0 hw hO []  T7.heap O0) 0 0 0 (by show _ ≤ 1; omega) (by show _ ≤ 3; omega) Kc29 (oE1.ext O0) (g := (mkF m 36 #[rv wx, rv a2, rv b1, iv (0 : Int32)] [(.ref wx), (.ref wx)])) rfl (by rw [hml]; rfl) [(.ref wx)] [] (lenOf own_pd_14 rfl) rfl rfl (hb hby d11_36)
    obtain ⟨rfl, Nc33, Kc32⟩ := hQ31
    refine own_go st31 ?_
    clear st31 X21 Kc29
    replace N0 := Fr.app N0 Nc33
    clear Nc33
    refine own_go (fun _ k => XS.ifYes X31.here hx rfl (pc0 := 39) (pc' := 87) rfl (hb hby d11_39) rfl ((if0 _ _).trans (feq (by decide : ¬ ((1 : Int32) = (0 : Int32)))).2) (by decide) (by decide) (XS.aloadN X31.here hx rfl (hb hby d11_87) rfl rfl k)) ?_
    show own_Go p e below s _ _ _ (T31.setTop (mkF m 88 #[rv wx, rv a2, rv b1, iv (0 : Int32)] [(.ref b1)]))
    refine own_retA X31 hx hlk Kc32 hret rfl rfl (hb hby d11_88) (by show _ ≤ 1; omega) (by show _ ≤ 3; omega) ?_
    exact ⟨b1, rfl, N0, K0, sz3, f8, f9⟩
def Q_anny3 (Z : State) (zc : Int32) (wd : Addr) (kd : ClassId) (wx : Addr) (wy : Addr) (wsp : Addr) (wspv : Addr) (wspk : ClassId) (a2 : Addr) (mc : Int32) (b : Addr) (k : ClassId) (el1 : Addr) (el2 : Addr) (el3 : Addr) (pp1 : Int32) (pp2 : Int32) (pp3 : Int32) (h0 : Heap) (v : Option Value) (h : Heap) (L : List Loc) : Prop := (∃ c : Addr, v = some (.ref c) ∧ Fr Z.heap.size L ∧ ¬ (own_Sp pp1) ∧ Keep h0 h [] ∧ h0.size ≤ c ∧ Exa Z h c "java/util/ArrayList" ∧ Fld Z h c "java/util/ArrayList" "size" "I" (.int (0 : Int32))) ∨ (∃ c : Addr, v = some (.ref c) ∧ Fr Z.heap.size L ∧ own_Sp pp1 ∧ ¬ (own_Sp pp2) ∧ Keep h0 h [] ∧ h0.size ≤ c ∧ Exa Z h c "java/util/ArrayList" ∧ Fld Z h c "java/util/ArrayList" "size" "I" (.int (0 : Int32))) ∨ (∃ c : Addr, ∃ d : Addr, ∃ kd2 : ClassId, v = some (.ref c) ∧ Fr Z.heap.size L ∧ own_Sp pp1 ∧ own_Sp pp2 ∧ ¬ (own_Sp pp3) ∧ Keep h0 h [] ∧ h0.size ≤ c ∧ Exa Z h c "java/util/ArrayList" ∧ Fld Z h c "java/util/ArrayList" "size" "I" (.int (1 : Int32)) ∧ Fld Z h c "java/util/ArrayList" "elementData" "[Ljava/lang/Object;" (.ref d) ∧ Arv Z h d kd2 (.object "java/lang/Object") (10 : Int32) [(.ref el1), .null, .null, .null, .null, .null, .null, .null, .null, .null] .null) ∨ (∃ c : Addr, ∃ d : Addr, ∃ kd2 : ClassId, v = some (.ref c) ∧ Fr Z.heap.size L ∧ own_Sp pp1 ∧ own_Sp pp2 ∧ own_Sp pp3 ∧ Keep h0 h [] ∧ h0.size ≤ c ∧ Exa Z h c "java/util/ArrayList" ∧ Fld Z h c "java/util/ArrayList" "size" "I" (.int (2 : Int32)) ∧ Fld Z h c "java/util/ArrayList" "elementData" "[Ljava/lang/Object;" (.ref d) ∧ Arv Z h d kd2 (.object "java/lang/Object") (10 : Int32) [(.ref el1), (.ref el2), .null, .null, .null, .null, .null, .null, .null, .null] .null)
theorem ef_anny3 (m : MethodId) (x0 : Addr) (x1 : Addr) : entryFrame m #[(.ref x0), (.ref x1)] 4 = mkF m 0 #[rv x0, rv x1, .unset, .unset] [] := by first | (simp [entryFrame, mkF, argsToLocals, Value.category]; done) | rfl
set_option maxRecDepth 65536 in
set_option maxHeartbeats 40000000 in
theorem rm_anny3 (l : Launch) (Z : State) (a0 : Array Value) (hw : own_W Z a0) {zc : Int32} {wd : Addr} {kd : ClassId} {wx : Addr} {wy : Addr} {wsp : Addr} {wspv : Addr} {wspk : ClassId} (hO : own_Olds Z zc wd kd wx wy wsp wspv wspk) (ws : List Jvm.Cond) (a2 : Addr) (mc : Int32) (b : Addr) (k : ClassId) (el1 : Addr) (el2 : Addr) (el3 : Addr) (pp1 : Int32) (pp2 : Int32) (pp3 : Int32) (h0 : Heap) (O0 : Ext Z.heap h0) (fp0 : Exa Z h0 a2 "java/util/ArrayList") (fp1 : Fld Z h0 a2 "java/util/ArrayList" "size" "I" (.int (3 : Int32))) (fp2 : Fld Z h0 a2 "java/util/ArrayList" "elementData" "[Ljava/lang/Object;" (.ref b)) (fp3 : Fld Z h0 a2 "java/util/AbstractList" "modCount" "I" (.int mc)) (fp4 : Arv Z h0 b k (.object "java/lang/Object") (10 : Int32) [(.ref el1), (.ref el2), (.ref el3), .null, .null, .null, .null, .null, .null, .null] .null) (fp5 : Exa Z h0 el1 "java/lang/String") (fp6 : Exa Z h0 el2 "java/lang/String") (fp7 : Exa Z h0 el3 "java/lang/String") (fp8 : own_NS Z h0 el1 (own_Sp pp1)) (fp9 : own_NS Z h0 el2 (own_Sp pp2)) (fp10 : own_NS Z h0 el3 (own_Sp pp3)) :
    own_MF l Z h0 own_y24 prog_5_method_10_code 4 (some (.object "java/util/List")) ({ frames := 5, cells := 2, slots := 13, locals := 72 } : Room) #[(.ref wy), (.ref a2)] (Q_anny3 Z zc wd kd wx wy wsp wspv wspk a2 mc b k el1 el2 el3 pp1 pp2 pp3 h0) ws := by
  refine own_met (Q := (Q_anny3 Z zc wd kd wx wy wsp wspv wspk a2 mc b k el1 el2 el3 pp1 pp2 pp3 h0)) _ _ (plainFor_of_name own_pn_7) ?_
  intro p e s m below meth c T X0 hx hby hml hret hlk hZ hown hnm e0
  replace hown : s.vm.findClass "com/example/padlock/padlock/lock/Access" = some m.cls := hown
  replace hnm : meth.name = "announced" := hnm
  have hml : c.maxLocals = 4 := hml
  obtain ⟨oCS, oCz, oDE, oDV, oEx, oSh, oE1, oE2, oPF, oSPE, oSPC, oSPF, oSPV, oNe⟩ := id hO
  have N0 := Fr.nil Z.heap.size
  have K0 := Keep.refl h0 []
  refine own_go (fun _ k => castTop (ef_anny3 m wy a2) k) ?_
  show own_Go p e below s _ _ _ (T.setTop (mkF m 0 #[rv wy, rv a2, .unset, .unset] []))
  obtain ⟨T1, h1, X1, e1, E1, A1, D1, -, st1⟩ := newO X0 hx hZ hown (ow67 hw) (ow39 hw) (ow40 hw) e0 (g := (mkF m 0 #[rv wy, rv a2, .unset, .unset] [])) rfl (hb hby d11_0) (by show _ ≤ 2; omega) (by show _ ≤ 13; omega)
  obtain ⟨b1, g1⟩ : ∃ z, z = h0.size := ⟨_, rfl⟩
  rw [← g1] at A1 D1 st1
  refine own_go st1 ?_
  clear st1 X0 e0
  have ge1 := Nat.le_of_eq g1.symm
  have big2 : Z.heap.size ≤ b1 := Nat.le_trans O0.1 ge1
  have sz3 : h0.size ≤ b1 := Nat.le_trans K0.1 ge1
  replace O0 := own_oldExt O0 E1
  replace K0 := K0.ext E1
  clear E1
  have f4 : Fld Z h1 b1 "java/util/AbstractList" "modCount" "I" (.int (0 : Int32)) := D1 (Or.inl (ow58 hw)) (ty := .int) own_fd0
  have f5 : Fld Z h1 b1 "java/util/ArrayList" "elementData" "[Ljava/lang/Object;" .null := D1 (Or.inl (ow61 hw)) (ty := (.array (.object "java/lang/Object"))) own_fd1
  have f6 : Fld Z h1 b1 "java/util/ArrayList" "size" "I" (.int (0 : Int32)) := D1 (Or.inl (ow79 hw)) (ty := .int) own_fd0
  refine own_go (fun _ k => XS.dup X1.here hx rfl (hb hby d11_3) rfl rfl k) ?_
  obtain ⟨v7, T7, L7, X7, hQ7, st7⟩ := own_callI (y := own_y2) X1 hx hZ hown (ow68 hw) (ow42 hw) (ow40 hw) (ow43 hw) (rm_alinit l Z a0 hw hO [] b1 h1 O0 A1 f6 f5 f4 big2) 1 0 0 rfl (by show _ ≤ 2; omega) (by show _ ≤ 13; omega) e1 (g := (mkF m 4 #[rv wy, rv a2, .unset, .unset] [(.ref b1), (.ref b1)])) rfl (by rw [hml]; rfl) b1 [] [(.ref b1)] (lenOf own_pd_0 rfl) rfl rfl (hb hby d11_4)
  obtain ⟨rfl, Nc13, Kc12, f8, f9, f10, f11⟩ := hQ7
  refine own_go st7 ?_
  clear st7 X1 e1
  replace N0 := Fr.app N0 Nc13
  clear Nc13
  replace A1 := A1.keep Kc12
  clear f4
  clear f5
  clear f6
  replace O0 := own_oldKeep O0 Kc12 (allS big2 all0)
  replace K0 := K0.trans Kc12 (allS (Or.inr sz3) all0)
  clear Kc12
  refine own_go (fun _ k => XS.astoreN X7.here hx rfl (hb hby d11_7) rfl rfl (l' := #[rv wy, rv a2, rv b1, .unset]) rfl (XS.iconst X7.here hx rfl (hb hby d11_8) (XS.istoreN X7.here hx rfl (hb hby d11_9) rfl (l' := #[rv wy, rv a2, rv b1, iv (0 : Int32)]) rfl (XS.iloadN X7.here hx rfl (hb hby d11_10) rfl (XS.iconst X7.here hx rfl (hb hby d11_11) k))))) ?_
  show own_Go p e below s _ _ _ (T7.setTop (mkF m 12 #[rv wy, rv a2, rv b1, iv (0 : Int32)] [(.int (1 : Int32)), (.int (0 : Int32))]))
  refine own_go (fun _ k => XS.iadd X7.here hx rfl (hb hby d11_12) rfl (XS.aloadN X7.here hx rfl (hb hby d11_13) rfl rfl k)) ?_
  obtain ⟨v14, T14, L14, X14, hQ14, st14⟩ := own_callF (xi := own_y23) (y := own_y8) X7 hx hZ hown (ow69 hw) (ow70 hw) (ow71 hw) (ow72 hw) (ow73 hw) (ow74 hw) (ow75 hw) (ow76 hw) (ow40 hw) (ow77 hw) (by decide) (rm_alsize l Z a0 hw hO [] a2 (3 : Int32) T7.heap O0 (fp1.keep K0 nin0)) 1 0 0 (by show _ ≤ 2; omega) (by show _ ≤ 13; omega) (rfl : T7.heap = T7.heap) (fp0.keep K0) (g := (mkF m 14 #[rv wy, rv a2, rv b1, iv (0 : Int32)] [(.ref a2), (.int (1 : Int32))])) rfl (by rw [hml]; rfl) [] [(.int (1 : Int32))] (lenOf own_pd_8 rfl) rfl rfl (hb hby d11_14)
  obtain ⟨rfl, Nc16, Kc15⟩ := hQ14
  refine own_go st14 ?_
  clear st14 X7
  replace N0 := Fr.app N0 Nc16
  clear Nc16
  refine own_go (fun _ k => XS.icmpNo X14.here hx rfl (hb hby d11_19) rfl (tlt (by decide : (1 : Int32) < (3 : Int32))).2.1 (XS.aloadN X14.here hx rfl (hb hby d11_22) rfl rfl (XS.aloadN X14.here hx rfl (hb hby d11_23) rfl rfl (XS.iloadN X14.here hx rfl (hb hby d11_24) rfl k)))) ?_
  obtain ⟨v17, T17, L17, X17, hQ17, st17⟩ := own_callF (xi := own_y25) (y := own_y12) X14 hx hZ hown (ow116 hw) (ow117 hw) (ow118 hw) (ow119 hw) (ow120 hw) (ow121 hw) (ow122 hw) (ow76 hw) (ow40 hw) (ow123 hw) (by decide) (rm_alget_0 l Z a0 hw hO [] a2 b k el1 (.ref el2) (.ref el3) .null .null .null .null .null .null .null (3 : Int32) T7.heap O0 (rfl : ((.ref el2) : Value).isRef = true) (rfl : ((.ref el3) : Value).isRef = true) (rfl : (.null : Value).isRef = true) (rfl : (.null : Value).isRef = true) (rfl : (.null : Value).isRef = true) (rfl : (.null : Value).isRef = true) (rfl : (.null : Value).isRef = true) (rfl : (.null : Value).isRef = true) (rfl : (.null : Value).isRef = true) (fp0.keep K0) (fp2.keep K0 nin0) (fp4.keep K0 nin0) (fp1.keep K0 nin0) (by decide : (0 : Int32) < (3 : Int32))) 1 0 0 (by show _ ≤ 2; omega) (by show _ ≤ 13; omega) Kc15 (fp0.keep K0) (g := (mkF m 25 #[rv wy, rv a2, rv b1, iv (0 : Int32)] [(.int (0 : Int32)), (.ref a2), (.ref wy)])) rfl (by rw [hml]; rfl) [(.int (0 : Int32))] [(.ref wy)] (lenOf own_pd_6 rfl) rfl rfl (hb hby d11_25)
  obtain ⟨rfl, Nc19, Kc18⟩ := hQ17
  refine own_go st17 ?_
  clear st17 X14 Kc15
  replace N0 := Fr.app N0 Nc19
  clear Nc19
  show own_Go p e below s _ _ _ (T17.setTop (mkF m 30 #[rv wy, rv a2, rv b1, iv (0 : Int32)] [(.ref el1), (.ref wy)]))
  obtain ⟨T20, X20, e20, st20⟩ := castY X17 hx hZ hown (ow137 hw) Kc18 (Ins.self (fp5.keep K0)) (g := (mkF m 30 #[rv wy, rv a2, rv b1, iv (0 : Int32)] [(.ref el1), (.ref wy)])) rfl rfl (hb hby d11_30)
  refine own_go st20 ?_
  clear st20 X17 Kc18
  obtain ⟨v21, T21, L21, X21, hQ21, st21⟩ := own_callS (y := own_y18) X20 hx hZ hown (ow138 hw) (ow139 hw) (ow2 hw) (ow140 hw) (rm_ofn l Z a0 hw hO [] el1 pp1 T7.heap O0 (fp5.keep K0) (own_NSkeep fp8 fp5 K0 all0)) 1 0 0 (by show _ ≤ 2; omega) (by show _ ≤ 13; omega) e20 (g := (mkF m 33 #[rv wy, rv a2, rv b1, iv (0 : Int32)] [(.ref el1), (.ref wy)])) rfl (by rw [hml]; rfl) [(.ref el1)] [(.ref wy)] (lenOf own_pd_13 rfl) rfl rfl (hb hby d11_33)
  rcases hQ21 with hQ21 | hQ21
  · obtain ⟨rfl, Nc24, hp22, Kc23⟩ := hQ21
    refine own_go st21 ?_
    clear st21 X20 e20
    replace N0 := Fr.app N0 Nc24
    clear Nc24
    show own_Go p e below s _ _ _ (T21.setTop (mkF m 36 #[rv wy, rv a2, rv b1, iv (0 : Int32)] [(.ref wy), (.ref wy)]))
    obtain ⟨v25, T25, L25, X25, hQ25, st25⟩ := own_callV (y := own_y19) (z := own_y19) X21 hx hZ hown (ow166 hw) (ow167 hw) (notFace_of_selects (args := #[]) (mvT hZ (ow169 hw))) (ow169 hw) (ow168 hw) (ow2 hw) (ow170 hw) (rm_cfyy l Z a0 hw hO []  T7.heap O0) 0 0 0 (by show _ ≤ 2; omega) (by show _ ≤ 13; omega) Kc23 (oE2.ext O0) (g := (mkF m 36 #[rv wy, rv a2, rv b1, iv (0 : Int32)] [(.ref wy), (.ref wy)])) rfl (by rw [hml]; rfl) [(.ref wy)] [] (lenOf own_pd_14 rfl) rfl rfl (hb hby d11_36)
    obtain ⟨rfl, Nc27, Kc26⟩ := hQ25
    refine own_go st25 ?_
    clear st25 X21 Kc23
    replace N0 := Fr.app N0 Nc27
    clear Nc27
    refine own_go (fun _ k => XS.ifNo X25.here hx rfl (hb hby d11_39) rfl ((if0 _ _).trans (teq (by decide : (0 : Int32) = (0 : Int32))).2) (XS.aloadN X25.here hx rfl (hb hby d11_42) rfl rfl (XS.aloadN X25.here hx rfl (hb hby d11_43) rfl rfl (XS.iloadN X25.here hx rfl (hb hby d11_44) rfl (XS.iconst X25.here hx rfl (hb hby d11_45) (XS.iadd X25.here hx rfl (hb hby d11_46) rfl k)))))) ?_
    obtain ⟨v28, T28, L28, X28, hQ28, st28⟩ := own_callF (xi := own_y25) (y := own_y12) X25 hx hZ hown (ow116 hw) (ow117 hw) (ow118 hw) (ow119 hw) (ow120 hw) (ow121 hw) (ow122 hw) (ow76 hw) (ow40 hw) (ow123 hw) (by decide) (rm_alget_1 l Z a0 hw hO [] a2 b k el1 el2 (.ref el3) .null .null .null .null .null .null .null (3 : Int32) T7.heap O0 (rfl : ((.ref el3) : Value).isRef = true) (rfl : (.null : Value).isRef = true) (rfl : (.null : Value).isRef = true) (rfl : (.null : Value).isRef = true) (rfl : (.null : Value).isRef = true) (rfl : (.null : Value).isRef = true) (rfl : (.null : Value).isRef = true) (rfl : (.null : Value).isRef = true) (fp0.keep K0) (fp2.keep K0 nin0) (fp4.keep K0 nin0) (fp1.keep K0 nin0) (by decide : (1 : Int32) < (3 : Int32))) 1 0 0 (by show _ ≤ 2; omega) (by show _ ≤ 13; omega) Kc26 (fp0.keep K0) (g := (mkF m 47 #[rv wy, rv a2, rv b1, iv (0 : Int32)] [(.int (1 : Int32)), (.ref a2), (.ref wy)])) rfl (by rw [hml]; rfl) [(.int (1 : Int32))] [(.ref wy)] (lenOf own_pd_6 rfl) rfl rfl (hb hby d11_47)
    obtain ⟨rfl, Nc30, Kc29⟩ := hQ28
    refine own_go st28 ?_
    clear st28 X25 Kc26
    replace N0 := Fr.app N0 Nc30
    clear Nc30
    show own_Go p e below s _ _ _ (T28.setTop (mkF m 52 #[rv wy, rv a2, rv b1, iv (0 : Int32)] [(.ref el2), (.ref wy)]))
    obtain ⟨T31, X31, e31, st31⟩ := castY X28 hx hZ hown (ow137 hw) Kc29 (Ins.self (fp6.keep K0)) (g := (mkF m 52 #[rv wy, rv a2, rv b1, iv (0 : Int32)] [(.ref el2), (.ref wy)])) rfl rfl (hb hby d11_52)
    refine own_go st31 ?_
    clear st31 X28 Kc29
    obtain ⟨v32, T32, L32, X32, hQ32, st32⟩ := own_callS (y := own_y18) X31 hx hZ hown (ow138 hw) (ow139 hw) (ow2 hw) (ow140 hw) (rm_ofn l Z a0 hw hO [] el2 pp2 T7.heap O0 (fp6.keep K0) (own_NSkeep fp9 fp6 K0 all0)) 1 0 0 (by show _ ≤ 2; omega) (by show _ ≤ 13; omega) e31 (g := (mkF m 55 #[rv wy, rv a2, rv b1, iv (0 : Int32)] [(.ref el2), (.ref wy)])) rfl (by rw [hml]; rfl) [(.ref el2)] [(.ref wy)] (lenOf own_pd_13 rfl) rfl rfl (hb hby d11_55)
    rcases hQ32 with hQ32 | hQ32
    · obtain ⟨rfl, Nc35, hp33, Kc34⟩ := hQ32
      refine own_go st32 ?_
      clear st32 X31 e31
      replace N0 := Fr.app N0 Nc35
      clear Nc35
      show own_Go p e below s _ _ _ (T32.setTop (mkF m 58 #[rv wy, rv a2, rv b1, iv (0 : Int32)] [(.ref wy), (.ref wy)]))
      obtain ⟨v36, T36, L36, X36, hQ36, st36⟩ := own_callV (y := own_y19) (z := own_y19) X32 hx hZ hown (ow166 hw) (ow167 hw) (notFace_of_selects (args := #[]) (mvT hZ (ow169 hw))) (ow169 hw) (ow168 hw) (ow2 hw) (ow170 hw) (rm_cfyy l Z a0 hw hO []  T7.heap O0) 0 0 0 (by show _ ≤ 2; omega) (by show _ ≤ 13; omega) Kc34 (oE2.ext O0) (g := (mkF m 58 #[rv wy, rv a2, rv b1, iv (0 : Int32)] [(.ref wy), (.ref wy)])) rfl (by rw [hml]; rfl) [(.ref wy)] [] (lenOf own_pd_14 rfl) rfl rfl (hb hby d11_58)
      obtain ⟨rfl, Nc38, Kc37⟩ := hQ36
      refine own_go st36 ?_
      clear st36 X32 Kc34
      replace N0 := Fr.app N0 Nc38
      clear Nc38
      refine own_go (fun _ k => XS.ifNo X36.here hx rfl (hb hby d11_61) rfl ((if0 _ _).trans (teq (by decide : (0 : Int32) = (0 : Int32))).2) (XS.aloadN X36.here hx rfl (hb hby d11_64) rfl rfl (XS.aloadN X36.here hx rfl (hb hby d11_65) rfl rfl (XS.iloadN X36.here hx rfl (hb hby d11_66) rfl k)))) ?_
      obtain ⟨v39, T39, L39, X39, hQ39, st39⟩ := own_callF (xi := own_y25) (y := own_y12) X36 hx hZ hown (ow116 hw) (ow117 hw) (ow118 hw) (ow119 hw) (ow120 hw) (ow121 hw) (ow122 hw) (ow76 hw) (ow40 hw) (ow123 hw) (by decide) (rm_alget_0 l Z a0 hw hO [] a2 b k el1 (.ref el2) (.ref el3) .null .null .null .null .null .null .null (3 : Int32) T7.heap O0 (rfl : ((.ref el2) : Value).isRef = true) (rfl : ((.ref el3) : Value).isRef = true) (rfl : (.null : Value).isRef = true) (rfl : (.null : Value).isRef = true) (rfl : (.null : Value).isRef = true) (rfl : (.null : Value).isRef = true) (rfl : (.null : Value).isRef = true) (rfl : (.null : Value).isRef = true) (rfl : (.null : Value).isRef = true) (fp0.keep K0) (fp2.keep K0 nin0) (fp4.keep K0 nin0) (fp1.keep K0 nin0) (by decide : (0 : Int32) < (3 : Int32))) 1 0 0 (by show _ ≤ 2; omega) (by show _ ≤ 13; omega) Kc37 (fp0.keep K0) (g := (mkF m 67 #[rv wy, rv a2, rv b1, iv (0 : Int32)] [(.int (0 : Int32)), (.ref a2), (.ref b1)])) rfl (by rw [hml]; rfl) [(.int (0 : Int32))] [(.ref b1)] (lenOf own_pd_6 rfl) rfl rfl (hb hby d11_67)
      obtain ⟨rfl, Nc41, Kc40⟩ := hQ39
      refine own_go st39 ?_
      clear st39 X36 Kc37
      replace N0 := Fr.app N0 Nc41
      clear Nc41
      obtain ⟨T42, X42, e42, st42⟩ := castY X39 hx hZ hown (ow137 hw) Kc40 (Ins.self (fp5.keep K0)) (g := (mkF m 72 #[rv wy, rv a2, rv b1, iv (0 : Int32)] [(.ref el1), (.ref b1)])) rfl rfl (hb hby d11_72)
      refine own_go st42 ?_
      clear st42 X39 Kc40
      obtain ⟨v43, T43, L43, X43, hQ43, st43⟩ := own_callF (xi := own_y26) (y := own_y7) X42 hx hZ hown (ow177 hw) (ow82 hw) (ow83 hw) (ow84 hw) (ow85 hw) (ow86 hw) (ow87 hw) (ow76 hw) (ow40 hw) (ow88 hw) (by decide) (rm_add1_0 l Z a0 hw hO [] b1 el1 (0 : Int32) T7.heap O0 f8 f9 f10 f11 (Ins.of_exa (fp5.keep K0) (ow112 hw)) big2) 0 1 10 (by show _ ≤ 2; omega) (by show _ ≤ 13; omega) e42 f8 (g := (mkF m 75 #[rv wy, rv a2, rv b1, iv (0 : Int32)] [(.ref el1), (.ref b1)])) rfl (by rw [hml]; rfl) [(.ref el1)] [] (lenOf own_pd_15 rfl) rfl rfl (hb hby d11_75)
      obtain ⟨w44, w45, rfl, Nc54, Kc53, hb46, f47, f48, f49, f50, f51, f52⟩ := hQ43
      refine own_go st43 ?_
      clear st43 X42 e42
      replace N0 := Fr.app N0 Nc54
      clear Nc54
      have ne55 : b1 ≠ w44 := Nat.ne_of_lt (Nat.lt_of_lt_of_le f8.lt hb46)
      have big56 : Z.heap.size ≤ w44 := Nat.le_trans O0.1 hb46
      have sz57 : h0.size ≤ w44 := Nat.le_trans K0.1 hb46
      replace f8 := f8.keep Kc53
      clear f9
      clear f10
      clear f11
      replace O0 := own_oldKeep O0 Kc53 (allS big2 all0)
      replace K0 := K0.trans Kc53 (allS (Or.inr sz3) all0)
      clear Kc53
      show own_Go p e below s _ _ _ (T43.setTop (mkF m 80 #[rv wy, rv a2, rv b1, iv (0 : Int32)] [(.int (1 : Int32))]))
      refine own_go (fun _ k => XS.pop X43.here hx rfl (hb hby d11_80) rfl rfl (XS.iinc X43.here hx rfl (hb hby d11_81) rfl (l' := #[rv wy, rv a2, rv b1, iv (1 : Int32)]) rfl (XS.goto X43.here hx rfl (pc0 := 84) (pc' := 10) rfl (hb hby d11_84) (by decide) (by decide) (XS.iloadN X43.here hx rfl (hb hby d11_10) rfl (XS.iconst X43.here hx rfl (hb hby d11_11) (XS.iadd X43.here hx rfl (hb hby d11_12) rfl k)))))) ?_
      refine own_go (fun _ k => XS.aloadN X43.here hx rfl (hb hby d11_13) rfl rfl k) ?_
      obtain ⟨v58, T58, L58, X58, hQ58, st58⟩ := own_callF (xi := own_y23) (y := own_y8) X43 hx hZ hown (ow69 hw) (ow70 hw) (ow71 hw) (ow72 hw) (ow73 hw) (ow74 hw) (ow75 hw) (ow76 hw) (ow40 hw) (ow77 hw) (by decide) (rm_alsize l Z a0 hw hO [] a2 (3 : Int32) T43.heap O0 (fp1.keep K0 nin0)) 1 0 0 (by show _ ≤ 2; omega) (by show _ ≤ 13; omega) (rfl : T43.heap = T43.heap) (fp0.keep K0) (g := (mkF m 14 #[rv wy, rv a2, rv b1, iv (1 : Int32)] [(.ref a2), (.int (2 : Int32))])) rfl (by rw [hml]; rfl) [] [(.int (2 : Int32))] (lenOf own_pd_8 rfl) rfl rfl (hb hby d11_14)
      obtain ⟨rfl, Nc60, Kc59⟩ := hQ58
      refine own_go st58 ?_
      clear st58 X43
      replace N0 := Fr.app N0 Nc60
      clear Nc60
      show own_Go p e below s _ _ _ (T58.setTop (mkF m 19 #[rv wy, rv a2, rv b1, iv (1 : Int32)] [(.int (3 : Int32)), (.int (2 : Int32))]))
      refine own_go (fun _ k => XS.icmpNo X58.here hx rfl (hb hby d11_19) rfl (tlt (by decide : (2 : Int32) < (3 : Int32))).2.1 (XS.aloadN X58.here hx rfl (hb hby d11_22) rfl rfl (XS.aloadN X58.here hx rfl (hb hby d11_23) rfl rfl (XS.iloadN X58.here hx rfl (hb hby d11_24) rfl k)))) ?_
      obtain ⟨v61, T61, L61, X61, hQ61, st61⟩ := own_callF (xi := own_y25) (y := own_y12) X58 hx hZ hown (ow116 hw) (ow117 hw) (ow118 hw) (ow119 hw) (ow120 hw) (ow121 hw) (ow122 hw) (ow76 hw) (ow40 hw) (ow123 hw) (by decide) (rm_alget_1 l Z a0 hw hO [] a2 b k el1 el2 (.ref el3) .null .null .null .null .null .null .null (3 : Int32) T43.heap O0 (rfl : ((.ref el3) : Value).isRef = true) (rfl : (.null : Value).isRef = true) (rfl : (.null : Value).isRef = true) (rfl : (.null : Value).isRef = true) (rfl : (.null : Value).isRef = true) (rfl : (.null : Value).isRef = true) (rfl : (.null : Value).isRef = true) (rfl : (.null : Value).isRef = true) (fp0.keep K0) (fp2.keep K0 nin0) (fp4.keep K0 nin0) (fp1.keep K0 nin0) (by decide : (1 : Int32) < (3 : Int32))) 1 0 0 (by show _ ≤ 2; omega) (by show _ ≤ 13; omega) Kc59 (fp0.keep K0) (g := (mkF m 25 #[rv wy, rv a2, rv b1, iv (1 : Int32)] [(.int (1 : Int32)), (.ref a2), (.ref wy)])) rfl (by rw [hml]; rfl) [(.int (1 : Int32))] [(.ref wy)] (lenOf own_pd_6 rfl) rfl rfl (hb hby d11_25)
      obtain ⟨rfl, Nc63, Kc62⟩ := hQ61
      refine own_go st61 ?_
      clear st61 X58 Kc59
      replace N0 := Fr.app N0 Nc63
      clear Nc63
      obtain ⟨T64, X64, e64, st64⟩ := castY X61 hx hZ hown (ow137 hw) Kc62 (Ins.self (fp6.keep K0)) (g := (mkF m 30 #[rv wy, rv a2, rv b1, iv (1 : Int32)] [(.ref el2), (.ref wy)])) rfl rfl (hb hby d11_30)
      refine own_go st64 ?_
      clear st64 X61 Kc62
      obtain ⟨v65, T65, L65, X65, hQ65, st65⟩ := own_callS (y := own_y18) X64 hx hZ hown (ow138 hw) (ow139 hw) (ow2 hw) (ow140 hw) (rm_ofn l Z a0 hw hO [] el2 pp2 T43.heap O0 (fp6.keep K0) (own_NSkeep fp9 fp6 K0 all0)) 1 0 0 (by show _ ≤ 2; omega) (by show _ ≤ 13; omega) e64 (g := (mkF m 33 #[rv wy, rv a2, rv b1, iv (1 : Int32)] [(.ref el2), (.ref wy)])) rfl (by rw [hml]; rfl) [(.ref el2)] [(.ref wy)] (lenOf own_pd_13 rfl) rfl rfl (hb hby d11_33)
      rcases hQ65 with hQ65 | hQ65
      · obtain ⟨rfl, Nc68, hp66, Kc67⟩ := hQ65
        refine own_go st65 ?_
        clear st65 X64 e64
        replace N0 := Fr.app N0 Nc68
        clear Nc68
        show own_Go p e below s _ _ _ (T65.setTop (mkF m 36 #[rv wy, rv a2, rv b1, iv (1 : Int32)] [(.ref wy), (.ref wy)]))
        obtain ⟨v69, T69, L69, X69, hQ69, st69⟩ := own_callV (y := own_y19) (z := own_y19) X65 hx hZ hown (ow166 hw) (ow167 hw) (notFace_of_selects (args := #[]) (mvT hZ (ow169 hw))) (ow169 hw) (ow168 hw) (ow2 hw) (ow170 hw) (rm_cfyy l Z a0 hw hO []  T43.heap O0) 0 0 0 (by show _ ≤ 2; omega) (by show _ ≤ 13; omega) Kc67 (oE2.ext O0) (g := (mkF m 36 #[rv wy, rv a2, rv b1, iv (1 : Int32)] [(.ref wy), (.ref wy)])) rfl (by rw [hml]; rfl) [(.ref wy)] [] (lenOf own_pd_14 rfl) rfl rfl (hb hby d11_36)
        obtain ⟨rfl, Nc71, Kc70⟩ := hQ69
        refine own_go st69 ?_
        clear st69 X65 Kc67
        replace N0 := Fr.app N0 Nc71
        clear Nc71
        refine own_go (fun _ k => XS.ifNo X69.here hx rfl (hb hby d11_39) rfl ((if0 _ _).trans (teq (by decide : (0 : Int32) = (0 : Int32))).2) (XS.aloadN X69.here hx rfl (hb hby d11_42) rfl rfl (XS.aloadN X69.here hx rfl (hb hby d11_43) rfl rfl (XS.iloadN X69.here hx rfl (hb hby d11_44) rfl (XS.iconst X69.here hx rfl (hb hby d11_45) (XS.iadd X69.here hx rfl (hb hby d11_46) rfl k)))))) ?_
        obtain ⟨v72, T72, L72, X72, hQ72, st72⟩ := own_callF (xi := own_y25) (y := own_y12) X69 hx hZ hown (ow116 hw) (ow117 hw) (ow118 hw) (ow119 hw) (ow120 hw) (ow121 hw) (ow122 hw) (ow76 hw) (ow40 hw) (ow123 hw) (by decide) (rm_alget_2 l Z a0 hw hO [] a2 b k el1 el2 el3 .null .null .null .null .null .null .null (3 : Int32) T43.heap O0 (rfl : (.null : Value).isRef = true) (rfl : (.null : Value).isRef = true) (rfl : (.null : Value).isRef = true) (rfl : (.null : Value).isRef = true) (rfl : (.null : Value).isRef = true) (rfl : (.null : Value).isRef = true) (rfl : (.null : Value).isRef = true) (fp0.keep K0) (fp2.keep K0 nin0) (fp4.keep K0 nin0) (fp1.keep K0 nin0) (by decide : (2 : Int32) < (3 : Int32))) 1 0 0 (by show _ ≤ 2; omega) (by show _ ≤ 13; omega) Kc70 (fp0.keep K0) (g := (mkF m 47 #[rv wy, rv a2, rv b1, iv (1 : Int32)] [(.int (2 : Int32)), (.ref a2), (.ref wy)])) rfl (by rw [hml]; rfl) [(.int (2 : Int32))] [(.ref wy)] (lenOf own_pd_6 rfl) rfl rfl (hb hby d11_47)
        obtain ⟨rfl, Nc74, Kc73⟩ := hQ72
        refine own_go st72 ?_
        clear st72 X69 Kc70
        replace N0 := Fr.app N0 Nc74
        clear Nc74
        show own_Go p e below s _ _ _ (T72.setTop (mkF m 52 #[rv wy, rv a2, rv b1, iv (1 : Int32)] [(.ref el3), (.ref wy)]))
        obtain ⟨T75, X75, e75, st75⟩ := castY X72 hx hZ hown (ow137 hw) Kc73 (Ins.self (fp7.keep K0)) (g := (mkF m 52 #[rv wy, rv a2, rv b1, iv (1 : Int32)] [(.ref el3), (.ref wy)])) rfl rfl (hb hby d11_52)
        refine own_go st75 ?_
        clear st75 X72 Kc73
        obtain ⟨v76, T76, L76, X76, hQ76, st76⟩ := own_callS (y := own_y18) X75 hx hZ hown (ow138 hw) (ow139 hw) (ow2 hw) (ow140 hw) (rm_ofn l Z a0 hw hO [] el3 pp3 T43.heap O0 (fp7.keep K0) (own_NSkeep fp10 fp7 K0 all0)) 1 0 0 (by show _ ≤ 2; omega) (by show _ ≤ 13; omega) e75 (g := (mkF m 55 #[rv wy, rv a2, rv b1, iv (1 : Int32)] [(.ref el3), (.ref wy)])) rfl (by rw [hml]; rfl) [(.ref el3)] [(.ref wy)] (lenOf own_pd_13 rfl) rfl rfl (hb hby d11_55)
        rcases hQ76 with hQ76 | hQ76
        · obtain ⟨rfl, Nc79, hp77, Kc78⟩ := hQ76
          refine own_go st76 ?_
          clear st76 X75 e75
          replace N0 := Fr.app N0 Nc79
          clear Nc79
          show own_Go p e below s _ _ _ (T76.setTop (mkF m 58 #[rv wy, rv a2, rv b1, iv (1 : Int32)] [(.ref wy), (.ref wy)]))
          obtain ⟨v80, T80, L80, X80, hQ80, st80⟩ := own_callV (y := own_y19) (z := own_y19) X76 hx hZ hown (ow166 hw) (ow167 hw) (notFace_of_selects (args := #[]) (mvT hZ (ow169 hw))) (ow169 hw) (ow168 hw) (ow2 hw) (ow170 hw) (rm_cfyy l Z a0 hw hO []  T43.heap O0) 0 0 0 (by show _ ≤ 2; omega) (by show _ ≤ 13; omega) Kc78 (oE2.ext O0) (g := (mkF m 58 #[rv wy, rv a2, rv b1, iv (1 : Int32)] [(.ref wy), (.ref wy)])) rfl (by rw [hml]; rfl) [(.ref wy)] [] (lenOf own_pd_14 rfl) rfl rfl (hb hby d11_58)
          obtain ⟨rfl, Nc82, Kc81⟩ := hQ80
          refine own_go st80 ?_
          clear st80 X76 Kc78
          replace N0 := Fr.app N0 Nc82
          clear Nc82
          refine own_go (fun _ k => XS.ifNo X80.here hx rfl (hb hby d11_61) rfl ((if0 _ _).trans (teq (by decide : (0 : Int32) = (0 : Int32))).2) (XS.aloadN X80.here hx rfl (hb hby d11_64) rfl rfl (XS.aloadN X80.here hx rfl (hb hby d11_65) rfl rfl (XS.iloadN X80.here hx rfl (hb hby d11_66) rfl k)))) ?_
          obtain ⟨v83, T83, L83, X83, hQ83, st83⟩ := own_callF (xi := own_y25) (y := own_y12) X80 hx hZ hown (ow116 hw) (ow117 hw) (ow118 hw) (ow119 hw) (ow120 hw) (ow121 hw) (ow122 hw) (ow76 hw) (ow40 hw) (ow123 hw) (by decide) (rm_alget_1 l Z a0 hw hO [] a2 b k el1 el2 (.ref el3) .null .null .null .null .null .null .null (3 : Int32) T43.heap O0 (rfl : ((.ref el3) : Value).isRef = true) (rfl : (.null : Value).isRef = true) (rfl : (.null : Value).isRef = true) (rfl : (.null : Value).isRef = true) (rfl : (.null : Value).isRef = true) (rfl : (.null : Value).isRef = true) (rfl : (.null : Value).isRef = true) (rfl : (.null : Value).isRef = true) (fp0.keep K0) (fp2.keep K0 nin0) (fp4.keep K0 nin0) (fp1.keep K0 nin0) (by decide : (1 : Int32) < (3 : Int32))) 1 0 0 (by show _ ≤ 2; omega) (by show _ ≤ 13; omega) Kc81 (fp0.keep K0) (g := (mkF m 67 #[rv wy, rv a2, rv b1, iv (1 : Int32)] [(.int (1 : Int32)), (.ref a2), (.ref b1)])) rfl (by rw [hml]; rfl) [(.int (1 : Int32))] [(.ref b1)] (lenOf own_pd_6 rfl) rfl rfl (hb hby d11_67)
          obtain ⟨rfl, Nc85, Kc84⟩ := hQ83
          refine own_go st83 ?_
          clear st83 X80 Kc81
          replace N0 := Fr.app N0 Nc85
          clear Nc85
          obtain ⟨T86, X86, e86, st86⟩ := castY X83 hx hZ hown (ow137 hw) Kc84 (Ins.self (fp6.keep K0)) (g := (mkF m 72 #[rv wy, rv a2, rv b1, iv (1 : Int32)] [(.ref el2), (.ref b1)])) rfl rfl (hb hby d11_72)
          refine own_go st86 ?_
          clear st86 X83 Kc84
          obtain ⟨v87, T87, L87, X87, hQ87, st87⟩ := own_callF (xi := own_y26) (y := own_y7) X86 hx hZ hown (ow177 hw) (ow82 hw) (ow83 hw) (ow84 hw) (ow85 hw) (ow86 hw) (ow87 hw) (ow76 hw) (ow40 hw) (ow88 hw) (by decide) (rm_add1_1 l Z a0 hw hO [] b1 el2 w44 w45 ((0 : Int32) + (1 : Int32)) el1 T43.heap O0 f47 f48 f49 f50 f51 f52 (Ins.of_exa (fp6.keep K0) (ow112 hw)) big2 big56) 0 0 0 (by show _ ≤ 2; omega) (by show _ ≤ 13; omega) e86 f47 (g := (mkF m 75 #[rv wy, rv a2, rv b1, iv (1 : Int32)] [(.ref el2), (.ref b1)])) rfl (by rw [hml]; rfl) [(.ref el2)] [] (lenOf own_pd_15 rfl) rfl rfl (hb hby d11_75)
          obtain ⟨rfl, Nc95, Kc94, f88, f89, f90, f91, f92, f93⟩ := hQ87
          refine own_go st87 ?_
          clear st87 X86 e86
          replace N0 := Fr.app N0 Nc95
          clear Nc95
          replace f47 := f47.keep Kc94
          clear f48
          clear f49
          clear f50
          clear f51
          replace O0 := own_oldKeep O0 Kc94 (allS big2 (allS big56 all0))
          replace K0 := K0.trans Kc94 (allS (Or.inr sz3) (allS (Or.inr sz57) all0))
          clear Kc94
          show own_Go p e below s _ _ _ (T87.setTop (mkF m 80 #[rv wy, rv a2, rv b1, iv (1 : Int32)] [(.int (1 : Int32))]))
          refine own_go (fun _ k => XS.pop X87.here hx rfl (hb hby d11_80) rfl rfl (XS.iinc X87.here hx rfl (hb hby d11_81) rfl (l' := #[rv wy, rv a2, rv b1, iv (2 : Int32)]) rfl (XS.goto X87.here hx rfl (pc0 := 84) (pc' := 10) rfl (hb hby d11_84) (by decide) (by decide) (XS.iloadN X87.here hx rfl (hb hby d11_10) rfl (XS.iconst X87.here hx rfl (hb hby d11_11) (XS.iadd X87.here hx rfl (hb hby d11_12) rfl k)))))) ?_
          refine own_go (fun _ k => XS.aloadN X87.here hx rfl (hb hby d11_13) rfl rfl k) ?_
          obtain ⟨v96, T96, L96, X96, hQ96, st96⟩ := own_callF (xi := own_y23) (y := own_y8) X87 hx hZ hown (ow69 hw) (ow70 hw) (ow71 hw) (ow72 hw) (ow73 hw) (ow74 hw) (ow75 hw) (ow76 hw) (ow40 hw) (ow77 hw) (by decide) (rm_alsize l Z a0 hw hO [] a2 (3 : Int32) T87.heap O0 (fp1.keep K0 nin0)) 1 0 0 (by show _ ≤ 2; omega) (by show _ ≤ 13; omega) (rfl : T87.heap = T87.heap) (fp0.keep K0) (g := (mkF m 14 #[rv wy, rv a2, rv b1, iv (2 : Int32)] [(.ref a2), (.int (3 : Int32))])) rfl (by rw [hml]; rfl) [] [(.int (3 : Int32))] (lenOf own_pd_8 rfl) rfl rfl (hb hby d11_14)
          obtain ⟨rfl, Nc98, Kc97⟩ := hQ96
          refine own_go st96 ?_
          clear st96 X87
          replace N0 := Fr.app N0 Nc98
          clear Nc98
          show own_Go p e below s _ _ _ (T96.setTop (mkF m 19 #[rv wy, rv a2, rv b1, iv (2 : Int32)] [(.int (3 : Int32)), (.int (3 : Int32))]))
          refine own_go (fun _ k => XS.icmpYes X96.here hx rfl (pc0 := 19) (pc' := 87) rfl (hb hby d11_19) rfl (flt (by decide : ¬ ((3 : Int32) < (3 : Int32)))).2.1 (by decide) (by decide) (XS.aloadN X96.here hx rfl (hb hby d11_87) rfl rfl k)) ?_
          show own_Go p e below s _ _ _ (T96.setTop (mkF m 88 #[rv wy, rv a2, rv b1, iv (2 : Int32)] [(.ref b1)]))
          refine own_retA X96 hx hlk Kc97 hret rfl rfl (hb hby d11_88) (by show _ ≤ 2; omega) (by show _ ≤ 13; omega) ?_
          exact Or.inr (Or.inr (Or.inr (⟨b1, w44, w45, rfl, N0, hp22, hp66, hp77, K0, sz3, f88, f89, f90, f92⟩)))
        · obtain ⟨rfl, Nc101, hp99, Kc100⟩ := hQ76
          refine own_go st76 ?_
          clear st76 X75 e75
          replace N0 := Fr.app N0 Nc101
          clear Nc101
          show own_Go p e below s _ _ _ (T76.setTop (mkF m 58 #[rv wy, rv a2, rv b1, iv (1 : Int32)] [(.ref wx), (.ref wy)]))
          obtain ⟨v102, T102, L102, X102, hQ102, st102⟩ := own_callV (y := own_y19) (z := own_y19) X76 hx hZ hown (ow166 hw) (ow167 hw) (notFace_of_selects (args := #[]) (mvT hZ (ow169 hw))) (ow169 hw) (ow168 hw) (ow2 hw) (ow170 hw) (rm_cfyx l Z a0 hw hO []  T43.heap O0) 0 0 0 (by show _ ≤ 2; omega) (by show _ ≤ 13; omega) Kc100 (oE2.ext O0) (g := (mkF m 58 #[rv wy, rv a2, rv b1, iv (1 : Int32)] [(.ref wx), (.ref wy)])) rfl (by rw [hml]; rfl) [(.ref wx)] [] (lenOf own_pd_14 rfl) rfl rfl (hb hby d11_58)
          obtain ⟨rfl, Nc104, Kc103⟩ := hQ102
          refine own_go st102 ?_
          clear st102 X76 Kc100
          replace N0 := Fr.app N0 Nc104
          clear Nc104
          refine own_go (fun _ k => XS.ifYes X102.here hx rfl (pc0 := 61) (pc' := 81) rfl (hb hby d11_61) rfl ((if0 _ _).trans (feq (by decide : ¬ ((1 : Int32) = (0 : Int32)))).2) (by decide) (by decide) (XS.iinc X102.here hx rfl (hb hby d11_81) rfl (l' := #[rv wy, rv a2, rv b1, iv (2 : Int32)]) rfl (XS.goto X102.here hx rfl (pc0 := 84) (pc' := 10) rfl (hb hby d11_84) (by decide) (by decide) (XS.iloadN X102.here hx rfl (hb hby d11_10) rfl (XS.iconst X102.here hx rfl (hb hby d11_11) (XS.iadd X102.here hx rfl (hb hby d11_12) rfl k)))))) ?_
          refine own_go (fun _ k => XS.aloadN X102.here hx rfl (hb hby d11_13) rfl rfl k) ?_
          show own_Go p e below s _ _ _ (T102.setTop (mkF m 14 #[rv wy, rv a2, rv b1, iv (2 : Int32)] [(.ref a2), (.int (3 : Int32))]))
          obtain ⟨v105, T105, L105, X105, hQ105, st105⟩ := own_callF (xi := own_y23) (y := own_y8) X102 hx hZ hown (ow69 hw) (ow70 hw) (ow71 hw) (ow72 hw) (ow73 hw) (ow74 hw) (ow75 hw) (ow76 hw) (ow40 hw) (ow77 hw) (by decide) (rm_alsize l Z a0 hw hO [] a2 (3 : Int32) T43.heap O0 (fp1.keep K0 nin0)) 1 0 0 (by show _ ≤ 2; omega) (by show _ ≤ 13; omega) Kc103 (fp0.keep K0) (g := (mkF m 14 #[rv wy, rv a2, rv b1, iv (2 : Int32)] [(.ref a2), (.int (3 : Int32))])) rfl (by rw [hml]; rfl) [] [(.int (3 : Int32))] (lenOf own_pd_8 rfl) rfl rfl (hb hby d11_14)
          obtain ⟨rfl, Nc107, Kc106⟩ := hQ105
          refine own_go st105 ?_
          clear st105 X102 Kc103
          replace N0 := Fr.app N0 Nc107
          clear Nc107
          refine own_go (fun _ k => XS.icmpYes X105.here hx rfl (pc0 := 19) (pc' := 87) rfl (hb hby d11_19) rfl (flt (by decide : ¬ ((3 : Int32) < (3 : Int32)))).2.1 (by decide) (by decide) (XS.aloadN X105.here hx rfl (hb hby d11_87) rfl rfl k)) ?_
          show own_Go p e below s _ _ _ (T105.setTop (mkF m 88 #[rv wy, rv a2, rv b1, iv (2 : Int32)] [(.ref b1)]))
          refine own_retA X105 hx hlk Kc106 hret rfl rfl (hb hby d11_88) (by show _ ≤ 2; omega) (by show _ ≤ 13; omega) ?_
          exact Or.inr (Or.inr (Or.inl ⟨b1, w44, w45, rfl, N0, hp22, hp66, hp99, K0, sz3, f47, f48, f49, f51⟩))
      · obtain ⟨rfl, Nc110, hp108, Kc109⟩ := hQ65
        refine own_go st65 ?_
        clear st65 X64 e64
        replace N0 := Fr.app N0 Nc110
        clear Nc110
        exact absurd hp33 hp108
    · obtain ⟨rfl, Nc113, hp111, Kc112⟩ := hQ32
      refine own_go st32 ?_
      clear st32 X31 e31
      replace N0 := Fr.app N0 Nc113
      clear Nc113
      show own_Go p e below s _ _ _ (T32.setTop (mkF m 58 #[rv wy, rv a2, rv b1, iv (0 : Int32)] [(.ref wx), (.ref wy)]))
      obtain ⟨v114, T114, L114, X114, hQ114, st114⟩ := own_callV (y := own_y19) (z := own_y19) X32 hx hZ hown (ow166 hw) (ow167 hw) (notFace_of_selects (args := #[]) (mvT hZ (ow169 hw))) (ow169 hw) (ow168 hw) (ow2 hw) (ow170 hw) (rm_cfyx l Z a0 hw hO []  T7.heap O0) 0 0 0 (by show _ ≤ 2; omega) (by show _ ≤ 13; omega) Kc112 (oE2.ext O0) (g := (mkF m 58 #[rv wy, rv a2, rv b1, iv (0 : Int32)] [(.ref wx), (.ref wy)])) rfl (by rw [hml]; rfl) [(.ref wx)] [] (lenOf own_pd_14 rfl) rfl rfl (hb hby d11_58)
      obtain ⟨rfl, Nc116, Kc115⟩ := hQ114
      refine own_go st114 ?_
      clear st114 X32 Kc112
      replace N0 := Fr.app N0 Nc116
      clear Nc116
      refine own_go (fun _ k => XS.ifYes X114.here hx rfl (pc0 := 61) (pc' := 81) rfl (hb hby d11_61) rfl ((if0 _ _).trans (feq (by decide : ¬ ((1 : Int32) = (0 : Int32)))).2) (by decide) (by decide) (XS.iinc X114.here hx rfl (hb hby d11_81) rfl (l' := #[rv wy, rv a2, rv b1, iv (1 : Int32)]) rfl (XS.goto X114.here hx rfl (pc0 := 84) (pc' := 10) rfl (hb hby d11_84) (by decide) (by decide) (XS.iloadN X114.here hx rfl (hb hby d11_10) rfl (XS.iconst X114.here hx rfl (hb hby d11_11) (XS.iadd X114.here hx rfl (hb hby d11_12) rfl k)))))) ?_
      refine own_go (fun _ k => XS.aloadN X114.here hx rfl (hb hby d11_13) rfl rfl k) ?_
      show own_Go p e below s _ _ _ (T114.setTop (mkF m 14 #[rv wy, rv a2, rv b1, iv (1 : Int32)] [(.ref a2), (.int (2 : Int32))]))
      obtain ⟨v117, T117, L117, X117, hQ117, st117⟩ := own_callF (xi := own_y23) (y := own_y8) X114 hx hZ hown (ow69 hw) (ow70 hw) (ow71 hw) (ow72 hw) (ow73 hw) (ow74 hw) (ow75 hw) (ow76 hw) (ow40 hw) (ow77 hw) (by decide) (rm_alsize l Z a0 hw hO [] a2 (3 : Int32) T7.heap O0 (fp1.keep K0 nin0)) 1 0 0 (by show _ ≤ 2; omega) (by show _ ≤ 13; omega) Kc115 (fp0.keep K0) (g := (mkF m 14 #[rv wy, rv a2, rv b1, iv (1 : Int32)] [(.ref a2), (.int (2 : Int32))])) rfl (by rw [hml]; rfl) [] [(.int (2 : Int32))] (lenOf own_pd_8 rfl) rfl rfl (hb hby d11_14)
      obtain ⟨rfl, Nc119, Kc118⟩ := hQ117
      refine own_go st117 ?_
      clear st117 X114 Kc115
      replace N0 := Fr.app N0 Nc119
      clear Nc119
      refine own_go (fun _ k => XS.icmpNo X117.here hx rfl (hb hby d11_19) rfl (tlt (by decide : (2 : Int32) < (3 : Int32))).2.1 (XS.aloadN X117.here hx rfl (hb hby d11_22) rfl rfl (XS.aloadN X117.here hx rfl (hb hby d11_23) rfl rfl (XS.iloadN X117.here hx rfl (hb hby d11_24) rfl k)))) ?_
      obtain ⟨v120, T120, L120, X120, hQ120, st120⟩ := own_callF (xi := own_y25) (y := own_y12) X117 hx hZ hown (ow116 hw) (ow117 hw) (ow118 hw) (ow119 hw) (ow120 hw) (ow121 hw) (ow122 hw) (ow76 hw) (ow40 hw) (ow123 hw) (by decide) (rm_alget_1 l Z a0 hw hO [] a2 b k el1 el2 (.ref el3) .null .null .null .null .null .null .null (3 : Int32) T7.heap O0 (rfl : ((.ref el3) : Value).isRef = true) (rfl : (.null : Value).isRef = true) (rfl : (.null : Value).isRef = true) (rfl : (.null : Value).isRef = true) (rfl : (.null : Value).isRef = true) (rfl : (.null : Value).isRef = true) (rfl : (.null : Value).isRef = true) (rfl : (.null : Value).isRef = true) (fp0.keep K0) (fp2.keep K0 nin0) (fp4.keep K0 nin0) (fp1.keep K0 nin0) (by decide : (1 : Int32) < (3 : Int32))) 1 0 0 (by show _ ≤ 2; omega) (by show _ ≤ 13; omega) Kc118 (fp0.keep K0) (g := (mkF m 25 #[rv wy, rv a2, rv b1, iv (1 : Int32)] [(.int (1 : Int32)), (.ref a2), (.ref wy)])) rfl (by rw [hml]; rfl) [(.int (1 : Int32))] [(.ref wy)] (lenOf own_pd_6 rfl) rfl rfl (hb hby d11_25)
      obtain ⟨rfl, Nc122, Kc121⟩ := hQ120
      refine own_go st120 ?_
      clear st120 X117 Kc118
      replace N0 := Fr.app N0 Nc122
      clear Nc122
      obtain ⟨T123, X123, e123, st123⟩ := castY X120 hx hZ hown (ow137 hw) Kc121 (Ins.self (fp6.keep K0)) (g := (mkF m 30 #[rv wy, rv a2, rv b1, iv (1 : Int32)] [(.ref el2), (.ref wy)])) rfl rfl (hb hby d11_30)
      refine own_go st123 ?_
      clear st123 X120 Kc121
      obtain ⟨v124, T124, L124, X124, hQ124, st124⟩ := own_callS (y := own_y18) X123 hx hZ hown (ow138 hw) (ow139 hw) (ow2 hw) (ow140 hw) (rm_ofn l Z a0 hw hO [] el2 pp2 T7.heap O0 (fp6.keep K0) (own_NSkeep fp9 fp6 K0 all0)) 1 0 0 (by show _ ≤ 2; omega) (by show _ ≤ 13; omega) e123 (g := (mkF m 33 #[rv wy, rv a2, rv b1, iv (1 : Int32)] [(.ref el2), (.ref wy)])) rfl (by rw [hml]; rfl) [(.ref el2)] [(.ref wy)] (lenOf own_pd_13 rfl) rfl rfl (hb hby d11_33)
      rcases hQ124 with hQ124 | hQ124
      · obtain ⟨rfl, Nc127, hp125, Kc126⟩ := hQ124
        refine own_go st124 ?_
        clear st124 X123 e123
        replace N0 := Fr.app N0 Nc127
        clear Nc127
        exact absurd hp125 hp111
      · obtain ⟨rfl, Nc130, hp128, Kc129⟩ := hQ124
        refine own_go st124 ?_
        clear st124 X123 e123
        replace N0 := Fr.app N0 Nc130
        clear Nc130
        show own_Go p e below s _ _ _ (T124.setTop (mkF m 36 #[rv wy, rv a2, rv b1, iv (1 : Int32)] [(.ref wx), (.ref wy)]))
        obtain ⟨v131, T131, L131, X131, hQ131, st131⟩ := own_callV (y := own_y19) (z := own_y19) X124 hx hZ hown (ow166 hw) (ow167 hw) (notFace_of_selects (args := #[]) (mvT hZ (ow169 hw))) (ow169 hw) (ow168 hw) (ow2 hw) (ow170 hw) (rm_cfyx l Z a0 hw hO []  T7.heap O0) 0 0 0 (by show _ ≤ 2; omega) (by show _ ≤ 13; omega) Kc129 (oE2.ext O0) (g := (mkF m 36 #[rv wy, rv a2, rv b1, iv (1 : Int32)] [(.ref wx), (.ref wy)])) rfl (by rw [hml]; rfl) [(.ref wx)] [] (lenOf own_pd_14 rfl) rfl rfl (hb hby d11_36)
        obtain ⟨rfl, Nc133, Kc132⟩ := hQ131
        refine own_go st131 ?_
        clear st131 X124 Kc129
        replace N0 := Fr.app N0 Nc133
        clear Nc133
        refine own_go (fun _ k => XS.ifYes X131.here hx rfl (pc0 := 39) (pc' := 87) rfl (hb hby d11_39) rfl ((if0 _ _).trans (feq (by decide : ¬ ((1 : Int32) = (0 : Int32)))).2) (by decide) (by decide) (XS.aloadN X131.here hx rfl (hb hby d11_87) rfl rfl k)) ?_
        show own_Go p e below s _ _ _ (T131.setTop (mkF m 88 #[rv wy, rv a2, rv b1, iv (1 : Int32)] [(.ref b1)]))
        refine own_retA X131 hx hlk Kc132 hret rfl rfl (hb hby d11_88) (by show _ ≤ 2; omega) (by show _ ≤ 13; omega) ?_
        exact Or.inr (Or.inl ⟨b1, rfl, N0, hp22, hp128, K0, sz3, f8, f9⟩)
  · obtain ⟨rfl, Nc136, hp134, Kc135⟩ := hQ21
    refine own_go st21 ?_
    clear st21 X20 e20
    replace N0 := Fr.app N0 Nc136
    clear Nc136
    show own_Go p e below s _ _ _ (T21.setTop (mkF m 36 #[rv wy, rv a2, rv b1, iv (0 : Int32)] [(.ref wx), (.ref wy)]))
    obtain ⟨v137, T137, L137, X137, hQ137, st137⟩ := own_callV (y := own_y19) (z := own_y19) X21 hx hZ hown (ow166 hw) (ow167 hw) (notFace_of_selects (args := #[]) (mvT hZ (ow169 hw))) (ow169 hw) (ow168 hw) (ow2 hw) (ow170 hw) (rm_cfyx l Z a0 hw hO []  T7.heap O0) 0 0 0 (by show _ ≤ 2; omega) (by show _ ≤ 13; omega) Kc135 (oE2.ext O0) (g := (mkF m 36 #[rv wy, rv a2, rv b1, iv (0 : Int32)] [(.ref wx), (.ref wy)])) rfl (by rw [hml]; rfl) [(.ref wx)] [] (lenOf own_pd_14 rfl) rfl rfl (hb hby d11_36)
    obtain ⟨rfl, Nc139, Kc138⟩ := hQ137
    refine own_go st137 ?_
    clear st137 X21 Kc135
    replace N0 := Fr.app N0 Nc139
    clear Nc139
    refine own_go (fun _ k => XS.ifYes X137.here hx rfl (pc0 := 39) (pc' := 87) rfl (hb hby d11_39) rfl ((if0 _ _).trans (feq (by decide : ¬ ((1 : Int32) = (0 : Int32)))).2) (by decide) (by decide) (XS.aloadN X137.here hx rfl (hb hby d11_87) rfl rfl k)) ?_
    show own_Go p e below s _ _ _ (T137.setTop (mkF m 88 #[rv wy, rv a2, rv b1, iv (0 : Int32)] [(.ref b1)]))
    refine own_retA X137 hx hlk Kc138 hret rfl rfl (hb hby d11_88) (by show _ ≤ 2; omega) (by show _ ≤ 13; omega) ?_
    exact Or.inl ⟨b1, rfl, N0, hp134, K0, sz3, f8, f9⟩
def Q_annx4 (Z : State) (zc : Int32) (wd : Addr) (kd : ClassId) (wx : Addr) (wy : Addr) (wsp : Addr) (wspv : Addr) (wspk : ClassId) (a2 : Addr) (mc : Int32) (b : Addr) (k : ClassId) (el1 : Addr) (el2 : Addr) (el3 : Addr) (el4 : Addr) (pp1 : Int32) (pp2 : Int32) (pp3 : Int32) (pp4 : Int32) (h0 : Heap) (v : Option Value) (h : Heap) (L : List Loc) : Prop := (∃ c : Addr, v = some (.ref c) ∧ Fr Z.heap.size L ∧ Keep h0 h [] ∧ h0.size ≤ c ∧ Exa Z h c "java/util/ArrayList" ∧ Fld Z h c "java/util/ArrayList" "size" "I" (.int (0 : Int32)))
theorem ef_annx4 (m : MethodId) (x0 : Addr) (x1 : Addr) : entryFrame m #[(.ref x0), (.ref x1)] 4 = mkF m 0 #[rv x0, rv x1, .unset, .unset] [] := by first | (simp [entryFrame, mkF, argsToLocals, Value.category]; done) | rfl
set_option maxRecDepth 65536 in
set_option maxHeartbeats 40000000 in
theorem rm_annx4 (l : Launch) (Z : State) (a0 : Array Value) (hw : own_W Z a0) {zc : Int32} {wd : Addr} {kd : ClassId} {wx : Addr} {wy : Addr} {wsp : Addr} {wspv : Addr} {wspk : ClassId} (hO : own_Olds Z zc wd kd wx wy wsp wspv wspk) (ws : List Jvm.Cond) (a2 : Addr) (mc : Int32) (b : Addr) (k : ClassId) (el1 : Addr) (el2 : Addr) (el3 : Addr) (el4 : Addr) (pp1 : Int32) (pp2 : Int32) (pp3 : Int32) (pp4 : Int32) (h0 : Heap) (O0 : Ext Z.heap h0) (fp0 : Exa Z h0 a2 "java/util/ArrayList") (fp1 : Fld Z h0 a2 "java/util/ArrayList" "size" "I" (.int (4 : Int32))) (fp2 : Fld Z h0 a2 "java/util/ArrayList" "elementData" "[Ljava/lang/Object;" (.ref b)) (fp3 : Fld Z h0 a2 "java/util/AbstractList" "modCount" "I" (.int mc)) (fp4 : Arv Z h0 b k (.object "java/lang/Object") (10 : Int32) [(.ref el1), (.ref el2), (.ref el3), (.ref el4), .null, .null, .null, .null, .null, .null] .null) (fp5 : Exa Z h0 el1 "java/lang/String") (fp6 : Exa Z h0 el2 "java/lang/String") (fp7 : Exa Z h0 el3 "java/lang/String") (fp8 : Exa Z h0 el4 "java/lang/String") (fp9 : own_NS Z h0 el1 (own_Sp pp1)) (fp10 : own_NS Z h0 el2 (own_Sp pp2)) (fp11 : own_NS Z h0 el3 (own_Sp pp3)) (fp12 : own_NS Z h0 el4 (own_Sp pp4)) :
    own_MF l Z h0 own_y24 prog_5_method_10_code 4 (some (.object "java/util/List")) ({ frames := 5, cells := 1, slots := 3, locals := 72 } : Room) #[(.ref wx), (.ref a2)] (Q_annx4 Z zc wd kd wx wy wsp wspv wspk a2 mc b k el1 el2 el3 el4 pp1 pp2 pp3 pp4 h0) ws := by
  refine own_met (Q := (Q_annx4 Z zc wd kd wx wy wsp wspv wspk a2 mc b k el1 el2 el3 el4 pp1 pp2 pp3 pp4 h0)) _ _ (plainFor_of_name own_pn_7) ?_
  intro p e s m below meth c T X0 hx hby hml hret hlk hZ hown hnm e0
  replace hown : s.vm.findClass "com/example/padlock/padlock/lock/Access" = some m.cls := hown
  replace hnm : meth.name = "announced" := hnm
  have hml : c.maxLocals = 4 := hml
  obtain ⟨oCS, oCz, oDE, oDV, oEx, oSh, oE1, oE2, oPF, oSPE, oSPC, oSPF, oSPV, oNe⟩ := id hO
  have N0 := Fr.nil Z.heap.size
  have K0 := Keep.refl h0 []
  refine own_go (fun _ k => castTop (ef_annx4 m wx a2) k) ?_
  show own_Go p e below s _ _ _ (T.setTop (mkF m 0 #[rv wx, rv a2, .unset, .unset] []))
  obtain ⟨T1, h1, X1, e1, E1, A1, D1, -, st1⟩ := newO X0 hx hZ hown (ow67 hw) (ow39 hw) (ow40 hw) e0 (g := (mkF m 0 #[rv wx, rv a2, .unset, .unset] [])) rfl (hb hby d11_0) (by show _ ≤ 1; omega) (by show _ ≤ 3; omega)
  obtain ⟨b1, g1⟩ : ∃ z, z = h0.size := ⟨_, rfl⟩
  rw [← g1] at A1 D1 st1
  refine own_go st1 ?_
  clear st1 X0 e0
  have ge1 := Nat.le_of_eq g1.symm
  have big2 : Z.heap.size ≤ b1 := Nat.le_trans O0.1 ge1
  have sz3 : h0.size ≤ b1 := Nat.le_trans K0.1 ge1
  replace O0 := own_oldExt O0 E1
  replace K0 := K0.ext E1
  clear E1
  have f4 : Fld Z h1 b1 "java/util/AbstractList" "modCount" "I" (.int (0 : Int32)) := D1 (Or.inl (ow58 hw)) (ty := .int) own_fd0
  have f5 : Fld Z h1 b1 "java/util/ArrayList" "elementData" "[Ljava/lang/Object;" .null := D1 (Or.inl (ow61 hw)) (ty := (.array (.object "java/lang/Object"))) own_fd1
  have f6 : Fld Z h1 b1 "java/util/ArrayList" "size" "I" (.int (0 : Int32)) := D1 (Or.inl (ow79 hw)) (ty := .int) own_fd0
  refine own_go (fun _ k => XS.dup X1.here hx rfl (hb hby d11_3) rfl rfl k) ?_
  obtain ⟨v7, T7, L7, X7, hQ7, st7⟩ := own_callI (y := own_y2) X1 hx hZ hown (ow68 hw) (ow42 hw) (ow40 hw) (ow43 hw) (rm_alinit l Z a0 hw hO [] b1 h1 O0 A1 f6 f5 f4 big2) 1 0 0 rfl (by show _ ≤ 1; omega) (by show _ ≤ 3; omega) e1 (g := (mkF m 4 #[rv wx, rv a2, .unset, .unset] [(.ref b1), (.ref b1)])) rfl (by rw [hml]; rfl) b1 [] [(.ref b1)] (lenOf own_pd_0 rfl) rfl rfl (hb hby d11_4)
  obtain ⟨rfl, Nc13, Kc12, f8, f9, f10, f11⟩ := hQ7
  refine own_go st7 ?_
  clear st7 X1 e1
  replace N0 := Fr.app N0 Nc13
  clear Nc13
  replace A1 := A1.keep Kc12
  clear f4
  clear f5
  clear f6
  replace O0 := own_oldKeep O0 Kc12 (allS big2 all0)
  replace K0 := K0.trans Kc12 (allS (Or.inr sz3) all0)
  clear Kc12
  refine own_go (fun _ k => XS.astoreN X7.here hx rfl (hb hby d11_7) rfl rfl (l' := #[rv wx, rv a2, rv b1, .unset]) rfl (XS.iconst X7.here hx rfl (hb hby d11_8) (XS.istoreN X7.here hx rfl (hb hby d11_9) rfl (l' := #[rv wx, rv a2, rv b1, iv (0 : Int32)]) rfl (XS.iloadN X7.here hx rfl (hb hby d11_10) rfl (XS.iconst X7.here hx rfl (hb hby d11_11) k))))) ?_
  show own_Go p e below s _ _ _ (T7.setTop (mkF m 12 #[rv wx, rv a2, rv b1, iv (0 : Int32)] [(.int (1 : Int32)), (.int (0 : Int32))]))
  refine own_go (fun _ k => XS.iadd X7.here hx rfl (hb hby d11_12) rfl (XS.aloadN X7.here hx rfl (hb hby d11_13) rfl rfl k)) ?_
  obtain ⟨v14, T14, L14, X14, hQ14, st14⟩ := own_callF (xi := own_y23) (y := own_y8) X7 hx hZ hown (ow69 hw) (ow70 hw) (ow71 hw) (ow72 hw) (ow73 hw) (ow74 hw) (ow75 hw) (ow76 hw) (ow40 hw) (ow77 hw) (by decide) (rm_alsize l Z a0 hw hO [] a2 (4 : Int32) T7.heap O0 (fp1.keep K0 nin0)) 1 0 0 (by show _ ≤ 1; omega) (by show _ ≤ 3; omega) (rfl : T7.heap = T7.heap) (fp0.keep K0) (g := (mkF m 14 #[rv wx, rv a2, rv b1, iv (0 : Int32)] [(.ref a2), (.int (1 : Int32))])) rfl (by rw [hml]; rfl) [] [(.int (1 : Int32))] (lenOf own_pd_8 rfl) rfl rfl (hb hby d11_14)
  obtain ⟨rfl, Nc16, Kc15⟩ := hQ14
  refine own_go st14 ?_
  clear st14 X7
  replace N0 := Fr.app N0 Nc16
  clear Nc16
  refine own_go (fun _ k => XS.icmpNo X14.here hx rfl (hb hby d11_19) rfl (tlt (by decide : (1 : Int32) < (4 : Int32))).2.1 (XS.aloadN X14.here hx rfl (hb hby d11_22) rfl rfl (XS.aloadN X14.here hx rfl (hb hby d11_23) rfl rfl (XS.iloadN X14.here hx rfl (hb hby d11_24) rfl k)))) ?_
  obtain ⟨v17, T17, L17, X17, hQ17, st17⟩ := own_callF (xi := own_y25) (y := own_y12) X14 hx hZ hown (ow116 hw) (ow117 hw) (ow118 hw) (ow119 hw) (ow120 hw) (ow121 hw) (ow122 hw) (ow76 hw) (ow40 hw) (ow123 hw) (by decide) (rm_alget_0 l Z a0 hw hO [] a2 b k el1 (.ref el2) (.ref el3) (.ref el4) .null .null .null .null .null .null (4 : Int32) T7.heap O0 (rfl : ((.ref el2) : Value).isRef = true) (rfl : ((.ref el3) : Value).isRef = true) (rfl : ((.ref el4) : Value).isRef = true) (rfl : (.null : Value).isRef = true) (rfl : (.null : Value).isRef = true) (rfl : (.null : Value).isRef = true) (rfl : (.null : Value).isRef = true) (rfl : (.null : Value).isRef = true) (rfl : (.null : Value).isRef = true) (fp0.keep K0) (fp2.keep K0 nin0) (fp4.keep K0 nin0) (fp1.keep K0 nin0) (by decide : (0 : Int32) < (4 : Int32))) 1 0 0 (by show _ ≤ 1; omega) (by show _ ≤ 3; omega) Kc15 (fp0.keep K0) (g := (mkF m 25 #[rv wx, rv a2, rv b1, iv (0 : Int32)] [(.int (0 : Int32)), (.ref a2), (.ref wx)])) rfl (by rw [hml]; rfl) [(.int (0 : Int32))] [(.ref wx)] (lenOf own_pd_6 rfl) rfl rfl (hb hby d11_25)
  obtain ⟨rfl, Nc19, Kc18⟩ := hQ17
  refine own_go st17 ?_
  clear st17 X14 Kc15
  replace N0 := Fr.app N0 Nc19
  clear Nc19
  show own_Go p e below s _ _ _ (T17.setTop (mkF m 30 #[rv wx, rv a2, rv b1, iv (0 : Int32)] [(.ref el1), (.ref wx)]))
  obtain ⟨T20, X20, e20, st20⟩ := castY X17 hx hZ hown (ow137 hw) Kc18 (Ins.self (fp5.keep K0)) (g := (mkF m 30 #[rv wx, rv a2, rv b1, iv (0 : Int32)] [(.ref el1), (.ref wx)])) rfl rfl (hb hby d11_30)
  refine own_go st20 ?_
  clear st20 X17 Kc18
  obtain ⟨v21, T21, L21, X21, hQ21, st21⟩ := own_callS (y := own_y18) X20 hx hZ hown (ow138 hw) (ow139 hw) (ow2 hw) (ow140 hw) (rm_ofn l Z a0 hw hO [] el1 pp1 T7.heap O0 (fp5.keep K0) (own_NSkeep fp9 fp5 K0 all0)) 1 0 0 (by show _ ≤ 1; omega) (by show _ ≤ 3; omega) e20 (g := (mkF m 33 #[rv wx, rv a2, rv b1, iv (0 : Int32)] [(.ref el1), (.ref wx)])) rfl (by rw [hml]; rfl) [(.ref el1)] [(.ref wx)] (lenOf own_pd_13 rfl) rfl rfl (hb hby d11_33)
  rcases hQ21 with hQ21 | hQ21
  · obtain ⟨rfl, Nc24, hp22, Kc23⟩ := hQ21
    refine own_go st21 ?_
    clear st21 X20 e20
    replace N0 := Fr.app N0 Nc24
    clear Nc24
    show own_Go p e below s _ _ _ (T21.setTop (mkF m 36 #[rv wx, rv a2, rv b1, iv (0 : Int32)] [(.ref wy), (.ref wx)]))
    obtain ⟨v25, T25, L25, X25, hQ25, st25⟩ := own_callV (y := own_y19) (z := own_y19) X21 hx hZ hown (ow166 hw) (ow167 hw) (notFace_of_selects (args := #[]) (mvT hZ (ow169 hw))) (ow169 hw) (ow168 hw) (ow2 hw) (ow170 hw) (rm_cfxy l Z a0 hw hO []  T7.heap O0) 0 0 0 (by show _ ≤ 1; omega) (by show _ ≤ 3; omega) Kc23 (oE1.ext O0) (g := (mkF m 36 #[rv wx, rv a2, rv b1, iv (0 : Int32)] [(.ref wy), (.ref wx)])) rfl (by rw [hml]; rfl) [(.ref wy)] [] (lenOf own_pd_14 rfl) rfl rfl (hb hby d11_36)
    obtain ⟨rfl, Nc27, Kc26⟩ := hQ25
    refine own_go st25 ?_
    clear st25 X21 Kc23
    replace N0 := Fr.app N0 Nc27
    clear Nc27
    refine own_go (fun _ k => XS.ifYes X25.here hx rfl (pc0 := 39) (pc' := 87) rfl (hb hby d11_39) rfl ((if0 _ _).trans (feq (by decide : ¬ ((1 : Int32) = (0 : Int32)))).2) (by decide) (by decide) (XS.aloadN X25.here hx rfl (hb hby d11_87) rfl rfl k)) ?_
    show own_Go p e below s _ _ _ (T25.setTop (mkF m 88 #[rv wx, rv a2, rv b1, iv (0 : Int32)] [(.ref b1)]))
    refine own_retA X25 hx hlk Kc26 hret rfl rfl (hb hby d11_88) (by show _ ≤ 1; omega) (by show _ ≤ 3; omega) ?_
    exact ⟨b1, rfl, N0, K0, sz3, f8, f9⟩
  · obtain ⟨rfl, Nc30, hp28, Kc29⟩ := hQ21
    refine own_go st21 ?_
    clear st21 X20 e20
    replace N0 := Fr.app N0 Nc30
    clear Nc30
    show own_Go p e below s _ _ _ (T21.setTop (mkF m 36 #[rv wx, rv a2, rv b1, iv (0 : Int32)] [(.ref wx), (.ref wx)]))
    obtain ⟨v31, T31, L31, X31, hQ31, st31⟩ := own_callV (y := own_y19) (z := own_y19) X21 hx hZ hown (ow166 hw) (ow167 hw) (notFace_of_selects (args := #[]) (mvT hZ (ow169 hw))) (ow169 hw) (ow168 hw) (ow2 hw) (ow170 hw) (rm_cfxx l Z a0 hw hO []  T7.heap O0) 0 0 0 (by show _ ≤ 1; omega) (by show _ ≤ 3; omega) Kc29 (oE1.ext O0) (g := (mkF m 36 #[rv wx, rv a2, rv b1, iv (0 : Int32)] [(.ref wx), (.ref wx)])) rfl (by rw [hml]; rfl) [(.ref wx)] [] (lenOf own_pd_14 rfl) rfl rfl (hb hby d11_36)
    obtain ⟨rfl, Nc33, Kc32⟩ := hQ31
    refine own_go st31 ?_
    clear st31 X21 Kc29
    replace N0 := Fr.app N0 Nc33
    clear Nc33
    refine own_go (fun _ k => XS.ifYes X31.here hx rfl (pc0 := 39) (pc' := 87) rfl (hb hby d11_39) rfl ((if0 _ _).trans (feq (by decide : ¬ ((1 : Int32) = (0 : Int32)))).2) (by decide) (by decide) (XS.aloadN X31.here hx rfl (hb hby d11_87) rfl rfl k)) ?_
    show own_Go p e below s _ _ _ (T31.setTop (mkF m 88 #[rv wx, rv a2, rv b1, iv (0 : Int32)] [(.ref b1)]))
    refine own_retA X31 hx hlk Kc32 hret rfl rfl (hb hby d11_88) (by show _ ≤ 1; omega) (by show _ ≤ 3; omega) ?_
    exact ⟨b1, rfl, N0, K0, sz3, f8, f9⟩
def Q_anny4 (Z : State) (zc : Int32) (wd : Addr) (kd : ClassId) (wx : Addr) (wy : Addr) (wsp : Addr) (wspv : Addr) (wspk : ClassId) (a2 : Addr) (mc : Int32) (b : Addr) (k : ClassId) (el1 : Addr) (el2 : Addr) (el3 : Addr) (el4 : Addr) (pp1 : Int32) (pp2 : Int32) (pp3 : Int32) (pp4 : Int32) (h0 : Heap) (v : Option Value) (h : Heap) (L : List Loc) : Prop := (∃ c : Addr, v = some (.ref c) ∧ Fr Z.heap.size L ∧ ¬ (own_Sp pp1) ∧ Keep h0 h [] ∧ h0.size ≤ c ∧ Exa Z h c "java/util/ArrayList" ∧ Fld Z h c "java/util/ArrayList" "size" "I" (.int (0 : Int32))) ∨ (∃ c : Addr, v = some (.ref c) ∧ Fr Z.heap.size L ∧ own_Sp pp1 ∧ ¬ (own_Sp pp2) ∧ Keep h0 h [] ∧ h0.size ≤ c ∧ Exa Z h c "java/util/ArrayList" ∧ Fld Z h c "java/util/ArrayList" "size" "I" (.int (0 : Int32))) ∨ (∃ c : Addr, ∃ d : Addr, ∃ kd2 : ClassId, v = some (.ref c) ∧ Fr Z.heap.size L ∧ own_Sp pp1 ∧ own_Sp pp2 ∧ ¬ (own_Sp pp3) ∧ Keep h0 h [] ∧ h0.size ≤ c ∧ Exa Z h c "java/util/ArrayList" ∧ Fld Z h c "java/util/ArrayList" "size" "I" (.int (1 : Int32)) ∧ Fld Z h c "java/util/ArrayList" "elementData" "[Ljava/lang/Object;" (.ref d) ∧ Arv Z h d kd2 (.object "java/lang/Object") (10 : Int32) [(.ref el1), .null, .null, .null, .null, .null, .null, .null, .null, .null] .null) ∨ (∃ c : Addr, ∃ d : Addr, ∃ kd2 : ClassId, v = some (.ref c) ∧ Fr Z.heap.size L ∧ own_Sp pp1 ∧ own_Sp pp2 ∧ own_Sp pp3 ∧ ¬ (own_Sp pp4) ∧ Keep h0 h [] ∧ h0.size ≤ c ∧ Exa Z h c "java/util/ArrayList" ∧ Fld Z h c "java/util/ArrayList" "size" "I" (.int (2 : Int32)) ∧ Fld Z h c "java/util/ArrayList" "elementData" "[Ljava/lang/Object;" (.ref d) ∧ Arv Z h d kd2 (.object "java/lang/Object") (10 : Int32) [(.ref el1), (.ref el2), .null, .null, .null, .null, .null, .null, .null, .null] .null) ∨ (∃ c : Addr, ∃ d : Addr, ∃ kd2 : ClassId, v = some (.ref c) ∧ Fr Z.heap.size L ∧ own_Sp pp1 ∧ own_Sp pp2 ∧ own_Sp pp3 ∧ own_Sp pp4 ∧ Keep h0 h [] ∧ h0.size ≤ c ∧ Exa Z h c "java/util/ArrayList" ∧ Fld Z h c "java/util/ArrayList" "size" "I" (.int (3 : Int32)) ∧ Fld Z h c "java/util/ArrayList" "elementData" "[Ljava/lang/Object;" (.ref d) ∧ Arv Z h d kd2 (.object "java/lang/Object") (10 : Int32) [(.ref el1), (.ref el2), (.ref el3), .null, .null, .null, .null, .null, .null, .null] .null)
theorem ef_anny4 (m : MethodId) (x0 : Addr) (x1 : Addr) : entryFrame m #[(.ref x0), (.ref x1)] 4 = mkF m 0 #[rv x0, rv x1, .unset, .unset] [] := by first | (simp [entryFrame, mkF, argsToLocals, Value.category]; done) | rfl
set_option maxRecDepth 65536 in
set_option maxHeartbeats 40000000 in
theorem rm_anny4 (l : Launch) (Z : State) (a0 : Array Value) (hw : own_W Z a0) {zc : Int32} {wd : Addr} {kd : ClassId} {wx : Addr} {wy : Addr} {wsp : Addr} {wspv : Addr} {wspk : ClassId} (hO : own_Olds Z zc wd kd wx wy wsp wspv wspk) (ws : List Jvm.Cond) (a2 : Addr) (mc : Int32) (b : Addr) (k : ClassId) (el1 : Addr) (el2 : Addr) (el3 : Addr) (el4 : Addr) (pp1 : Int32) (pp2 : Int32) (pp3 : Int32) (pp4 : Int32) (h0 : Heap) (O0 : Ext Z.heap h0) (fp0 : Exa Z h0 a2 "java/util/ArrayList") (fp1 : Fld Z h0 a2 "java/util/ArrayList" "size" "I" (.int (4 : Int32))) (fp2 : Fld Z h0 a2 "java/util/ArrayList" "elementData" "[Ljava/lang/Object;" (.ref b)) (fp3 : Fld Z h0 a2 "java/util/AbstractList" "modCount" "I" (.int mc)) (fp4 : Arv Z h0 b k (.object "java/lang/Object") (10 : Int32) [(.ref el1), (.ref el2), (.ref el3), (.ref el4), .null, .null, .null, .null, .null, .null] .null) (fp5 : Exa Z h0 el1 "java/lang/String") (fp6 : Exa Z h0 el2 "java/lang/String") (fp7 : Exa Z h0 el3 "java/lang/String") (fp8 : Exa Z h0 el4 "java/lang/String") (fp9 : own_NS Z h0 el1 (own_Sp pp1)) (fp10 : own_NS Z h0 el2 (own_Sp pp2)) (fp11 : own_NS Z h0 el3 (own_Sp pp3)) (fp12 : own_NS Z h0 el4 (own_Sp pp4)) :
    own_MF l Z h0 own_y24 prog_5_method_10_code 4 (some (.object "java/util/List")) ({ frames := 5, cells := 2, slots := 13, locals := 72 } : Room) #[(.ref wy), (.ref a2)] (Q_anny4 Z zc wd kd wx wy wsp wspv wspk a2 mc b k el1 el2 el3 el4 pp1 pp2 pp3 pp4 h0) ws := by
  refine own_met (Q := (Q_anny4 Z zc wd kd wx wy wsp wspv wspk a2 mc b k el1 el2 el3 el4 pp1 pp2 pp3 pp4 h0)) _ _ (plainFor_of_name own_pn_7) ?_
  intro p e s m below meth c T X0 hx hby hml hret hlk hZ hown hnm e0
  replace hown : s.vm.findClass "com/example/padlock/padlock/lock/Access" = some m.cls := hown
  replace hnm : meth.name = "announced" := hnm
  have hml : c.maxLocals = 4 := hml
  obtain ⟨oCS, oCz, oDE, oDV, oEx, oSh, oE1, oE2, oPF, oSPE, oSPC, oSPF, oSPV, oNe⟩ := id hO
  have N0 := Fr.nil Z.heap.size
  have K0 := Keep.refl h0 []
  refine own_go (fun _ k => castTop (ef_anny4 m wy a2) k) ?_
  show own_Go p e below s _ _ _ (T.setTop (mkF m 0 #[rv wy, rv a2, .unset, .unset] []))
  obtain ⟨T1, h1, X1, e1, E1, A1, D1, -, st1⟩ := newO X0 hx hZ hown (ow67 hw) (ow39 hw) (ow40 hw) e0 (g := (mkF m 0 #[rv wy, rv a2, .unset, .unset] [])) rfl (hb hby d11_0) (by show _ ≤ 2; omega) (by show _ ≤ 13; omega)
  obtain ⟨b1, g1⟩ : ∃ z, z = h0.size := ⟨_, rfl⟩
  rw [← g1] at A1 D1 st1
  refine own_go st1 ?_
  clear st1 X0 e0
  have ge1 := Nat.le_of_eq g1.symm
  have big2 : Z.heap.size ≤ b1 := Nat.le_trans O0.1 ge1
  have sz3 : h0.size ≤ b1 := Nat.le_trans K0.1 ge1
  replace O0 := own_oldExt O0 E1
  replace K0 := K0.ext E1
  clear E1
  have f4 : Fld Z h1 b1 "java/util/AbstractList" "modCount" "I" (.int (0 : Int32)) := D1 (Or.inl (ow58 hw)) (ty := .int) own_fd0
  have f5 : Fld Z h1 b1 "java/util/ArrayList" "elementData" "[Ljava/lang/Object;" .null := D1 (Or.inl (ow61 hw)) (ty := (.array (.object "java/lang/Object"))) own_fd1
  have f6 : Fld Z h1 b1 "java/util/ArrayList" "size" "I" (.int (0 : Int32)) := D1 (Or.inl (ow79 hw)) (ty := .int) own_fd0
  refine own_go (fun _ k => XS.dup X1.here hx rfl (hb hby d11_3) rfl rfl k) ?_
  obtain ⟨v7, T7, L7, X7, hQ7, st7⟩ := own_callI (y := own_y2) X1 hx hZ hown (ow68 hw) (ow42 hw) (ow40 hw) (ow43 hw) (rm_alinit l Z a0 hw hO [] b1 h1 O0 A1 f6 f5 f4 big2) 1 0 0 rfl (by show _ ≤ 2; omega) (by show _ ≤ 13; omega) e1 (g := (mkF m 4 #[rv wy, rv a2, .unset, .unset] [(.ref b1), (.ref b1)])) rfl (by rw [hml]; rfl) b1 [] [(.ref b1)] (lenOf own_pd_0 rfl) rfl rfl (hb hby d11_4)
  obtain ⟨rfl, Nc13, Kc12, f8, f9, f10, f11⟩ := hQ7
  refine own_go st7 ?_
  clear st7 X1 e1
  replace N0 := Fr.app N0 Nc13
  clear Nc13
  replace A1 := A1.keep Kc12
  clear f4
  clear f5
  clear f6
  replace O0 := own_oldKeep O0 Kc12 (allS big2 all0)
  replace K0 := K0.trans Kc12 (allS (Or.inr sz3) all0)
  clear Kc12
  refine own_go (fun _ k => XS.astoreN X7.here hx rfl (hb hby d11_7) rfl rfl (l' := #[rv wy, rv a2, rv b1, .unset]) rfl (XS.iconst X7.here hx rfl (hb hby d11_8) (XS.istoreN X7.here hx rfl (hb hby d11_9) rfl (l' := #[rv wy, rv a2, rv b1, iv (0 : Int32)]) rfl (XS.iloadN X7.here hx rfl (hb hby d11_10) rfl (XS.iconst X7.here hx rfl (hb hby d11_11) k))))) ?_
  show own_Go p e below s _ _ _ (T7.setTop (mkF m 12 #[rv wy, rv a2, rv b1, iv (0 : Int32)] [(.int (1 : Int32)), (.int (0 : Int32))]))
  refine own_go (fun _ k => XS.iadd X7.here hx rfl (hb hby d11_12) rfl (XS.aloadN X7.here hx rfl (hb hby d11_13) rfl rfl k)) ?_
  obtain ⟨v14, T14, L14, X14, hQ14, st14⟩ := own_callF (xi := own_y23) (y := own_y8) X7 hx hZ hown (ow69 hw) (ow70 hw) (ow71 hw) (ow72 hw) (ow73 hw) (ow74 hw) (ow75 hw) (ow76 hw) (ow40 hw) (ow77 hw) (by decide) (rm_alsize l Z a0 hw hO [] a2 (4 : Int32) T7.heap O0 (fp1.keep K0 nin0)) 1 0 0 (by show _ ≤ 2; omega) (by show _ ≤ 13; omega) (rfl : T7.heap = T7.heap) (fp0.keep K0) (g := (mkF m 14 #[rv wy, rv a2, rv b1, iv (0 : Int32)] [(.ref a2), (.int (1 : Int32))])) rfl (by rw [hml]; rfl) [] [(.int (1 : Int32))] (lenOf own_pd_8 rfl) rfl rfl (hb hby d11_14)
  obtain ⟨rfl, Nc16, Kc15⟩ := hQ14
  refine own_go st14 ?_
  clear st14 X7
  replace N0 := Fr.app N0 Nc16
  clear Nc16
  refine own_go (fun _ k => XS.icmpNo X14.here hx rfl (hb hby d11_19) rfl (tlt (by decide : (1 : Int32) < (4 : Int32))).2.1 (XS.aloadN X14.here hx rfl (hb hby d11_22) rfl rfl (XS.aloadN X14.here hx rfl (hb hby d11_23) rfl rfl (XS.iloadN X14.here hx rfl (hb hby d11_24) rfl k)))) ?_
  obtain ⟨v17, T17, L17, X17, hQ17, st17⟩ := own_callF (xi := own_y25) (y := own_y12) X14 hx hZ hown (ow116 hw) (ow117 hw) (ow118 hw) (ow119 hw) (ow120 hw) (ow121 hw) (ow122 hw) (ow76 hw) (ow40 hw) (ow123 hw) (by decide) (rm_alget_0 l Z a0 hw hO [] a2 b k el1 (.ref el2) (.ref el3) (.ref el4) .null .null .null .null .null .null (4 : Int32) T7.heap O0 (rfl : ((.ref el2) : Value).isRef = true) (rfl : ((.ref el3) : Value).isRef = true) (rfl : ((.ref el4) : Value).isRef = true) (rfl : (.null : Value).isRef = true) (rfl : (.null : Value).isRef = true) (rfl : (.null : Value).isRef = true) (rfl : (.null : Value).isRef = true) (rfl : (.null : Value).isRef = true) (rfl : (.null : Value).isRef = true) (fp0.keep K0) (fp2.keep K0 nin0) (fp4.keep K0 nin0) (fp1.keep K0 nin0) (by decide : (0 : Int32) < (4 : Int32))) 1 0 0 (by show _ ≤ 2; omega) (by show _ ≤ 13; omega) Kc15 (fp0.keep K0) (g := (mkF m 25 #[rv wy, rv a2, rv b1, iv (0 : Int32)] [(.int (0 : Int32)), (.ref a2), (.ref wy)])) rfl (by rw [hml]; rfl) [(.int (0 : Int32))] [(.ref wy)] (lenOf own_pd_6 rfl) rfl rfl (hb hby d11_25)
  obtain ⟨rfl, Nc19, Kc18⟩ := hQ17
  refine own_go st17 ?_
  clear st17 X14 Kc15
  replace N0 := Fr.app N0 Nc19
  clear Nc19
  show own_Go p e below s _ _ _ (T17.setTop (mkF m 30 #[rv wy, rv a2, rv b1, iv (0 : Int32)] [(.ref el1), (.ref wy)]))
  obtain ⟨T20, X20, e20, st20⟩ := castY X17 hx hZ hown (ow137 hw) Kc18 (Ins.self (fp5.keep K0)) (g := (mkF m 30 #[rv wy, rv a2, rv b1, iv (0 : Int32)] [(.ref el1), (.ref wy)])) rfl rfl (hb hby d11_30)
  refine own_go st20 ?_
  clear st20 X17 Kc18
  obtain ⟨v21, T21, L21, X21, hQ21, st21⟩ := own_callS (y := own_y18) X20 hx hZ hown (ow138 hw) (ow139 hw) (ow2 hw) (ow140 hw) (rm_ofn l Z a0 hw hO [] el1 pp1 T7.heap O0 (fp5.keep K0) (own_NSkeep fp9 fp5 K0 all0)) 1 0 0 (by show _ ≤ 2; omega) (by show _ ≤ 13; omega) e20 (g := (mkF m 33 #[rv wy, rv a2, rv b1, iv (0 : Int32)] [(.ref el1), (.ref wy)])) rfl (by rw [hml]; rfl) [(.ref el1)] [(.ref wy)] (lenOf own_pd_13 rfl) rfl rfl (hb hby d11_33)
  rcases hQ21 with hQ21 | hQ21
  · obtain ⟨rfl, Nc24, hp22, Kc23⟩ := hQ21
    refine own_go st21 ?_
    clear st21 X20 e20
    replace N0 := Fr.app N0 Nc24
    clear Nc24
    show own_Go p e below s _ _ _ (T21.setTop (mkF m 36 #[rv wy, rv a2, rv b1, iv (0 : Int32)] [(.ref wy), (.ref wy)]))
    obtain ⟨v25, T25, L25, X25, hQ25, st25⟩ := own_callV (y := own_y19) (z := own_y19) X21 hx hZ hown (ow166 hw) (ow167 hw) (notFace_of_selects (args := #[]) (mvT hZ (ow169 hw))) (ow169 hw) (ow168 hw) (ow2 hw) (ow170 hw) (rm_cfyy l Z a0 hw hO []  T7.heap O0) 0 0 0 (by show _ ≤ 2; omega) (by show _ ≤ 13; omega) Kc23 (oE2.ext O0) (g := (mkF m 36 #[rv wy, rv a2, rv b1, iv (0 : Int32)] [(.ref wy), (.ref wy)])) rfl (by rw [hml]; rfl) [(.ref wy)] [] (lenOf own_pd_14 rfl) rfl rfl (hb hby d11_36)
    obtain ⟨rfl, Nc27, Kc26⟩ := hQ25
    refine own_go st25 ?_
    clear st25 X21 Kc23
    replace N0 := Fr.app N0 Nc27
    clear Nc27
    refine own_go (fun _ k => XS.ifNo X25.here hx rfl (hb hby d11_39) rfl ((if0 _ _).trans (teq (by decide : (0 : Int32) = (0 : Int32))).2) (XS.aloadN X25.here hx rfl (hb hby d11_42) rfl rfl (XS.aloadN X25.here hx rfl (hb hby d11_43) rfl rfl (XS.iloadN X25.here hx rfl (hb hby d11_44) rfl (XS.iconst X25.here hx rfl (hb hby d11_45) (XS.iadd X25.here hx rfl (hb hby d11_46) rfl k)))))) ?_
    obtain ⟨v28, T28, L28, X28, hQ28, st28⟩ := own_callF (xi := own_y25) (y := own_y12) X25 hx hZ hown (ow116 hw) (ow117 hw) (ow118 hw) (ow119 hw) (ow120 hw) (ow121 hw) (ow122 hw) (ow76 hw) (ow40 hw) (ow123 hw) (by decide) (rm_alget_1 l Z a0 hw hO [] a2 b k el1 el2 (.ref el3) (.ref el4) .null .null .null .null .null .null (4 : Int32) T7.heap O0 (rfl : ((.ref el3) : Value).isRef = true) (rfl : ((.ref el4) : Value).isRef = true) (rfl : (.null : Value).isRef = true) (rfl : (.null : Value).isRef = true) (rfl : (.null : Value).isRef = true) (rfl : (.null : Value).isRef = true) (rfl : (.null : Value).isRef = true) (rfl : (.null : Value).isRef = true) (fp0.keep K0) (fp2.keep K0 nin0) (fp4.keep K0 nin0) (fp1.keep K0 nin0) (by decide : (1 : Int32) < (4 : Int32))) 1 0 0 (by show _ ≤ 2; omega) (by show _ ≤ 13; omega) Kc26 (fp0.keep K0) (g := (mkF m 47 #[rv wy, rv a2, rv b1, iv (0 : Int32)] [(.int (1 : Int32)), (.ref a2), (.ref wy)])) rfl (by rw [hml]; rfl) [(.int (1 : Int32))] [(.ref wy)] (lenOf own_pd_6 rfl) rfl rfl (hb hby d11_47)
    obtain ⟨rfl, Nc30, Kc29⟩ := hQ28
    refine own_go st28 ?_
    clear st28 X25 Kc26
    replace N0 := Fr.app N0 Nc30
    clear Nc30
    show own_Go p e below s _ _ _ (T28.setTop (mkF m 52 #[rv wy, rv a2, rv b1, iv (0 : Int32)] [(.ref el2), (.ref wy)]))
    obtain ⟨T31, X31, e31, st31⟩ := castY X28 hx hZ hown (ow137 hw) Kc29 (Ins.self (fp6.keep K0)) (g := (mkF m 52 #[rv wy, rv a2, rv b1, iv (0 : Int32)] [(.ref el2), (.ref wy)])) rfl rfl (hb hby d11_52)
    refine own_go st31 ?_
    clear st31 X28 Kc29
    obtain ⟨v32, T32, L32, X32, hQ32, st32⟩ := own_callS (y := own_y18) X31 hx hZ hown (ow138 hw) (ow139 hw) (ow2 hw) (ow140 hw) (rm_ofn l Z a0 hw hO [] el2 pp2 T7.heap O0 (fp6.keep K0) (own_NSkeep fp10 fp6 K0 all0)) 1 0 0 (by show _ ≤ 2; omega) (by show _ ≤ 13; omega) e31 (g := (mkF m 55 #[rv wy, rv a2, rv b1, iv (0 : Int32)] [(.ref el2), (.ref wy)])) rfl (by rw [hml]; rfl) [(.ref el2)] [(.ref wy)] (lenOf own_pd_13 rfl) rfl rfl (hb hby d11_55)
    rcases hQ32 with hQ32 | hQ32
    · obtain ⟨rfl, Nc35, hp33, Kc34⟩ := hQ32
      refine own_go st32 ?_
      clear st32 X31 e31
      replace N0 := Fr.app N0 Nc35
      clear Nc35
      show own_Go p e below s _ _ _ (T32.setTop (mkF m 58 #[rv wy, rv a2, rv b1, iv (0 : Int32)] [(.ref wy), (.ref wy)]))
      obtain ⟨v36, T36, L36, X36, hQ36, st36⟩ := own_callV (y := own_y19) (z := own_y19) X32 hx hZ hown (ow166 hw) (ow167 hw) (notFace_of_selects (args := #[]) (mvT hZ (ow169 hw))) (ow169 hw) (ow168 hw) (ow2 hw) (ow170 hw) (rm_cfyy l Z a0 hw hO []  T7.heap O0) 0 0 0 (by show _ ≤ 2; omega) (by show _ ≤ 13; omega) Kc34 (oE2.ext O0) (g := (mkF m 58 #[rv wy, rv a2, rv b1, iv (0 : Int32)] [(.ref wy), (.ref wy)])) rfl (by rw [hml]; rfl) [(.ref wy)] [] (lenOf own_pd_14 rfl) rfl rfl (hb hby d11_58)
      obtain ⟨rfl, Nc38, Kc37⟩ := hQ36
      refine own_go st36 ?_
      clear st36 X32 Kc34
      replace N0 := Fr.app N0 Nc38
      clear Nc38
      refine own_go (fun _ k => XS.ifNo X36.here hx rfl (hb hby d11_61) rfl ((if0 _ _).trans (teq (by decide : (0 : Int32) = (0 : Int32))).2) (XS.aloadN X36.here hx rfl (hb hby d11_64) rfl rfl (XS.aloadN X36.here hx rfl (hb hby d11_65) rfl rfl (XS.iloadN X36.here hx rfl (hb hby d11_66) rfl k)))) ?_
      obtain ⟨v39, T39, L39, X39, hQ39, st39⟩ := own_callF (xi := own_y25) (y := own_y12) X36 hx hZ hown (ow116 hw) (ow117 hw) (ow118 hw) (ow119 hw) (ow120 hw) (ow121 hw) (ow122 hw) (ow76 hw) (ow40 hw) (ow123 hw) (by decide) (rm_alget_0 l Z a0 hw hO [] a2 b k el1 (.ref el2) (.ref el3) (.ref el4) .null .null .null .null .null .null (4 : Int32) T7.heap O0 (rfl : ((.ref el2) : Value).isRef = true) (rfl : ((.ref el3) : Value).isRef = true) (rfl : ((.ref el4) : Value).isRef = true) (rfl : (.null : Value).isRef = true) (rfl : (.null : Value).isRef = true) (rfl : (.null : Value).isRef = true) (rfl : (.null : Value).isRef = true) (rfl : (.null : Value).isRef = true) (rfl : (.null : Value).isRef = true) (fp0.keep K0) (fp2.keep K0 nin0) (fp4.keep K0 nin0) (fp1.keep K0 nin0) (by decide : (0 : Int32) < (4 : Int32))) 1 0 0 (by show _ ≤ 2; omega) (by show _ ≤ 13; omega) Kc37 (fp0.keep K0) (g := (mkF m 67 #[rv wy, rv a2, rv b1, iv (0 : Int32)] [(.int (0 : Int32)), (.ref a2), (.ref b1)])) rfl (by rw [hml]; rfl) [(.int (0 : Int32))] [(.ref b1)] (lenOf own_pd_6 rfl) rfl rfl (hb hby d11_67)
      obtain ⟨rfl, Nc41, Kc40⟩ := hQ39
      refine own_go st39 ?_
      clear st39 X36 Kc37
      replace N0 := Fr.app N0 Nc41
      clear Nc41
      obtain ⟨T42, X42, e42, st42⟩ := castY X39 hx hZ hown (ow137 hw) Kc40 (Ins.self (fp5.keep K0)) (g := (mkF m 72 #[rv wy, rv a2, rv b1, iv (0 : Int32)] [(.ref el1), (.ref b1)])) rfl rfl (hb hby d11_72)
      refine own_go st42 ?_
      clear st42 X39 Kc40
      obtain ⟨v43, T43, L43, X43, hQ43, st43⟩ := own_callF (xi := own_y26) (y := own_y7) X42 hx hZ hown (ow177 hw) (ow82 hw) (ow83 hw) (ow84 hw) (ow85 hw) (ow86 hw) (ow87 hw) (ow76 hw) (ow40 hw) (ow88 hw) (by decide) (rm_add1_0 l Z a0 hw hO [] b1 el1 (0 : Int32) T7.heap O0 f8 f9 f10 f11 (Ins.of_exa (fp5.keep K0) (ow112 hw)) big2) 0 1 10 (by show _ ≤ 2; omega) (by show _ ≤ 13; omega) e42 f8 (g := (mkF m 75 #[rv wy, rv a2, rv b1, iv (0 : Int32)] [(.ref el1), (.ref b1)])) rfl (by rw [hml]; rfl) [(.ref el1)] [] (lenOf own_pd_15 rfl) rfl rfl (hb hby d11_75)
      obtain ⟨w44, w45, rfl, Nc54, Kc53, hb46, f47, f48, f49, f50, f51, f52⟩ := hQ43
      refine own_go st43 ?_
      clear st43 X42 e42
      replace N0 := Fr.app N0 Nc54
      clear Nc54
      have ne55 : b1 ≠ w44 := Nat.ne_of_lt (Nat.lt_of_lt_of_le f8.lt hb46)
      have big56 : Z.heap.size ≤ w44 := Nat.le_trans O0.1 hb46
      have sz57 : h0.size ≤ w44 := Nat.le_trans K0.1 hb46
      replace f8 := f8.keep Kc53
      clear f9
      clear f10
      clear f11
      replace O0 := own_oldKeep O0 Kc53 (allS big2 all0)
      replace K0 := K0.trans Kc53 (allS (Or.inr sz3) all0)
      clear Kc53
      show own_Go p e below s _ _ _ (T43.setTop (mkF m 80 #[rv wy, rv a2, rv b1, iv (0 : Int32)] [(.int (1 : Int32))]))
      refine own_go (fun _ k => XS.pop X43.here hx rfl (hb hby d11_80) rfl rfl (XS.iinc X43.here hx rfl (hb hby d11_81) rfl (l' := #[rv wy, rv a2, rv b1, iv (1 : Int32)]) rfl (XS.goto X43.here hx rfl (pc0 := 84) (pc' := 10) rfl (hb hby d11_84) (by decide) (by decide) (XS.iloadN X43.here hx rfl (hb hby d11_10) rfl (XS.iconst X43.here hx rfl (hb hby d11_11) (XS.iadd X43.here hx rfl (hb hby d11_12) rfl k)))))) ?_
      refine own_go (fun _ k => XS.aloadN X43.here hx rfl (hb hby d11_13) rfl rfl k) ?_
      obtain ⟨v58, T58, L58, X58, hQ58, st58⟩ := own_callF (xi := own_y23) (y := own_y8) X43 hx hZ hown (ow69 hw) (ow70 hw) (ow71 hw) (ow72 hw) (ow73 hw) (ow74 hw) (ow75 hw) (ow76 hw) (ow40 hw) (ow77 hw) (by decide) (rm_alsize l Z a0 hw hO [] a2 (4 : Int32) T43.heap O0 (fp1.keep K0 nin0)) 1 0 0 (by show _ ≤ 2; omega) (by show _ ≤ 13; omega) (rfl : T43.heap = T43.heap) (fp0.keep K0) (g := (mkF m 14 #[rv wy, rv a2, rv b1, iv (1 : Int32)] [(.ref a2), (.int (2 : Int32))])) rfl (by rw [hml]; rfl) [] [(.int (2 : Int32))] (lenOf own_pd_8 rfl) rfl rfl (hb hby d11_14)
      obtain ⟨rfl, Nc60, Kc59⟩ := hQ58
      refine own_go st58 ?_
      clear st58 X43
      replace N0 := Fr.app N0 Nc60
      clear Nc60
      show own_Go p e below s _ _ _ (T58.setTop (mkF m 19 #[rv wy, rv a2, rv b1, iv (1 : Int32)] [(.int (4 : Int32)), (.int (2 : Int32))]))
      refine own_go (fun _ k => XS.icmpNo X58.here hx rfl (hb hby d11_19) rfl (tlt (by decide : (2 : Int32) < (4 : Int32))).2.1 (XS.aloadN X58.here hx rfl (hb hby d11_22) rfl rfl (XS.aloadN X58.here hx rfl (hb hby d11_23) rfl rfl (XS.iloadN X58.here hx rfl (hb hby d11_24) rfl k)))) ?_
      obtain ⟨v61, T61, L61, X61, hQ61, st61⟩ := own_callF (xi := own_y25) (y := own_y12) X58 hx hZ hown (ow116 hw) (ow117 hw) (ow118 hw) (ow119 hw) (ow120 hw) (ow121 hw) (ow122 hw) (ow76 hw) (ow40 hw) (ow123 hw) (by decide) (rm_alget_1 l Z a0 hw hO [] a2 b k el1 el2 (.ref el3) (.ref el4) .null .null .null .null .null .null (4 : Int32) T43.heap O0 (rfl : ((.ref el3) : Value).isRef = true) (rfl : ((.ref el4) : Value).isRef = true) (rfl : (.null : Value).isRef = true) (rfl : (.null : Value).isRef = true) (rfl : (.null : Value).isRef = true) (rfl : (.null : Value).isRef = true) (rfl : (.null : Value).isRef = true) (rfl : (.null : Value).isRef = true) (fp0.keep K0) (fp2.keep K0 nin0) (fp4.keep K0 nin0) (fp1.keep K0 nin0) (by decide : (1 : Int32) < (4 : Int32))) 1 0 0 (by show _ ≤ 2; omega) (by show _ ≤ 13; omega) Kc59 (fp0.keep K0) (g := (mkF m 25 #[rv wy, rv a2, rv b1, iv (1 : Int32)] [(.int (1 : Int32)), (.ref a2), (.ref wy)])) rfl (by rw [hml]; rfl) [(.int (1 : Int32))] [(.ref wy)] (lenOf own_pd_6 rfl) rfl rfl (hb hby d11_25)
      obtain ⟨rfl, Nc63, Kc62⟩ := hQ61
      refine own_go st61 ?_
      clear st61 X58 Kc59
      replace N0 := Fr.app N0 Nc63
      clear Nc63
      obtain ⟨T64, X64, e64, st64⟩ := castY X61 hx hZ hown (ow137 hw) Kc62 (Ins.self (fp6.keep K0)) (g := (mkF m 30 #[rv wy, rv a2, rv b1, iv (1 : Int32)] [(.ref el2), (.ref wy)])) rfl rfl (hb hby d11_30)
      refine own_go st64 ?_
      clear st64 X61 Kc62
      obtain ⟨v65, T65, L65, X65, hQ65, st65⟩ := own_callS (y := own_y18) X64 hx hZ hown (ow138 hw) (ow139 hw) (ow2 hw) (ow140 hw) (rm_ofn l Z a0 hw hO [] el2 pp2 T43.heap O0 (fp6.keep K0) (own_NSkeep fp10 fp6 K0 all0)) 1 0 0 (by show _ ≤ 2; omega) (by show _ ≤ 13; omega) e64 (g := (mkF m 33 #[rv wy, rv a2, rv b1, iv (1 : Int32)] [(.ref el2), (.ref wy)])) rfl (by rw [hml]; rfl) [(.ref el2)] [(.ref wy)] (lenOf own_pd_13 rfl) rfl rfl (hb hby d11_33)
      rcases hQ65 with hQ65 | hQ65
      · obtain ⟨rfl, Nc68, hp66, Kc67⟩ := hQ65
        refine own_go st65 ?_
        clear st65 X64 e64
        replace N0 := Fr.app N0 Nc68
        clear Nc68
        show own_Go p e below s _ _ _ (T65.setTop (mkF m 36 #[rv wy, rv a2, rv b1, iv (1 : Int32)] [(.ref wy), (.ref wy)]))
        obtain ⟨v69, T69, L69, X69, hQ69, st69⟩ := own_callV (y := own_y19) (z := own_y19) X65 hx hZ hown (ow166 hw) (ow167 hw) (notFace_of_selects (args := #[]) (mvT hZ (ow169 hw))) (ow169 hw) (ow168 hw) (ow2 hw) (ow170 hw) (rm_cfyy l Z a0 hw hO []  T43.heap O0) 0 0 0 (by show _ ≤ 2; omega) (by show _ ≤ 13; omega) Kc67 (oE2.ext O0) (g := (mkF m 36 #[rv wy, rv a2, rv b1, iv (1 : Int32)] [(.ref wy), (.ref wy)])) rfl (by rw [hml]; rfl) [(.ref wy)] [] (lenOf own_pd_14 rfl) rfl rfl (hb hby d11_36)
        obtain ⟨rfl, Nc71, Kc70⟩ := hQ69
        refine own_go st69 ?_
        clear st69 X65 Kc67
        replace N0 := Fr.app N0 Nc71
        clear Nc71
        refine own_go (fun _ k => XS.ifNo X69.here hx rfl (hb hby d11_39) rfl ((if0 _ _).trans (teq (by decide : (0 : Int32) = (0 : Int32))).2) (XS.aloadN X69.here hx rfl (hb hby d11_42) rfl rfl (XS.aloadN X69.here hx rfl (hb hby d11_43) rfl rfl (XS.iloadN X69.here hx rfl (hb hby d11_44) rfl (XS.iconst X69.here hx rfl (hb hby d11_45) (XS.iadd X69.here hx rfl (hb hby d11_46) rfl k)))))) ?_
        obtain ⟨v72, T72, L72, X72, hQ72, st72⟩ := own_callF (xi := own_y25) (y := own_y12) X69 hx hZ hown (ow116 hw) (ow117 hw) (ow118 hw) (ow119 hw) (ow120 hw) (ow121 hw) (ow122 hw) (ow76 hw) (ow40 hw) (ow123 hw) (by decide) (rm_alget_2 l Z a0 hw hO [] a2 b k el1 el2 el3 (.ref el4) .null .null .null .null .null .null (4 : Int32) T43.heap O0 (rfl : ((.ref el4) : Value).isRef = true) (rfl : (.null : Value).isRef = true) (rfl : (.null : Value).isRef = true) (rfl : (.null : Value).isRef = true) (rfl : (.null : Value).isRef = true) (rfl : (.null : Value).isRef = true) (rfl : (.null : Value).isRef = true) (fp0.keep K0) (fp2.keep K0 nin0) (fp4.keep K0 nin0) (fp1.keep K0 nin0) (by decide : (2 : Int32) < (4 : Int32))) 1 0 0 (by show _ ≤ 2; omega) (by show _ ≤ 13; omega) Kc70 (fp0.keep K0) (g := (mkF m 47 #[rv wy, rv a2, rv b1, iv (1 : Int32)] [(.int (2 : Int32)), (.ref a2), (.ref wy)])) rfl (by rw [hml]; rfl) [(.int (2 : Int32))] [(.ref wy)] (lenOf own_pd_6 rfl) rfl rfl (hb hby d11_47)
        obtain ⟨rfl, Nc74, Kc73⟩ := hQ72
        refine own_go st72 ?_
        clear st72 X69 Kc70
        replace N0 := Fr.app N0 Nc74
        clear Nc74
        show own_Go p e below s _ _ _ (T72.setTop (mkF m 52 #[rv wy, rv a2, rv b1, iv (1 : Int32)] [(.ref el3), (.ref wy)]))
        obtain ⟨T75, X75, e75, st75⟩ := castY X72 hx hZ hown (ow137 hw) Kc73 (Ins.self (fp7.keep K0)) (g := (mkF m 52 #[rv wy, rv a2, rv b1, iv (1 : Int32)] [(.ref el3), (.ref wy)])) rfl rfl (hb hby d11_52)
        refine own_go st75 ?_
        clear st75 X72 Kc73
        obtain ⟨v76, T76, L76, X76, hQ76, st76⟩ := own_callS (y := own_y18) X75 hx hZ hown (ow138 hw) (ow139 hw) (ow2 hw) (ow140 hw) (rm_ofn l Z a0 hw hO [] el3 pp3 T43.heap O0 (fp7.keep K0) (own_NSkeep fp11 fp7 K0 all0)) 1 0 0 (by show _ ≤ 2; omega) (by show _ ≤ 13; omega) e75 (g := (mkF m 55 #[rv wy, rv a2, rv b1, iv (1 : Int32)] [(.ref el3), (.ref wy)])) rfl (by rw [hml]; rfl) [(.ref el3)] [(.ref wy)] (lenOf own_pd_13 rfl) rfl rfl (hb hby d11_55)
        rcases hQ76 with hQ76 | hQ76
        · obtain ⟨rfl, Nc79, hp77, Kc78⟩ := hQ76
          refine own_go st76 ?_
          clear st76 X75 e75
          replace N0 := Fr.app N0 Nc79
          clear Nc79
          show own_Go p e below s _ _ _ (T76.setTop (mkF m 58 #[rv wy, rv a2, rv b1, iv (1 : Int32)] [(.ref wy), (.ref wy)]))
          obtain ⟨v80, T80, L80, X80, hQ80, st80⟩ := own_callV (y := own_y19) (z := own_y19) X76 hx hZ hown (ow166 hw) (ow167 hw) (notFace_of_selects (args := #[]) (mvT hZ (ow169 hw))) (ow169 hw) (ow168 hw) (ow2 hw) (ow170 hw) (rm_cfyy l Z a0 hw hO []  T43.heap O0) 0 0 0 (by show _ ≤ 2; omega) (by show _ ≤ 13; omega) Kc78 (oE2.ext O0) (g := (mkF m 58 #[rv wy, rv a2, rv b1, iv (1 : Int32)] [(.ref wy), (.ref wy)])) rfl (by rw [hml]; rfl) [(.ref wy)] [] (lenOf own_pd_14 rfl) rfl rfl (hb hby d11_58)
          obtain ⟨rfl, Nc82, Kc81⟩ := hQ80
          refine own_go st80 ?_
          clear st80 X76 Kc78
          replace N0 := Fr.app N0 Nc82
          clear Nc82
          refine own_go (fun _ k => XS.ifNo X80.here hx rfl (hb hby d11_61) rfl ((if0 _ _).trans (teq (by decide : (0 : Int32) = (0 : Int32))).2) (XS.aloadN X80.here hx rfl (hb hby d11_64) rfl rfl (XS.aloadN X80.here hx rfl (hb hby d11_65) rfl rfl (XS.iloadN X80.here hx rfl (hb hby d11_66) rfl k)))) ?_
          obtain ⟨v83, T83, L83, X83, hQ83, st83⟩ := own_callF (xi := own_y25) (y := own_y12) X80 hx hZ hown (ow116 hw) (ow117 hw) (ow118 hw) (ow119 hw) (ow120 hw) (ow121 hw) (ow122 hw) (ow76 hw) (ow40 hw) (ow123 hw) (by decide) (rm_alget_1 l Z a0 hw hO [] a2 b k el1 el2 (.ref el3) (.ref el4) .null .null .null .null .null .null (4 : Int32) T43.heap O0 (rfl : ((.ref el3) : Value).isRef = true) (rfl : ((.ref el4) : Value).isRef = true) (rfl : (.null : Value).isRef = true) (rfl : (.null : Value).isRef = true) (rfl : (.null : Value).isRef = true) (rfl : (.null : Value).isRef = true) (rfl : (.null : Value).isRef = true) (rfl : (.null : Value).isRef = true) (fp0.keep K0) (fp2.keep K0 nin0) (fp4.keep K0 nin0) (fp1.keep K0 nin0) (by decide : (1 : Int32) < (4 : Int32))) 1 0 0 (by show _ ≤ 2; omega) (by show _ ≤ 13; omega) Kc81 (fp0.keep K0) (g := (mkF m 67 #[rv wy, rv a2, rv b1, iv (1 : Int32)] [(.int (1 : Int32)), (.ref a2), (.ref b1)])) rfl (by rw [hml]; rfl) [(.int (1 : Int32))] [(.ref b1)] (lenOf own_pd_6 rfl) rfl rfl (hb hby d11_67)
          obtain ⟨rfl, Nc85, Kc84⟩ := hQ83
          refine own_go st83 ?_
          clear st83 X80 Kc81
          replace N0 := Fr.app N0 Nc85
          clear Nc85
          obtain ⟨T86, X86, e86, st86⟩ := castY X83 hx hZ hown (ow137 hw) Kc84 (Ins.self (fp6.keep K0)) (g := (mkF m 72 #[rv wy, rv a2, rv b1, iv (1 : Int32)] [(.ref el2), (.ref b1)])) rfl rfl (hb hby d11_72)
          refine own_go st86 ?_
          clear st86 X83 Kc84
          obtain ⟨v87, T87, L87, X87, hQ87, st87⟩ := own_callF (xi := own_y26) (y := own_y7) X86 hx hZ hown (ow177 hw) (ow82 hw) (ow83 hw) (ow84 hw) (ow85 hw) (ow86 hw) (ow87 hw) (ow76 hw) (ow40 hw) (ow88 hw) (by decide) (rm_add1_1 l Z a0 hw hO [] b1 el2 w44 w45 ((0 : Int32) + (1 : Int32)) el1 T43.heap O0 f47 f48 f49 f50 f51 f52 (Ins.of_exa (fp6.keep K0) (ow112 hw)) big2 big56) 0 0 0 (by show _ ≤ 2; omega) (by show _ ≤ 13; omega) e86 f47 (g := (mkF m 75 #[rv wy, rv a2, rv b1, iv (1 : Int32)] [(.ref el2), (.ref b1)])) rfl (by rw [hml]; rfl) [(.ref el2)] [] (lenOf own_pd_15 rfl) rfl rfl (hb hby d11_75)
          obtain ⟨rfl, Nc95, Kc94, f88, f89, f90, f91, f92, f93⟩ := hQ87
          refine own_go st87 ?_
          clear st87 X86 e86
          replace N0 := Fr.app N0 Nc95
          clear Nc95
          replace f47 := f47.keep Kc94
          clear f48
          clear f49
          clear f50
          clear f51
          replace O0 := own_oldKeep O0 Kc94 (allS big2 (allS big56 all0))
          replace K0 := K0.trans Kc94 (allS (Or.inr sz3) (allS (Or.inr sz57) all0))
          clear Kc94
          show own_Go p e below s _ _ _ (T87.setTop (mkF m 80 #[rv wy, rv a2, rv b1, iv (1 : Int32)] [(.int (1 : Int32))]))
          refine own_go (fun _ k => XS.pop X87.here hx rfl (hb hby d11_80) rfl rfl (XS.iinc X87.here hx rfl (hb hby d11_81) rfl (l' := #[rv wy, rv a2, rv b1, iv (2 : Int32)]) rfl (XS.goto X87.here hx rfl (pc0 := 84) (pc' := 10) rfl (hb hby d11_84) (by decide) (by decide) (XS.iloadN X87.here hx rfl (hb hby d11_10) rfl (XS.iconst X87.here hx rfl (hb hby d11_11) (XS.iadd X87.here hx rfl (hb hby d11_12) rfl k)))))) ?_
          refine own_go (fun _ k => XS.aloadN X87.here hx rfl (hb hby d11_13) rfl rfl k) ?_
          obtain ⟨v96, T96, L96, X96, hQ96, st96⟩ := own_callF (xi := own_y23) (y := own_y8) X87 hx hZ hown (ow69 hw) (ow70 hw) (ow71 hw) (ow72 hw) (ow73 hw) (ow74 hw) (ow75 hw) (ow76 hw) (ow40 hw) (ow77 hw) (by decide) (rm_alsize l Z a0 hw hO [] a2 (4 : Int32) T87.heap O0 (fp1.keep K0 nin0)) 1 0 0 (by show _ ≤ 2; omega) (by show _ ≤ 13; omega) (rfl : T87.heap = T87.heap) (fp0.keep K0) (g := (mkF m 14 #[rv wy, rv a2, rv b1, iv (2 : Int32)] [(.ref a2), (.int (3 : Int32))])) rfl (by rw [hml]; rfl) [] [(.int (3 : Int32))] (lenOf own_pd_8 rfl) rfl rfl (hb hby d11_14)
          obtain ⟨rfl, Nc98, Kc97⟩ := hQ96
          refine own_go st96 ?_
          clear st96 X87
          replace N0 := Fr.app N0 Nc98
          clear Nc98
          show own_Go p e below s _ _ _ (T96.setTop (mkF m 19 #[rv wy, rv a2, rv b1, iv (2 : Int32)] [(.int (4 : Int32)), (.int (3 : Int32))]))
          refine own_go (fun _ k => XS.icmpNo X96.here hx rfl (hb hby d11_19) rfl (tlt (by decide : (3 : Int32) < (4 : Int32))).2.1 (XS.aloadN X96.here hx rfl (hb hby d11_22) rfl rfl (XS.aloadN X96.here hx rfl (hb hby d11_23) rfl rfl (XS.iloadN X96.here hx rfl (hb hby d11_24) rfl k)))) ?_
          obtain ⟨v99, T99, L99, X99, hQ99, st99⟩ := own_callF (xi := own_y25) (y := own_y12) X96 hx hZ hown (ow116 hw) (ow117 hw) (ow118 hw) (ow119 hw) (ow120 hw) (ow121 hw) (ow122 hw) (ow76 hw) (ow40 hw) (ow123 hw) (by decide) (rm_alget_2 l Z a0 hw hO [] a2 b k el1 el2 el3 (.ref el4) .null .null .null .null .null .null (4 : Int32) T87.heap O0 (rfl : ((.ref el4) : Value).isRef = true) (rfl : (.null : Value).isRef = true) (rfl : (.null : Value).isRef = true) (rfl : (.null : Value).isRef = true) (rfl : (.null : Value).isRef = true) (rfl : (.null : Value).isRef = true) (rfl : (.null : Value).isRef = true) (fp0.keep K0) (fp2.keep K0 nin0) (fp4.keep K0 nin0) (fp1.keep K0 nin0) (by decide : (2 : Int32) < (4 : Int32))) 1 0 0 (by show _ ≤ 2; omega) (by show _ ≤ 13; omega) Kc97 (fp0.keep K0) (g := (mkF m 25 #[rv wy, rv a2, rv b1, iv (2 : Int32)] [(.int (2 : Int32)), (.ref a2), (.ref wy)])) rfl (by rw [hml]; rfl) [(.int (2 : Int32))] [(.ref wy)] (lenOf own_pd_6 rfl) rfl rfl (hb hby d11_25)
          obtain ⟨rfl, Nc101, Kc100⟩ := hQ99
          refine own_go st99 ?_
          clear st99 X96 Kc97
          replace N0 := Fr.app N0 Nc101
          clear Nc101
          obtain ⟨T102, X102, e102, st102⟩ := castY X99 hx hZ hown (ow137 hw) Kc100 (Ins.self (fp7.keep K0)) (g := (mkF m 30 #[rv wy, rv a2, rv b1, iv (2 : Int32)] [(.ref el3), (.ref wy)])) rfl rfl (hb hby d11_30)
          refine own_go st102 ?_
          clear st102 X99 Kc100
          obtain ⟨v103, T103, L103, X103, hQ103, st103⟩ := own_callS (y := own_y18) X102 hx hZ hown (ow138 hw) (ow139 hw) (ow2 hw) (ow140 hw) (rm_ofn l Z a0 hw hO [] el3 pp3 T87.heap O0 (fp7.keep K0) (own_NSkeep fp11 fp7 K0 all0)) 1 0 0 (by show _ ≤ 2; omega) (by show _ ≤ 13; omega) e102 (g := (mkF m 33 #[rv wy, rv a2, rv b1, iv (2 : Int32)] [(.ref el3), (.ref wy)])) rfl (by rw [hml]; rfl) [(.ref el3)] [(.ref wy)] (lenOf own_pd_13 rfl) rfl rfl (hb hby d11_33)
          rcases hQ103 with hQ103 | hQ103
          · obtain ⟨rfl, Nc106, hp104, Kc105⟩ := hQ103
            refine own_go st103 ?_
            clear st103 X102 e102
            replace N0 := Fr.app N0 Nc106
            clear Nc106
            show own_Go p e below s _ _ _ (T103.setTop (mkF m 36 #[rv wy, rv a2, rv b1, iv (2 : Int32)] [(.ref wy), (.ref wy)]))
            obtain ⟨v107, T107, L107, X107, hQ107, st107⟩ := own_callV (y := own_y19) (z := own_y19) X103 hx hZ hown (ow166 hw) (ow167 hw) (notFace_of_selects (args := #[]) (mvT hZ (ow169 hw))) (ow169 hw) (ow168 hw) (ow2 hw) (ow170 hw) (rm_cfyy l Z a0 hw hO []  T87.heap O0) 0 0 0 (by show _ ≤ 2; omega) (by show _ ≤ 13; omega) Kc105 (oE2.ext O0) (g := (mkF m 36 #[rv wy, rv a2, rv b1, iv (2 : Int32)] [(.ref wy), (.ref wy)])) rfl (by rw [hml]; rfl) [(.ref wy)] [] (lenOf own_pd_14 rfl) rfl rfl (hb hby d11_36)
            obtain ⟨rfl, Nc109, Kc108⟩ := hQ107
            refine own_go st107 ?_
            clear st107 X103 Kc105
            replace N0 := Fr.app N0 Nc109
            clear Nc109
            refine own_go (fun _ k => XS.ifNo X107.here hx rfl (hb hby d11_39) rfl ((if0 _ _).trans (teq (by decide : (0 : Int32) = (0 : Int32))).2) (XS.aloadN X107.here hx rfl (hb hby d11_42) rfl rfl (XS.aloadN X107.here hx rfl (hb hby d11_43) rfl rfl (XS.iloadN X107.here hx rfl (hb hby d11_44) rfl (XS.iconst X107.here hx rfl (hb hby d11_45) (XS.iadd X107.here hx rfl (hb hby d11_46) rfl k)))))) ?_
            obtain ⟨v110, T110, L110, X110, hQ110, st110⟩ := own_callF (xi := own_y25) (y := own_y12) X107 hx hZ hown (ow116 hw) (ow117 hw) (ow118 hw) (ow119 hw) (ow120 hw) (ow121 hw) (ow122 hw) (ow76 hw) (ow40 hw) (ow123 hw) (by decide) (rm_alget_3 l Z a0 hw hO [] a2 b k el1 el2 el3 el4 .null .null .null .null .null .null (4 : Int32) T87.heap O0 (rfl : (.null : Value).isRef = true) (rfl : (.null : Value).isRef = true) (rfl : (.null : Value).isRef = true) (rfl : (.null : Value).isRef = true) (rfl : (.null : Value).isRef = true) (rfl : (.null : Value).isRef = true) (fp0.keep K0) (fp2.keep K0 nin0) (fp4.keep K0 nin0) (fp1.keep K0 nin0) (by decide : (3 : Int32) < (4 : Int32))) 1 0 0 (by show _ ≤ 2; omega) (by show _ ≤ 13; omega) Kc108 (fp0.keep K0) (g := (mkF m 47 #[rv wy, rv a2, rv b1, iv (2 : Int32)] [(.int (3 : Int32)), (.ref a2), (.ref wy)])) rfl (by rw [hml]; rfl) [(.int (3 : Int32))] [(.ref wy)] (lenOf own_pd_6 rfl) rfl rfl (hb hby d11_47)
            obtain ⟨rfl, Nc112, Kc111⟩ := hQ110
            refine own_go st110 ?_
            clear st110 X107 Kc108
            replace N0 := Fr.app N0 Nc112
            clear Nc112
            show own_Go p e below s _ _ _ (T110.setTop (mkF m 52 #[rv wy, rv a2, rv b1, iv (2 : Int32)] [(.ref el4), (.ref wy)]))
            obtain ⟨T113, X113, e113, st113⟩ := castY X110 hx hZ hown (ow137 hw) Kc111 (Ins.self (fp8.keep K0)) (g := (mkF m 52 #[rv wy, rv a2, rv b1, iv (2 : Int32)] [(.ref el4), (.ref wy)])) rfl rfl (hb hby d11_52)
            refine own_go st113 ?_
            clear st113 X110 Kc111
            obtain ⟨v114, T114, L114, X114, hQ114, st114⟩ := own_callS (y := own_y18) X113 hx hZ hown (ow138 hw) (ow139 hw) (ow2 hw) (ow140 hw) (rm_ofn l Z a0 hw hO [] el4 pp4 T87.heap O0 (fp8.keep K0) (own_NSkeep fp12 fp8 K0 all0)) 1 0 0 (by show _ ≤ 2; omega) (by show _ ≤ 13; omega) e113 (g := (mkF m 55 #[rv wy, rv a2, rv b1, iv (2 : Int32)] [(.ref el4), (.ref wy)])) rfl (by rw [hml]; rfl) [(.ref el4)] [(.ref wy)] (lenOf own_pd_13 rfl) rfl rfl (hb hby d11_55)
            rcases hQ114 with hQ114 | hQ114
            · obtain ⟨rfl, Nc117, hp115, Kc116⟩ := hQ114
              refine own_go st114 ?_
              clear st114 X113 e113
              replace N0 := Fr.app N0 Nc117
              clear Nc117
              show own_Go p e below s _ _ _ (T114.setTop (mkF m 58 #[rv wy, rv a2, rv b1, iv (2 : Int32)] [(.ref wy), (.ref wy)]))
              obtain ⟨v118, T118, L118, X118, hQ118, st118⟩ := own_callV (y := own_y19) (z := own_y19) X114 hx hZ hown (ow166 hw) (ow167 hw) (notFace_of_selects (args := #[]) (mvT hZ (ow169 hw))) (ow169 hw) (ow168 hw) (ow2 hw) (ow170 hw) (rm_cfyy l Z a0 hw hO []  T87.heap O0) 0 0 0 (by show _ ≤ 2; omega) (by show _ ≤ 13; omega) Kc116 (oE2.ext O0) (g := (mkF m 58 #[rv wy, rv a2, rv b1, iv (2 : Int32)] [(.ref wy), (.ref wy)])) rfl (by rw [hml]; rfl) [(.ref wy)] [] (lenOf own_pd_14 rfl) rfl rfl (hb hby d11_58)
              obtain ⟨rfl, Nc120, Kc119⟩ := hQ118
              refine own_go st118 ?_
              clear st118 X114 Kc116
              replace N0 := Fr.app N0 Nc120
              clear Nc120
              refine own_go (fun _ k => XS.ifNo X118.here hx rfl (hb hby d11_61) rfl ((if0 _ _).trans (teq (by decide : (0 : Int32) = (0 : Int32))).2) (XS.aloadN X118.here hx rfl (hb hby d11_64) rfl rfl (XS.aloadN X118.here hx rfl (hb hby d11_65) rfl rfl (XS.iloadN X118.here hx rfl (hb hby d11_66) rfl k)))) ?_
              obtain ⟨v121, T121, L121, X121, hQ121, st121⟩ := own_callF (xi := own_y25) (y := own_y12) X118 hx hZ hown (ow116 hw) (ow117 hw) (ow118 hw) (ow119 hw) (ow120 hw) (ow121 hw) (ow122 hw) (ow76 hw) (ow40 hw) (ow123 hw) (by decide) (rm_alget_2 l Z a0 hw hO [] a2 b k el1 el2 el3 (.ref el4) .null .null .null .null .null .null (4 : Int32) T87.heap O0 (rfl : ((.ref el4) : Value).isRef = true) (rfl : (.null : Value).isRef = true) (rfl : (.null : Value).isRef = true) (rfl : (.null : Value).isRef = true) (rfl : (.null : Value).isRef = true) (rfl : (.null : Value).isRef = true) (rfl : (.null : Value).isRef = true) (fp0.keep K0) (fp2.keep K0 nin0) (fp4.keep K0 nin0) (fp1.keep K0 nin0) (by decide : (2 : Int32) < (4 : Int32))) 1 0 0 (by show _ ≤ 2; omega) (by show _ ≤ 13; omega) Kc119 (fp0.keep K0) (g := (mkF m 67 #[rv wy, rv a2, rv b1, iv (2 : Int32)] [(.int (2 : Int32)), (.ref a2), (.ref b1)])) rfl (by rw [hml]; rfl) [(.int (2 : Int32))] [(.ref b1)] (lenOf own_pd_6 rfl) rfl rfl (hb hby d11_67)
              obtain ⟨rfl, Nc123, Kc122⟩ := hQ121
              refine own_go st121 ?_
              clear st121 X118 Kc119
              replace N0 := Fr.app N0 Nc123
              clear Nc123
              obtain ⟨T124, X124, e124, st124⟩ := castY X121 hx hZ hown (ow137 hw) Kc122 (Ins.self (fp7.keep K0)) (g := (mkF m 72 #[rv wy, rv a2, rv b1, iv (2 : Int32)] [(.ref el3), (.ref b1)])) rfl rfl (hb hby d11_72)
              refine own_go st124 ?_
              clear st124 X121 Kc122
              obtain ⟨v125, T125, L125, X125, hQ125, st125⟩ := own_callF (xi := own_y26) (y := own_y7) X124 hx hZ hown (ow177 hw) (ow82 hw) (ow83 hw) (ow84 hw) (ow85 hw) (ow86 hw) (ow87 hw) (ow76 hw) (ow40 hw) (ow88 hw) (by decide) (rm_add1_2 l Z a0 hw hO [] b1 el3 w44 w45 (((0 : Int32) + (1 : Int32)) + (1 : Int32)) el1 el2 T87.heap O0 f88 f89 f90 f91 f92 f93 (Ins.of_exa (fp7.keep K0) (ow112 hw)) big2 big56) 0 0 0 (by show _ ≤ 2; omega) (by show _ ≤ 13; omega) e124 f88 (g := (mkF m 75 #[rv wy, rv a2, rv b1, iv (2 : Int32)] [(.ref el3), (.ref b1)])) rfl (by rw [hml]; rfl) [(.ref el3)] [] (lenOf own_pd_15 rfl) rfl rfl (hb hby d11_75)
              obtain ⟨rfl, Nc133, Kc132, f126, f127, f128, f129, f130, f131⟩ := hQ125
              refine own_go st125 ?_
              clear st125 X124 e124
              replace N0 := Fr.app N0 Nc133
              clear Nc133
              replace f88 := f88.keep Kc132
              clear f89
              clear f90
              clear f91
              clear f92
              replace O0 := own_oldKeep O0 Kc132 (allS big2 (allS big56 all0))
              replace K0 := K0.trans Kc132 (allS (Or.inr sz3) (allS (Or.inr sz57) all0))
              clear Kc132
              show own_Go p e below s _ _ _ (T125.setTop (mkF m 80 #[rv wy, rv a2, rv b1, iv (2 : Int32)] [(.int (1 : Int32))]))
              refine own_go (fun _ k => XS.pop X125.here hx rfl (hb hby d11_80) rfl rfl (XS.iinc X125.here hx rfl (hb hby d11_81) rfl (l' := #[rv wy, rv a2, rv b1, iv (3 : Int32)]) rfl (XS.goto X125.here hx rfl (pc0 := 84) (pc' := 10) rfl (hb hby d11_84) (by decide) (by decide) (XS.iloadN X125.here hx rfl (hb hby d11_10) rfl (XS.iconst X125.here hx rfl (hb hby d11_11) (XS.iadd X125.here hx rfl (hb hby d11_12) rfl k)))))) ?_
              refine own_go (fun _ k => XS.aloadN X125.here hx rfl (hb hby d11_13) rfl rfl k) ?_
              obtain ⟨v134, T134, L134, X134, hQ134, st134⟩ := own_callF (xi := own_y23) (y := own_y8) X125 hx hZ hown (ow69 hw) (ow70 hw) (ow71 hw) (ow72 hw) (ow73 hw) (ow74 hw) (ow75 hw) (ow76 hw) (ow40 hw) (ow77 hw) (by decide) (rm_alsize l Z a0 hw hO [] a2 (4 : Int32) T125.heap O0 (fp1.keep K0 nin0)) 1 0 0 (by show _ ≤ 2; omega) (by show _ ≤ 13; omega) (rfl : T125.heap = T125.heap) (fp0.keep K0) (g := (mkF m 14 #[rv wy, rv a2, rv b1, iv (3 : Int32)] [(.ref a2), (.int (4 : Int32))])) rfl (by rw [hml]; rfl) [] [(.int (4 : Int32))] (lenOf own_pd_8 rfl) rfl rfl (hb hby d11_14)
              obtain ⟨rfl, Nc136, Kc135⟩ := hQ134
              refine own_go st134 ?_
              clear st134 X125
              replace N0 := Fr.app N0 Nc136
              clear Nc136
              show own_Go p e below s _ _ _ (T134.setTop (mkF m 19 #[rv wy, rv a2, rv b1, iv (3 : Int32)] [(.int (4 : Int32)), (.int (4 : Int32))]))
              refine own_go (fun _ k => XS.icmpYes X134.here hx rfl (pc0 := 19) (pc' := 87) rfl (hb hby d11_19) rfl (flt (by decide : ¬ ((4 : Int32) < (4 : Int32)))).2.1 (by decide) (by decide) (XS.aloadN X134.here hx rfl (hb hby d11_87) rfl rfl k)) ?_
              show own_Go p e below s _ _ _ (T134.setTop (mkF m 88 #[rv wy, rv a2, rv b1, iv (3 : Int32)] [(.ref b1)]))
              refine own_retA X134 hx hlk Kc135 hret rfl rfl (hb hby d11_88) (by show _ ≤ 2; omega) (by show _ ≤ 13; omega) ?_
              exact Or.inr (Or.inr (Or.inr (Or.inr (⟨b1, w44, w45, rfl, N0, hp22, hp66, hp104, hp115, K0, sz3, f126, f127, f128, f130⟩))))
            · obtain ⟨rfl, Nc139, hp137, Kc138⟩ := hQ114
              refine own_go st114 ?_
              clear st114 X113 e113
              replace N0 := Fr.app N0 Nc139
              clear Nc139
              show own_Go p e below s _ _ _ (T114.setTop (mkF m 58 #[rv wy, rv a2, rv b1, iv (2 : Int32)] [(.ref wx), (.ref wy)]))
              obtain ⟨v140, T140, L140, X140, hQ140, st140⟩ := own_callV (y := own_y19) (z := own_y19) X114 hx hZ hown (ow166 hw) (ow167 hw) (notFace_of_selects (args := #[]) (mvT hZ (ow169 hw))) (ow169 hw) (ow168 hw) (ow2 hw) (ow170 hw) (rm_cfyx l Z a0 hw hO []  T87.heap O0) 0 0 0 (by show _ ≤ 2; omega) (by show _ ≤ 13; omega) Kc138 (oE2.ext O0) (g := (mkF m 58 #[rv wy, rv a2, rv b1, iv (2 : Int32)] [(.ref wx), (.ref wy)])) rfl (by rw [hml]; rfl) [(.ref wx)] [] (lenOf own_pd_14 rfl) rfl rfl (hb hby d11_58)
              obtain ⟨rfl, Nc142, Kc141⟩ := hQ140
              refine own_go st140 ?_
              clear st140 X114 Kc138
              replace N0 := Fr.app N0 Nc142
              clear Nc142
              refine own_go (fun _ k => XS.ifYes X140.here hx rfl (pc0 := 61) (pc' := 81) rfl (hb hby d11_61) rfl ((if0 _ _).trans (feq (by decide : ¬ ((1 : Int32) = (0 : Int32)))).2) (by decide) (by decide) (XS.iinc X140.here hx rfl (hb hby d11_81) rfl (l' := #[rv wy, rv a2, rv b1, iv (3 : Int32)]) rfl (XS.goto X140.here hx rfl (pc0 := 84) (pc' := 10) rfl (hb hby d11_84) (by decide) (by decide) (XS.iloadN X140.here hx rfl (hb hby d11_10) rfl (XS.iconst X140.here hx rfl (hb hby d11_11) (XS.iadd X140.here hx rfl (hb hby d11_12) rfl k)))))) ?_
              refine own_go (fun _ k => XS.aloadN X140.here hx rfl (hb hby d11_13) rfl rfl k) ?_
              show own_Go p e below s _ _ _ (T140.setTop (mkF m 14 #[rv wy, rv a2, rv b1, iv (3 : Int32)] [(.ref a2), (.int (4 : Int32))]))
              obtain ⟨v143, T143, L143, X143, hQ143, st143⟩ := own_callF (xi := own_y23) (y := own_y8) X140 hx hZ hown (ow69 hw) (ow70 hw) (ow71 hw) (ow72 hw) (ow73 hw) (ow74 hw) (ow75 hw) (ow76 hw) (ow40 hw) (ow77 hw) (by decide) (rm_alsize l Z a0 hw hO [] a2 (4 : Int32) T87.heap O0 (fp1.keep K0 nin0)) 1 0 0 (by show _ ≤ 2; omega) (by show _ ≤ 13; omega) Kc141 (fp0.keep K0) (g := (mkF m 14 #[rv wy, rv a2, rv b1, iv (3 : Int32)] [(.ref a2), (.int (4 : Int32))])) rfl (by rw [hml]; rfl) [] [(.int (4 : Int32))] (lenOf own_pd_8 rfl) rfl rfl (hb hby d11_14)
              obtain ⟨rfl, Nc145, Kc144⟩ := hQ143
              refine own_go st143 ?_
              clear st143 X140 Kc141
              replace N0 := Fr.app N0 Nc145
              clear Nc145
              refine own_go (fun _ k => XS.icmpYes X143.here hx rfl (pc0 := 19) (pc' := 87) rfl (hb hby d11_19) rfl (flt (by decide : ¬ ((4 : Int32) < (4 : Int32)))).2.1 (by decide) (by decide) (XS.aloadN X143.here hx rfl (hb hby d11_87) rfl rfl k)) ?_
              show own_Go p e below s _ _ _ (T143.setTop (mkF m 88 #[rv wy, rv a2, rv b1, iv (3 : Int32)] [(.ref b1)]))
              refine own_retA X143 hx hlk Kc144 hret rfl rfl (hb hby d11_88) (by show _ ≤ 2; omega) (by show _ ≤ 13; omega) ?_
              exact Or.inr (Or.inr (Or.inr (Or.inl ⟨b1, w44, w45, rfl, N0, hp22, hp66, hp104, hp137, K0, sz3, f88, f89, f90, f92⟩)))
          · obtain ⟨rfl, Nc148, hp146, Kc147⟩ := hQ103
            refine own_go st103 ?_
            clear st103 X102 e102
            replace N0 := Fr.app N0 Nc148
            clear Nc148
            exact absurd hp77 hp146
        · obtain ⟨rfl, Nc151, hp149, Kc150⟩ := hQ76
          refine own_go st76 ?_
          clear st76 X75 e75
          replace N0 := Fr.app N0 Nc151
          clear Nc151
          show own_Go p e below s _ _ _ (T76.setTop (mkF m 58 #[rv wy, rv a2, rv b1, iv (1 : Int32)] [(.ref wx), (.ref wy)]))
          obtain ⟨v152, T152, L152, X152, hQ152, st152⟩ := own_callV (y := own_y19) (z := own_y19) X76 hx hZ hown (ow166 hw) (ow167 hw) (notFace_of_selects (args := #[]) (mvT hZ (ow169 hw))) (ow169 hw) (ow168 hw) (ow2 hw) (ow170 hw) (rm_cfyx l Z a0 hw hO []  T43.heap O0) 0 0 0 (by show _ ≤ 2; omega) (by show _ ≤ 13; omega) Kc150 (oE2.ext O0) (g := (mkF m 58 #[rv wy, rv a2, rv b1, iv (1 : Int32)] [(.ref wx), (.ref wy)])) rfl (by rw [hml]; rfl) [(.ref wx)] [] (lenOf own_pd_14 rfl) rfl rfl (hb hby d11_58)
          obtain ⟨rfl, Nc154, Kc153⟩ := hQ152
          refine own_go st152 ?_
          clear st152 X76 Kc150
          replace N0 := Fr.app N0 Nc154
          clear Nc154
          refine own_go (fun _ k => XS.ifYes X152.here hx rfl (pc0 := 61) (pc' := 81) rfl (hb hby d11_61) rfl ((if0 _ _).trans (feq (by decide : ¬ ((1 : Int32) = (0 : Int32)))).2) (by decide) (by decide) (XS.iinc X152.here hx rfl (hb hby d11_81) rfl (l' := #[rv wy, rv a2, rv b1, iv (2 : Int32)]) rfl (XS.goto X152.here hx rfl (pc0 := 84) (pc' := 10) rfl (hb hby d11_84) (by decide) (by decide) (XS.iloadN X152.here hx rfl (hb hby d11_10) rfl (XS.iconst X152.here hx rfl (hb hby d11_11) (XS.iadd X152.here hx rfl (hb hby d11_12) rfl k)))))) ?_
          refine own_go (fun _ k => XS.aloadN X152.here hx rfl (hb hby d11_13) rfl rfl k) ?_
          show own_Go p e below s _ _ _ (T152.setTop (mkF m 14 #[rv wy, rv a2, rv b1, iv (2 : Int32)] [(.ref a2), (.int (3 : Int32))]))
          obtain ⟨v155, T155, L155, X155, hQ155, st155⟩ := own_callF (xi := own_y23) (y := own_y8) X152 hx hZ hown (ow69 hw) (ow70 hw) (ow71 hw) (ow72 hw) (ow73 hw) (ow74 hw) (ow75 hw) (ow76 hw) (ow40 hw) (ow77 hw) (by decide) (rm_alsize l Z a0 hw hO [] a2 (4 : Int32) T43.heap O0 (fp1.keep K0 nin0)) 1 0 0 (by show _ ≤ 2; omega) (by show _ ≤ 13; omega) Kc153 (fp0.keep K0) (g := (mkF m 14 #[rv wy, rv a2, rv b1, iv (2 : Int32)] [(.ref a2), (.int (3 : Int32))])) rfl (by rw [hml]; rfl) [] [(.int (3 : Int32))] (lenOf own_pd_8 rfl) rfl rfl (hb hby d11_14)
          obtain ⟨rfl, Nc157, Kc156⟩ := hQ155
          refine own_go st155 ?_
          clear st155 X152 Kc153
          replace N0 := Fr.app N0 Nc157
          clear Nc157
          refine own_go (fun _ k => XS.icmpNo X155.here hx rfl (hb hby d11_19) rfl (tlt (by decide : (3 : Int32) < (4 : Int32))).2.1 (XS.aloadN X155.here hx rfl (hb hby d11_22) rfl rfl (XS.aloadN X155.here hx rfl (hb hby d11_23) rfl rfl (XS.iloadN X155.here hx rfl (hb hby d11_24) rfl k)))) ?_
          obtain ⟨v158, T158, L158, X158, hQ158, st158⟩ := own_callF (xi := own_y25) (y := own_y12) X155 hx hZ hown (ow116 hw) (ow117 hw) (ow118 hw) (ow119 hw) (ow120 hw) (ow121 hw) (ow122 hw) (ow76 hw) (ow40 hw) (ow123 hw) (by decide) (rm_alget_2 l Z a0 hw hO [] a2 b k el1 el2 el3 (.ref el4) .null .null .null .null .null .null (4 : Int32) T43.heap O0 (rfl : ((.ref el4) : Value).isRef = true) (rfl : (.null : Value).isRef = true) (rfl : (.null : Value).isRef = true) (rfl : (.null : Value).isRef = true) (rfl : (.null : Value).isRef = true) (rfl : (.null : Value).isRef = true) (rfl : (.null : Value).isRef = true) (fp0.keep K0) (fp2.keep K0 nin0) (fp4.keep K0 nin0) (fp1.keep K0 nin0) (by decide : (2 : Int32) < (4 : Int32))) 1 0 0 (by show _ ≤ 2; omega) (by show _ ≤ 13; omega) Kc156 (fp0.keep K0) (g := (mkF m 25 #[rv wy, rv a2, rv b1, iv (2 : Int32)] [(.int (2 : Int32)), (.ref a2), (.ref wy)])) rfl (by rw [hml]; rfl) [(.int (2 : Int32))] [(.ref wy)] (lenOf own_pd_6 rfl) rfl rfl (hb hby d11_25)
          obtain ⟨rfl, Nc160, Kc159⟩ := hQ158
          refine own_go st158 ?_
          clear st158 X155 Kc156
          replace N0 := Fr.app N0 Nc160
          clear Nc160
          obtain ⟨T161, X161, e161, st161⟩ := castY X158 hx hZ hown (ow137 hw) Kc159 (Ins.self (fp7.keep K0)) (g := (mkF m 30 #[rv wy, rv a2, rv b1, iv (2 : Int32)] [(.ref el3), (.ref wy)])) rfl rfl (hb hby d11_30)
          refine own_go st161 ?_
          clear st161 X158 Kc159
          obtain ⟨v162, T162, L162, X162, hQ162, st162⟩ := own_callS (y := own_y18) X161 hx hZ hown (ow138 hw) (ow139 hw) (ow2 hw) (ow140 hw) (rm_ofn l Z a0 hw hO [] el3 pp3 T43.heap O0 (fp7.keep K0) (own_NSkeep fp11 fp7 K0 all0)) 1 0 0 (by show _ ≤ 2; omega) (by show _ ≤ 13; omega) e161 (g := (mkF m 33 #[rv wy, rv a2, rv b1, iv (2 : Int32)] [(.ref el3), (.ref wy)])) rfl (by rw [hml]; rfl) [(.ref el3)] [(.ref wy)] (lenOf own_pd_13 rfl) rfl rfl (hb hby d11_33)
          rcases hQ162 with hQ162 | hQ162
          · obtain ⟨rfl, Nc165, hp163, Kc164⟩ := hQ162
            refine own_go st162 ?_
            clear st162 X161 e161
            replace N0 := Fr.app N0 Nc165
            clear Nc165
            exact absurd hp163 hp149
          · obtain ⟨rfl, Nc168, hp166, Kc167⟩ := hQ162
            refine own_go st162 ?_
            clear st162 X161 e161
            replace N0 := Fr.app N0 Nc168
            clear Nc168
            show own_Go p e below s _ _ _ (T162.setTop (mkF m 36 #[rv wy, rv a2, rv b1, iv (2 : Int32)] [(.ref wx), (.ref wy)]))
            obtain ⟨v169, T169, L169, X169, hQ169, st169⟩ := own_callV (y := own_y19) (z := own_y19) X162 hx hZ hown (ow166 hw) (ow167 hw) (notFace_of_selects (args := #[]) (mvT hZ (ow169 hw))) (ow169 hw) (ow168 hw) (ow2 hw) (ow170 hw) (rm_cfyx l Z a0 hw hO []  T43.heap O0) 0 0 0 (by show _ ≤ 2; omega) (by show _ ≤ 13; omega) Kc167 (oE2.ext O0) (g := (mkF m 36 #[rv wy, rv a2, rv b1, iv (2 : Int32)] [(.ref wx), (.ref wy)])) rfl (by rw [hml]; rfl) [(.ref wx)] [] (lenOf own_pd_14 rfl) rfl rfl (hb hby d11_36)
            obtain ⟨rfl, Nc171, Kc170⟩ := hQ169
            refine own_go st169 ?_
            clear st169 X162 Kc167
            replace N0 := Fr.app N0 Nc171
            clear Nc171
            refine own_go (fun _ k => XS.ifYes X169.here hx rfl (pc0 := 39) (pc' := 87) rfl (hb hby d11_39) rfl ((if0 _ _).trans (feq (by decide : ¬ ((1 : Int32) = (0 : Int32)))).2) (by decide) (by decide) (XS.aloadN X169.here hx rfl (hb hby d11_87) rfl rfl k)) ?_
            show own_Go p e below s _ _ _ (T169.setTop (mkF m 88 #[rv wy, rv a2, rv b1, iv (2 : Int32)] [(.ref b1)]))
            refine own_retA X169 hx hlk Kc170 hret rfl rfl (hb hby d11_88) (by show _ ≤ 2; omega) (by show _ ≤ 13; omega) ?_
            exact Or.inr (Or.inr (Or.inl ⟨b1, w44, w45, rfl, N0, hp22, hp66, hp166, K0, sz3, f47, f48, f49, f51⟩))
      · obtain ⟨rfl, Nc174, hp172, Kc173⟩ := hQ65
        refine own_go st65 ?_
        clear st65 X64 e64
        replace N0 := Fr.app N0 Nc174
        clear Nc174
        exact absurd hp33 hp172
    · obtain ⟨rfl, Nc177, hp175, Kc176⟩ := hQ32
      refine own_go st32 ?_
      clear st32 X31 e31
      replace N0 := Fr.app N0 Nc177
      clear Nc177
      show own_Go p e below s _ _ _ (T32.setTop (mkF m 58 #[rv wy, rv a2, rv b1, iv (0 : Int32)] [(.ref wx), (.ref wy)]))
      obtain ⟨v178, T178, L178, X178, hQ178, st178⟩ := own_callV (y := own_y19) (z := own_y19) X32 hx hZ hown (ow166 hw) (ow167 hw) (notFace_of_selects (args := #[]) (mvT hZ (ow169 hw))) (ow169 hw) (ow168 hw) (ow2 hw) (ow170 hw) (rm_cfyx l Z a0 hw hO []  T7.heap O0) 0 0 0 (by show _ ≤ 2; omega) (by show _ ≤ 13; omega) Kc176 (oE2.ext O0) (g := (mkF m 58 #[rv wy, rv a2, rv b1, iv (0 : Int32)] [(.ref wx), (.ref wy)])) rfl (by rw [hml]; rfl) [(.ref wx)] [] (lenOf own_pd_14 rfl) rfl rfl (hb hby d11_58)
      obtain ⟨rfl, Nc180, Kc179⟩ := hQ178
      refine own_go st178 ?_
      clear st178 X32 Kc176
      replace N0 := Fr.app N0 Nc180
      clear Nc180
      refine own_go (fun _ k => XS.ifYes X178.here hx rfl (pc0 := 61) (pc' := 81) rfl (hb hby d11_61) rfl ((if0 _ _).trans (feq (by decide : ¬ ((1 : Int32) = (0 : Int32)))).2) (by decide) (by decide) (XS.iinc X178.here hx rfl (hb hby d11_81) rfl (l' := #[rv wy, rv a2, rv b1, iv (1 : Int32)]) rfl (XS.goto X178.here hx rfl (pc0 := 84) (pc' := 10) rfl (hb hby d11_84) (by decide) (by decide) (XS.iloadN X178.here hx rfl (hb hby d11_10) rfl (XS.iconst X178.here hx rfl (hb hby d11_11) (XS.iadd X178.here hx rfl (hb hby d11_12) rfl k)))))) ?_
      refine own_go (fun _ k => XS.aloadN X178.here hx rfl (hb hby d11_13) rfl rfl k) ?_
      show own_Go p e below s _ _ _ (T178.setTop (mkF m 14 #[rv wy, rv a2, rv b1, iv (1 : Int32)] [(.ref a2), (.int (2 : Int32))]))
      obtain ⟨v181, T181, L181, X181, hQ181, st181⟩ := own_callF (xi := own_y23) (y := own_y8) X178 hx hZ hown (ow69 hw) (ow70 hw) (ow71 hw) (ow72 hw) (ow73 hw) (ow74 hw) (ow75 hw) (ow76 hw) (ow40 hw) (ow77 hw) (by decide) (rm_alsize l Z a0 hw hO [] a2 (4 : Int32) T7.heap O0 (fp1.keep K0 nin0)) 1 0 0 (by show _ ≤ 2; omega) (by show _ ≤ 13; omega) Kc179 (fp0.keep K0) (g := (mkF m 14 #[rv wy, rv a2, rv b1, iv (1 : Int32)] [(.ref a2), (.int (2 : Int32))])) rfl (by rw [hml]; rfl) [] [(.int (2 : Int32))] (lenOf own_pd_8 rfl) rfl rfl (hb hby d11_14)
      obtain ⟨rfl, Nc183, Kc182⟩ := hQ181
      refine own_go st181 ?_
      clear st181 X178 Kc179
      replace N0 := Fr.app N0 Nc183
      clear Nc183
      refine own_go (fun _ k => XS.icmpNo X181.here hx rfl (hb hby d11_19) rfl (tlt (by decide : (2 : Int32) < (4 : Int32))).2.1 (XS.aloadN X181.here hx rfl (hb hby d11_22) rfl rfl (XS.aloadN X181.here hx rfl (hb hby d11_23) rfl rfl (XS.iloadN X181.here hx rfl (hb hby d11_24) rfl k)))) ?_
      obtain ⟨v184, T184, L184, X184, hQ184, st184⟩ := own_callF (xi := own_y25) (y := own_y12) X181 hx hZ hown (ow116 hw) (ow117 hw) (ow118 hw) (ow119 hw) (ow120 hw) (ow121 hw) (ow122 hw) (ow76 hw) (ow40 hw) (ow123 hw) (by decide) (rm_alget_1 l Z a0 hw hO [] a2 b k el1 el2 (.ref el3) (.ref el4) .null .null .null .null .null .null (4 : Int32) T7.heap O0 (rfl : ((.ref el3) : Value).isRef = true) (rfl : ((.ref el4) : Value).isRef = true) (rfl : (.null : Value).isRef = true) (rfl : (.null : Value).isRef = true) (rfl : (.null : Value).isRef = true) (rfl : (.null : Value).isRef = true) (rfl : (.null : Value).isRef = true) (rfl : (.null : Value).isRef = true) (fp0.keep K0) (fp2.keep K0 nin0) (fp4.keep K0 nin0) (fp1.keep K0 nin0) (by decide : (1 : Int32) < (4 : Int32))) 1 0 0 (by show _ ≤ 2; omega) (by show _ ≤ 13; omega) Kc182 (fp0.keep K0) (g := (mkF m 25 #[rv wy, rv a2, rv b1, iv (1 : Int32)] [(.int (1 : Int32)), (.ref a2), (.ref wy)])) rfl (by rw [hml]; rfl) [(.int (1 : Int32))] [(.ref wy)] (lenOf own_pd_6 rfl) rfl rfl (hb hby d11_25)
      obtain ⟨rfl, Nc186, Kc185⟩ := hQ184
      refine own_go st184 ?_
      clear st184 X181 Kc182
      replace N0 := Fr.app N0 Nc186
      clear Nc186
      obtain ⟨T187, X187, e187, st187⟩ := castY X184 hx hZ hown (ow137 hw) Kc185 (Ins.self (fp6.keep K0)) (g := (mkF m 30 #[rv wy, rv a2, rv b1, iv (1 : Int32)] [(.ref el2), (.ref wy)])) rfl rfl (hb hby d11_30)
      refine own_go st187 ?_
      clear st187 X184 Kc185
      obtain ⟨v188, T188, L188, X188, hQ188, st188⟩ := own_callS (y := own_y18) X187 hx hZ hown (ow138 hw) (ow139 hw) (ow2 hw) (ow140 hw) (rm_ofn l Z a0 hw hO [] el2 pp2 T7.heap O0 (fp6.keep K0) (own_NSkeep fp10 fp6 K0 all0)) 1 0 0 (by show _ ≤ 2; omega) (by show _ ≤ 13; omega) e187 (g := (mkF m 33 #[rv wy, rv a2, rv b1, iv (1 : Int32)] [(.ref el2), (.ref wy)])) rfl (by rw [hml]; rfl) [(.ref el2)] [(.ref wy)] (lenOf own_pd_13 rfl) rfl rfl (hb hby d11_33)
      rcases hQ188 with hQ188 | hQ188
      · obtain ⟨rfl, Nc191, hp189, Kc190⟩ := hQ188
        refine own_go st188 ?_
        clear st188 X187 e187
        replace N0 := Fr.app N0 Nc191
        clear Nc191
        exact absurd hp189 hp175
      · obtain ⟨rfl, Nc194, hp192, Kc193⟩ := hQ188
        refine own_go st188 ?_
        clear st188 X187 e187
        replace N0 := Fr.app N0 Nc194
        clear Nc194
        show own_Go p e below s _ _ _ (T188.setTop (mkF m 36 #[rv wy, rv a2, rv b1, iv (1 : Int32)] [(.ref wx), (.ref wy)]))
        obtain ⟨v195, T195, L195, X195, hQ195, st195⟩ := own_callV (y := own_y19) (z := own_y19) X188 hx hZ hown (ow166 hw) (ow167 hw) (notFace_of_selects (args := #[]) (mvT hZ (ow169 hw))) (ow169 hw) (ow168 hw) (ow2 hw) (ow170 hw) (rm_cfyx l Z a0 hw hO []  T7.heap O0) 0 0 0 (by show _ ≤ 2; omega) (by show _ ≤ 13; omega) Kc193 (oE2.ext O0) (g := (mkF m 36 #[rv wy, rv a2, rv b1, iv (1 : Int32)] [(.ref wx), (.ref wy)])) rfl (by rw [hml]; rfl) [(.ref wx)] [] (lenOf own_pd_14 rfl) rfl rfl (hb hby d11_36)
        obtain ⟨rfl, Nc197, Kc196⟩ := hQ195
        refine own_go st195 ?_
        clear st195 X188 Kc193
        replace N0 := Fr.app N0 Nc197
        clear Nc197
        refine own_go (fun _ k => XS.ifYes X195.here hx rfl (pc0 := 39) (pc' := 87) rfl (hb hby d11_39) rfl ((if0 _ _).trans (feq (by decide : ¬ ((1 : Int32) = (0 : Int32)))).2) (by decide) (by decide) (XS.aloadN X195.here hx rfl (hb hby d11_87) rfl rfl k)) ?_
        show own_Go p e below s _ _ _ (T195.setTop (mkF m 88 #[rv wy, rv a2, rv b1, iv (1 : Int32)] [(.ref b1)]))
        refine own_retA X195 hx hlk Kc196 hret rfl rfl (hb hby d11_88) (by show _ ≤ 2; omega) (by show _ ≤ 13; omega) ?_
        exact Or.inr (Or.inl ⟨b1, rfl, N0, hp22, hp192, K0, sz3, f8, f9⟩)
  · obtain ⟨rfl, Nc200, hp198, Kc199⟩ := hQ21
    refine own_go st21 ?_
    clear st21 X20 e20
    replace N0 := Fr.app N0 Nc200
    clear Nc200
    show own_Go p e below s _ _ _ (T21.setTop (mkF m 36 #[rv wy, rv a2, rv b1, iv (0 : Int32)] [(.ref wx), (.ref wy)]))
    obtain ⟨v201, T201, L201, X201, hQ201, st201⟩ := own_callV (y := own_y19) (z := own_y19) X21 hx hZ hown (ow166 hw) (ow167 hw) (notFace_of_selects (args := #[]) (mvT hZ (ow169 hw))) (ow169 hw) (ow168 hw) (ow2 hw) (ow170 hw) (rm_cfyx l Z a0 hw hO []  T7.heap O0) 0 0 0 (by show _ ≤ 2; omega) (by show _ ≤ 13; omega) Kc199 (oE2.ext O0) (g := (mkF m 36 #[rv wy, rv a2, rv b1, iv (0 : Int32)] [(.ref wx), (.ref wy)])) rfl (by rw [hml]; rfl) [(.ref wx)] [] (lenOf own_pd_14 rfl) rfl rfl (hb hby d11_36)
    obtain ⟨rfl, Nc203, Kc202⟩ := hQ201
    refine own_go st201 ?_
    clear st201 X21 Kc199
    replace N0 := Fr.app N0 Nc203
    clear Nc203
    refine own_go (fun _ k => XS.ifYes X201.here hx rfl (pc0 := 39) (pc' := 87) rfl (hb hby d11_39) rfl ((if0 _ _).trans (feq (by decide : ¬ ((1 : Int32) = (0 : Int32)))).2) (by decide) (by decide) (XS.aloadN X201.here hx rfl (hb hby d11_87) rfl rfl k)) ?_
    show own_Go p e below s _ _ _ (T201.setTop (mkF m 88 #[rv wy, rv a2, rv b1, iv (0 : Int32)] [(.ref b1)]))
    refine own_retA X201 hx hlk Kc202 hret rfl rfl (hb hby d11_88) (by show _ ≤ 2; omega) (by show _ ≤ 13; omega) ?_
    exact Or.inl ⟨b1, rfl, N0, hp198, K0, sz3, f8, f9⟩
def Q_law (Z : State) (zc : Int32) (wd : Addr) (kd : ClassId) (wx : Addr) (wy : Addr) (wsp : Addr) (wspv : Addr) (wspk : ClassId) (p1 : Int32) (p2 : Int32) (p3 : Int32) (p4 : Int32) (p5 : Int32) (h0 : Heap) (v : Option Value) (h : Heap) (L : List Loc) : Prop := (v = some (.int (1 : Int32)) ∧ Fr Z.heap.size L ∧ Keep h0 h [])
set_option maxRecDepth 65536 in
set_option maxHeartbeats 40000000 in
theorem sg_s282_0 {l : Launch} {Z : State} {a0 : Array Value} (hw : own_W Z a0) {zc : Int32} {wd : Addr} {kd : ClassId} {wx : Addr} {wy : Addr} {wsp : Addr} {wspv : Addr} {wspk : ClassId} (hO : own_Olds Z zc wd kd wx wy wsp wspv wspk) {p : Program} {e : Env} {s : State} {m : MethodId} {args : Array Value} {below : List Frame} {meth : Method} {c : Code} {T : State} {locs : List Loc} {cells slots : Nat} (p1 : Int32) (p2 : Int32) (p3 : Int32) (p4 : Int32) (p5 : Int32) (nn : Int32) (sb1_ : Addr) (sb2_ : Addr) (sb3_ : Addr) (sb4_ : Addr) (ls : Addr) (ou : Addr) (yu : Slot) (yw : Slot) (ym : Slot) (ya : Slot) (yb : Slot) (yc : Slot) (yd : Slot) (h0 hs1 : Heap)
    (X0 : Stand p l e room_1 s m args below meth c T locs cells slots) (hx : p.tables.exec = Jvm.exec) (hby : c.code = code) (hml : c.maxLocals = 20) (hret : meth.sig.returnType = some .boolean) (hlk : meth.locks = false) (hZ : Z.Warmed39 s.vm) (hown : s.vm.findClass "com/example/padlock/padlock/lock/AccessAnnouncedPinLaw" = some m.cls) (hnm : meth.name = "law") (e0 : T.heap = hs1) (N0 : Fr Z.heap.size locs) (O0 : Ext Z.heap hs1) (K0 : Keep h0 hs1 []) (fp0 : Exa Z hs1 ls "java/util/ArrayList") (fp1 : Fld Z hs1 ls "java/util/ArrayList" "size" "I" (.int nn)) (fp2 : Exa Z hs1 ou "java/util/ArrayList") (fp3 : Fld Z hs1 ou "java/util/ArrayList" "size" "I" (.int (0 : Int32))) (hcells : cells ≤ 46) (hslots : slots ≤ 310) :
    own_Go p e below s (Q_law Z zc wd kd wx wy wsp wspv wspk p1 p2 p3 p4 p5 h0) room_1.cells room_1.slots (T.setTop (mkF m 282 #[iv p1, iv p2, iv p3, iv p4, iv p5, iv nn, yu, yw, rv sb1_, rv sb2_, rv sb3_, rv sb4_, rv ls, ya, yb, yc, yd, ym, iv (0 : Int32), .unset] [(.ref ou)])) := by
  obtain ⟨oCS, oCz, oDE, oDV, oEx, oSh, oE1, oE2, oPF, oSPE, oSPC, oSPF, oSPV, oNe⟩ := id hO
  have K1 := Keep.refl hs1 []
  show own_Go p e below s _ _ _ (T.setTop (mkF m 282 #[iv p1, iv p2, iv p3, iv p4, iv p5, iv nn, yu, yw, rv sb1_, rv sb2_, rv sb3_, rv sb4_, rv ls, ya, yb, yc, yd, ym, iv (0 : Int32), .unset] [(.ref ou)]))
  refine own_go (fun _ k => XS.astore X0.here hx rfl (hb hby at_282) rfl rfl (l' := #[iv p1, iv p2, iv p3, iv p4, iv p5, iv nn, yu, yw, rv sb1_, rv sb2_, rv sb3_, rv sb4_, rv ls, ya, yb, yc, yd, ym, iv (0 : Int32), rv ou]) rfl (XS.aload X0.here hx rfl (hb hby at_284) rfl rfl k)) ?_
  obtain ⟨v1, T1, L1, X1, hQ1, st1⟩ := own_callF (xi := own_y23) (y := own_y8) X0 hx hZ hown (ow80 hw) (ow70 hw) (ow71 hw) (ow72 hw) (ow73 hw) (ow74 hw) (ow75 hw) (ow76 hw) (ow40 hw) (ow77 hw) (by decide) (rm_alsize l Z a0 hw hO [] ls nn hs1 O0 (fp1.keep K1 nin0)) 0 0 0 (by show _ ≤ 48; omega) (by show _ ≤ 320; omega) e0 (fp0.keep K1) (g := (mkF m 286 #[iv p1, iv p2, iv p3, iv p4, iv p5, iv nn, yu, yw, rv sb1_, rv sb2_, rv sb3_, rv sb4_, rv ls, ya, yb, yc, yd, ym, iv (0 : Int32), rv ou] [(.ref ls)])) rfl (by rw [hml]; rfl) [] [] (lenOf own_pd_8 rfl) rfl rfl (hb hby at_286)
  obtain ⟨rfl, Nc3, Kc2⟩ := hQ1
  refine own_go st1 ?_
  clear st1 X0 e0
  replace N0 := Fr.app N0 Nc3
  clear Nc3
  refine own_go (fun _ k => XS.iload X1.here hx rfl (hb hby at_291) rfl (XS.icmpYes X1.here hx rfl (pc0 := 293) (pc' := 298) rfl (hb hby at_293) rfl (teq (rfl : nn = nn)).1 (by decide) (by decide) (XS.aload X1.here hx rfl (hb hby at_298) rfl rfl k))) ?_
  obtain ⟨v4, T4, L4, X4, hQ4, st4⟩ := own_callF (xi := own_y23) (y := own_y8) X1 hx hZ hown (ow80 hw) (ow70 hw) (ow71 hw) (ow72 hw) (ow73 hw) (ow74 hw) (ow75 hw) (ow76 hw) (ow40 hw) (ow77 hw) (by decide) (rm_alsize l Z a0 hw hO [] ou (0 : Int32) hs1 O0 (fp3.keep K1 nin0)) 0 0 0 (by show _ ≤ 48; omega) (by show _ ≤ 320; omega) Kc2 (fp2.keep K1) (g := (mkF m 300 #[iv p1, iv p2, iv p3, iv p4, iv p5, iv nn, yu, yw, rv sb1_, rv sb2_, rv sb3_, rv sb4_, rv ls, ya, yb, yc, yd, ym, iv (0 : Int32), rv ou] [(.ref ou)])) rfl (by rw [hml]; rfl) [] [] (lenOf own_pd_8 rfl) rfl rfl (hb hby at_300)
  obtain ⟨rfl, Nc6, Kc5⟩ := hQ4
  refine own_go st4 ?_
  clear st4 X1 Kc2
  replace N0 := Fr.app N0 Nc6
  clear Nc6
  refine own_go (fun _ k => XS.iload X4.here hx rfl (hb hby at_305) rfl (XS.icmpYes X4.here hx rfl (pc0 := 307) (pc' := 312) rfl (hb hby at_307) rfl (teq (by decide : (0 : Int32) = (0 : Int32))).1 (by decide) (by decide) (XS.iload X4.here hx rfl (hb hby at_312) rfl (XS.ifYes X4.here hx rfl (pc0 := 314) (pc' := 332) rfl (hb hby at_314) rfl ((if0 _ _).trans (flt (by decide : ¬ ((0 : Int32) < (0 : Int32)))).2.2.2) (by decide) (by decide) (XS.iload X4.here hx rfl (hb hby at_332) rfl (XS.iconst X4.here hx rfl (hb hby at_334) k)))))) ?_
  refine own_go (fun _ k => XS.icmpYes X4.here hx rfl (pc0 := 335) (pc' := 353) rfl (hb hby at_335) rfl (flt (by decide : ¬ ((1 : Int32) < (0 : Int32)))).2.2.2 (by decide) (by decide) (XS.iload X4.here hx rfl (hb hby at_353) rfl (XS.iconst X4.here hx rfl (hb hby at_355) (XS.icmpYes X4.here hx rfl (pc0 := 356) (pc' := 374) rfl (hb hby at_356) rfl (flt (by decide : ¬ ((2 : Int32) < (0 : Int32)))).2.2.2 (by decide) (by decide) (XS.iconst X4.here hx rfl (hb hby at_374) k))))) ?_
  show own_Go p e below s _ _ _ (T4.setTop (mkF m 375 #[iv p1, iv p2, iv p3, iv p4, iv p5, iv nn, yu, yw, rv sb1_, rv sb2_, rv sb3_, rv sb4_, rv ls, ya, yb, yc, yd, ym, iv (0 : Int32), rv ou] [(.int (1 : Int32))]))
  refine own_retN X4 hx hlk Kc5 (t := .boolean) hret (by simp) (hb hby at_375) (by show _ ≤ 48; omega) (by show _ ≤ 320; omega) ?_
  exact ⟨rfl, N0, K0⟩
set_option maxRecDepth 65536 in
set_option maxHeartbeats 40000000 in
theorem sg_s282_1 {l : Launch} {Z : State} {a0 : Array Value} (hw : own_W Z a0) {zc : Int32} {wd : Addr} {kd : ClassId} {wx : Addr} {wy : Addr} {wsp : Addr} {wspv : Addr} {wspk : ClassId} (hO : own_Olds Z zc wd kd wx wy wsp wspv wspk) {p : Program} {e : Env} {s : State} {m : MethodId} {args : Array Value} {below : List Frame} {meth : Method} {c : Code} {T : State} {locs : List Loc} {cells slots : Nat} (p1 : Int32) (p2 : Int32) (p3 : Int32) (p4 : Int32) (p5 : Int32) (nn : Int32) (sb1_ : Addr) (sb2_ : Addr) (sb3_ : Addr) (sb4_ : Addr) (ls : Addr) (ou : Addr) (yu : Slot) (yw : Slot) (ym : Slot) (ya : Slot) (yb : Slot) (yc : Slot) (yd : Slot) (b : Addr) (k : ClassId) (h0 hs1 : Heap)
    (X0 : Stand p l e room_1 s m args below meth c T locs cells slots) (hx : p.tables.exec = Jvm.exec) (hby : c.code = code) (hml : c.maxLocals = 20) (hret : meth.sig.returnType = some .boolean) (hlk : meth.locks = false) (hZ : Z.Warmed39 s.vm) (hown : s.vm.findClass "com/example/padlock/padlock/lock/AccessAnnouncedPinLaw" = some m.cls) (hnm : meth.name = "law") (e0 : T.heap = hs1) (N0 : Fr Z.heap.size locs) (O0 : Ext Z.heap hs1) (K0 : Keep h0 hs1 []) (fp0 : Exa Z hs1 ls "java/util/ArrayList") (fp1 : Fld Z hs1 ls "java/util/ArrayList" "size" "I" (.int nn)) (fp2 : Exa Z hs1 ou "java/util/ArrayList") (fp3 : Fld Z hs1 ou "java/util/ArrayList" "size" "I" (.int (1 : Int32))) (fp4 : Fld Z hs1 ou "java/util/ArrayList" "elementData" "[Ljava/lang/Object;" (.ref b)) (fp5 : Arv Z hs1 b k (.object "java/lang/Object") (10 : Int32) [(.ref sb1_), .null, .null, .null, .null, .null, .null, .null, .null, .null] .null) (hcells : cells ≤ 46) (hslots : slots ≤ 310) :
    own_Go p e below s (Q_law Z zc wd kd wx wy wsp wspv wspk p1 p2 p3 p4 p5 h0) room_1.cells room_1.slots (T.setTop (mkF m 282 #[iv p1, iv p2, iv p3, iv p4, iv p5, iv nn, yu, yw, rv sb1_, rv sb2_, rv sb3_, rv sb4_, rv ls, ya, yb, yc, yd, ym, iv (1 : Int32), .unset] [(.ref ou)])) := by
  obtain ⟨oCS, oCz, oDE, oDV, oEx, oSh, oE1, oE2, oPF, oSPE, oSPC, oSPF, oSPV, oNe⟩ := id hO
  have K1 := Keep.refl hs1 []
  show own_Go p e below s _ _ _ (T.setTop (mkF m 282 #[iv p1, iv p2, iv p3, iv p4, iv p5, iv nn, yu, yw, rv sb1_, rv sb2_, rv sb3_, rv sb4_, rv ls, ya, yb, yc, yd, ym, iv (1 : Int32), .unset] [(.ref ou)]))
  refine own_go (fun _ k => XS.astore X0.here hx rfl (hb hby at_282) rfl rfl (l' := #[iv p1, iv p2, iv p3, iv p4, iv p5, iv nn, yu, yw, rv sb1_, rv sb2_, rv sb3_, rv sb4_, rv ls, ya, yb, yc, yd, ym, iv (1 : Int32), rv ou]) rfl (XS.aload X0.here hx rfl (hb hby at_284) rfl rfl k)) ?_
  obtain ⟨v7, T7, L7, X7, hQ7, st7⟩ := own_callF (xi := own_y23) (y := own_y8) X0 hx hZ hown (ow80 hw) (ow70 hw) (ow71 hw) (ow72 hw) (ow73 hw) (ow74 hw) (ow75 hw) (ow76 hw) (ow40 hw) (ow77 hw) (by decide) (rm_alsize l Z a0 hw hO [] ls nn hs1 O0 (fp1.keep K1 nin0)) 0 0 0 (by show _ ≤ 48; omega) (by show _ ≤ 320; omega) e0 (fp0.keep K1) (g := (mkF m 286 #[iv p1, iv p2, iv p3, iv p4, iv p5, iv nn, yu, yw, rv sb1_, rv sb2_, rv sb3_, rv sb4_, rv ls, ya, yb, yc, yd, ym, iv (1 : Int32), rv ou] [(.ref ls)])) rfl (by rw [hml]; rfl) [] [] (lenOf own_pd_8 rfl) rfl rfl (hb hby at_286)
  obtain ⟨rfl, Nc9, Kc8⟩ := hQ7
  refine own_go st7 ?_
  clear st7 X0 e0
  replace N0 := Fr.app N0 Nc9
  clear Nc9
  refine own_go (fun _ k => XS.iload X7.here hx rfl (hb hby at_291) rfl (XS.icmpYes X7.here hx rfl (pc0 := 293) (pc' := 298) rfl (hb hby at_293) rfl (teq (rfl : nn = nn)).1 (by decide) (by decide) (XS.aload X7.here hx rfl (hb hby at_298) rfl rfl k))) ?_
  obtain ⟨v10, T10, L10, X10, hQ10, st10⟩ := own_callF (xi := own_y23) (y := own_y8) X7 hx hZ hown (ow80 hw) (ow70 hw) (ow71 hw) (ow72 hw) (ow73 hw) (ow74 hw) (ow75 hw) (ow76 hw) (ow40 hw) (ow77 hw) (by decide) (rm_alsize l Z a0 hw hO [] ou (1 : Int32) hs1 O0 (fp3.keep K1 nin0)) 0 0 0 (by show _ ≤ 48; omega) (by show _ ≤ 320; omega) Kc8 (fp2.keep K1) (g := (mkF m 300 #[iv p1, iv p2, iv p3, iv p4, iv p5, iv nn, yu, yw, rv sb1_, rv sb2_, rv sb3_, rv sb4_, rv ls, ya, yb, yc, yd, ym, iv (1 : Int32), rv ou] [(.ref ou)])) rfl (by rw [hml]; rfl) [] [] (lenOf own_pd_8 rfl) rfl rfl (hb hby at_300)
  obtain ⟨rfl, Nc12, Kc11⟩ := hQ10
  refine own_go st10 ?_
  clear st10 X7 Kc8
  replace N0 := Fr.app N0 Nc12
  clear Nc12
  refine own_go (fun _ k => XS.iload X10.here hx rfl (hb hby at_305) rfl (XS.icmpYes X10.here hx rfl (pc0 := 307) (pc' := 312) rfl (hb hby at_307) rfl (teq (by decide : (1 : Int32) = (1 : Int32))).1 (by decide) (by decide) (XS.iload X10.here hx rfl (hb hby at_312) rfl (XS.ifNo X10.here hx rfl (hb hby at_314) rfl ((if0 _ _).trans (tlt (by decide : (0 : Int32) < (1 : Int32))).2.2.2) (XS.aload X10.here hx rfl (hb hby at_317) rfl rfl (XS.iconst X10.here hx rfl (hb hby at_319) k)))))) ?_
  obtain ⟨v13, T13, L13, X13, hQ13, st13⟩ := own_callF (xi := own_y25) (y := own_y12) X10 hx hZ hown (ow178 hw) (ow117 hw) (ow118 hw) (ow119 hw) (ow120 hw) (ow121 hw) (ow122 hw) (ow76 hw) (ow40 hw) (ow123 hw) (by decide) (rm_alget_0 l Z a0 hw hO [] ou b k sb1_ .null .null .null .null .null .null .null .null .null (1 : Int32) hs1 O0 (rfl : (.null : Value).isRef = true) (rfl : (.null : Value).isRef = true) (rfl : (.null : Value).isRef = true) (rfl : (.null : Value).isRef = true) (rfl : (.null : Value).isRef = true) (rfl : (.null : Value).isRef = true) (rfl : (.null : Value).isRef = true) (rfl : (.null : Value).isRef = true) (rfl : (.null : Value).isRef = true) (fp2.keep K1) (fp4.keep K1 nin0) (fp5.keep K1 nin0) (fp3.keep K1 nin0) (by decide : (0 : Int32) < (1 : Int32))) 0 0 0 (by show _ ≤ 48; omega) (by show _ ≤ 320; omega) Kc11 (fp2.keep K1) (g := (mkF m 320 #[iv p1, iv p2, iv p3, iv p4, iv p5, iv nn, yu, yw, rv sb1_, rv sb2_, rv sb3_, rv sb4_, rv ls, ya, yb, yc, yd, ym, iv (1 : Int32), rv ou] [(.int (0 : Int32)), (.ref ou)])) rfl (by rw [hml]; rfl) [(.int (0 : Int32))] [] (lenOf own_pd_6 rfl) rfl rfl (hb hby at_320)
  obtain ⟨rfl, Nc15, Kc14⟩ := hQ13
  refine own_go st13 ?_
  clear st13 X10 Kc11
  replace N0 := Fr.app N0 Nc15
  clear Nc15
  refine own_go (fun _ k => XS.aload X13.here hx rfl (hb hby at_325) rfl rfl (Jvm.RoadKit.acmp (g := (mkF m 327 #[iv p1, iv p2, iv p3, iv p4, iv p5, iv nn, yu, yw, rv sb1_, rv sb2_, rv sb3_, rv sb4_, rv ls, ya, yb, yc, yd, ym, iv (1 : Int32), rv ou] [(.ref sb1_), (.ref sb1_)])) X13 hx rfl rfl rfl (pc0 := 327) (pc' := 332) (same := true) rfl (hb hby at_327) rfl (decide_eq_true rfl) (by decide) (by decide) (XS.iload X13.here hx rfl (hb hby at_332) rfl (XS.iconst X13.here hx rfl (hb hby at_334) (XS.icmpYes X13.here hx rfl (pc0 := 335) (pc' := 353) rfl (hb hby at_335) rfl (flt (by decide : ¬ ((1 : Int32) < (1 : Int32)))).2.2.2 (by decide) (by decide) (XS.iload X13.here hx rfl (hb hby at_353) rfl k)))))) ?_
  refine own_go (fun _ k => XS.iconst X13.here hx rfl (hb hby at_355) (XS.icmpYes X13.here hx rfl (pc0 := 356) (pc' := 374) rfl (hb hby at_356) rfl (flt (by decide : ¬ ((2 : Int32) < (1 : Int32)))).2.2.2 (by decide) (by decide) (XS.iconst X13.here hx rfl (hb hby at_374) k))) ?_
  show own_Go p e below s _ _ _ (T13.setTop (mkF m 375 #[iv p1, iv p2, iv p3, iv p4, iv p5, iv nn, yu, yw, rv sb1_, rv sb2_, rv sb3_, rv sb4_, rv ls, ya, yb, yc, yd, ym, iv (1 : Int32), rv ou] [(.int (1 : Int32))]))
  refine own_retN X13 hx hlk Kc14 (t := .boolean) hret (by simp) (hb hby at_375) (by show _ ≤ 48; omega) (by show _ ≤ 320; omega) ?_
  exact ⟨rfl, N0, K0⟩
set_option maxRecDepth 65536 in
set_option maxHeartbeats 40000000 in
theorem sg_s282_2 {l : Launch} {Z : State} {a0 : Array Value} (hw : own_W Z a0) {zc : Int32} {wd : Addr} {kd : ClassId} {wx : Addr} {wy : Addr} {wsp : Addr} {wspv : Addr} {wspk : ClassId} (hO : own_Olds Z zc wd kd wx wy wsp wspv wspk) {p : Program} {e : Env} {s : State} {m : MethodId} {args : Array Value} {below : List Frame} {meth : Method} {c : Code} {T : State} {locs : List Loc} {cells slots : Nat} (p1 : Int32) (p2 : Int32) (p3 : Int32) (p4 : Int32) (p5 : Int32) (nn : Int32) (sb1_ : Addr) (sb2_ : Addr) (sb3_ : Addr) (sb4_ : Addr) (ls : Addr) (ou : Addr) (yu : Slot) (yw : Slot) (ym : Slot) (ya : Slot) (yb : Slot) (yc : Slot) (yd : Slot) (b : Addr) (k : ClassId) (h0 hs1 : Heap)
    (X0 : Stand p l e room_1 s m args below meth c T locs cells slots) (hx : p.tables.exec = Jvm.exec) (hby : c.code = code) (hml : c.maxLocals = 20) (hret : meth.sig.returnType = some .boolean) (hlk : meth.locks = false) (hZ : Z.Warmed39 s.vm) (hown : s.vm.findClass "com/example/padlock/padlock/lock/AccessAnnouncedPinLaw" = some m.cls) (hnm : meth.name = "law") (e0 : T.heap = hs1) (N0 : Fr Z.heap.size locs) (O0 : Ext Z.heap hs1) (K0 : Keep h0 hs1 []) (fp0 : Exa Z hs1 ls "java/util/ArrayList") (fp1 : Fld Z hs1 ls "java/util/ArrayList" "size" "I" (.int nn)) (fp2 : Exa Z hs1 ou "java/util/ArrayList") (fp3 : Fld Z hs1 ou "java/util/ArrayList" "size" "I" (.int (2 : Int32))) (fp4 : Fld Z hs1 ou "java/util/ArrayList" "elementData" "[Ljava/lang/Object;" (.ref b)) (fp5 : Arv Z hs1 b k (.object "java/lang/Object") (10 : Int32) [(.ref sb1_), (.ref sb2_), .null, .null, .null, .null, .null, .null, .null, .null] .null) (hcells : cells ≤ 46) (hslots : slots ≤ 310) :
    own_Go p e below s (Q_law Z zc wd kd wx wy wsp wspv wspk p1 p2 p3 p4 p5 h0) room_1.cells room_1.slots (T.setTop (mkF m 282 #[iv p1, iv p2, iv p3, iv p4, iv p5, iv nn, yu, yw, rv sb1_, rv sb2_, rv sb3_, rv sb4_, rv ls, ya, yb, yc, yd, ym, iv (2 : Int32), .unset] [(.ref ou)])) := by
  obtain ⟨oCS, oCz, oDE, oDV, oEx, oSh, oE1, oE2, oPF, oSPE, oSPC, oSPF, oSPV, oNe⟩ := id hO
  have K1 := Keep.refl hs1 []
  show own_Go p e below s _ _ _ (T.setTop (mkF m 282 #[iv p1, iv p2, iv p3, iv p4, iv p5, iv nn, yu, yw, rv sb1_, rv sb2_, rv sb3_, rv sb4_, rv ls, ya, yb, yc, yd, ym, iv (2 : Int32), .unset] [(.ref ou)]))
  refine own_go (fun _ k => XS.astore X0.here hx rfl (hb hby at_282) rfl rfl (l' := #[iv p1, iv p2, iv p3, iv p4, iv p5, iv nn, yu, yw, rv sb1_, rv sb2_, rv sb3_, rv sb4_, rv ls, ya, yb, yc, yd, ym, iv (2 : Int32), rv ou]) rfl (XS.aload X0.here hx rfl (hb hby at_284) rfl rfl k)) ?_
  obtain ⟨v16, T16, L16, X16, hQ16, st16⟩ := own_callF (xi := own_y23) (y := own_y8) X0 hx hZ hown (ow80 hw) (ow70 hw) (ow71 hw) (ow72 hw) (ow73 hw) (ow74 hw) (ow75 hw) (ow76 hw) (ow40 hw) (ow77 hw) (by decide) (rm_alsize l Z a0 hw hO [] ls nn hs1 O0 (fp1.keep K1 nin0)) 0 0 0 (by show _ ≤ 48; omega) (by show _ ≤ 320; omega) e0 (fp0.keep K1) (g := (mkF m 286 #[iv p1, iv p2, iv p3, iv p4, iv p5, iv nn, yu, yw, rv sb1_, rv sb2_, rv sb3_, rv sb4_, rv ls, ya, yb, yc, yd, ym, iv (2 : Int32), rv ou] [(.ref ls)])) rfl (by rw [hml]; rfl) [] [] (lenOf own_pd_8 rfl) rfl rfl (hb hby at_286)
  obtain ⟨rfl, Nc18, Kc17⟩ := hQ16
  refine own_go st16 ?_
  clear st16 X0 e0
  replace N0 := Fr.app N0 Nc18
  clear Nc18
  refine own_go (fun _ k => XS.iload X16.here hx rfl (hb hby at_291) rfl (XS.icmpYes X16.here hx rfl (pc0 := 293) (pc' := 298) rfl (hb hby at_293) rfl (teq (rfl : nn = nn)).1 (by decide) (by decide) (XS.aload X16.here hx rfl (hb hby at_298) rfl rfl k))) ?_
  obtain ⟨v19, T19, L19, X19, hQ19, st19⟩ := own_callF (xi := own_y23) (y := own_y8) X16 hx hZ hown (ow80 hw) (ow70 hw) (ow71 hw) (ow72 hw) (ow73 hw) (ow74 hw) (ow75 hw) (ow76 hw) (ow40 hw) (ow77 hw) (by decide) (rm_alsize l Z a0 hw hO [] ou (2 : Int32) hs1 O0 (fp3.keep K1 nin0)) 0 0 0 (by show _ ≤ 48; omega) (by show _ ≤ 320; omega) Kc17 (fp2.keep K1) (g := (mkF m 300 #[iv p1, iv p2, iv p3, iv p4, iv p5, iv nn, yu, yw, rv sb1_, rv sb2_, rv sb3_, rv sb4_, rv ls, ya, yb, yc, yd, ym, iv (2 : Int32), rv ou] [(.ref ou)])) rfl (by rw [hml]; rfl) [] [] (lenOf own_pd_8 rfl) rfl rfl (hb hby at_300)
  obtain ⟨rfl, Nc21, Kc20⟩ := hQ19
  refine own_go st19 ?_
  clear st19 X16 Kc17
  replace N0 := Fr.app N0 Nc21
  clear Nc21
  refine own_go (fun _ k => XS.iload X19.here hx rfl (hb hby at_305) rfl (XS.icmpYes X19.here hx rfl (pc0 := 307) (pc' := 312) rfl (hb hby at_307) rfl (teq (by decide : (2 : Int32) = (2 : Int32))).1 (by decide) (by decide) (XS.iload X19.here hx rfl (hb hby at_312) rfl (XS.ifNo X19.here hx rfl (hb hby at_314) rfl ((if0 _ _).trans (tlt (by decide : (0 : Int32) < (2 : Int32))).2.2.2) (XS.aload X19.here hx rfl (hb hby at_317) rfl rfl (XS.iconst X19.here hx rfl (hb hby at_319) k)))))) ?_
  obtain ⟨v22, T22, L22, X22, hQ22, st22⟩ := own_callF (xi := own_y25) (y := own_y12) X19 hx hZ hown (ow178 hw) (ow117 hw) (ow118 hw) (ow119 hw) (ow120 hw) (ow121 hw) (ow122 hw) (ow76 hw) (ow40 hw) (ow123 hw) (by decide) (rm_alget_0 l Z a0 hw hO [] ou b k sb1_ (.ref sb2_) .null .null .null .null .null .null .null .null (2 : Int32) hs1 O0 (rfl : ((.ref sb2_) : Value).isRef = true) (rfl : (.null : Value).isRef = true) (rfl : (.null : Value).isRef = true) (rfl : (.null : Value).isRef = true) (rfl : (.null : Value).isRef = true) (rfl : (.null : Value).isRef = true) (rfl : (.null : Value).isRef = true) (rfl : (.null : Value).isRef = true) (rfl : (.null : Value).isRef = true) (fp2.keep K1) (fp4.keep K1 nin0) (fp5.keep K1 nin0) (fp3.keep K1 nin0) (by decide : (0 : Int32) < (2 : Int32))) 0 0 0 (by show _ ≤ 48; omega) (by show _ ≤ 320; omega) Kc20 (fp2.keep K1) (g := (mkF m 320 #[iv p1, iv p2, iv p3, iv p4, iv p5, iv nn, yu, yw, rv sb1_, rv sb2_, rv sb3_, rv sb4_, rv ls, ya, yb, yc, yd, ym, iv (2 : Int32), rv ou] [(.int (0 : Int32)), (.ref ou)])) rfl (by rw [hml]; rfl) [(.int (0 : Int32))] [] (lenOf own_pd_6 rfl) rfl rfl (hb hby at_320)
  obtain ⟨rfl, Nc24, Kc23⟩ := hQ22
  refine own_go st22 ?_
  clear st22 X19 Kc20
  replace N0 := Fr.app N0 Nc24
  clear Nc24
  refine own_go (fun _ k => XS.aload X22.here hx rfl (hb hby at_325) rfl rfl (Jvm.RoadKit.acmp (g := (mkF m 327 #[iv p1, iv p2, iv p3, iv p4, iv p5, iv nn, yu, yw, rv sb1_, rv sb2_, rv sb3_, rv sb4_, rv ls, ya, yb, yc, yd, ym, iv (2 : Int32), rv ou] [(.ref sb1_), (.ref sb1_)])) X22 hx rfl rfl rfl (pc0 := 327) (pc' := 332) (same := true) rfl (hb hby at_327) rfl (decide_eq_true rfl) (by decide) (by decide) (XS.iload X22.here hx rfl (hb hby at_332) rfl (XS.iconst X22.here hx rfl (hb hby at_334) (XS.icmpNo X22.here hx rfl (hb hby at_335) rfl (tlt (by decide : (1 : Int32) < (2 : Int32))).2.2.2 (XS.aload X22.here hx rfl (hb hby at_338) rfl rfl k)))))) ?_
  refine own_go (fun _ k => XS.iconst X22.here hx rfl (hb hby at_340) k) ?_
  obtain ⟨v25, T25, L25, X25, hQ25, st25⟩ := own_callF (xi := own_y25) (y := own_y12) X22 hx hZ hown (ow178 hw) (ow117 hw) (ow118 hw) (ow119 hw) (ow120 hw) (ow121 hw) (ow122 hw) (ow76 hw) (ow40 hw) (ow123 hw) (by decide) (rm_alget_1 l Z a0 hw hO [] ou b k sb1_ sb2_ .null .null .null .null .null .null .null .null (2 : Int32) hs1 O0 (rfl : (.null : Value).isRef = true) (rfl : (.null : Value).isRef = true) (rfl : (.null : Value).isRef = true) (rfl : (.null : Value).isRef = true) (rfl : (.null : Value).isRef = true) (rfl : (.null : Value).isRef = true) (rfl : (.null : Value).isRef = true) (rfl : (.null : Value).isRef = true) (fp2.keep K1) (fp4.keep K1 nin0) (fp5.keep K1 nin0) (fp3.keep K1 nin0) (by decide : (1 : Int32) < (2 : Int32))) 0 0 0 (by show _ ≤ 48; omega) (by show _ ≤ 320; omega) Kc23 (fp2.keep K1) (g := (mkF m 341 #[iv p1, iv p2, iv p3, iv p4, iv p5, iv nn, yu, yw, rv sb1_, rv sb2_, rv sb3_, rv sb4_, rv ls, ya, yb, yc, yd, ym, iv (2 : Int32), rv ou] [(.int (1 : Int32)), (.ref ou)])) rfl (by rw [hml]; rfl) [(.int (1 : Int32))] [] (lenOf own_pd_6 rfl) rfl rfl (hb hby at_341)
  obtain ⟨rfl, Nc27, Kc26⟩ := hQ25
  refine own_go st25 ?_
  clear st25 X22 Kc23
  replace N0 := Fr.app N0 Nc27
  clear Nc27
  refine own_go (fun _ k => XS.aload X25.here hx rfl (hb hby at_346) rfl rfl (Jvm.RoadKit.acmp (g := (mkF m 348 #[iv p1, iv p2, iv p3, iv p4, iv p5, iv nn, yu, yw, rv sb1_, rv sb2_, rv sb3_, rv sb4_, rv ls, ya, yb, yc, yd, ym, iv (2 : Int32), rv ou] [(.ref sb2_), (.ref sb2_)])) X25 hx rfl rfl rfl (pc0 := 348) (pc' := 353) (same := true) rfl (hb hby at_348) rfl (decide_eq_true rfl) (by decide) (by decide) (XS.iload X25.here hx rfl (hb hby at_353) rfl k))) ?_
  show own_Go p e below s _ _ _ (T25.setTop (mkF m 355 #[iv p1, iv p2, iv p3, iv p4, iv p5, iv nn, yu, yw, rv sb1_, rv sb2_, rv sb3_, rv sb4_, rv ls, ya, yb, yc, yd, ym, iv (2 : Int32), rv ou] [(.int (2 : Int32))]))
  refine own_go (fun _ k => XS.iconst X25.here hx rfl (hb hby at_355) (XS.icmpYes X25.here hx rfl (pc0 := 356) (pc' := 374) rfl (hb hby at_356) rfl (flt (by decide : ¬ ((2 : Int32) < (2 : Int32)))).2.2.2 (by decide) (by decide) (XS.iconst X25.here hx rfl (hb hby at_374) k))) ?_
  show own_Go p e below s _ _ _ (T25.setTop (mkF m 375 #[iv p1, iv p2, iv p3, iv p4, iv p5, iv nn, yu, yw, rv sb1_, rv sb2_, rv sb3_, rv sb4_, rv ls, ya, yb, yc, yd, ym, iv (2 : Int32), rv ou] [(.int (1 : Int32))]))
  refine own_retN X25 hx hlk Kc26 (t := .boolean) hret (by simp) (hb hby at_375) (by show _ ≤ 48; omega) (by show _ ≤ 320; omega) ?_
  exact ⟨rfl, N0, K0⟩
set_option maxRecDepth 65536 in
set_option maxHeartbeats 40000000 in
theorem sg_s282_3 {l : Launch} {Z : State} {a0 : Array Value} (hw : own_W Z a0) {zc : Int32} {wd : Addr} {kd : ClassId} {wx : Addr} {wy : Addr} {wsp : Addr} {wspv : Addr} {wspk : ClassId} (hO : own_Olds Z zc wd kd wx wy wsp wspv wspk) {p : Program} {e : Env} {s : State} {m : MethodId} {args : Array Value} {below : List Frame} {meth : Method} {c : Code} {T : State} {locs : List Loc} {cells slots : Nat} (p1 : Int32) (p2 : Int32) (p3 : Int32) (p4 : Int32) (p5 : Int32) (nn : Int32) (sb1_ : Addr) (sb2_ : Addr) (sb3_ : Addr) (sb4_ : Addr) (ls : Addr) (ou : Addr) (yu : Slot) (yw : Slot) (ym : Slot) (ya : Slot) (yb : Slot) (yc : Slot) (yd : Slot) (b : Addr) (k : ClassId) (h0 hs1 : Heap)
    (X0 : Stand p l e room_1 s m args below meth c T locs cells slots) (hx : p.tables.exec = Jvm.exec) (hby : c.code = code) (hml : c.maxLocals = 20) (hret : meth.sig.returnType = some .boolean) (hlk : meth.locks = false) (hZ : Z.Warmed39 s.vm) (hown : s.vm.findClass "com/example/padlock/padlock/lock/AccessAnnouncedPinLaw" = some m.cls) (hnm : meth.name = "law") (e0 : T.heap = hs1) (N0 : Fr Z.heap.size locs) (O0 : Ext Z.heap hs1) (K0 : Keep h0 hs1 []) (fp0 : Exa Z hs1 ls "java/util/ArrayList") (fp1 : Fld Z hs1 ls "java/util/ArrayList" "size" "I" (.int nn)) (fp2 : Exa Z hs1 ou "java/util/ArrayList") (fp3 : Fld Z hs1 ou "java/util/ArrayList" "size" "I" (.int (3 : Int32))) (fp4 : Fld Z hs1 ou "java/util/ArrayList" "elementData" "[Ljava/lang/Object;" (.ref b)) (fp5 : Arv Z hs1 b k (.object "java/lang/Object") (10 : Int32) [(.ref sb1_), (.ref sb2_), (.ref sb3_), .null, .null, .null, .null, .null, .null, .null] .null) (hcells : cells ≤ 46) (hslots : slots ≤ 310) :
    own_Go p e below s (Q_law Z zc wd kd wx wy wsp wspv wspk p1 p2 p3 p4 p5 h0) room_1.cells room_1.slots (T.setTop (mkF m 282 #[iv p1, iv p2, iv p3, iv p4, iv p5, iv nn, yu, yw, rv sb1_, rv sb2_, rv sb3_, rv sb4_, rv ls, ya, yb, yc, yd, ym, iv (3 : Int32), .unset] [(.ref ou)])) := by
  obtain ⟨oCS, oCz, oDE, oDV, oEx, oSh, oE1, oE2, oPF, oSPE, oSPC, oSPF, oSPV, oNe⟩ := id hO
  have K1 := Keep.refl hs1 []
  show own_Go p e below s _ _ _ (T.setTop (mkF m 282 #[iv p1, iv p2, iv p3, iv p4, iv p5, iv nn, yu, yw, rv sb1_, rv sb2_, rv sb3_, rv sb4_, rv ls, ya, yb, yc, yd, ym, iv (3 : Int32), .unset] [(.ref ou)]))
  refine own_go (fun _ k => XS.astore X0.here hx rfl (hb hby at_282) rfl rfl (l' := #[iv p1, iv p2, iv p3, iv p4, iv p5, iv nn, yu, yw, rv sb1_, rv sb2_, rv sb3_, rv sb4_, rv ls, ya, yb, yc, yd, ym, iv (3 : Int32), rv ou]) rfl (XS.aload X0.here hx rfl (hb hby at_284) rfl rfl k)) ?_
  obtain ⟨v28, T28, L28, X28, hQ28, st28⟩ := own_callF (xi := own_y23) (y := own_y8) X0 hx hZ hown (ow80 hw) (ow70 hw) (ow71 hw) (ow72 hw) (ow73 hw) (ow74 hw) (ow75 hw) (ow76 hw) (ow40 hw) (ow77 hw) (by decide) (rm_alsize l Z a0 hw hO [] ls nn hs1 O0 (fp1.keep K1 nin0)) 0 0 0 (by show _ ≤ 48; omega) (by show _ ≤ 320; omega) e0 (fp0.keep K1) (g := (mkF m 286 #[iv p1, iv p2, iv p3, iv p4, iv p5, iv nn, yu, yw, rv sb1_, rv sb2_, rv sb3_, rv sb4_, rv ls, ya, yb, yc, yd, ym, iv (3 : Int32), rv ou] [(.ref ls)])) rfl (by rw [hml]; rfl) [] [] (lenOf own_pd_8 rfl) rfl rfl (hb hby at_286)
  obtain ⟨rfl, Nc30, Kc29⟩ := hQ28
  refine own_go st28 ?_
  clear st28 X0 e0
  replace N0 := Fr.app N0 Nc30
  clear Nc30
  refine own_go (fun _ k => XS.iload X28.here hx rfl (hb hby at_291) rfl (XS.icmpYes X28.here hx rfl (pc0 := 293) (pc' := 298) rfl (hb hby at_293) rfl (teq (rfl : nn = nn)).1 (by decide) (by decide) (XS.aload X28.here hx rfl (hb hby at_298) rfl rfl k))) ?_
  obtain ⟨v31, T31, L31, X31, hQ31, st31⟩ := own_callF (xi := own_y23) (y := own_y8) X28 hx hZ hown (ow80 hw) (ow70 hw) (ow71 hw) (ow72 hw) (ow73 hw) (ow74 hw) (ow75 hw) (ow76 hw) (ow40 hw) (ow77 hw) (by decide) (rm_alsize l Z a0 hw hO [] ou (3 : Int32) hs1 O0 (fp3.keep K1 nin0)) 0 0 0 (by show _ ≤ 48; omega) (by show _ ≤ 320; omega) Kc29 (fp2.keep K1) (g := (mkF m 300 #[iv p1, iv p2, iv p3, iv p4, iv p5, iv nn, yu, yw, rv sb1_, rv sb2_, rv sb3_, rv sb4_, rv ls, ya, yb, yc, yd, ym, iv (3 : Int32), rv ou] [(.ref ou)])) rfl (by rw [hml]; rfl) [] [] (lenOf own_pd_8 rfl) rfl rfl (hb hby at_300)
  obtain ⟨rfl, Nc33, Kc32⟩ := hQ31
  refine own_go st31 ?_
  clear st31 X28 Kc29
  replace N0 := Fr.app N0 Nc33
  clear Nc33
  refine own_go (fun _ k => XS.iload X31.here hx rfl (hb hby at_305) rfl (XS.icmpYes X31.here hx rfl (pc0 := 307) (pc' := 312) rfl (hb hby at_307) rfl (teq (by decide : (3 : Int32) = (3 : Int32))).1 (by decide) (by decide) (XS.iload X31.here hx rfl (hb hby at_312) rfl (XS.ifNo X31.here hx rfl (hb hby at_314) rfl ((if0 _ _).trans (tlt (by decide : (0 : Int32) < (3 : Int32))).2.2.2) (XS.aload X31.here hx rfl (hb hby at_317) rfl rfl (XS.iconst X31.here hx rfl (hb hby at_319) k)))))) ?_
  obtain ⟨v34, T34, L34, X34, hQ34, st34⟩ := own_callF (xi := own_y25) (y := own_y12) X31 hx hZ hown (ow178 hw) (ow117 hw) (ow118 hw) (ow119 hw) (ow120 hw) (ow121 hw) (ow122 hw) (ow76 hw) (ow40 hw) (ow123 hw) (by decide) (rm_alget_0 l Z a0 hw hO [] ou b k sb1_ (.ref sb2_) (.ref sb3_) .null .null .null .null .null .null .null (3 : Int32) hs1 O0 (rfl : ((.ref sb2_) : Value).isRef = true) (rfl : ((.ref sb3_) : Value).isRef = true) (rfl : (.null : Value).isRef = true) (rfl : (.null : Value).isRef = true) (rfl : (.null : Value).isRef = true) (rfl : (.null : Value).isRef = true) (rfl : (.null : Value).isRef = true) (rfl : (.null : Value).isRef = true) (rfl : (.null : Value).isRef = true) (fp2.keep K1) (fp4.keep K1 nin0) (fp5.keep K1 nin0) (fp3.keep K1 nin0) (by decide : (0 : Int32) < (3 : Int32))) 0 0 0 (by show _ ≤ 48; omega) (by show _ ≤ 320; omega) Kc32 (fp2.keep K1) (g := (mkF m 320 #[iv p1, iv p2, iv p3, iv p4, iv p5, iv nn, yu, yw, rv sb1_, rv sb2_, rv sb3_, rv sb4_, rv ls, ya, yb, yc, yd, ym, iv (3 : Int32), rv ou] [(.int (0 : Int32)), (.ref ou)])) rfl (by rw [hml]; rfl) [(.int (0 : Int32))] [] (lenOf own_pd_6 rfl) rfl rfl (hb hby at_320)
  obtain ⟨rfl, Nc36, Kc35⟩ := hQ34
  refine own_go st34 ?_
  clear st34 X31 Kc32
  replace N0 := Fr.app N0 Nc36
  clear Nc36
  refine own_go (fun _ k => XS.aload X34.here hx rfl (hb hby at_325) rfl rfl (Jvm.RoadKit.acmp (g := (mkF m 327 #[iv p1, iv p2, iv p3, iv p4, iv p5, iv nn, yu, yw, rv sb1_, rv sb2_, rv sb3_, rv sb4_, rv ls, ya, yb, yc, yd, ym, iv (3 : Int32), rv ou] [(.ref sb1_), (.ref sb1_)])) X34 hx rfl rfl rfl (pc0 := 327) (pc' := 332) (same := true) rfl (hb hby at_327) rfl (decide_eq_true rfl) (by decide) (by decide) (XS.iload X34.here hx rfl (hb hby at_332) rfl (XS.iconst X34.here hx rfl (hb hby at_334) (XS.icmpNo X34.here hx rfl (hb hby at_335) rfl (tlt (by decide : (1 : Int32) < (3 : Int32))).2.2.2 (XS.aload X34.here hx rfl (hb hby at_338) rfl rfl k)))))) ?_
  refine own_go (fun _ k => XS.iconst X34.here hx rfl (hb hby at_340) k) ?_
  obtain ⟨v37, T37, L37, X37, hQ37, st37⟩ := own_callF (xi := own_y25) (y := own_y12) X34 hx hZ hown (ow178 hw) (ow117 hw) (ow118 hw) (ow119 hw) (ow120 hw) (ow121 hw) (ow122 hw) (ow76 hw) (ow40 hw) (ow123 hw) (by decide) (rm_alget_1 l Z a0 hw hO [] ou b k sb1_ sb2_ (.ref sb3_) .null .null .null .null .null .null .null (3 : Int32) hs1 O0 (rfl : ((.ref sb3_) : Value).isRef = true) (rfl : (.null : Value).isRef = true) (rfl : (.null : Value).isRef = true) (rfl : (.null : Value).isRef = true) (rfl : (.null : Value).isRef = true) (rfl : (.null : Value).isRef = true) (rfl : (.null : Value).isRef = true) (rfl : (.null : Value).isRef = true) (fp2.keep K1) (fp4.keep K1 nin0) (fp5.keep K1 nin0) (fp3.keep K1 nin0) (by decide : (1 : Int32) < (3 : Int32))) 0 0 0 (by show _ ≤ 48; omega) (by show _ ≤ 320; omega) Kc35 (fp2.keep K1) (g := (mkF m 341 #[iv p1, iv p2, iv p3, iv p4, iv p5, iv nn, yu, yw, rv sb1_, rv sb2_, rv sb3_, rv sb4_, rv ls, ya, yb, yc, yd, ym, iv (3 : Int32), rv ou] [(.int (1 : Int32)), (.ref ou)])) rfl (by rw [hml]; rfl) [(.int (1 : Int32))] [] (lenOf own_pd_6 rfl) rfl rfl (hb hby at_341)
  obtain ⟨rfl, Nc39, Kc38⟩ := hQ37
  refine own_go st37 ?_
  clear st37 X34 Kc35
  replace N0 := Fr.app N0 Nc39
  clear Nc39
  refine own_go (fun _ k => XS.aload X37.here hx rfl (hb hby at_346) rfl rfl (Jvm.RoadKit.acmp (g := (mkF m 348 #[iv p1, iv p2, iv p3, iv p4, iv p5, iv nn, yu, yw, rv sb1_, rv sb2_, rv sb3_, rv sb4_, rv ls, ya, yb, yc, yd, ym, iv (3 : Int32), rv ou] [(.ref sb2_), (.ref sb2_)])) X37 hx rfl rfl rfl (pc0 := 348) (pc' := 353) (same := true) rfl (hb hby at_348) rfl (decide_eq_true rfl) (by decide) (by decide) (XS.iload X37.here hx rfl (hb hby at_353) rfl k))) ?_
  show own_Go p e below s _ _ _ (T37.setTop (mkF m 355 #[iv p1, iv p2, iv p3, iv p4, iv p5, iv nn, yu, yw, rv sb1_, rv sb2_, rv sb3_, rv sb4_, rv ls, ya, yb, yc, yd, ym, iv (3 : Int32), rv ou] [(.int (3 : Int32))]))
  refine own_go (fun _ k => XS.iconst X37.here hx rfl (hb hby at_355) (XS.icmpNo X37.here hx rfl (hb hby at_356) rfl (tlt (by decide : (2 : Int32) < (3 : Int32))).2.2.2 (XS.aload X37.here hx rfl (hb hby at_359) rfl rfl (XS.iconst X37.here hx rfl (hb hby at_361) k)))) ?_
  obtain ⟨v40, T40, L40, X40, hQ40, st40⟩ := own_callF (xi := own_y25) (y := own_y12) X37 hx hZ hown (ow178 hw) (ow117 hw) (ow118 hw) (ow119 hw) (ow120 hw) (ow121 hw) (ow122 hw) (ow76 hw) (ow40 hw) (ow123 hw) (by decide) (rm_alget_2 l Z a0 hw hO [] ou b k sb1_ sb2_ sb3_ .null .null .null .null .null .null .null (3 : Int32) hs1 O0 (rfl : (.null : Value).isRef = true) (rfl : (.null : Value).isRef = true) (rfl : (.null : Value).isRef = true) (rfl : (.null : Value).isRef = true) (rfl : (.null : Value).isRef = true) (rfl : (.null : Value).isRef = true) (rfl : (.null : Value).isRef = true) (fp2.keep K1) (fp4.keep K1 nin0) (fp5.keep K1 nin0) (fp3.keep K1 nin0) (by decide : (2 : Int32) < (3 : Int32))) 0 0 0 (by show _ ≤ 48; omega) (by show _ ≤ 320; omega) Kc38 (fp2.keep K1) (g := (mkF m 362 #[iv p1, iv p2, iv p3, iv p4, iv p5, iv nn, yu, yw, rv sb1_, rv sb2_, rv sb3_, rv sb4_, rv ls, ya, yb, yc, yd, ym, iv (3 : Int32), rv ou] [(.int (2 : Int32)), (.ref ou)])) rfl (by rw [hml]; rfl) [(.int (2 : Int32))] [] (lenOf own_pd_6 rfl) rfl rfl (hb hby at_362)
  obtain ⟨rfl, Nc42, Kc41⟩ := hQ40
  refine own_go st40 ?_
  clear st40 X37 Kc38
  replace N0 := Fr.app N0 Nc42
  clear Nc42
  refine own_go (fun _ k => XS.aload X40.here hx rfl (hb hby at_367) rfl rfl (Jvm.RoadKit.acmp (g := (mkF m 369 #[iv p1, iv p2, iv p3, iv p4, iv p5, iv nn, yu, yw, rv sb1_, rv sb2_, rv sb3_, rv sb4_, rv ls, ya, yb, yc, yd, ym, iv (3 : Int32), rv ou] [(.ref sb3_), (.ref sb3_)])) X40 hx rfl rfl rfl (pc0 := 369) (pc' := 374) (same := true) rfl (hb hby at_369) rfl (decide_eq_true rfl) (by decide) (by decide) (XS.iconst X40.here hx rfl (hb hby at_374) k))) ?_
  show own_Go p e below s _ _ _ (T40.setTop (mkF m 375 #[iv p1, iv p2, iv p3, iv p4, iv p5, iv nn, yu, yw, rv sb1_, rv sb2_, rv sb3_, rv sb4_, rv ls, ya, yb, yc, yd, ym, iv (3 : Int32), rv ou] [(.int (1 : Int32))]))
  refine own_retN X40 hx hlk Kc41 (t := .boolean) hret (by simp) (hb hby at_375) (by show _ ≤ 48; omega) (by show _ ≤ 320; omega) ?_
  exact ⟨rfl, N0, K0⟩
set_option maxRecDepth 65536 in
set_option maxHeartbeats 40000000 in
theorem sg_s254x {l : Launch} {Z : State} {a0 : Array Value} (hw : own_W Z a0) {zc : Int32} {wd : Addr} {kd : ClassId} {wx : Addr} {wy : Addr} {wsp : Addr} {wspv : Addr} {wspk : ClassId} (hO : own_Olds Z zc wd kd wx wy wsp wspv wspk) {p : Program} {e : Env} {s : State} {m : MethodId} {args : Array Value} {below : List Frame} {meth : Method} {c : Code} {T : State} {locs : List Loc} {cells slots : Nat} (p1 : Int32) (p2 : Int32) (p3 : Int32) (p4 : Int32) (p5 : Int32) (nn : Int32) (uz : Int32) (sb1_ : Addr) (sb2_ : Addr) (sb3_ : Addr) (sb4_ : Addr) (ls : Addr) (ya : Slot) (yb : Slot) (yc : Slot) (yd : Slot) (um : Int32) (h0 hs1 : Heap)
    (X0 : Stand p l e room_1 s m args below meth c T locs cells slots) (hx : p.tables.exec = Jvm.exec) (hby : c.code = code) (hml : c.maxLocals = 20) (hret : meth.sig.returnType = some .boolean) (hlk : meth.locks = false) (hZ : Z.Warmed39 s.vm) (hown : s.vm.findClass "com/example/padlock/padlock/lock/AccessAnnouncedPinLaw" = some m.cls) (hnm : meth.name = "law") (e0 : T.heap = hs1) (N0 : Fr Z.heap.size locs) (O0 : Ext Z.heap hs1) (K0 : Keep h0 hs1 []) (fp0 : own_LS Z wd hs1 ls nn sb1_ sb2_ sb3_ sb4_) (fp1 : own_4 Z hs1 sb1_ sb2_ sb3_ sb4_ p1 p2 p3 p4) (hz : uz = (0 : Int32)) (hcells : cells ≤ 40) (hslots : slots ≤ 290) :
    own_Go p e below s (Q_law Z zc wd kd wx wy wsp wspv wspk p1 p2 p3 p4 p5 h0) room_1.cells room_1.slots (T.setTop (mkF m 254 #[iv p1, iv p2, iv p3, iv p4, iv p5, iv nn, iv uz, rv wx, rv sb1_, rv sb2_, rv sb3_, rv sb4_, rv ls, ya, yb, yc, yd, .unset, .unset, .unset] [(.int um)])) := by
  obtain ⟨oCS, oCz, oDE, oDV, oEx, oSh, oE1, oE2, oPF, oSPE, oSPC, oSPF, oSPV, oNe⟩ := id hO
  have K1 := Keep.refl hs1 []
  show own_Go p e below s _ _ _ (T.setTop (mkF m 254 #[iv p1, iv p2, iv p3, iv p4, iv p5, iv nn, iv uz, rv wx, rv sb1_, rv sb2_, rv sb3_, rv sb4_, rv ls, ya, yb, yc, yd, .unset, .unset, .unset] [(.int um)]))
  obtain ⟨fe0, fe1, fe2, fe3, fn0, fn1, fn2, fn3⟩ := fp1
  rcases fp0 with ⟨hnn, mc, g0, g1, g2, g3⟩ | ⟨hnn, mc, b, k, g0, g1, g2, g3, g4⟩ | ⟨hnn, mc, b, k, g0, g1, g2, g3, g4⟩ | ⟨hnn, mc, b, k, g0, g1, g2, g3, g4⟩ | ⟨hnn, mc, b, k, g0, g1, g2, g3, g4⟩
  · have fpn0 := fn0
    have fpn1 := fn1
    have fpn2 := fn2
    have fpn3 := fn3
    rw [hnn]
    show own_Go p e below s _ _ _ (T.setTop (mkF m 254 #[iv p1, iv p2, iv p3, iv p4, iv p5, iv (0 : Int32), iv uz, rv wx, rv sb1_, rv sb2_, rv sb3_, rv sb4_, rv ls, ya, yb, yc, yd, .unset, .unset, .unset] [(.int um)]))
    show own_Go p e below s _ _ _ (T.setTop (mkF m 254 #[iv p1, iv p2, iv p3, iv p4, iv p5, iv (0 : Int32), iv uz, rv wx, rv sb1_, rv sb2_, rv sb3_, rv sb4_, rv ls, ya, yb, yc, yd, .unset, .unset, .unset] [(.int um)]))
    refine own_go (fun _ k => XS.istore X0.here hx rfl (hb hby at_254) rfl (l' := #[iv p1, iv p2, iv p3, iv p4, iv p5, iv (0 : Int32), iv uz, rv wx, rv sb1_, rv sb2_, rv sb3_, rv sb4_, rv ls, ya, yb, yc, yd, iv um, .unset, .unset]) rfl (XS.iload X0.here hx rfl (hb hby at_256) rfl (XS.ifYes X0.here hx rfl (pc0 := 258) (pc' := 272) rfl (hb hby at_258) rfl ((if0 _ _).trans (teq hz).1) (by decide) (by decide) (XS.iconst X0.here hx rfl (hb hby at_272) (XS.istore X0.here hx rfl (hb hby at_273) rfl (l' := #[iv p1, iv p2, iv p3, iv p4, iv p5, iv (0 : Int32), iv uz, rv wx, rv sb1_, rv sb2_, rv sb3_, rv sb4_, rv ls, ya, yb, yc, yd, iv um, iv (0 : Int32), .unset]) rfl (XS.aload X0.here hx rfl (hb hby at_275) rfl rfl k)))))) ?_
    refine own_go (fun _ k => XS.aload X0.here hx rfl (hb hby at_277) rfl rfl k) ?_
    obtain ⟨v43, T43, L43, X43, hQ43, st43⟩ := own_callV (y := own_y24) (z := own_y24) X0 hx hZ hown (ow62 hw) (ow63 hw) (notFace_of_selects (args := #[]) (mvT hZ (ow65 hw))) (ow65 hw) (ow64 hw) (ow2 hw) (ow66 hw) (rm_annx0 l Z a0 hw hO [] ls mc hs1 O0 (g0.keep K1) (g1.keep K1 nin0) (g2.keep K1 nin0) (g3.keep K1 nin0)) 0 1 3 (by show _ ≤ 48; omega) (by show _ ≤ 320; omega) e0 (oE1.ext O0) (g := (mkF m 279 #[iv p1, iv p2, iv p3, iv p4, iv p5, iv (0 : Int32), iv uz, rv wx, rv sb1_, rv sb2_, rv sb3_, rv sb4_, rv ls, ya, yb, yc, yd, iv um, iv (0 : Int32), .unset] [(.ref ls), (.ref wx)])) rfl (by rw [hml]; rfl) [(.ref ls)] [] (lenOf own_pd_16 rfl) rfl rfl (hb hby at_279)
    obtain ⟨w44, rfl, Nc49, Kc48, hb45, f46, f47⟩ := hQ43
    refine own_go st43 ?_
    clear st43 X0 e0
    replace N0 := Fr.app N0 Nc49
    clear Nc49
    have big50 : Z.heap.size ≤ w44 := Nat.le_trans O0.1 hb45
    have sz51 : h0.size ≤ w44 := Nat.le_trans K0.1 hb45
    have sz52 : hs1.size ≤ w44 := Nat.le_trans K1.1 hb45
    replace O0 := own_oldKeep O0 Kc48 all0
    replace K0 := K0.trans Kc48 all0
    replace K1 := K1.trans Kc48 all0
    clear Kc48
    show own_Go p e below s _ _ _ (T43.setTop (mkF m 282 #[iv p1, iv p2, iv p3, iv p4, iv p5, iv (0 : Int32), iv uz, rv wx, rv sb1_, rv sb2_, rv sb3_, rv sb4_, rv ls, ya, yb, yc, yd, iv um, iv (0 : Int32), .unset] [(.ref w44)]))
    exact sg_s282_0 hw hO p1 p2 p3 p4 p5 (0 : Int32) sb1_ sb2_ sb3_ sb4_ ls w44 (iv uz : Slot) (rv wx : Slot) (iv um : Slot) (ya : Slot) (yb : Slot) (yc : Slot) (yd : Slot) h0 T43.heap X43 hx hby hml hret hlk hZ hown hnm (rfl : T43.heap = T43.heap) N0 O0 K0 (g0.keep K1) (g1.keep K1 nin0) f46 f47 (by omega) (by omega)
  · have fpn0 := fn0
    have fpn1 := fn1
    have fpn2 := fn2
    have fpn3 := fn3
    rw [hnn]
    show own_Go p e below s _ _ _ (T.setTop (mkF m 254 #[iv p1, iv p2, iv p3, iv p4, iv p5, iv (1 : Int32), iv uz, rv wx, rv sb1_, rv sb2_, rv sb3_, rv sb4_, rv ls, ya, yb, yc, yd, .unset, .unset, .unset] [(.int um)]))
    show own_Go p e below s _ _ _ (T.setTop (mkF m 254 #[iv p1, iv p2, iv p3, iv p4, iv p5, iv (1 : Int32), iv uz, rv wx, rv sb1_, rv sb2_, rv sb3_, rv sb4_, rv ls, ya, yb, yc, yd, .unset, .unset, .unset] [(.int um)]))
    refine own_go (fun _ k => XS.istore X0.here hx rfl (hb hby at_254) rfl (l' := #[iv p1, iv p2, iv p3, iv p4, iv p5, iv (1 : Int32), iv uz, rv wx, rv sb1_, rv sb2_, rv sb3_, rv sb4_, rv ls, ya, yb, yc, yd, iv um, .unset, .unset]) rfl (XS.iload X0.here hx rfl (hb hby at_256) rfl (XS.ifYes X0.here hx rfl (pc0 := 258) (pc' := 272) rfl (hb hby at_258) rfl ((if0 _ _).trans (teq hz).1) (by decide) (by decide) (XS.iconst X0.here hx rfl (hb hby at_272) (XS.istore X0.here hx rfl (hb hby at_273) rfl (l' := #[iv p1, iv p2, iv p3, iv p4, iv p5, iv (1 : Int32), iv uz, rv wx, rv sb1_, rv sb2_, rv sb3_, rv sb4_, rv ls, ya, yb, yc, yd, iv um, iv (0 : Int32), .unset]) rfl (XS.aload X0.here hx rfl (hb hby at_275) rfl rfl k)))))) ?_
    refine own_go (fun _ k => XS.aload X0.here hx rfl (hb hby at_277) rfl rfl k) ?_
    obtain ⟨v53, T53, L53, X53, hQ53, st53⟩ := own_callV (y := own_y24) (z := own_y24) X0 hx hZ hown (ow62 hw) (ow63 hw) (notFace_of_selects (args := #[]) (mvT hZ (ow65 hw))) (ow65 hw) (ow64 hw) (ow2 hw) (ow66 hw) (rm_annx1 l Z a0 hw hO [] ls mc b k sb1_ p1 hs1 O0 (g0.keep K1) (g1.keep K1 nin0) (g2.keep K1 nin0) (g3.keep K1 nin0) (g4.keep K1 nin0) (fe0.keep K1) (own_NSkeep fpn0 fe0 K1 all0)) 0 1 3 (by show _ ≤ 48; omega) (by show _ ≤ 320; omega) e0 (oE1.ext O0) (g := (mkF m 279 #[iv p1, iv p2, iv p3, iv p4, iv p5, iv (1 : Int32), iv uz, rv wx, rv sb1_, rv sb2_, rv sb3_, rv sb4_, rv ls, ya, yb, yc, yd, iv um, iv (0 : Int32), .unset] [(.ref ls), (.ref wx)])) rfl (by rw [hml]; rfl) [(.ref ls)] [] (lenOf own_pd_16 rfl) rfl rfl (hb hby at_279)
    obtain ⟨w54, rfl, Nc59, Kc58, hb55, f56, f57⟩ := hQ53
    refine own_go st53 ?_
    clear st53 X0 e0
    replace N0 := Fr.app N0 Nc59
    clear Nc59
    have big60 : Z.heap.size ≤ w54 := Nat.le_trans O0.1 hb55
    have sz61 : h0.size ≤ w54 := Nat.le_trans K0.1 hb55
    have sz62 : hs1.size ≤ w54 := Nat.le_trans K1.1 hb55
    replace O0 := own_oldKeep O0 Kc58 all0
    replace K0 := K0.trans Kc58 all0
    replace K1 := K1.trans Kc58 all0
    clear Kc58
    show own_Go p e below s _ _ _ (T53.setTop (mkF m 282 #[iv p1, iv p2, iv p3, iv p4, iv p5, iv (1 : Int32), iv uz, rv wx, rv sb1_, rv sb2_, rv sb3_, rv sb4_, rv ls, ya, yb, yc, yd, iv um, iv (0 : Int32), .unset] [(.ref w54)]))
    exact sg_s282_0 hw hO p1 p2 p3 p4 p5 (1 : Int32) sb1_ sb2_ sb3_ sb4_ ls w54 (iv uz : Slot) (rv wx : Slot) (iv um : Slot) (ya : Slot) (yb : Slot) (yc : Slot) (yd : Slot) h0 T53.heap X53 hx hby hml hret hlk hZ hown hnm (rfl : T53.heap = T53.heap) N0 O0 K0 (g0.keep K1) (g1.keep K1 nin0) f56 f57 (by omega) (by omega)
  · have fpn0 := fn0
    have fpn1 := fn1
    have fpn2 := fn2
    have fpn3 := fn3
    rw [hnn]
    show own_Go p e below s _ _ _ (T.setTop (mkF m 254 #[iv p1, iv p2, iv p3, iv p4, iv p5, iv (2 : Int32), iv uz, rv wx, rv sb1_, rv sb2_, rv sb3_, rv sb4_, rv ls, ya, yb, yc, yd, .unset, .unset, .unset] [(.int um)]))
    show own_Go p e below s _ _ _ (T.setTop (mkF m 254 #[iv p1, iv p2, iv p3, iv p4, iv p5, iv (2 : Int32), iv uz, rv wx, rv sb1_, rv sb2_, rv sb3_, rv sb4_, rv ls, ya, yb, yc, yd, .unset, .unset, .unset] [(.int um)]))
    refine own_go (fun _ k => XS.istore X0.here hx rfl (hb hby at_254) rfl (l' := #[iv p1, iv p2, iv p3, iv p4, iv p5, iv (2 : Int32), iv uz, rv wx, rv sb1_, rv sb2_, rv sb3_, rv sb4_, rv ls, ya, yb, yc, yd, iv um, .unset, .unset]) rfl (XS.iload X0.here hx rfl (hb hby at_256) rfl (XS.ifYes X0.here hx rfl (pc0 := 258) (pc' := 272) rfl (hb hby at_258) rfl ((if0 _ _).trans (teq hz).1) (by decide) (by decide) (XS.iconst X0.here hx rfl (hb hby at_272) (XS.istore X0.here hx rfl (hb hby at_273) rfl (l' := #[iv p1, iv p2, iv p3, iv p4, iv p5, iv (2 : Int32), iv uz, rv wx, rv sb1_, rv sb2_, rv sb3_, rv sb4_, rv ls, ya, yb, yc, yd, iv um, iv (0 : Int32), .unset]) rfl (XS.aload X0.here hx rfl (hb hby at_275) rfl rfl k)))))) ?_
    refine own_go (fun _ k => XS.aload X0.here hx rfl (hb hby at_277) rfl rfl k) ?_
    obtain ⟨v63, T63, L63, X63, hQ63, st63⟩ := own_callV (y := own_y24) (z := own_y24) X0 hx hZ hown (ow62 hw) (ow63 hw) (notFace_of_selects (args := #[]) (mvT hZ (ow65 hw))) (ow65 hw) (ow64 hw) (ow2 hw) (ow66 hw) (rm_annx2 l Z a0 hw hO [] ls mc b k sb1_ sb2_ p1 p2 hs1 O0 (g0.keep K1) (g1.keep K1 nin0) (g2.keep K1 nin0) (g3.keep K1 nin0) (g4.keep K1 nin0) (fe0.keep K1) (fe1.keep K1) (own_NSkeep fpn0 fe0 K1 all0) (own_NSkeep fpn1 fe1 K1 all0)) 0 1 3 (by show _ ≤ 48; omega) (by show _ ≤ 320; omega) e0 (oE1.ext O0) (g := (mkF m 279 #[iv p1, iv p2, iv p3, iv p4, iv p5, iv (2 : Int32), iv uz, rv wx, rv sb1_, rv sb2_, rv sb3_, rv sb4_, rv ls, ya, yb, yc, yd, iv um, iv (0 : Int32), .unset] [(.ref ls), (.ref wx)])) rfl (by rw [hml]; rfl) [(.ref ls)] [] (lenOf own_pd_16 rfl) rfl rfl (hb hby at_279)
    obtain ⟨w64, rfl, Nc69, Kc68, hb65, f66, f67⟩ := hQ63
    refine own_go st63 ?_
    clear st63 X0 e0
    replace N0 := Fr.app N0 Nc69
    clear Nc69
    have big70 : Z.heap.size ≤ w64 := Nat.le_trans O0.1 hb65
    have sz71 : h0.size ≤ w64 := Nat.le_trans K0.1 hb65
    have sz72 : hs1.size ≤ w64 := Nat.le_trans K1.1 hb65
    replace O0 := own_oldKeep O0 Kc68 all0
    replace K0 := K0.trans Kc68 all0
    replace K1 := K1.trans Kc68 all0
    clear Kc68
    show own_Go p e below s _ _ _ (T63.setTop (mkF m 282 #[iv p1, iv p2, iv p3, iv p4, iv p5, iv (2 : Int32), iv uz, rv wx, rv sb1_, rv sb2_, rv sb3_, rv sb4_, rv ls, ya, yb, yc, yd, iv um, iv (0 : Int32), .unset] [(.ref w64)]))
    exact sg_s282_0 hw hO p1 p2 p3 p4 p5 (2 : Int32) sb1_ sb2_ sb3_ sb4_ ls w64 (iv uz : Slot) (rv wx : Slot) (iv um : Slot) (ya : Slot) (yb : Slot) (yc : Slot) (yd : Slot) h0 T63.heap X63 hx hby hml hret hlk hZ hown hnm (rfl : T63.heap = T63.heap) N0 O0 K0 (g0.keep K1) (g1.keep K1 nin0) f66 f67 (by omega) (by omega)
  · have fpn0 := fn0
    have fpn1 := fn1
    have fpn2 := fn2
    have fpn3 := fn3
    rw [hnn]
    show own_Go p e below s _ _ _ (T.setTop (mkF m 254 #[iv p1, iv p2, iv p3, iv p4, iv p5, iv (3 : Int32), iv uz, rv wx, rv sb1_, rv sb2_, rv sb3_, rv sb4_, rv ls, ya, yb, yc, yd, .unset, .unset, .unset] [(.int um)]))
    show own_Go p e below s _ _ _ (T.setTop (mkF m 254 #[iv p1, iv p2, iv p3, iv p4, iv p5, iv (3 : Int32), iv uz, rv wx, rv sb1_, rv sb2_, rv sb3_, rv sb4_, rv ls, ya, yb, yc, yd, .unset, .unset, .unset] [(.int um)]))
    refine own_go (fun _ k => XS.istore X0.here hx rfl (hb hby at_254) rfl (l' := #[iv p1, iv p2, iv p3, iv p4, iv p5, iv (3 : Int32), iv uz, rv wx, rv sb1_, rv sb2_, rv sb3_, rv sb4_, rv ls, ya, yb, yc, yd, iv um, .unset, .unset]) rfl (XS.iload X0.here hx rfl (hb hby at_256) rfl (XS.ifYes X0.here hx rfl (pc0 := 258) (pc' := 272) rfl (hb hby at_258) rfl ((if0 _ _).trans (teq hz).1) (by decide) (by decide) (XS.iconst X0.here hx rfl (hb hby at_272) (XS.istore X0.here hx rfl (hb hby at_273) rfl (l' := #[iv p1, iv p2, iv p3, iv p4, iv p5, iv (3 : Int32), iv uz, rv wx, rv sb1_, rv sb2_, rv sb3_, rv sb4_, rv ls, ya, yb, yc, yd, iv um, iv (0 : Int32), .unset]) rfl (XS.aload X0.here hx rfl (hb hby at_275) rfl rfl k)))))) ?_
    refine own_go (fun _ k => XS.aload X0.here hx rfl (hb hby at_277) rfl rfl k) ?_
    obtain ⟨v73, T73, L73, X73, hQ73, st73⟩ := own_callV (y := own_y24) (z := own_y24) X0 hx hZ hown (ow62 hw) (ow63 hw) (notFace_of_selects (args := #[]) (mvT hZ (ow65 hw))) (ow65 hw) (ow64 hw) (ow2 hw) (ow66 hw) (rm_annx3 l Z a0 hw hO [] ls mc b k sb1_ sb2_ sb3_ p1 p2 p3 hs1 O0 (g0.keep K1) (g1.keep K1 nin0) (g2.keep K1 nin0) (g3.keep K1 nin0) (g4.keep K1 nin0) (fe0.keep K1) (fe1.keep K1) (fe2.keep K1) (own_NSkeep fpn0 fe0 K1 all0) (own_NSkeep fpn1 fe1 K1 all0) (own_NSkeep fpn2 fe2 K1 all0)) 0 1 3 (by show _ ≤ 48; omega) (by show _ ≤ 320; omega) e0 (oE1.ext O0) (g := (mkF m 279 #[iv p1, iv p2, iv p3, iv p4, iv p5, iv (3 : Int32), iv uz, rv wx, rv sb1_, rv sb2_, rv sb3_, rv sb4_, rv ls, ya, yb, yc, yd, iv um, iv (0 : Int32), .unset] [(.ref ls), (.ref wx)])) rfl (by rw [hml]; rfl) [(.ref ls)] [] (lenOf own_pd_16 rfl) rfl rfl (hb hby at_279)
    obtain ⟨w74, rfl, Nc79, Kc78, hb75, f76, f77⟩ := hQ73
    refine own_go st73 ?_
    clear st73 X0 e0
    replace N0 := Fr.app N0 Nc79
    clear Nc79
    have big80 : Z.heap.size ≤ w74 := Nat.le_trans O0.1 hb75
    have sz81 : h0.size ≤ w74 := Nat.le_trans K0.1 hb75
    have sz82 : hs1.size ≤ w74 := Nat.le_trans K1.1 hb75
    replace O0 := own_oldKeep O0 Kc78 all0
    replace K0 := K0.trans Kc78 all0
    replace K1 := K1.trans Kc78 all0
    clear Kc78
    show own_Go p e below s _ _ _ (T73.setTop (mkF m 282 #[iv p1, iv p2, iv p3, iv p4, iv p5, iv (3 : Int32), iv uz, rv wx, rv sb1_, rv sb2_, rv sb3_, rv sb4_, rv ls, ya, yb, yc, yd, iv um, iv (0 : Int32), .unset] [(.ref w74)]))
    exact sg_s282_0 hw hO p1 p2 p3 p4 p5 (3 : Int32) sb1_ sb2_ sb3_ sb4_ ls w74 (iv uz : Slot) (rv wx : Slot) (iv um : Slot) (ya : Slot) (yb : Slot) (yc : Slot) (yd : Slot) h0 T73.heap X73 hx hby hml hret hlk hZ hown hnm (rfl : T73.heap = T73.heap) N0 O0 K0 (g0.keep K1) (g1.keep K1 nin0) f76 f77 (by omega) (by omega)
  · have fpn0 := fn0
    have fpn1 := fn1
    have fpn2 := fn2
    have fpn3 := fn3
    rw [hnn]
    show own_Go p e below s _ _ _ (T.setTop (mkF m 254 #[iv p1, iv p2, iv p3, iv p4, iv p5, iv (4 : Int32), iv uz, rv wx, rv sb1_, rv sb2_, rv sb3_, rv sb4_, rv ls, ya, yb, yc, yd, .unset, .unset, .unset] [(.int um)]))
    show own_Go p e below s _ _ _ (T.setTop (mkF m 254 #[iv p1, iv p2, iv p3, iv p4, iv p5, iv (4 : Int32), iv uz, rv wx, rv sb1_, rv sb2_, rv sb3_, rv sb4_, rv ls, ya, yb, yc, yd, .unset, .unset, .unset] [(.int um)]))
    refine own_go (fun _ k => XS.istore X0.here hx rfl (hb hby at_254) rfl (l' := #[iv p1, iv p2, iv p3, iv p4, iv p5, iv (4 : Int32), iv uz, rv wx, rv sb1_, rv sb2_, rv sb3_, rv sb4_, rv ls, ya, yb, yc, yd, iv um, .unset, .unset]) rfl (XS.iload X0.here hx rfl (hb hby at_256) rfl (XS.ifYes X0.here hx rfl (pc0 := 258) (pc' := 272) rfl (hb hby at_258) rfl ((if0 _ _).trans (teq hz).1) (by decide) (by decide) (XS.iconst X0.here hx rfl (hb hby at_272) (XS.istore X0.here hx rfl (hb hby at_273) rfl (l' := #[iv p1, iv p2, iv p3, iv p4, iv p5, iv (4 : Int32), iv uz, rv wx, rv sb1_, rv sb2_, rv sb3_, rv sb4_, rv ls, ya, yb, yc, yd, iv um, iv (0 : Int32), .unset]) rfl (XS.aload X0.here hx rfl (hb hby at_275) rfl rfl k)))))) ?_
    refine own_go (fun _ k => XS.aload X0.here hx rfl (hb hby at_277) rfl rfl k) ?_
    obtain ⟨v83, T83, L83, X83, hQ83, st83⟩ := own_callV (y := own_y24) (z := own_y24) X0 hx hZ hown (ow62 hw) (ow63 hw) (notFace_of_selects (args := #[]) (mvT hZ (ow65 hw))) (ow65 hw) (ow64 hw) (ow2 hw) (ow66 hw) (rm_annx4 l Z a0 hw hO [] ls mc b k sb1_ sb2_ sb3_ sb4_ p1 p2 p3 p4 hs1 O0 (g0.keep K1) (g1.keep K1 nin0) (g2.keep K1 nin0) (g3.keep K1 nin0) (g4.keep K1 nin0) (fe0.keep K1) (fe1.keep K1) (fe2.keep K1) (fe3.keep K1) (own_NSkeep fpn0 fe0 K1 all0) (own_NSkeep fpn1 fe1 K1 all0) (own_NSkeep fpn2 fe2 K1 all0) (own_NSkeep fpn3 fe3 K1 all0)) 0 1 3 (by show _ ≤ 48; omega) (by show _ ≤ 320; omega) e0 (oE1.ext O0) (g := (mkF m 279 #[iv p1, iv p2, iv p3, iv p4, iv p5, iv (4 : Int32), iv uz, rv wx, rv sb1_, rv sb2_, rv sb3_, rv sb4_, rv ls, ya, yb, yc, yd, iv um, iv (0 : Int32), .unset] [(.ref ls), (.ref wx)])) rfl (by rw [hml]; rfl) [(.ref ls)] [] (lenOf own_pd_16 rfl) rfl rfl (hb hby at_279)
    obtain ⟨w84, rfl, Nc89, Kc88, hb85, f86, f87⟩ := hQ83
    refine own_go st83 ?_
    clear st83 X0 e0
    replace N0 := Fr.app N0 Nc89
    clear Nc89
    have big90 : Z.heap.size ≤ w84 := Nat.le_trans O0.1 hb85
    have sz91 : h0.size ≤ w84 := Nat.le_trans K0.1 hb85
    have sz92 : hs1.size ≤ w84 := Nat.le_trans K1.1 hb85
    replace O0 := own_oldKeep O0 Kc88 all0
    replace K0 := K0.trans Kc88 all0
    replace K1 := K1.trans Kc88 all0
    clear Kc88
    show own_Go p e below s _ _ _ (T83.setTop (mkF m 282 #[iv p1, iv p2, iv p3, iv p4, iv p5, iv (4 : Int32), iv uz, rv wx, rv sb1_, rv sb2_, rv sb3_, rv sb4_, rv ls, ya, yb, yc, yd, iv um, iv (0 : Int32), .unset] [(.ref w84)]))
    exact sg_s282_0 hw hO p1 p2 p3 p4 p5 (4 : Int32) sb1_ sb2_ sb3_ sb4_ ls w84 (iv uz : Slot) (rv wx : Slot) (iv um : Slot) (ya : Slot) (yb : Slot) (yc : Slot) (yd : Slot) h0 T83.heap X83 hx hby hml hret hlk hZ hown hnm (rfl : T83.heap = T83.heap) N0 O0 K0 (g0.keep K1) (g1.keep K1 nin0) f86 f87 (by omega) (by omega)
set_option maxRecDepth 65536 in
set_option maxHeartbeats 40000000 in
theorem sg_s254_0 {l : Launch} {Z : State} {a0 : Array Value} (hw : own_W Z a0) {zc : Int32} {wd : Addr} {kd : ClassId} {wx : Addr} {wy : Addr} {wsp : Addr} {wspv : Addr} {wspk : ClassId} (hO : own_Olds Z zc wd kd wx wy wsp wspv wspk) {p : Program} {e : Env} {s : State} {m : MethodId} {args : Array Value} {below : List Frame} {meth : Method} {c : Code} {T : State} {locs : List Loc} {cells slots : Nat} (p1 : Int32) (p2 : Int32) (p3 : Int32) (p4 : Int32) (p5 : Int32) (nn : Int32) (uz : Int32) (wa : Addr) (sb1_ : Addr) (sb2_ : Addr) (sb3_ : Addr) (sb4_ : Addr) (ls : Addr) (ya : Slot) (yb : Slot) (yc : Slot) (yd : Slot) (h0 hs1 : Heap)
    (X0 : Stand p l e room_1 s m args below meth c T locs cells slots) (hx : p.tables.exec = Jvm.exec) (hby : c.code = code) (hml : c.maxLocals = 20) (hret : meth.sig.returnType = some .boolean) (hlk : meth.locks = false) (hZ : Z.Warmed39 s.vm) (hown : s.vm.findClass "com/example/padlock/padlock/lock/AccessAnnouncedPinLaw" = some m.cls) (hnm : meth.name = "law") (e0 : T.heap = hs1) (N0 : Fr Z.heap.size locs) (O0 : Ext Z.heap hs1) (K0 : Keep h0 hs1 []) (fp0 : own_LS Z wd hs1 ls nn sb1_ sb2_ sb3_ sb4_) (fp1 : own_4 Z hs1 sb1_ sb2_ sb3_ sb4_ p1 p2 p3 p4) (hacc : own_Acc uz wa wx wy) (hqn : ¬ ((0 : Int32) < nn ∧ own_Sp p1)) (hcells : cells ≤ 40) (hslots : slots ≤ 290) :
    own_Go p e below s (Q_law Z zc wd kd wx wy wsp wspv wspk p1 p2 p3 p4 p5 h0) room_1.cells room_1.slots (T.setTop (mkF m 254 #[iv p1, iv p2, iv p3, iv p4, iv p5, iv nn, iv uz, rv wa, rv sb1_, rv sb2_, rv sb3_, rv sb4_, rv ls, ya, yb, yc, yd, .unset, .unset, .unset] [(.int (0 : Int32))])) := by
  obtain ⟨oCS, oCz, oDE, oDV, oEx, oSh, oE1, oE2, oPF, oSPE, oSPC, oSPF, oSPV, oNe⟩ := id hO
  have K1 := Keep.refl hs1 []
  show own_Go p e below s _ _ _ (T.setTop (mkF m 254 #[iv p1, iv p2, iv p3, iv p4, iv p5, iv nn, iv uz, rv wa, rv sb1_, rv sb2_, rv sb3_, rv sb4_, rv ls, ya, yb, yc, yd, .unset, .unset, .unset] [(.int (0 : Int32))]))
  rcases hacc with ⟨hz, hwa⟩ | ⟨hz, hwa⟩
  · rw [hwa]
    show own_Go p e below s _ _ _ (T.setTop (mkF m 254 #[iv p1, iv p2, iv p3, iv p4, iv p5, iv nn, iv uz, rv wx, rv sb1_, rv sb2_, rv sb3_, rv sb4_, rv ls, ya, yb, yc, yd, .unset, .unset, .unset] [(.int (0 : Int32))]))
    show own_Go p e below s _ _ _ (T.setTop (mkF m 254 #[iv p1, iv p2, iv p3, iv p4, iv p5, iv nn, iv uz, rv wx, rv sb1_, rv sb2_, rv sb3_, rv sb4_, rv ls, ya, yb, yc, yd, .unset, .unset, .unset] [(.int (0 : Int32))]))
    exact sg_s254x hw hO p1 p2 p3 p4 p5 nn uz sb1_ sb2_ sb3_ sb4_ ls (ya : Slot) (yb : Slot) (yc : Slot) (yd : Slot) (0 : Int32) h0 hs1 X0 hx hby hml hret hlk hZ hown hnm e0 N0 O0 K0 (own_LSkeep fp0 K1) (own_4keep fp1 K1) hz (by omega) (by omega)
  · rw [hwa]
    show own_Go p e below s _ _ _ (T.setTop (mkF m 254 #[iv p1, iv p2, iv p3, iv p4, iv p5, iv nn, iv uz, rv wy, rv sb1_, rv sb2_, rv sb3_, rv sb4_, rv ls, ya, yb, yc, yd, .unset, .unset, .unset] [(.int (0 : Int32))]))
    show own_Go p e below s _ _ _ (T.setTop (mkF m 254 #[iv p1, iv p2, iv p3, iv p4, iv p5, iv nn, iv uz, rv wy, rv sb1_, rv sb2_, rv sb3_, rv sb4_, rv ls, ya, yb, yc, yd, .unset, .unset, .unset] [(.int (0 : Int32))]))
    obtain ⟨fe0, fe1, fe2, fe3, fn0, fn1, fn2, fn3⟩ := fp1
    rcases fp0 with ⟨hnn, mc, g0, g1, g2, g3⟩ | ⟨hnn, mc, b, k, g0, g1, g2, g3, g4⟩ | ⟨hnn, mc, b, k, g0, g1, g2, g3, g4⟩ | ⟨hnn, mc, b, k, g0, g1, g2, g3, g4⟩ | ⟨hnn, mc, b, k, g0, g1, g2, g3, g4⟩
    · have fpn0 := fn0
      have fpn1 := fn1
      have fpn2 := fn2
      have fpn3 := fn3
      rw [hnn]
      show own_Go p e below s _ _ _ (T.setTop (mkF m 254 #[iv p1, iv p2, iv p3, iv p4, iv p5, iv (0 : Int32), iv uz, rv wy, rv sb1_, rv sb2_, rv sb3_, rv sb4_, rv ls, ya, yb, yc, yd, .unset, .unset, .unset] [(.int (0 : Int32))]))
      show own_Go p e below s _ _ _ (T.setTop (mkF m 254 #[iv p1, iv p2, iv p3, iv p4, iv p5, iv (0 : Int32), iv uz, rv wy, rv sb1_, rv sb2_, rv sb3_, rv sb4_, rv ls, ya, yb, yc, yd, .unset, .unset, .unset] [(.int (0 : Int32))]))
      refine own_go (fun _ k => XS.istore X0.here hx rfl (hb hby at_254) rfl (l' := #[iv p1, iv p2, iv p3, iv p4, iv p5, iv (0 : Int32), iv uz, rv wy, rv sb1_, rv sb2_, rv sb3_, rv sb4_, rv ls, ya, yb, yc, yd, iv (0 : Int32), .unset, .unset]) rfl (XS.iload X0.here hx rfl (hb hby at_256) rfl (XS.ifNo X0.here hx rfl (hb hby at_258) rfl ((if0 _ _).trans (feq hz).1) (XS.iconst X0.here hx rfl (hb hby at_261) (XS.iload X0.here hx rfl (hb hby at_262) rfl (XS.iconst X0.here hx rfl (hb hby at_264) k)))))) ?_
      refine own_go (fun _ k => XS.isub X0.here hx rfl (hb hby at_265) rfl k) ?_
      obtain ⟨v93, T93, L93, X93, hQ93, st93⟩ := own_callS (y := own_y3) X0 hx hZ hown (ow172 hw) (ow107 hw) (ow108 hw) (ow109 hw) (rm_maxi l Z a0 hw hO [] (0 : Int32) (-1 : Int32) hs1 O0) 0 0 0 (by show _ ≤ 48; omega) (by show _ ≤ 320; omega) e0 (g := (mkF m 266 #[iv p1, iv p2, iv p3, iv p4, iv p5, iv (0 : Int32), iv uz, rv wy, rv sb1_, rv sb2_, rv sb3_, rv sb4_, rv ls, ya, yb, yc, yd, iv (0 : Int32), .unset, .unset] [(.int (-1 : Int32)), (.int (0 : Int32))])) rfl (by rw [hml]; rfl) [(.int (0 : Int32)), (.int (-1 : Int32))] [] (lenOf own_pd_1 rfl) rfl rfl (hb hby at_266)
      rcases hQ93 with hQ93 | hQ93
      · obtain ⟨rfl, Nc96, hp94, Kc95⟩ := hQ93
        refine own_go st93 ?_
        clear st93 X0 e0
        replace N0 := Fr.app N0 Nc96
        clear Nc96
        exact absurd hp94 (by decide : ¬ ((0 : Int32) < (-1 : Int32)))
      · obtain ⟨rfl, Nc99, hp97, Kc98⟩ := hQ93
        refine own_go st93 ?_
        clear st93 X0 e0
        replace N0 := Fr.app N0 Nc99
        clear Nc99
        show own_Go p e below s _ _ _ (T93.setTop (mkF m 269 #[iv p1, iv p2, iv p3, iv p4, iv p5, iv (0 : Int32), iv uz, rv wy, rv sb1_, rv sb2_, rv sb3_, rv sb4_, rv ls, ya, yb, yc, yd, iv (0 : Int32), .unset, .unset] [(.int (0 : Int32))]))
        refine own_go (fun _ k => XS.goto X93.here hx rfl (pc0 := 269) (pc' := 273) rfl (hb hby at_269) (by decide) (by decide) (XS.istore X93.here hx rfl (hb hby at_273) rfl (l' := #[iv p1, iv p2, iv p3, iv p4, iv p5, iv (0 : Int32), iv uz, rv wy, rv sb1_, rv sb2_, rv sb3_, rv sb4_, rv ls, ya, yb, yc, yd, iv (0 : Int32), iv (0 : Int32), .unset]) rfl (XS.aload X93.here hx rfl (hb hby at_275) rfl rfl (XS.aload X93.here hx rfl (hb hby at_277) rfl rfl k)))) ?_
        obtain ⟨v100, T100, L100, X100, hQ100, st100⟩ := own_callV (y := own_y24) (z := own_y24) X93 hx hZ hown (ow62 hw) (ow63 hw) (notFace_of_selects (args := #[]) (mvT hZ (ow65 hw))) (ow65 hw) (ow64 hw) (ow2 hw) (ow66 hw) (rm_anny0 l Z a0 hw hO [] ls mc hs1 O0 (g0.keep K1) (g1.keep K1 nin0) (g2.keep K1 nin0) (g3.keep K1 nin0)) 0 1 3 (by show _ ≤ 48; omega) (by show _ ≤ 320; omega) Kc98 (oE2.ext O0) (g := (mkF m 279 #[iv p1, iv p2, iv p3, iv p4, iv p5, iv (0 : Int32), iv uz, rv wy, rv sb1_, rv sb2_, rv sb3_, rv sb4_, rv ls, ya, yb, yc, yd, iv (0 : Int32), iv (0 : Int32), .unset] [(.ref ls), (.ref wy)])) rfl (by rw [hml]; rfl) [(.ref ls)] [] (lenOf own_pd_16 rfl) rfl rfl (hb hby at_279)
        obtain ⟨w101, rfl, Nc106, Kc105, hb102, f103, f104⟩ := hQ100
        refine own_go st100 ?_
        clear st100 X93 Kc98
        replace N0 := Fr.app N0 Nc106
        clear Nc106
        have big107 : Z.heap.size ≤ w101 := Nat.le_trans O0.1 hb102
        have sz108 : h0.size ≤ w101 := Nat.le_trans K0.1 hb102
        have sz109 : hs1.size ≤ w101 := Nat.le_trans K1.1 hb102
        replace O0 := own_oldKeep O0 Kc105 all0
        replace K0 := K0.trans Kc105 all0
        replace K1 := K1.trans Kc105 all0
        clear Kc105
        show own_Go p e below s _ _ _ (T100.setTop (mkF m 282 #[iv p1, iv p2, iv p3, iv p4, iv p5, iv (0 : Int32), iv uz, rv wy, rv sb1_, rv sb2_, rv sb3_, rv sb4_, rv ls, ya, yb, yc, yd, iv (0 : Int32), iv (0 : Int32), .unset] [(.ref w101)]))
        exact sg_s282_0 hw hO p1 p2 p3 p4 p5 (0 : Int32) sb1_ sb2_ sb3_ sb4_ ls w101 (iv uz : Slot) (rv wy : Slot) (iv (0 : Int32) : Slot) (ya : Slot) (yb : Slot) (yc : Slot) (yd : Slot) h0 T100.heap X100 hx hby hml hret hlk hZ hown hnm (rfl : T100.heap = T100.heap) N0 O0 K0 (g0.keep K1) (g1.keep K1 nin0) f103 f104 (by omega) (by omega)
    · have fpn0 := fn0
      have fpn1 := fn1
      have fpn2 := fn2
      have fpn3 := fn3
      have hqs : ¬ own_Sp p1 := fun h => hqn ⟨by rw [hnn]; decide, h⟩
      rw [hnn]
      show own_Go p e below s _ _ _ (T.setTop (mkF m 254 #[iv p1, iv p2, iv p3, iv p4, iv p5, iv (1 : Int32), iv uz, rv wy, rv sb1_, rv sb2_, rv sb3_, rv sb4_, rv ls, ya, yb, yc, yd, .unset, .unset, .unset] [(.int (0 : Int32))]))
      show own_Go p e below s _ _ _ (T.setTop (mkF m 254 #[iv p1, iv p2, iv p3, iv p4, iv p5, iv (1 : Int32), iv uz, rv wy, rv sb1_, rv sb2_, rv sb3_, rv sb4_, rv ls, ya, yb, yc, yd, .unset, .unset, .unset] [(.int (0 : Int32))]))
      refine own_go (fun _ k => XS.istore X0.here hx rfl (hb hby at_254) rfl (l' := #[iv p1, iv p2, iv p3, iv p4, iv p5, iv (1 : Int32), iv uz, rv wy, rv sb1_, rv sb2_, rv sb3_, rv sb4_, rv ls, ya, yb, yc, yd, iv (0 : Int32), .unset, .unset]) rfl (XS.iload X0.here hx rfl (hb hby at_256) rfl (XS.ifNo X0.here hx rfl (hb hby at_258) rfl ((if0 _ _).trans (feq hz).1) (XS.iconst X0.here hx rfl (hb hby at_261) (XS.iload X0.here hx rfl (hb hby at_262) rfl (XS.iconst X0.here hx rfl (hb hby at_264) k)))))) ?_
      refine own_go (fun _ k => XS.isub X0.here hx rfl (hb hby at_265) rfl k) ?_
      obtain ⟨v110, T110, L110, X110, hQ110, st110⟩ := own_callS (y := own_y3) X0 hx hZ hown (ow172 hw) (ow107 hw) (ow108 hw) (ow109 hw) (rm_maxi l Z a0 hw hO [] (0 : Int32) (-1 : Int32) hs1 O0) 0 0 0 (by show _ ≤ 48; omega) (by show _ ≤ 320; omega) e0 (g := (mkF m 266 #[iv p1, iv p2, iv p3, iv p4, iv p5, iv (1 : Int32), iv uz, rv wy, rv sb1_, rv sb2_, rv sb3_, rv sb4_, rv ls, ya, yb, yc, yd, iv (0 : Int32), .unset, .unset] [(.int (-1 : Int32)), (.int (0 : Int32))])) rfl (by rw [hml]; rfl) [(.int (0 : Int32)), (.int (-1 : Int32))] [] (lenOf own_pd_1 rfl) rfl rfl (hb hby at_266)
      rcases hQ110 with hQ110 | hQ110
      · obtain ⟨rfl, Nc113, hp111, Kc112⟩ := hQ110
        refine own_go st110 ?_
        clear st110 X0 e0
        replace N0 := Fr.app N0 Nc113
        clear Nc113
        exact absurd hp111 (by decide : ¬ ((0 : Int32) < (-1 : Int32)))
      · obtain ⟨rfl, Nc116, hp114, Kc115⟩ := hQ110
        refine own_go st110 ?_
        clear st110 X0 e0
        replace N0 := Fr.app N0 Nc116
        clear Nc116
        show own_Go p e below s _ _ _ (T110.setTop (mkF m 269 #[iv p1, iv p2, iv p3, iv p4, iv p5, iv (1 : Int32), iv uz, rv wy, rv sb1_, rv sb2_, rv sb3_, rv sb4_, rv ls, ya, yb, yc, yd, iv (0 : Int32), .unset, .unset] [(.int (0 : Int32))]))
        refine own_go (fun _ k => XS.goto X110.here hx rfl (pc0 := 269) (pc' := 273) rfl (hb hby at_269) (by decide) (by decide) (XS.istore X110.here hx rfl (hb hby at_273) rfl (l' := #[iv p1, iv p2, iv p3, iv p4, iv p5, iv (1 : Int32), iv uz, rv wy, rv sb1_, rv sb2_, rv sb3_, rv sb4_, rv ls, ya, yb, yc, yd, iv (0 : Int32), iv (0 : Int32), .unset]) rfl (XS.aload X110.here hx rfl (hb hby at_275) rfl rfl (XS.aload X110.here hx rfl (hb hby at_277) rfl rfl k)))) ?_
        obtain ⟨v117, T117, L117, X117, hQ117, st117⟩ := own_callV (y := own_y24) (z := own_y24) X110 hx hZ hown (ow62 hw) (ow63 hw) (notFace_of_selects (args := #[]) (mvT hZ (ow65 hw))) (ow65 hw) (ow64 hw) (ow2 hw) (ow66 hw) (rm_anny1 l Z a0 hw hO [] ls mc b k sb1_ p1 hs1 O0 (g0.keep K1) (g1.keep K1 nin0) (g2.keep K1 nin0) (g3.keep K1 nin0) (g4.keep K1 nin0) (fe0.keep K1) (own_NSkeep fpn0 fe0 K1 all0)) 0 1 3 (by show _ ≤ 48; omega) (by show _ ≤ 320; omega) Kc115 (oE2.ext O0) (g := (mkF m 279 #[iv p1, iv p2, iv p3, iv p4, iv p5, iv (1 : Int32), iv uz, rv wy, rv sb1_, rv sb2_, rv sb3_, rv sb4_, rv ls, ya, yb, yc, yd, iv (0 : Int32), iv (0 : Int32), .unset] [(.ref ls), (.ref wy)])) rfl (by rw [hml]; rfl) [(.ref ls)] [] (lenOf own_pd_16 rfl) rfl rfl (hb hby at_279)
        obtain ⟨w118, rfl, Nc123, Kc122, hb119, f120, f121⟩ := hQ117
        refine own_go st117 ?_
        clear st117 X110 Kc115
        replace N0 := Fr.app N0 Nc123
        clear Nc123
        have big124 : Z.heap.size ≤ w118 := Nat.le_trans O0.1 hb119
        have sz125 : h0.size ≤ w118 := Nat.le_trans K0.1 hb119
        have sz126 : hs1.size ≤ w118 := Nat.le_trans K1.1 hb119
        replace O0 := own_oldKeep O0 Kc122 all0
        replace K0 := K0.trans Kc122 all0
        replace K1 := K1.trans Kc122 all0
        clear Kc122
        show own_Go p e below s _ _ _ (T117.setTop (mkF m 282 #[iv p1, iv p2, iv p3, iv p4, iv p5, iv (1 : Int32), iv uz, rv wy, rv sb1_, rv sb2_, rv sb3_, rv sb4_, rv ls, ya, yb, yc, yd, iv (0 : Int32), iv (0 : Int32), .unset] [(.ref w118)]))
        exact sg_s282_0 hw hO p1 p2 p3 p4 p5 (1 : Int32) sb1_ sb2_ sb3_ sb4_ ls w118 (iv uz : Slot) (rv wy : Slot) (iv (0 : Int32) : Slot) (ya : Slot) (yb : Slot) (yc : Slot) (yd : Slot) h0 T117.heap X117 hx hby hml hret hlk hZ hown hnm (rfl : T117.heap = T117.heap) N0 O0 K0 (g0.keep K1) (g1.keep K1 nin0) f120 f121 (by omega) (by omega)
    · have fpn0 := fn0
      have fpn1 := fn1
      have fpn2 := fn2
      have fpn3 := fn3
      have hqs : ¬ own_Sp p1 := fun h => hqn ⟨by rw [hnn]; decide, h⟩
      rw [hnn]
      show own_Go p e below s _ _ _ (T.setTop (mkF m 254 #[iv p1, iv p2, iv p3, iv p4, iv p5, iv (2 : Int32), iv uz, rv wy, rv sb1_, rv sb2_, rv sb3_, rv sb4_, rv ls, ya, yb, yc, yd, .unset, .unset, .unset] [(.int (0 : Int32))]))
      show own_Go p e below s _ _ _ (T.setTop (mkF m 254 #[iv p1, iv p2, iv p3, iv p4, iv p5, iv (2 : Int32), iv uz, rv wy, rv sb1_, rv sb2_, rv sb3_, rv sb4_, rv ls, ya, yb, yc, yd, .unset, .unset, .unset] [(.int (0 : Int32))]))
      refine own_go (fun _ k => XS.istore X0.here hx rfl (hb hby at_254) rfl (l' := #[iv p1, iv p2, iv p3, iv p4, iv p5, iv (2 : Int32), iv uz, rv wy, rv sb1_, rv sb2_, rv sb3_, rv sb4_, rv ls, ya, yb, yc, yd, iv (0 : Int32), .unset, .unset]) rfl (XS.iload X0.here hx rfl (hb hby at_256) rfl (XS.ifNo X0.here hx rfl (hb hby at_258) rfl ((if0 _ _).trans (feq hz).1) (XS.iconst X0.here hx rfl (hb hby at_261) (XS.iload X0.here hx rfl (hb hby at_262) rfl (XS.iconst X0.here hx rfl (hb hby at_264) k)))))) ?_
      refine own_go (fun _ k => XS.isub X0.here hx rfl (hb hby at_265) rfl k) ?_
      obtain ⟨v127, T127, L127, X127, hQ127, st127⟩ := own_callS (y := own_y3) X0 hx hZ hown (ow172 hw) (ow107 hw) (ow108 hw) (ow109 hw) (rm_maxi l Z a0 hw hO [] (0 : Int32) (-1 : Int32) hs1 O0) 0 0 0 (by show _ ≤ 48; omega) (by show _ ≤ 320; omega) e0 (g := (mkF m 266 #[iv p1, iv p2, iv p3, iv p4, iv p5, iv (2 : Int32), iv uz, rv wy, rv sb1_, rv sb2_, rv sb3_, rv sb4_, rv ls, ya, yb, yc, yd, iv (0 : Int32), .unset, .unset] [(.int (-1 : Int32)), (.int (0 : Int32))])) rfl (by rw [hml]; rfl) [(.int (0 : Int32)), (.int (-1 : Int32))] [] (lenOf own_pd_1 rfl) rfl rfl (hb hby at_266)
      rcases hQ127 with hQ127 | hQ127
      · obtain ⟨rfl, Nc130, hp128, Kc129⟩ := hQ127
        refine own_go st127 ?_
        clear st127 X0 e0
        replace N0 := Fr.app N0 Nc130
        clear Nc130
        exact absurd hp128 (by decide : ¬ ((0 : Int32) < (-1 : Int32)))
      · obtain ⟨rfl, Nc133, hp131, Kc132⟩ := hQ127
        refine own_go st127 ?_
        clear st127 X0 e0
        replace N0 := Fr.app N0 Nc133
        clear Nc133
        show own_Go p e below s _ _ _ (T127.setTop (mkF m 269 #[iv p1, iv p2, iv p3, iv p4, iv p5, iv (2 : Int32), iv uz, rv wy, rv sb1_, rv sb2_, rv sb3_, rv sb4_, rv ls, ya, yb, yc, yd, iv (0 : Int32), .unset, .unset] [(.int (0 : Int32))]))
        refine own_go (fun _ k => XS.goto X127.here hx rfl (pc0 := 269) (pc' := 273) rfl (hb hby at_269) (by decide) (by decide) (XS.istore X127.here hx rfl (hb hby at_273) rfl (l' := #[iv p1, iv p2, iv p3, iv p4, iv p5, iv (2 : Int32), iv uz, rv wy, rv sb1_, rv sb2_, rv sb3_, rv sb4_, rv ls, ya, yb, yc, yd, iv (0 : Int32), iv (0 : Int32), .unset]) rfl (XS.aload X127.here hx rfl (hb hby at_275) rfl rfl (XS.aload X127.here hx rfl (hb hby at_277) rfl rfl k)))) ?_
        obtain ⟨v134, T134, L134, X134, hQ134, st134⟩ := own_callV (y := own_y24) (z := own_y24) X127 hx hZ hown (ow62 hw) (ow63 hw) (notFace_of_selects (args := #[]) (mvT hZ (ow65 hw))) (ow65 hw) (ow64 hw) (ow2 hw) (ow66 hw) (rm_anny2 l Z a0 hw hO [] ls mc b k sb1_ sb2_ p1 p2 hs1 O0 (g0.keep K1) (g1.keep K1 nin0) (g2.keep K1 nin0) (g3.keep K1 nin0) (g4.keep K1 nin0) (fe0.keep K1) (fe1.keep K1) (own_NSkeep fpn0 fe0 K1 all0) (own_NSkeep fpn1 fe1 K1 all0)) 0 2 13 (by show _ ≤ 48; omega) (by show _ ≤ 320; omega) Kc132 (oE2.ext O0) (g := (mkF m 279 #[iv p1, iv p2, iv p3, iv p4, iv p5, iv (2 : Int32), iv uz, rv wy, rv sb1_, rv sb2_, rv sb3_, rv sb4_, rv ls, ya, yb, yc, yd, iv (0 : Int32), iv (0 : Int32), .unset] [(.ref ls), (.ref wy)])) rfl (by rw [hml]; rfl) [(.ref ls)] [] (lenOf own_pd_16 rfl) rfl rfl (hb hby at_279)
        rcases hQ134 with hQ134 | hQ134 | hQ134
        · obtain ⟨w135, rfl, Nc141, hp136, Kc140, hb137, f138, f139⟩ := hQ134
          refine own_go st134 ?_
          clear st134 X127 Kc132
          replace N0 := Fr.app N0 Nc141
          clear Nc141
          have big142 : Z.heap.size ≤ w135 := Nat.le_trans O0.1 hb137
          have sz143 : h0.size ≤ w135 := Nat.le_trans K0.1 hb137
          have sz144 : hs1.size ≤ w135 := Nat.le_trans K1.1 hb137
          replace O0 := own_oldKeep O0 Kc140 all0
          replace K0 := K0.trans Kc140 all0
          replace K1 := K1.trans Kc140 all0
          clear Kc140
          show own_Go p e below s _ _ _ (T134.setTop (mkF m 282 #[iv p1, iv p2, iv p3, iv p4, iv p5, iv (2 : Int32), iv uz, rv wy, rv sb1_, rv sb2_, rv sb3_, rv sb4_, rv ls, ya, yb, yc, yd, iv (0 : Int32), iv (0 : Int32), .unset] [(.ref w135)]))
          exact sg_s282_0 hw hO p1 p2 p3 p4 p5 (2 : Int32) sb1_ sb2_ sb3_ sb4_ ls w135 (iv uz : Slot) (rv wy : Slot) (iv (0 : Int32) : Slot) (ya : Slot) (yb : Slot) (yc : Slot) (yd : Slot) h0 T134.heap X134 hx hby hml hret hlk hZ hown hnm (rfl : T134.heap = T134.heap) N0 O0 K0 (g0.keep K1) (g1.keep K1 nin0) f138 f139 (by omega) (by omega)
        · obtain ⟨w145, rfl, Nc152, hp146, hp147, Kc151, hb148, f149, f150⟩ := hQ134
          refine own_go st134 ?_
          clear st134 X127 Kc132
          replace N0 := Fr.app N0 Nc152
          clear Nc152
          exact absurd hp146 hqs
        · obtain ⟨w153, w154, w155, rfl, Nc164, hp156, hp157, Kc163, hb158, f159, f160, f161, f162⟩ := hQ134
          refine own_go st134 ?_
          clear st134 X127 Kc132
          replace N0 := Fr.app N0 Nc164
          clear Nc164
          exact absurd hp156 hqs
    · have fpn0 := fn0
      have fpn1 := fn1
      have fpn2 := fn2
      have fpn3 := fn3
      have hqs : ¬ own_Sp p1 := fun h => hqn ⟨by rw [hnn]; decide, h⟩
      rw [hnn]
      show own_Go p e below s _ _ _ (T.setTop (mkF m 254 #[iv p1, iv p2, iv p3, iv p4, iv p5, iv (3 : Int32), iv uz, rv wy, rv sb1_, rv sb2_, rv sb3_, rv sb4_, rv ls, ya, yb, yc, yd, .unset, .unset, .unset] [(.int (0 : Int32))]))
      show own_Go p e below s _ _ _ (T.setTop (mkF m 254 #[iv p1, iv p2, iv p3, iv p4, iv p5, iv (3 : Int32), iv uz, rv wy, rv sb1_, rv sb2_, rv sb3_, rv sb4_, rv ls, ya, yb, yc, yd, .unset, .unset, .unset] [(.int (0 : Int32))]))
      refine own_go (fun _ k => XS.istore X0.here hx rfl (hb hby at_254) rfl (l' := #[iv p1, iv p2, iv p3, iv p4, iv p5, iv (3 : Int32), iv uz, rv wy, rv sb1_, rv sb2_, rv sb3_, rv sb4_, rv ls, ya, yb, yc, yd, iv (0 : Int32), .unset, .unset]) rfl (XS.iload X0.here hx rfl (hb hby at_256) rfl (XS.ifNo X0.here hx rfl (hb hby at_258) rfl ((if0 _ _).trans (feq hz).1) (XS.iconst X0.here hx rfl (hb hby at_261) (XS.iload X0.here hx rfl (hb hby at_262) rfl (XS.iconst X0.here hx rfl (hb hby at_264) k)))))) ?_
      refine own_go (fun _ k => XS.isub X0.here hx rfl (hb hby at_265) rfl k) ?_
      obtain ⟨v165, T165, L165, X165, hQ165, st165⟩ := own_callS (y := own_y3) X0 hx hZ hown (ow172 hw) (ow107 hw) (ow108 hw) (ow109 hw) (rm_maxi l Z a0 hw hO [] (0 : Int32) (-1 : Int32) hs1 O0) 0 0 0 (by show _ ≤ 48; omega) (by show _ ≤ 320; omega) e0 (g := (mkF m 266 #[iv p1, iv p2, iv p3, iv p4, iv p5, iv (3 : Int32), iv uz, rv wy, rv sb1_, rv sb2_, rv sb3_, rv sb4_, rv ls, ya, yb, yc, yd, iv (0 : Int32), .unset, .unset] [(.int (-1 : Int32)), (.int (0 : Int32))])) rfl (by rw [hml]; rfl) [(.int (0 : Int32)), (.int (-1 : Int32))] [] (lenOf own_pd_1 rfl) rfl rfl (hb hby at_266)
      rcases hQ165 with hQ165 | hQ165
      · obtain ⟨rfl, Nc168, hp166, Kc167⟩ := hQ165
        refine own_go st165 ?_
        clear st165 X0 e0
        replace N0 := Fr.app N0 Nc168
        clear Nc168
        exact absurd hp166 (by decide : ¬ ((0 : Int32) < (-1 : Int32)))
      · obtain ⟨rfl, Nc171, hp169, Kc170⟩ := hQ165
        refine own_go st165 ?_
        clear st165 X0 e0
        replace N0 := Fr.app N0 Nc171
        clear Nc171
        show own_Go p e below s _ _ _ (T165.setTop (mkF m 269 #[iv p1, iv p2, iv p3, iv p4, iv p5, iv (3 : Int32), iv uz, rv wy, rv sb1_, rv sb2_, rv sb3_, rv sb4_, rv ls, ya, yb, yc, yd, iv (0 : Int32), .unset, .unset] [(.int (0 : Int32))]))
        refine own_go (fun _ k => XS.goto X165.here hx rfl (pc0 := 269) (pc' := 273) rfl (hb hby at_269) (by decide) (by decide) (XS.istore X165.here hx rfl (hb hby at_273) rfl (l' := #[iv p1, iv p2, iv p3, iv p4, iv p5, iv (3 : Int32), iv uz, rv wy, rv sb1_, rv sb2_, rv sb3_, rv sb4_, rv ls, ya, yb, yc, yd, iv (0 : Int32), iv (0 : Int32), .unset]) rfl (XS.aload X165.here hx rfl (hb hby at_275) rfl rfl (XS.aload X165.here hx rfl (hb hby at_277) rfl rfl k)))) ?_
        obtain ⟨v172, T172, L172, X172, hQ172, st172⟩ := own_callV (y := own_y24) (z := own_y24) X165 hx hZ hown (ow62 hw) (ow63 hw) (notFace_of_selects (args := #[]) (mvT hZ (ow65 hw))) (ow65 hw) (ow64 hw) (ow2 hw) (ow66 hw) (rm_anny3 l Z a0 hw hO [] ls mc b k sb1_ sb2_ sb3_ p1 p2 p3 hs1 O0 (g0.keep K1) (g1.keep K1 nin0) (g2.keep K1 nin0) (g3.keep K1 nin0) (g4.keep K1 nin0) (fe0.keep K1) (fe1.keep K1) (fe2.keep K1) (own_NSkeep fpn0 fe0 K1 all0) (own_NSkeep fpn1 fe1 K1 all0) (own_NSkeep fpn2 fe2 K1 all0)) 0 2 13 (by show _ ≤ 48; omega) (by show _ ≤ 320; omega) Kc170 (oE2.ext O0) (g := (mkF m 279 #[iv p1, iv p2, iv p3, iv p4, iv p5, iv (3 : Int32), iv uz, rv wy, rv sb1_, rv sb2_, rv sb3_, rv sb4_, rv ls, ya, yb, yc, yd, iv (0 : Int32), iv (0 : Int32), .unset] [(.ref ls), (.ref wy)])) rfl (by rw [hml]; rfl) [(.ref ls)] [] (lenOf own_pd_16 rfl) rfl rfl (hb hby at_279)
        rcases hQ172 with hQ172 | hQ172 | hQ172 | hQ172
        · obtain ⟨w173, rfl, Nc179, hp174, Kc178, hb175, f176, f177⟩ := hQ172
          refine own_go st172 ?_
          clear st172 X165 Kc170
          replace N0 := Fr.app N0 Nc179
          clear Nc179
          have big180 : Z.heap.size ≤ w173 := Nat.le_trans O0.1 hb175
          have sz181 : h0.size ≤ w173 := Nat.le_trans K0.1 hb175
          have sz182 : hs1.size ≤ w173 := Nat.le_trans K1.1 hb175
          replace O0 := own_oldKeep O0 Kc178 all0
          replace K0 := K0.trans Kc178 all0
          replace K1 := K1.trans Kc178 all0
          clear Kc178
          show own_Go p e below s _ _ _ (T172.setTop (mkF m 282 #[iv p1, iv p2, iv p3, iv p4, iv p5, iv (3 : Int32), iv uz, rv wy, rv sb1_, rv sb2_, rv sb3_, rv sb4_, rv ls, ya, yb, yc, yd, iv (0 : Int32), iv (0 : Int32), .unset] [(.ref w173)]))
          exact sg_s282_0 hw hO p1 p2 p3 p4 p5 (3 : Int32) sb1_ sb2_ sb3_ sb4_ ls w173 (iv uz : Slot) (rv wy : Slot) (iv (0 : Int32) : Slot) (ya : Slot) (yb : Slot) (yc : Slot) (yd : Slot) h0 T172.heap X172 hx hby hml hret hlk hZ hown hnm (rfl : T172.heap = T172.heap) N0 O0 K0 (g0.keep K1) (g1.keep K1 nin0) f176 f177 (by omega) (by omega)
        · obtain ⟨w183, rfl, Nc190, hp184, hp185, Kc189, hb186, f187, f188⟩ := hQ172
          refine own_go st172 ?_
          clear st172 X165 Kc170
          replace N0 := Fr.app N0 Nc190
          clear Nc190
          exact absurd hp184 hqs
        · obtain ⟨w191, w192, w193, rfl, Nc203, hp194, hp195, hp196, Kc202, hb197, f198, f199, f200, f201⟩ := hQ172
          refine own_go st172 ?_
          clear st172 X165 Kc170
          replace N0 := Fr.app N0 Nc203
          clear Nc203
          exact absurd hp194 hqs
        · obtain ⟨w204, w205, w206, rfl, Nc216, hp207, hp208, hp209, Kc215, hb210, f211, f212, f213, f214⟩ := hQ172
          refine own_go st172 ?_
          clear st172 X165 Kc170
          replace N0 := Fr.app N0 Nc216
          clear Nc216
          exact absurd hp207 hqs
    · have fpn0 := fn0
      have fpn1 := fn1
      have fpn2 := fn2
      have fpn3 := fn3
      have hqs : ¬ own_Sp p1 := fun h => hqn ⟨by rw [hnn]; decide, h⟩
      rw [hnn]
      show own_Go p e below s _ _ _ (T.setTop (mkF m 254 #[iv p1, iv p2, iv p3, iv p4, iv p5, iv (4 : Int32), iv uz, rv wy, rv sb1_, rv sb2_, rv sb3_, rv sb4_, rv ls, ya, yb, yc, yd, .unset, .unset, .unset] [(.int (0 : Int32))]))
      show own_Go p e below s _ _ _ (T.setTop (mkF m 254 #[iv p1, iv p2, iv p3, iv p4, iv p5, iv (4 : Int32), iv uz, rv wy, rv sb1_, rv sb2_, rv sb3_, rv sb4_, rv ls, ya, yb, yc, yd, .unset, .unset, .unset] [(.int (0 : Int32))]))
      refine own_go (fun _ k => XS.istore X0.here hx rfl (hb hby at_254) rfl (l' := #[iv p1, iv p2, iv p3, iv p4, iv p5, iv (4 : Int32), iv uz, rv wy, rv sb1_, rv sb2_, rv sb3_, rv sb4_, rv ls, ya, yb, yc, yd, iv (0 : Int32), .unset, .unset]) rfl (XS.iload X0.here hx rfl (hb hby at_256) rfl (XS.ifNo X0.here hx rfl (hb hby at_258) rfl ((if0 _ _).trans (feq hz).1) (XS.iconst X0.here hx rfl (hb hby at_261) (XS.iload X0.here hx rfl (hb hby at_262) rfl (XS.iconst X0.here hx rfl (hb hby at_264) k)))))) ?_
      refine own_go (fun _ k => XS.isub X0.here hx rfl (hb hby at_265) rfl k) ?_
      obtain ⟨v217, T217, L217, X217, hQ217, st217⟩ := own_callS (y := own_y3) X0 hx hZ hown (ow172 hw) (ow107 hw) (ow108 hw) (ow109 hw) (rm_maxi l Z a0 hw hO [] (0 : Int32) (-1 : Int32) hs1 O0) 0 0 0 (by show _ ≤ 48; omega) (by show _ ≤ 320; omega) e0 (g := (mkF m 266 #[iv p1, iv p2, iv p3, iv p4, iv p5, iv (4 : Int32), iv uz, rv wy, rv sb1_, rv sb2_, rv sb3_, rv sb4_, rv ls, ya, yb, yc, yd, iv (0 : Int32), .unset, .unset] [(.int (-1 : Int32)), (.int (0 : Int32))])) rfl (by rw [hml]; rfl) [(.int (0 : Int32)), (.int (-1 : Int32))] [] (lenOf own_pd_1 rfl) rfl rfl (hb hby at_266)
      rcases hQ217 with hQ217 | hQ217
      · obtain ⟨rfl, Nc220, hp218, Kc219⟩ := hQ217
        refine own_go st217 ?_
        clear st217 X0 e0
        replace N0 := Fr.app N0 Nc220
        clear Nc220
        exact absurd hp218 (by decide : ¬ ((0 : Int32) < (-1 : Int32)))
      · obtain ⟨rfl, Nc223, hp221, Kc222⟩ := hQ217
        refine own_go st217 ?_
        clear st217 X0 e0
        replace N0 := Fr.app N0 Nc223
        clear Nc223
        show own_Go p e below s _ _ _ (T217.setTop (mkF m 269 #[iv p1, iv p2, iv p3, iv p4, iv p5, iv (4 : Int32), iv uz, rv wy, rv sb1_, rv sb2_, rv sb3_, rv sb4_, rv ls, ya, yb, yc, yd, iv (0 : Int32), .unset, .unset] [(.int (0 : Int32))]))
        refine own_go (fun _ k => XS.goto X217.here hx rfl (pc0 := 269) (pc' := 273) rfl (hb hby at_269) (by decide) (by decide) (XS.istore X217.here hx rfl (hb hby at_273) rfl (l' := #[iv p1, iv p2, iv p3, iv p4, iv p5, iv (4 : Int32), iv uz, rv wy, rv sb1_, rv sb2_, rv sb3_, rv sb4_, rv ls, ya, yb, yc, yd, iv (0 : Int32), iv (0 : Int32), .unset]) rfl (XS.aload X217.here hx rfl (hb hby at_275) rfl rfl (XS.aload X217.here hx rfl (hb hby at_277) rfl rfl k)))) ?_
        obtain ⟨v224, T224, L224, X224, hQ224, st224⟩ := own_callV (y := own_y24) (z := own_y24) X217 hx hZ hown (ow62 hw) (ow63 hw) (notFace_of_selects (args := #[]) (mvT hZ (ow65 hw))) (ow65 hw) (ow64 hw) (ow2 hw) (ow66 hw) (rm_anny4 l Z a0 hw hO [] ls mc b k sb1_ sb2_ sb3_ sb4_ p1 p2 p3 p4 hs1 O0 (g0.keep K1) (g1.keep K1 nin0) (g2.keep K1 nin0) (g3.keep K1 nin0) (g4.keep K1 nin0) (fe0.keep K1) (fe1.keep K1) (fe2.keep K1) (fe3.keep K1) (own_NSkeep fpn0 fe0 K1 all0) (own_NSkeep fpn1 fe1 K1 all0) (own_NSkeep fpn2 fe2 K1 all0) (own_NSkeep fpn3 fe3 K1 all0)) 0 2 13 (by show _ ≤ 48; omega) (by show _ ≤ 320; omega) Kc222 (oE2.ext O0) (g := (mkF m 279 #[iv p1, iv p2, iv p3, iv p4, iv p5, iv (4 : Int32), iv uz, rv wy, rv sb1_, rv sb2_, rv sb3_, rv sb4_, rv ls, ya, yb, yc, yd, iv (0 : Int32), iv (0 : Int32), .unset] [(.ref ls), (.ref wy)])) rfl (by rw [hml]; rfl) [(.ref ls)] [] (lenOf own_pd_16 rfl) rfl rfl (hb hby at_279)
        rcases hQ224 with hQ224 | hQ224 | hQ224 | hQ224 | hQ224
        · obtain ⟨w225, rfl, Nc231, hp226, Kc230, hb227, f228, f229⟩ := hQ224
          refine own_go st224 ?_
          clear st224 X217 Kc222
          replace N0 := Fr.app N0 Nc231
          clear Nc231
          have big232 : Z.heap.size ≤ w225 := Nat.le_trans O0.1 hb227
          have sz233 : h0.size ≤ w225 := Nat.le_trans K0.1 hb227
          have sz234 : hs1.size ≤ w225 := Nat.le_trans K1.1 hb227
          replace O0 := own_oldKeep O0 Kc230 all0
          replace K0 := K0.trans Kc230 all0
          replace K1 := K1.trans Kc230 all0
          clear Kc230
          show own_Go p e below s _ _ _ (T224.setTop (mkF m 282 #[iv p1, iv p2, iv p3, iv p4, iv p5, iv (4 : Int32), iv uz, rv wy, rv sb1_, rv sb2_, rv sb3_, rv sb4_, rv ls, ya, yb, yc, yd, iv (0 : Int32), iv (0 : Int32), .unset] [(.ref w225)]))
          exact sg_s282_0 hw hO p1 p2 p3 p4 p5 (4 : Int32) sb1_ sb2_ sb3_ sb4_ ls w225 (iv uz : Slot) (rv wy : Slot) (iv (0 : Int32) : Slot) (ya : Slot) (yb : Slot) (yc : Slot) (yd : Slot) h0 T224.heap X224 hx hby hml hret hlk hZ hown hnm (rfl : T224.heap = T224.heap) N0 O0 K0 (g0.keep K1) (g1.keep K1 nin0) f228 f229 (by omega) (by omega)
        · obtain ⟨w235, rfl, Nc242, hp236, hp237, Kc241, hb238, f239, f240⟩ := hQ224
          refine own_go st224 ?_
          clear st224 X217 Kc222
          replace N0 := Fr.app N0 Nc242
          clear Nc242
          exact absurd hp236 hqs
        · obtain ⟨w243, w244, w245, rfl, Nc255, hp246, hp247, hp248, Kc254, hb249, f250, f251, f252, f253⟩ := hQ224
          refine own_go st224 ?_
          clear st224 X217 Kc222
          replace N0 := Fr.app N0 Nc255
          clear Nc255
          exact absurd hp246 hqs
        · obtain ⟨w256, w257, w258, rfl, Nc269, hp259, hp260, hp261, hp262, Kc268, hb263, f264, f265, f266, f267⟩ := hQ224
          refine own_go st224 ?_
          clear st224 X217 Kc222
          replace N0 := Fr.app N0 Nc269
          clear Nc269
          exact absurd hp259 hqs
        · obtain ⟨w270, w271, w272, rfl, Nc283, hp273, hp274, hp275, hp276, Kc282, hb277, f278, f279, f280, f281⟩ := hQ224
          refine own_go st224 ?_
          clear st224 X217 Kc222
          replace N0 := Fr.app N0 Nc283
          clear Nc283
          exact absurd hp273 hqs
set_option maxRecDepth 65536 in
set_option maxHeartbeats 40000000 in
theorem sg_s254_1 {l : Launch} {Z : State} {a0 : Array Value} (hw : own_W Z a0) {zc : Int32} {wd : Addr} {kd : ClassId} {wx : Addr} {wy : Addr} {wsp : Addr} {wspv : Addr} {wspk : ClassId} (hO : own_Olds Z zc wd kd wx wy wsp wspv wspk) {p : Program} {e : Env} {s : State} {m : MethodId} {args : Array Value} {below : List Frame} {meth : Method} {c : Code} {T : State} {locs : List Loc} {cells slots : Nat} (p1 : Int32) (p2 : Int32) (p3 : Int32) (p4 : Int32) (p5 : Int32) (nn : Int32) (uz : Int32) (wa : Addr) (sb1_ : Addr) (sb2_ : Addr) (sb3_ : Addr) (sb4_ : Addr) (ls : Addr) (ya : Slot) (yb : Slot) (yc : Slot) (yd : Slot) (h0 hs1 : Heap)
    (X0 : Stand p l e room_1 s m args below meth c T locs cells slots) (hx : p.tables.exec = Jvm.exec) (hby : c.code = code) (hml : c.maxLocals = 20) (hret : meth.sig.returnType = some .boolean) (hlk : meth.locks = false) (hZ : Z.Warmed39 s.vm) (hown : s.vm.findClass "com/example/padlock/padlock/lock/AccessAnnouncedPinLaw" = some m.cls) (hnm : meth.name = "law") (e0 : T.heap = hs1) (N0 : Fr Z.heap.size locs) (O0 : Ext Z.heap hs1) (K0 : Keep h0 hs1 []) (fp0 : own_LS Z wd hs1 ls nn sb1_ sb2_ sb3_ sb4_) (fp1 : own_4 Z hs1 sb1_ sb2_ sb3_ sb4_ p1 p2 p3 p4) (hacc : own_Acc uz wa wx wy) (hq0 : (0 : Int32) < nn ∧ own_Sp p1) (hqn : ¬ ((1 : Int32) < nn ∧ own_Sp p2)) (hcells : cells ≤ 40) (hslots : slots ≤ 290) :
    own_Go p e below s (Q_law Z zc wd kd wx wy wsp wspv wspk p1 p2 p3 p4 p5 h0) room_1.cells room_1.slots (T.setTop (mkF m 254 #[iv p1, iv p2, iv p3, iv p4, iv p5, iv nn, iv uz, rv wa, rv sb1_, rv sb2_, rv sb3_, rv sb4_, rv ls, ya, yb, yc, yd, .unset, .unset, .unset] [(.int (1 : Int32))])) := by
  obtain ⟨oCS, oCz, oDE, oDV, oEx, oSh, oE1, oE2, oPF, oSPE, oSPC, oSPF, oSPV, oNe⟩ := id hO
  have K1 := Keep.refl hs1 []
  show own_Go p e below s _ _ _ (T.setTop (mkF m 254 #[iv p1, iv p2, iv p3, iv p4, iv p5, iv nn, iv uz, rv wa, rv sb1_, rv sb2_, rv sb3_, rv sb4_, rv ls, ya, yb, yc, yd, .unset, .unset, .unset] [(.int (1 : Int32))]))
  rcases hacc with ⟨hz, hwa⟩ | ⟨hz, hwa⟩
  · rw [hwa]
    show own_Go p e below s _ _ _ (T.setTop (mkF m 254 #[iv p1, iv p2, iv p3, iv p4, iv p5, iv nn, iv uz, rv wx, rv sb1_, rv sb2_, rv sb3_, rv sb4_, rv ls, ya, yb, yc, yd, .unset, .unset, .unset] [(.int (1 : Int32))]))
    show own_Go p e below s _ _ _ (T.setTop (mkF m 254 #[iv p1, iv p2, iv p3, iv p4, iv p5, iv nn, iv uz, rv wx, rv sb1_, rv sb2_, rv sb3_, rv sb4_, rv ls, ya, yb, yc, yd, .unset, .unset, .unset] [(.int (1 : Int32))]))
    exact sg_s254x hw hO p1 p2 p3 p4 p5 nn uz sb1_ sb2_ sb3_ sb4_ ls (ya : Slot) (yb : Slot) (yc : Slot) (yd : Slot) (1 : Int32) h0 hs1 X0 hx hby hml hret hlk hZ hown hnm e0 N0 O0 K0 (own_LSkeep fp0 K1) (own_4keep fp1 K1) hz (by omega) (by omega)
  · rw [hwa]
    show own_Go p e below s _ _ _ (T.setTop (mkF m 254 #[iv p1, iv p2, iv p3, iv p4, iv p5, iv nn, iv uz, rv wy, rv sb1_, rv sb2_, rv sb3_, rv sb4_, rv ls, ya, yb, yc, yd, .unset, .unset, .unset] [(.int (1 : Int32))]))
    show own_Go p e below s _ _ _ (T.setTop (mkF m 254 #[iv p1, iv p2, iv p3, iv p4, iv p5, iv nn, iv uz, rv wy, rv sb1_, rv sb2_, rv sb3_, rv sb4_, rv ls, ya, yb, yc, yd, .unset, .unset, .unset] [(.int (1 : Int32))]))
    obtain ⟨fe0, fe1, fe2, fe3, fn0, fn1, fn2, fn3⟩ := fp1
    rcases fp0 with ⟨hnn, mc, g0, g1, g2, g3⟩ | ⟨hnn, mc, b, k, g0, g1, g2, g3, g4⟩ | ⟨hnn, mc, b, k, g0, g1, g2, g3, g4⟩ | ⟨hnn, mc, b, k, g0, g1, g2, g3, g4⟩ | ⟨hnn, mc, b, k, g0, g1, g2, g3, g4⟩
    · have fpn0 := fn0
      have fpn1 := fn1
      have fpn2 := fn2
      have fpn3 := fn3
      exact absurd hq0.1 (by rw [hnn]; decide)
    · have fpn0 := fn0
      have fpn1 := fn1
      have fpn2 := fn2
      have fpn3 := fn3
      rw [hnn]
      show own_Go p e below s _ _ _ (T.setTop (mkF m 254 #[iv p1, iv p2, iv p3, iv p4, iv p5, iv (1 : Int32), iv uz, rv wy, rv sb1_, rv sb2_, rv sb3_, rv sb4_, rv ls, ya, yb, yc, yd, .unset, .unset, .unset] [(.int (1 : Int32))]))
      show own_Go p e below s _ _ _ (T.setTop (mkF m 254 #[iv p1, iv p2, iv p3, iv p4, iv p5, iv (1 : Int32), iv uz, rv wy, rv sb1_, rv sb2_, rv sb3_, rv sb4_, rv ls, ya, yb, yc, yd, .unset, .unset, .unset] [(.int (1 : Int32))]))
      refine own_go (fun _ k => XS.istore X0.here hx rfl (hb hby at_254) rfl (l' := #[iv p1, iv p2, iv p3, iv p4, iv p5, iv (1 : Int32), iv uz, rv wy, rv sb1_, rv sb2_, rv sb3_, rv sb4_, rv ls, ya, yb, yc, yd, iv (1 : Int32), .unset, .unset]) rfl (XS.iload X0.here hx rfl (hb hby at_256) rfl (XS.ifNo X0.here hx rfl (hb hby at_258) rfl ((if0 _ _).trans (feq hz).1) (XS.iconst X0.here hx rfl (hb hby at_261) (XS.iload X0.here hx rfl (hb hby at_262) rfl (XS.iconst X0.here hx rfl (hb hby at_264) k)))))) ?_
      refine own_go (fun _ k => XS.isub X0.here hx rfl (hb hby at_265) rfl k) ?_
      obtain ⟨v284, T284, L284, X284, hQ284, st284⟩ := own_callS (y := own_y3) X0 hx hZ hown (ow172 hw) (ow107 hw) (ow108 hw) (ow109 hw) (rm_maxi l Z a0 hw hO [] (0 : Int32) (0 : Int32) hs1 O0) 0 0 0 (by show _ ≤ 48; omega) (by show _ ≤ 320; omega) e0 (g := (mkF m 266 #[iv p1, iv p2, iv p3, iv p4, iv p5, iv (1 : Int32), iv uz, rv wy, rv sb1_, rv sb2_, rv sb3_, rv sb4_, rv ls, ya, yb, yc, yd, iv (1 : Int32), .unset, .unset] [(.int (0 : Int32)), (.int (0 : Int32))])) rfl (by rw [hml]; rfl) [(.int (0 : Int32)), (.int (0 : Int32))] [] (lenOf own_pd_1 rfl) rfl rfl (hb hby at_266)
      rcases hQ284 with hQ284 | hQ284
      · obtain ⟨rfl, Nc287, hp285, Kc286⟩ := hQ284
        refine own_go st284 ?_
        clear st284 X0 e0
        replace N0 := Fr.app N0 Nc287
        clear Nc287
        exact absurd hp285 (by decide : ¬ ((0 : Int32) < (0 : Int32)))
      · obtain ⟨rfl, Nc290, hp288, Kc289⟩ := hQ284
        refine own_go st284 ?_
        clear st284 X0 e0
        replace N0 := Fr.app N0 Nc290
        clear Nc290
        show own_Go p e below s _ _ _ (T284.setTop (mkF m 269 #[iv p1, iv p2, iv p3, iv p4, iv p5, iv (1 : Int32), iv uz, rv wy, rv sb1_, rv sb2_, rv sb3_, rv sb4_, rv ls, ya, yb, yc, yd, iv (1 : Int32), .unset, .unset] [(.int (0 : Int32))]))
        refine own_go (fun _ k => XS.goto X284.here hx rfl (pc0 := 269) (pc' := 273) rfl (hb hby at_269) (by decide) (by decide) (XS.istore X284.here hx rfl (hb hby at_273) rfl (l' := #[iv p1, iv p2, iv p3, iv p4, iv p5, iv (1 : Int32), iv uz, rv wy, rv sb1_, rv sb2_, rv sb3_, rv sb4_, rv ls, ya, yb, yc, yd, iv (1 : Int32), iv (0 : Int32), .unset]) rfl (XS.aload X284.here hx rfl (hb hby at_275) rfl rfl (XS.aload X284.here hx rfl (hb hby at_277) rfl rfl k)))) ?_
        obtain ⟨v291, T291, L291, X291, hQ291, st291⟩ := own_callV (y := own_y24) (z := own_y24) X284 hx hZ hown (ow62 hw) (ow63 hw) (notFace_of_selects (args := #[]) (mvT hZ (ow65 hw))) (ow65 hw) (ow64 hw) (ow2 hw) (ow66 hw) (rm_anny1 l Z a0 hw hO [] ls mc b k sb1_ p1 hs1 O0 (g0.keep K1) (g1.keep K1 nin0) (g2.keep K1 nin0) (g3.keep K1 nin0) (g4.keep K1 nin0) (fe0.keep K1) (own_NSkeep fpn0 fe0 K1 all0)) 0 1 3 (by show _ ≤ 48; omega) (by show _ ≤ 320; omega) Kc289 (oE2.ext O0) (g := (mkF m 279 #[iv p1, iv p2, iv p3, iv p4, iv p5, iv (1 : Int32), iv uz, rv wy, rv sb1_, rv sb2_, rv sb3_, rv sb4_, rv ls, ya, yb, yc, yd, iv (1 : Int32), iv (0 : Int32), .unset] [(.ref ls), (.ref wy)])) rfl (by rw [hml]; rfl) [(.ref ls)] [] (lenOf own_pd_16 rfl) rfl rfl (hb hby at_279)
        obtain ⟨w292, rfl, Nc297, Kc296, hb293, f294, f295⟩ := hQ291
        refine own_go st291 ?_
        clear st291 X284 Kc289
        replace N0 := Fr.app N0 Nc297
        clear Nc297
        have big298 : Z.heap.size ≤ w292 := Nat.le_trans O0.1 hb293
        have sz299 : h0.size ≤ w292 := Nat.le_trans K0.1 hb293
        have sz300 : hs1.size ≤ w292 := Nat.le_trans K1.1 hb293
        replace O0 := own_oldKeep O0 Kc296 all0
        replace K0 := K0.trans Kc296 all0
        replace K1 := K1.trans Kc296 all0
        clear Kc296
        show own_Go p e below s _ _ _ (T291.setTop (mkF m 282 #[iv p1, iv p2, iv p3, iv p4, iv p5, iv (1 : Int32), iv uz, rv wy, rv sb1_, rv sb2_, rv sb3_, rv sb4_, rv ls, ya, yb, yc, yd, iv (1 : Int32), iv (0 : Int32), .unset] [(.ref w292)]))
        exact sg_s282_0 hw hO p1 p2 p3 p4 p5 (1 : Int32) sb1_ sb2_ sb3_ sb4_ ls w292 (iv uz : Slot) (rv wy : Slot) (iv (1 : Int32) : Slot) (ya : Slot) (yb : Slot) (yc : Slot) (yd : Slot) h0 T291.heap X291 hx hby hml hret hlk hZ hown hnm (rfl : T291.heap = T291.heap) N0 O0 K0 (g0.keep K1) (g1.keep K1 nin0) f294 f295 (by omega) (by omega)
    · have fpn0 := fn0
      have fpn1 := fn1
      have fpn2 := fn2
      have fpn3 := fn3
      have hqs : ¬ own_Sp p2 := fun h => hqn ⟨by rw [hnn]; decide, h⟩
      rw [hnn]
      show own_Go p e below s _ _ _ (T.setTop (mkF m 254 #[iv p1, iv p2, iv p3, iv p4, iv p5, iv (2 : Int32), iv uz, rv wy, rv sb1_, rv sb2_, rv sb3_, rv sb4_, rv ls, ya, yb, yc, yd, .unset, .unset, .unset] [(.int (1 : Int32))]))
      show own_Go p e below s _ _ _ (T.setTop (mkF m 254 #[iv p1, iv p2, iv p3, iv p4, iv p5, iv (2 : Int32), iv uz, rv wy, rv sb1_, rv sb2_, rv sb3_, rv sb4_, rv ls, ya, yb, yc, yd, .unset, .unset, .unset] [(.int (1 : Int32))]))
      refine own_go (fun _ k => XS.istore X0.here hx rfl (hb hby at_254) rfl (l' := #[iv p1, iv p2, iv p3, iv p4, iv p5, iv (2 : Int32), iv uz, rv wy, rv sb1_, rv sb2_, rv sb3_, rv sb4_, rv ls, ya, yb, yc, yd, iv (1 : Int32), .unset, .unset]) rfl (XS.iload X0.here hx rfl (hb hby at_256) rfl (XS.ifNo X0.here hx rfl (hb hby at_258) rfl ((if0 _ _).trans (feq hz).1) (XS.iconst X0.here hx rfl (hb hby at_261) (XS.iload X0.here hx rfl (hb hby at_262) rfl (XS.iconst X0.here hx rfl (hb hby at_264) k)))))) ?_
      refine own_go (fun _ k => XS.isub X0.here hx rfl (hb hby at_265) rfl k) ?_
      obtain ⟨v301, T301, L301, X301, hQ301, st301⟩ := own_callS (y := own_y3) X0 hx hZ hown (ow172 hw) (ow107 hw) (ow108 hw) (ow109 hw) (rm_maxi l Z a0 hw hO [] (0 : Int32) (0 : Int32) hs1 O0) 0 0 0 (by show _ ≤ 48; omega) (by show _ ≤ 320; omega) e0 (g := (mkF m 266 #[iv p1, iv p2, iv p3, iv p4, iv p5, iv (2 : Int32), iv uz, rv wy, rv sb1_, rv sb2_, rv sb3_, rv sb4_, rv ls, ya, yb, yc, yd, iv (1 : Int32), .unset, .unset] [(.int (0 : Int32)), (.int (0 : Int32))])) rfl (by rw [hml]; rfl) [(.int (0 : Int32)), (.int (0 : Int32))] [] (lenOf own_pd_1 rfl) rfl rfl (hb hby at_266)
      rcases hQ301 with hQ301 | hQ301
      · obtain ⟨rfl, Nc304, hp302, Kc303⟩ := hQ301
        refine own_go st301 ?_
        clear st301 X0 e0
        replace N0 := Fr.app N0 Nc304
        clear Nc304
        exact absurd hp302 (by decide : ¬ ((0 : Int32) < (0 : Int32)))
      · obtain ⟨rfl, Nc307, hp305, Kc306⟩ := hQ301
        refine own_go st301 ?_
        clear st301 X0 e0
        replace N0 := Fr.app N0 Nc307
        clear Nc307
        show own_Go p e below s _ _ _ (T301.setTop (mkF m 269 #[iv p1, iv p2, iv p3, iv p4, iv p5, iv (2 : Int32), iv uz, rv wy, rv sb1_, rv sb2_, rv sb3_, rv sb4_, rv ls, ya, yb, yc, yd, iv (1 : Int32), .unset, .unset] [(.int (0 : Int32))]))
        refine own_go (fun _ k => XS.goto X301.here hx rfl (pc0 := 269) (pc' := 273) rfl (hb hby at_269) (by decide) (by decide) (XS.istore X301.here hx rfl (hb hby at_273) rfl (l' := #[iv p1, iv p2, iv p3, iv p4, iv p5, iv (2 : Int32), iv uz, rv wy, rv sb1_, rv sb2_, rv sb3_, rv sb4_, rv ls, ya, yb, yc, yd, iv (1 : Int32), iv (0 : Int32), .unset]) rfl (XS.aload X301.here hx rfl (hb hby at_275) rfl rfl (XS.aload X301.here hx rfl (hb hby at_277) rfl rfl k)))) ?_
        obtain ⟨v308, T308, L308, X308, hQ308, st308⟩ := own_callV (y := own_y24) (z := own_y24) X301 hx hZ hown (ow62 hw) (ow63 hw) (notFace_of_selects (args := #[]) (mvT hZ (ow65 hw))) (ow65 hw) (ow64 hw) (ow2 hw) (ow66 hw) (rm_anny2 l Z a0 hw hO [] ls mc b k sb1_ sb2_ p1 p2 hs1 O0 (g0.keep K1) (g1.keep K1 nin0) (g2.keep K1 nin0) (g3.keep K1 nin0) (g4.keep K1 nin0) (fe0.keep K1) (fe1.keep K1) (own_NSkeep fpn0 fe0 K1 all0) (own_NSkeep fpn1 fe1 K1 all0)) 0 2 13 (by show _ ≤ 48; omega) (by show _ ≤ 320; omega) Kc306 (oE2.ext O0) (g := (mkF m 279 #[iv p1, iv p2, iv p3, iv p4, iv p5, iv (2 : Int32), iv uz, rv wy, rv sb1_, rv sb2_, rv sb3_, rv sb4_, rv ls, ya, yb, yc, yd, iv (1 : Int32), iv (0 : Int32), .unset] [(.ref ls), (.ref wy)])) rfl (by rw [hml]; rfl) [(.ref ls)] [] (lenOf own_pd_16 rfl) rfl rfl (hb hby at_279)
        rcases hQ308 with hQ308 | hQ308 | hQ308
        · obtain ⟨w309, rfl, Nc315, hp310, Kc314, hb311, f312, f313⟩ := hQ308
          refine own_go st308 ?_
          clear st308 X301 Kc306
          replace N0 := Fr.app N0 Nc315
          clear Nc315
          exact absurd hq0.2 hp310
        · obtain ⟨w316, rfl, Nc323, hp317, hp318, Kc322, hb319, f320, f321⟩ := hQ308
          refine own_go st308 ?_
          clear st308 X301 Kc306
          replace N0 := Fr.app N0 Nc323
          clear Nc323
          have big324 : Z.heap.size ≤ w316 := Nat.le_trans O0.1 hb319
          have sz325 : h0.size ≤ w316 := Nat.le_trans K0.1 hb319
          have sz326 : hs1.size ≤ w316 := Nat.le_trans K1.1 hb319
          replace O0 := own_oldKeep O0 Kc322 all0
          replace K0 := K0.trans Kc322 all0
          replace K1 := K1.trans Kc322 all0
          clear Kc322
          show own_Go p e below s _ _ _ (T308.setTop (mkF m 282 #[iv p1, iv p2, iv p3, iv p4, iv p5, iv (2 : Int32), iv uz, rv wy, rv sb1_, rv sb2_, rv sb3_, rv sb4_, rv ls, ya, yb, yc, yd, iv (1 : Int32), iv (0 : Int32), .unset] [(.ref w316)]))
          exact sg_s282_0 hw hO p1 p2 p3 p4 p5 (2 : Int32) sb1_ sb2_ sb3_ sb4_ ls w316 (iv uz : Slot) (rv wy : Slot) (iv (1 : Int32) : Slot) (ya : Slot) (yb : Slot) (yc : Slot) (yd : Slot) h0 T308.heap X308 hx hby hml hret hlk hZ hown hnm (rfl : T308.heap = T308.heap) N0 O0 K0 (g0.keep K1) (g1.keep K1 nin0) f320 f321 (by omega) (by omega)
        · obtain ⟨w327, w328, w329, rfl, Nc338, hp330, hp331, Kc337, hb332, f333, f334, f335, f336⟩ := hQ308
          refine own_go st308 ?_
          clear st308 X301 Kc306
          replace N0 := Fr.app N0 Nc338
          clear Nc338
          exact absurd hp331 hqs
    · have fpn0 := fn0
      have fpn1 := fn1
      have fpn2 := fn2
      have fpn3 := fn3
      have hqs : ¬ own_Sp p2 := fun h => hqn ⟨by rw [hnn]; decide, h⟩
      rw [hnn]
      show own_Go p e below s _ _ _ (T.setTop (mkF m 254 #[iv p1, iv p2, iv p3, iv p4, iv p5, iv (3 : Int32), iv uz, rv wy, rv sb1_, rv sb2_, rv sb3_, rv sb4_, rv ls, ya, yb, yc, yd, .unset, .unset, .unset] [(.int (1 : Int32))]))
      show own_Go p e below s _ _ _ (T.setTop (mkF m 254 #[iv p1, iv p2, iv p3, iv p4, iv p5, iv (3 : Int32), iv uz, rv wy, rv sb1_, rv sb2_, rv sb3_, rv sb4_, rv ls, ya, yb, yc, yd, .unset, .unset, .unset] [(.int (1 : Int32))]))
      refine own_go (fun _ k => XS.istore X0.here hx rfl (hb hby at_254) rfl (l' := #[iv p1, iv p2, iv p3, iv p4, iv p5, iv (3 : Int32), iv uz, rv wy, rv sb1_, rv sb2_, rv sb3_, rv sb4_, rv ls, ya, yb, yc, yd, iv (1 : Int32), .unset, .unset]) rfl (XS.iload X0.here hx rfl (hb hby at_256) rfl (XS.ifNo X0.here hx rfl (hb hby at_258) rfl ((if0 _ _).trans (feq hz).1) (XS.iconst X0.here hx rfl (hb hby at_261) (XS.iload X0.here hx rfl (hb hby at_262) rfl (XS.iconst X0.here hx rfl (hb hby at_264) k)))))) ?_
      refine own_go (fun _ k => XS.isub X0.here hx rfl (hb hby at_265) rfl k) ?_
      obtain ⟨v339, T339, L339, X339, hQ339, st339⟩ := own_callS (y := own_y3) X0 hx hZ hown (ow172 hw) (ow107 hw) (ow108 hw) (ow109 hw) (rm_maxi l Z a0 hw hO [] (0 : Int32) (0 : Int32) hs1 O0) 0 0 0 (by show _ ≤ 48; omega) (by show _ ≤ 320; omega) e0 (g := (mkF m 266 #[iv p1, iv p2, iv p3, iv p4, iv p5, iv (3 : Int32), iv uz, rv wy, rv sb1_, rv sb2_, rv sb3_, rv sb4_, rv ls, ya, yb, yc, yd, iv (1 : Int32), .unset, .unset] [(.int (0 : Int32)), (.int (0 : Int32))])) rfl (by rw [hml]; rfl) [(.int (0 : Int32)), (.int (0 : Int32))] [] (lenOf own_pd_1 rfl) rfl rfl (hb hby at_266)
      rcases hQ339 with hQ339 | hQ339
      · obtain ⟨rfl, Nc342, hp340, Kc341⟩ := hQ339
        refine own_go st339 ?_
        clear st339 X0 e0
        replace N0 := Fr.app N0 Nc342
        clear Nc342
        exact absurd hp340 (by decide : ¬ ((0 : Int32) < (0 : Int32)))
      · obtain ⟨rfl, Nc345, hp343, Kc344⟩ := hQ339
        refine own_go st339 ?_
        clear st339 X0 e0
        replace N0 := Fr.app N0 Nc345
        clear Nc345
        show own_Go p e below s _ _ _ (T339.setTop (mkF m 269 #[iv p1, iv p2, iv p3, iv p4, iv p5, iv (3 : Int32), iv uz, rv wy, rv sb1_, rv sb2_, rv sb3_, rv sb4_, rv ls, ya, yb, yc, yd, iv (1 : Int32), .unset, .unset] [(.int (0 : Int32))]))
        refine own_go (fun _ k => XS.goto X339.here hx rfl (pc0 := 269) (pc' := 273) rfl (hb hby at_269) (by decide) (by decide) (XS.istore X339.here hx rfl (hb hby at_273) rfl (l' := #[iv p1, iv p2, iv p3, iv p4, iv p5, iv (3 : Int32), iv uz, rv wy, rv sb1_, rv sb2_, rv sb3_, rv sb4_, rv ls, ya, yb, yc, yd, iv (1 : Int32), iv (0 : Int32), .unset]) rfl (XS.aload X339.here hx rfl (hb hby at_275) rfl rfl (XS.aload X339.here hx rfl (hb hby at_277) rfl rfl k)))) ?_
        obtain ⟨v346, T346, L346, X346, hQ346, st346⟩ := own_callV (y := own_y24) (z := own_y24) X339 hx hZ hown (ow62 hw) (ow63 hw) (notFace_of_selects (args := #[]) (mvT hZ (ow65 hw))) (ow65 hw) (ow64 hw) (ow2 hw) (ow66 hw) (rm_anny3 l Z a0 hw hO [] ls mc b k sb1_ sb2_ sb3_ p1 p2 p3 hs1 O0 (g0.keep K1) (g1.keep K1 nin0) (g2.keep K1 nin0) (g3.keep K1 nin0) (g4.keep K1 nin0) (fe0.keep K1) (fe1.keep K1) (fe2.keep K1) (own_NSkeep fpn0 fe0 K1 all0) (own_NSkeep fpn1 fe1 K1 all0) (own_NSkeep fpn2 fe2 K1 all0)) 0 2 13 (by show _ ≤ 48; omega) (by show _ ≤ 320; omega) Kc344 (oE2.ext O0) (g := (mkF m 279 #[iv p1, iv p2, iv p3, iv p4, iv p5, iv (3 : Int32), iv uz, rv wy, rv sb1_, rv sb2_, rv sb3_, rv sb4_, rv ls, ya, yb, yc, yd, iv (1 : Int32), iv (0 : Int32), .unset] [(.ref ls), (.ref wy)])) rfl (by rw [hml]; rfl) [(.ref ls)] [] (lenOf own_pd_16 rfl) rfl rfl (hb hby at_279)
        rcases hQ346 with hQ346 | hQ346 | hQ346 | hQ346
        · obtain ⟨w347, rfl, Nc353, hp348, Kc352, hb349, f350, f351⟩ := hQ346
          refine own_go st346 ?_
          clear st346 X339 Kc344
          replace N0 := Fr.app N0 Nc353
          clear Nc353
          exact absurd hq0.2 hp348
        · obtain ⟨w354, rfl, Nc361, hp355, hp356, Kc360, hb357, f358, f359⟩ := hQ346
          refine own_go st346 ?_
          clear st346 X339 Kc344
          replace N0 := Fr.app N0 Nc361
          clear Nc361
          have big362 : Z.heap.size ≤ w354 := Nat.le_trans O0.1 hb357
          have sz363 : h0.size ≤ w354 := Nat.le_trans K0.1 hb357
          have sz364 : hs1.size ≤ w354 := Nat.le_trans K1.1 hb357
          replace O0 := own_oldKeep O0 Kc360 all0
          replace K0 := K0.trans Kc360 all0
          replace K1 := K1.trans Kc360 all0
          clear Kc360
          show own_Go p e below s _ _ _ (T346.setTop (mkF m 282 #[iv p1, iv p2, iv p3, iv p4, iv p5, iv (3 : Int32), iv uz, rv wy, rv sb1_, rv sb2_, rv sb3_, rv sb4_, rv ls, ya, yb, yc, yd, iv (1 : Int32), iv (0 : Int32), .unset] [(.ref w354)]))
          exact sg_s282_0 hw hO p1 p2 p3 p4 p5 (3 : Int32) sb1_ sb2_ sb3_ sb4_ ls w354 (iv uz : Slot) (rv wy : Slot) (iv (1 : Int32) : Slot) (ya : Slot) (yb : Slot) (yc : Slot) (yd : Slot) h0 T346.heap X346 hx hby hml hret hlk hZ hown hnm (rfl : T346.heap = T346.heap) N0 O0 K0 (g0.keep K1) (g1.keep K1 nin0) f358 f359 (by omega) (by omega)
        · obtain ⟨w365, w366, w367, rfl, Nc377, hp368, hp369, hp370, Kc376, hb371, f372, f373, f374, f375⟩ := hQ346
          refine own_go st346 ?_
          clear st346 X339 Kc344
          replace N0 := Fr.app N0 Nc377
          clear Nc377
          exact absurd hp369 hqs
        · obtain ⟨w378, w379, w380, rfl, Nc390, hp381, hp382, hp383, Kc389, hb384, f385, f386, f387, f388⟩ := hQ346
          refine own_go st346 ?_
          clear st346 X339 Kc344
          replace N0 := Fr.app N0 Nc390
          clear Nc390
          exact absurd hp382 hqs
    · have fpn0 := fn0
      have fpn1 := fn1
      have fpn2 := fn2
      have fpn3 := fn3
      have hqs : ¬ own_Sp p2 := fun h => hqn ⟨by rw [hnn]; decide, h⟩
      rw [hnn]
      show own_Go p e below s _ _ _ (T.setTop (mkF m 254 #[iv p1, iv p2, iv p3, iv p4, iv p5, iv (4 : Int32), iv uz, rv wy, rv sb1_, rv sb2_, rv sb3_, rv sb4_, rv ls, ya, yb, yc, yd, .unset, .unset, .unset] [(.int (1 : Int32))]))
      show own_Go p e below s _ _ _ (T.setTop (mkF m 254 #[iv p1, iv p2, iv p3, iv p4, iv p5, iv (4 : Int32), iv uz, rv wy, rv sb1_, rv sb2_, rv sb3_, rv sb4_, rv ls, ya, yb, yc, yd, .unset, .unset, .unset] [(.int (1 : Int32))]))
      refine own_go (fun _ k => XS.istore X0.here hx rfl (hb hby at_254) rfl (l' := #[iv p1, iv p2, iv p3, iv p4, iv p5, iv (4 : Int32), iv uz, rv wy, rv sb1_, rv sb2_, rv sb3_, rv sb4_, rv ls, ya, yb, yc, yd, iv (1 : Int32), .unset, .unset]) rfl (XS.iload X0.here hx rfl (hb hby at_256) rfl (XS.ifNo X0.here hx rfl (hb hby at_258) rfl ((if0 _ _).trans (feq hz).1) (XS.iconst X0.here hx rfl (hb hby at_261) (XS.iload X0.here hx rfl (hb hby at_262) rfl (XS.iconst X0.here hx rfl (hb hby at_264) k)))))) ?_
      refine own_go (fun _ k => XS.isub X0.here hx rfl (hb hby at_265) rfl k) ?_
      obtain ⟨v391, T391, L391, X391, hQ391, st391⟩ := own_callS (y := own_y3) X0 hx hZ hown (ow172 hw) (ow107 hw) (ow108 hw) (ow109 hw) (rm_maxi l Z a0 hw hO [] (0 : Int32) (0 : Int32) hs1 O0) 0 0 0 (by show _ ≤ 48; omega) (by show _ ≤ 320; omega) e0 (g := (mkF m 266 #[iv p1, iv p2, iv p3, iv p4, iv p5, iv (4 : Int32), iv uz, rv wy, rv sb1_, rv sb2_, rv sb3_, rv sb4_, rv ls, ya, yb, yc, yd, iv (1 : Int32), .unset, .unset] [(.int (0 : Int32)), (.int (0 : Int32))])) rfl (by rw [hml]; rfl) [(.int (0 : Int32)), (.int (0 : Int32))] [] (lenOf own_pd_1 rfl) rfl rfl (hb hby at_266)
      rcases hQ391 with hQ391 | hQ391
      · obtain ⟨rfl, Nc394, hp392, Kc393⟩ := hQ391
        refine own_go st391 ?_
        clear st391 X0 e0
        replace N0 := Fr.app N0 Nc394
        clear Nc394
        exact absurd hp392 (by decide : ¬ ((0 : Int32) < (0 : Int32)))
      · obtain ⟨rfl, Nc397, hp395, Kc396⟩ := hQ391
        refine own_go st391 ?_
        clear st391 X0 e0
        replace N0 := Fr.app N0 Nc397
        clear Nc397
        show own_Go p e below s _ _ _ (T391.setTop (mkF m 269 #[iv p1, iv p2, iv p3, iv p4, iv p5, iv (4 : Int32), iv uz, rv wy, rv sb1_, rv sb2_, rv sb3_, rv sb4_, rv ls, ya, yb, yc, yd, iv (1 : Int32), .unset, .unset] [(.int (0 : Int32))]))
        refine own_go (fun _ k => XS.goto X391.here hx rfl (pc0 := 269) (pc' := 273) rfl (hb hby at_269) (by decide) (by decide) (XS.istore X391.here hx rfl (hb hby at_273) rfl (l' := #[iv p1, iv p2, iv p3, iv p4, iv p5, iv (4 : Int32), iv uz, rv wy, rv sb1_, rv sb2_, rv sb3_, rv sb4_, rv ls, ya, yb, yc, yd, iv (1 : Int32), iv (0 : Int32), .unset]) rfl (XS.aload X391.here hx rfl (hb hby at_275) rfl rfl (XS.aload X391.here hx rfl (hb hby at_277) rfl rfl k)))) ?_
        obtain ⟨v398, T398, L398, X398, hQ398, st398⟩ := own_callV (y := own_y24) (z := own_y24) X391 hx hZ hown (ow62 hw) (ow63 hw) (notFace_of_selects (args := #[]) (mvT hZ (ow65 hw))) (ow65 hw) (ow64 hw) (ow2 hw) (ow66 hw) (rm_anny4 l Z a0 hw hO [] ls mc b k sb1_ sb2_ sb3_ sb4_ p1 p2 p3 p4 hs1 O0 (g0.keep K1) (g1.keep K1 nin0) (g2.keep K1 nin0) (g3.keep K1 nin0) (g4.keep K1 nin0) (fe0.keep K1) (fe1.keep K1) (fe2.keep K1) (fe3.keep K1) (own_NSkeep fpn0 fe0 K1 all0) (own_NSkeep fpn1 fe1 K1 all0) (own_NSkeep fpn2 fe2 K1 all0) (own_NSkeep fpn3 fe3 K1 all0)) 0 2 13 (by show _ ≤ 48; omega) (by show _ ≤ 320; omega) Kc396 (oE2.ext O0) (g := (mkF m 279 #[iv p1, iv p2, iv p3, iv p4, iv p5, iv (4 : Int32), iv uz, rv wy, rv sb1_, rv sb2_, rv sb3_, rv sb4_, rv ls, ya, yb, yc, yd, iv (1 : Int32), iv (0 : Int32), .unset] [(.ref ls), (.ref wy)])) rfl (by rw [hml]; rfl) [(.ref ls)] [] (lenOf own_pd_16 rfl) rfl rfl (hb hby at_279)
        rcases hQ398 with hQ398 | hQ398 | hQ398 | hQ398 | hQ398
        · obtain ⟨w399, rfl, Nc405, hp400, Kc404, hb401, f402, f403⟩ := hQ398
          refine own_go st398 ?_
          clear st398 X391 Kc396
          replace N0 := Fr.app N0 Nc405
          clear Nc405
          exact absurd hq0.2 hp400
        · obtain ⟨w406, rfl, Nc413, hp407, hp408, Kc412, hb409, f410, f411⟩ := hQ398
          refine own_go st398 ?_
          clear st398 X391 Kc396
          replace N0 := Fr.app N0 Nc413
          clear Nc413
          have big414 : Z.heap.size ≤ w406 := Nat.le_trans O0.1 hb409
          have sz415 : h0.size ≤ w406 := Nat.le_trans K0.1 hb409
          have sz416 : hs1.size ≤ w406 := Nat.le_trans K1.1 hb409
          replace O0 := own_oldKeep O0 Kc412 all0
          replace K0 := K0.trans Kc412 all0
          replace K1 := K1.trans Kc412 all0
          clear Kc412
          show own_Go p e below s _ _ _ (T398.setTop (mkF m 282 #[iv p1, iv p2, iv p3, iv p4, iv p5, iv (4 : Int32), iv uz, rv wy, rv sb1_, rv sb2_, rv sb3_, rv sb4_, rv ls, ya, yb, yc, yd, iv (1 : Int32), iv (0 : Int32), .unset] [(.ref w406)]))
          exact sg_s282_0 hw hO p1 p2 p3 p4 p5 (4 : Int32) sb1_ sb2_ sb3_ sb4_ ls w406 (iv uz : Slot) (rv wy : Slot) (iv (1 : Int32) : Slot) (ya : Slot) (yb : Slot) (yc : Slot) (yd : Slot) h0 T398.heap X398 hx hby hml hret hlk hZ hown hnm (rfl : T398.heap = T398.heap) N0 O0 K0 (g0.keep K1) (g1.keep K1 nin0) f410 f411 (by omega) (by omega)
        · obtain ⟨w417, w418, w419, rfl, Nc429, hp420, hp421, hp422, Kc428, hb423, f424, f425, f426, f427⟩ := hQ398
          refine own_go st398 ?_
          clear st398 X391 Kc396
          replace N0 := Fr.app N0 Nc429
          clear Nc429
          exact absurd hp421 hqs
        · obtain ⟨w430, w431, w432, rfl, Nc443, hp433, hp434, hp435, hp436, Kc442, hb437, f438, f439, f440, f441⟩ := hQ398
          refine own_go st398 ?_
          clear st398 X391 Kc396
          replace N0 := Fr.app N0 Nc443
          clear Nc443
          exact absurd hp434 hqs
        · obtain ⟨w444, w445, w446, rfl, Nc457, hp447, hp448, hp449, hp450, Kc456, hb451, f452, f453, f454, f455⟩ := hQ398
          refine own_go st398 ?_
          clear st398 X391 Kc396
          replace N0 := Fr.app N0 Nc457
          clear Nc457
          exact absurd hp448 hqs
set_option maxRecDepth 65536 in
set_option maxHeartbeats 40000000 in
theorem sg_s254_2 {l : Launch} {Z : State} {a0 : Array Value} (hw : own_W Z a0) {zc : Int32} {wd : Addr} {kd : ClassId} {wx : Addr} {wy : Addr} {wsp : Addr} {wspv : Addr} {wspk : ClassId} (hO : own_Olds Z zc wd kd wx wy wsp wspv wspk) {p : Program} {e : Env} {s : State} {m : MethodId} {args : Array Value} {below : List Frame} {meth : Method} {c : Code} {T : State} {locs : List Loc} {cells slots : Nat} (p1 : Int32) (p2 : Int32) (p3 : Int32) (p4 : Int32) (p5 : Int32) (nn : Int32) (uz : Int32) (wa : Addr) (sb1_ : Addr) (sb2_ : Addr) (sb3_ : Addr) (sb4_ : Addr) (ls : Addr) (ya : Slot) (yb : Slot) (yc : Slot) (yd : Slot) (h0 hs1 : Heap)
    (X0 : Stand p l e room_1 s m args below meth c T locs cells slots) (hx : p.tables.exec = Jvm.exec) (hby : c.code = code) (hml : c.maxLocals = 20) (hret : meth.sig.returnType = some .boolean) (hlk : meth.locks = false) (hZ : Z.Warmed39 s.vm) (hown : s.vm.findClass "com/example/padlock/padlock/lock/AccessAnnouncedPinLaw" = some m.cls) (hnm : meth.name = "law") (e0 : T.heap = hs1) (N0 : Fr Z.heap.size locs) (O0 : Ext Z.heap hs1) (K0 : Keep h0 hs1 []) (fp0 : own_LS Z wd hs1 ls nn sb1_ sb2_ sb3_ sb4_) (fp1 : own_4 Z hs1 sb1_ sb2_ sb3_ sb4_ p1 p2 p3 p4) (hacc : own_Acc uz wa wx wy) (hq0 : (0 : Int32) < nn ∧ own_Sp p1) (hq1 : (1 : Int32) < nn ∧ own_Sp p2) (hqn : ¬ ((2 : Int32) < nn ∧ own_Sp p3)) (hcells : cells ≤ 40) (hslots : slots ≤ 290) :
    own_Go p e below s (Q_law Z zc wd kd wx wy wsp wspv wspk p1 p2 p3 p4 p5 h0) room_1.cells room_1.slots (T.setTop (mkF m 254 #[iv p1, iv p2, iv p3, iv p4, iv p5, iv nn, iv uz, rv wa, rv sb1_, rv sb2_, rv sb3_, rv sb4_, rv ls, ya, yb, yc, yd, .unset, .unset, .unset] [(.int (2 : Int32))])) := by
  obtain ⟨oCS, oCz, oDE, oDV, oEx, oSh, oE1, oE2, oPF, oSPE, oSPC, oSPF, oSPV, oNe⟩ := id hO
  have K1 := Keep.refl hs1 []
  show own_Go p e below s _ _ _ (T.setTop (mkF m 254 #[iv p1, iv p2, iv p3, iv p4, iv p5, iv nn, iv uz, rv wa, rv sb1_, rv sb2_, rv sb3_, rv sb4_, rv ls, ya, yb, yc, yd, .unset, .unset, .unset] [(.int (2 : Int32))]))
  rcases hacc with ⟨hz, hwa⟩ | ⟨hz, hwa⟩
  · rw [hwa]
    show own_Go p e below s _ _ _ (T.setTop (mkF m 254 #[iv p1, iv p2, iv p3, iv p4, iv p5, iv nn, iv uz, rv wx, rv sb1_, rv sb2_, rv sb3_, rv sb4_, rv ls, ya, yb, yc, yd, .unset, .unset, .unset] [(.int (2 : Int32))]))
    show own_Go p e below s _ _ _ (T.setTop (mkF m 254 #[iv p1, iv p2, iv p3, iv p4, iv p5, iv nn, iv uz, rv wx, rv sb1_, rv sb2_, rv sb3_, rv sb4_, rv ls, ya, yb, yc, yd, .unset, .unset, .unset] [(.int (2 : Int32))]))
    exact sg_s254x hw hO p1 p2 p3 p4 p5 nn uz sb1_ sb2_ sb3_ sb4_ ls (ya : Slot) (yb : Slot) (yc : Slot) (yd : Slot) (2 : Int32) h0 hs1 X0 hx hby hml hret hlk hZ hown hnm e0 N0 O0 K0 (own_LSkeep fp0 K1) (own_4keep fp1 K1) hz (by omega) (by omega)
  · rw [hwa]
    show own_Go p e below s _ _ _ (T.setTop (mkF m 254 #[iv p1, iv p2, iv p3, iv p4, iv p5, iv nn, iv uz, rv wy, rv sb1_, rv sb2_, rv sb3_, rv sb4_, rv ls, ya, yb, yc, yd, .unset, .unset, .unset] [(.int (2 : Int32))]))
    show own_Go p e below s _ _ _ (T.setTop (mkF m 254 #[iv p1, iv p2, iv p3, iv p4, iv p5, iv nn, iv uz, rv wy, rv sb1_, rv sb2_, rv sb3_, rv sb4_, rv ls, ya, yb, yc, yd, .unset, .unset, .unset] [(.int (2 : Int32))]))
    obtain ⟨fe0, fe1, fe2, fe3, fn0, fn1, fn2, fn3⟩ := fp1
    rcases fp0 with ⟨hnn, mc, g0, g1, g2, g3⟩ | ⟨hnn, mc, b, k, g0, g1, g2, g3, g4⟩ | ⟨hnn, mc, b, k, g0, g1, g2, g3, g4⟩ | ⟨hnn, mc, b, k, g0, g1, g2, g3, g4⟩ | ⟨hnn, mc, b, k, g0, g1, g2, g3, g4⟩
    · have fpn0 := fn0
      have fpn1 := fn1
      have fpn2 := fn2
      have fpn3 := fn3
      exact absurd hq1.1 (by rw [hnn]; decide)
    · have fpn0 := fn0
      have fpn1 := fn1
      have fpn2 := fn2
      have fpn3 := fn3
      exact absurd hq1.1 (by rw [hnn]; decide)
    · have fpn0 := fn0
      have fpn1 := fn1
      have fpn2 := fn2
      have fpn3 := fn3
      rw [hnn]
      show own_Go p e below s _ _ _ (T.setTop (mkF m 254 #[iv p1, iv p2, iv p3, iv p4, iv p5, iv (2 : Int32), iv uz, rv wy, rv sb1_, rv sb2_, rv sb3_, rv sb4_, rv ls, ya, yb, yc, yd, .unset, .unset, .unset] [(.int (2 : Int32))]))
      show own_Go p e below s _ _ _ (T.setTop (mkF m 254 #[iv p1, iv p2, iv p3, iv p4, iv p5, iv (2 : Int32), iv uz, rv wy, rv sb1_, rv sb2_, rv sb3_, rv sb4_, rv ls, ya, yb, yc, yd, .unset, .unset, .unset] [(.int (2 : Int32))]))
      refine own_go (fun _ k => XS.istore X0.here hx rfl (hb hby at_254) rfl (l' := #[iv p1, iv p2, iv p3, iv p4, iv p5, iv (2 : Int32), iv uz, rv wy, rv sb1_, rv sb2_, rv sb3_, rv sb4_, rv ls, ya, yb, yc, yd, iv (2 : Int32), .unset, .unset]) rfl (XS.iload X0.here hx rfl (hb hby at_256) rfl (XS.ifNo X0.here hx rfl (hb hby at_258) rfl ((if0 _ _).trans (feq hz).1) (XS.iconst X0.here hx rfl (hb hby at_261) (XS.iload X0.here hx rfl (hb hby at_262) rfl (XS.iconst X0.here hx rfl (hb hby at_264) k)))))) ?_
      refine own_go (fun _ k => XS.isub X0.here hx rfl (hb hby at_265) rfl k) ?_
      obtain ⟨v458, T458, L458, X458, hQ458, st458⟩ := own_callS (y := own_y3) X0 hx hZ hown (ow172 hw) (ow107 hw) (ow108 hw) (ow109 hw) (rm_maxi l Z a0 hw hO [] (0 : Int32) (1 : Int32) hs1 O0) 0 0 0 (by show _ ≤ 48; omega) (by show _ ≤ 320; omega) e0 (g := (mkF m 266 #[iv p1, iv p2, iv p3, iv p4, iv p5, iv (2 : Int32), iv uz, rv wy, rv sb1_, rv sb2_, rv sb3_, rv sb4_, rv ls, ya, yb, yc, yd, iv (2 : Int32), .unset, .unset] [(.int (1 : Int32)), (.int (0 : Int32))])) rfl (by rw [hml]; rfl) [(.int (0 : Int32)), (.int (1 : Int32))] [] (lenOf own_pd_1 rfl) rfl rfl (hb hby at_266)
      rcases hQ458 with hQ458 | hQ458
      · obtain ⟨rfl, Nc461, hp459, Kc460⟩ := hQ458
        refine own_go st458 ?_
        clear st458 X0 e0
        replace N0 := Fr.app N0 Nc461
        clear Nc461
        show own_Go p e below s _ _ _ (T458.setTop (mkF m 269 #[iv p1, iv p2, iv p3, iv p4, iv p5, iv (2 : Int32), iv uz, rv wy, rv sb1_, rv sb2_, rv sb3_, rv sb4_, rv ls, ya, yb, yc, yd, iv (2 : Int32), .unset, .unset] [(.int (1 : Int32))]))
        refine own_go (fun _ k => XS.goto X458.here hx rfl (pc0 := 269) (pc' := 273) rfl (hb hby at_269) (by decide) (by decide) (XS.istore X458.here hx rfl (hb hby at_273) rfl (l' := #[iv p1, iv p2, iv p3, iv p4, iv p5, iv (2 : Int32), iv uz, rv wy, rv sb1_, rv sb2_, rv sb3_, rv sb4_, rv ls, ya, yb, yc, yd, iv (2 : Int32), iv (1 : Int32), .unset]) rfl (XS.aload X458.here hx rfl (hb hby at_275) rfl rfl (XS.aload X458.here hx rfl (hb hby at_277) rfl rfl k)))) ?_
        obtain ⟨v462, T462, L462, X462, hQ462, st462⟩ := own_callV (y := own_y24) (z := own_y24) X458 hx hZ hown (ow62 hw) (ow63 hw) (notFace_of_selects (args := #[]) (mvT hZ (ow65 hw))) (ow65 hw) (ow64 hw) (ow2 hw) (ow66 hw) (rm_anny2 l Z a0 hw hO [] ls mc b k sb1_ sb2_ p1 p2 hs1 O0 (g0.keep K1) (g1.keep K1 nin0) (g2.keep K1 nin0) (g3.keep K1 nin0) (g4.keep K1 nin0) (fe0.keep K1) (fe1.keep K1) (own_NSkeep fpn0 fe0 K1 all0) (own_NSkeep fpn1 fe1 K1 all0)) 0 2 13 (by show _ ≤ 48; omega) (by show _ ≤ 320; omega) Kc460 (oE2.ext O0) (g := (mkF m 279 #[iv p1, iv p2, iv p3, iv p4, iv p5, iv (2 : Int32), iv uz, rv wy, rv sb1_, rv sb2_, rv sb3_, rv sb4_, rv ls, ya, yb, yc, yd, iv (2 : Int32), iv (1 : Int32), .unset] [(.ref ls), (.ref wy)])) rfl (by rw [hml]; rfl) [(.ref ls)] [] (lenOf own_pd_16 rfl) rfl rfl (hb hby at_279)
        rcases hQ462 with hQ462 | hQ462 | hQ462
        · obtain ⟨w463, rfl, Nc469, hp464, Kc468, hb465, f466, f467⟩ := hQ462
          refine own_go st462 ?_
          clear st462 X458 Kc460
          replace N0 := Fr.app N0 Nc469
          clear Nc469
          exact absurd hq0.2 hp464
        · obtain ⟨w470, rfl, Nc477, hp471, hp472, Kc476, hb473, f474, f475⟩ := hQ462
          refine own_go st462 ?_
          clear st462 X458 Kc460
          replace N0 := Fr.app N0 Nc477
          clear Nc477
          exact absurd hq1.2 hp472
        · obtain ⟨w478, w479, w480, rfl, Nc489, hp481, hp482, Kc488, hb483, f484, f485, f486, f487⟩ := hQ462
          refine own_go st462 ?_
          clear st462 X458 Kc460
          replace N0 := Fr.app N0 Nc489
          clear Nc489
          have big490 : Z.heap.size ≤ w478 := Nat.le_trans O0.1 hb483
          have sz491 : h0.size ≤ w478 := Nat.le_trans K0.1 hb483
          have sz492 : hs1.size ≤ w478 := Nat.le_trans K1.1 hb483
          replace O0 := own_oldKeep O0 Kc488 all0
          replace K0 := K0.trans Kc488 all0
          replace K1 := K1.trans Kc488 all0
          clear Kc488
          show own_Go p e below s _ _ _ (T462.setTop (mkF m 282 #[iv p1, iv p2, iv p3, iv p4, iv p5, iv (2 : Int32), iv uz, rv wy, rv sb1_, rv sb2_, rv sb3_, rv sb4_, rv ls, ya, yb, yc, yd, iv (2 : Int32), iv (1 : Int32), .unset] [(.ref w478)]))
          exact sg_s282_1 hw hO p1 p2 p3 p4 p5 (2 : Int32) sb1_ sb2_ sb3_ sb4_ ls w478 (iv uz : Slot) (rv wy : Slot) (iv (2 : Int32) : Slot) (ya : Slot) (yb : Slot) (yc : Slot) (yd : Slot) w479 w480 h0 T462.heap X462 hx hby hml hret hlk hZ hown hnm (rfl : T462.heap = T462.heap) N0 O0 K0 (g0.keep K1) (g1.keep K1 nin0) f484 f485 f486 f487 (by omega) (by omega)
      · obtain ⟨rfl, Nc495, hp493, Kc494⟩ := hQ458
        refine own_go st458 ?_
        clear st458 X0 e0
        replace N0 := Fr.app N0 Nc495
        clear Nc495
        exact absurd (by decide : (0 : Int32) < (1 : Int32)) hp493
    · have fpn0 := fn0
      have fpn1 := fn1
      have fpn2 := fn2
      have fpn3 := fn3
      have hqs : ¬ own_Sp p3 := fun h => hqn ⟨by rw [hnn]; decide, h⟩
      rw [hnn]
      show own_Go p e below s _ _ _ (T.setTop (mkF m 254 #[iv p1, iv p2, iv p3, iv p4, iv p5, iv (3 : Int32), iv uz, rv wy, rv sb1_, rv sb2_, rv sb3_, rv sb4_, rv ls, ya, yb, yc, yd, .unset, .unset, .unset] [(.int (2 : Int32))]))
      show own_Go p e below s _ _ _ (T.setTop (mkF m 254 #[iv p1, iv p2, iv p3, iv p4, iv p5, iv (3 : Int32), iv uz, rv wy, rv sb1_, rv sb2_, rv sb3_, rv sb4_, rv ls, ya, yb, yc, yd, .unset, .unset, .unset] [(.int (2 : Int32))]))
      refine own_go (fun _ k => XS.istore X0.here hx rfl (hb hby at_254) rfl (l' := #[iv p1, iv p2, iv p3, iv p4, iv p5, iv (3 : Int32), iv uz, rv wy, rv sb1_, rv sb2_, rv sb3_, rv sb4_, rv ls, ya, yb, yc, yd, iv (2 : Int32), .unset, .unset]) rfl (XS.iload X0.here hx rfl (hb hby at_256) rfl (XS.ifNo X0.here hx rfl (hb hby at_258) rfl ((if0 _ _).trans (feq hz).1) (XS.iconst X0.here hx rfl (hb hby at_261) (XS.iload X0.here hx rfl (hb hby at_262) rfl (XS.iconst X0.here hx rfl (hb hby at_264) k)))))) ?_
      refine own_go (fun _ k => XS.isub X0.here hx rfl (hb hby at_265) rfl k) ?_
      obtain ⟨v496, T496, L496, X496, hQ496, st496⟩ := own_callS (y := own_y3) X0 hx hZ hown (ow172 hw) (ow107 hw) (ow108 hw) (ow109 hw) (rm_maxi l Z a0 hw hO [] (0 : Int32) (1 : Int32) hs1 O0) 0 0 0 (by show _ ≤ 48; omega) (by show _ ≤ 320; omega) e0 (g := (mkF m 266 #[iv p1, iv p2, iv p3, iv p4, iv p5, iv (3 : Int32), iv uz, rv wy, rv sb1_, rv sb2_, rv sb3_, rv sb4_, rv ls, ya, yb, yc, yd, iv (2 : Int32), .unset, .unset] [(.int (1 : Int32)), (.int (0 : Int32))])) rfl (by rw [hml]; rfl) [(.int (0 : Int32)), (.int (1 : Int32))] [] (lenOf own_pd_1 rfl) rfl rfl (hb hby at_266)
      rcases hQ496 with hQ496 | hQ496
      · obtain ⟨rfl, Nc499, hp497, Kc498⟩ := hQ496
        refine own_go st496 ?_
        clear st496 X0 e0
        replace N0 := Fr.app N0 Nc499
        clear Nc499
        show own_Go p e below s _ _ _ (T496.setTop (mkF m 269 #[iv p1, iv p2, iv p3, iv p4, iv p5, iv (3 : Int32), iv uz, rv wy, rv sb1_, rv sb2_, rv sb3_, rv sb4_, rv ls, ya, yb, yc, yd, iv (2 : Int32), .unset, .unset] [(.int (1 : Int32))]))
        refine own_go (fun _ k => XS.goto X496.here hx rfl (pc0 := 269) (pc' := 273) rfl (hb hby at_269) (by decide) (by decide) (XS.istore X496.here hx rfl (hb hby at_273) rfl (l' := #[iv p1, iv p2, iv p3, iv p4, iv p5, iv (3 : Int32), iv uz, rv wy, rv sb1_, rv sb2_, rv sb3_, rv sb4_, rv ls, ya, yb, yc, yd, iv (2 : Int32), iv (1 : Int32), .unset]) rfl (XS.aload X496.here hx rfl (hb hby at_275) rfl rfl (XS.aload X496.here hx rfl (hb hby at_277) rfl rfl k)))) ?_
        obtain ⟨v500, T500, L500, X500, hQ500, st500⟩ := own_callV (y := own_y24) (z := own_y24) X496 hx hZ hown (ow62 hw) (ow63 hw) (notFace_of_selects (args := #[]) (mvT hZ (ow65 hw))) (ow65 hw) (ow64 hw) (ow2 hw) (ow66 hw) (rm_anny3 l Z a0 hw hO [] ls mc b k sb1_ sb2_ sb3_ p1 p2 p3 hs1 O0 (g0.keep K1) (g1.keep K1 nin0) (g2.keep K1 nin0) (g3.keep K1 nin0) (g4.keep K1 nin0) (fe0.keep K1) (fe1.keep K1) (fe2.keep K1) (own_NSkeep fpn0 fe0 K1 all0) (own_NSkeep fpn1 fe1 K1 all0) (own_NSkeep fpn2 fe2 K1 all0)) 0 2 13 (by show _ ≤ 48; omega) (by show _ ≤ 320; omega) Kc498 (oE2.ext O0) (g := (mkF m 279 #[iv p1, iv p2, iv p3, iv p4, iv p5, iv (3 : Int32), iv uz, rv wy, rv sb1_, rv sb2_, rv sb3_, rv sb4_, rv ls, ya, yb, yc, yd, iv (2 : Int32), iv (1 : Int32), .unset] [(.ref ls), (.ref wy)])) rfl (by rw [hml]; rfl) [(.ref ls)] [] (lenOf own_pd_16 rfl) rfl rfl (hb hby at_279)
        rcases hQ500 with hQ500 | hQ500 | hQ500 | hQ500
        · obtain ⟨w501, rfl, Nc507, hp502, Kc506, hb503, f504, f505⟩ := hQ500
          refine own_go st500 ?_
          clear st500 X496 Kc498
          replace N0 := Fr.app N0 Nc507
          clear Nc507
          exact absurd hq0.2 hp502
        · obtain ⟨w508, rfl, Nc515, hp509, hp510, Kc514, hb511, f512, f513⟩ := hQ500
          refine own_go st500 ?_
          clear st500 X496 Kc498
          replace N0 := Fr.app N0 Nc515
          clear Nc515
          exact absurd hq1.2 hp510
        · obtain ⟨w516, w517, w518, rfl, Nc528, hp519, hp520, hp521, Kc527, hb522, f523, f524, f525, f526⟩ := hQ500
          refine own_go st500 ?_
          clear st500 X496 Kc498
          replace N0 := Fr.app N0 Nc528
          clear Nc528
          have big529 : Z.heap.size ≤ w516 := Nat.le_trans O0.1 hb522
          have sz530 : h0.size ≤ w516 := Nat.le_trans K0.1 hb522
          have sz531 : hs1.size ≤ w516 := Nat.le_trans K1.1 hb522
          replace O0 := own_oldKeep O0 Kc527 all0
          replace K0 := K0.trans Kc527 all0
          replace K1 := K1.trans Kc527 all0
          clear Kc527
          show own_Go p e below s _ _ _ (T500.setTop (mkF m 282 #[iv p1, iv p2, iv p3, iv p4, iv p5, iv (3 : Int32), iv uz, rv wy, rv sb1_, rv sb2_, rv sb3_, rv sb4_, rv ls, ya, yb, yc, yd, iv (2 : Int32), iv (1 : Int32), .unset] [(.ref w516)]))
          exact sg_s282_1 hw hO p1 p2 p3 p4 p5 (3 : Int32) sb1_ sb2_ sb3_ sb4_ ls w516 (iv uz : Slot) (rv wy : Slot) (iv (2 : Int32) : Slot) (ya : Slot) (yb : Slot) (yc : Slot) (yd : Slot) w517 w518 h0 T500.heap X500 hx hby hml hret hlk hZ hown hnm (rfl : T500.heap = T500.heap) N0 O0 K0 (g0.keep K1) (g1.keep K1 nin0) f523 f524 f525 f526 (by omega) (by omega)
        · obtain ⟨w532, w533, w534, rfl, Nc544, hp535, hp536, hp537, Kc543, hb538, f539, f540, f541, f542⟩ := hQ500
          refine own_go st500 ?_
          clear st500 X496 Kc498
          replace N0 := Fr.app N0 Nc544
          clear Nc544
          exact absurd hp537 hqs
      · obtain ⟨rfl, Nc547, hp545, Kc546⟩ := hQ496
        refine own_go st496 ?_
        clear st496 X0 e0
        replace N0 := Fr.app N0 Nc547
        clear Nc547
        exact absurd (by decide : (0 : Int32) < (1 : Int32)) hp545
    · have fpn0 := fn0
      have fpn1 := fn1
      have fpn2 := fn2
      have fpn3 := fn3
      have hqs : ¬ own_Sp p3 := fun h => hqn ⟨by rw [hnn]; decide, h⟩
      rw [hnn]
      show own_Go p e below s _ _ _ (T.setTop (mkF m 254 #[iv p1, iv p2, iv p3, iv p4, iv p5, iv (4 : Int32), iv uz, rv wy, rv sb1_, rv sb2_, rv sb3_, rv sb4_, rv ls, ya, yb, yc, yd, .unset, .unset, .unset] [(.int (2 : Int32))]))
      show own_Go p e below s _ _ _ (T.setTop (mkF m 254 #[iv p1, iv p2, iv p3, iv p4, iv p5, iv (4 : Int32), iv uz, rv wy, rv sb1_, rv sb2_, rv sb3_, rv sb4_, rv ls, ya, yb, yc, yd, .unset, .unset, .unset] [(.int (2 : Int32))]))
      refine own_go (fun _ k => XS.istore X0.here hx rfl (hb hby at_254) rfl (l' := #[iv p1, iv p2, iv p3, iv p4, iv p5, iv (4 : Int32), iv uz, rv wy, rv sb1_, rv sb2_, rv sb3_, rv sb4_, rv ls, ya, yb, yc, yd, iv (2 : Int32), .unset, .unset]) rfl (XS.iload X0.here hx rfl (hb hby at_256) rfl (XS.ifNo X0.here hx rfl (hb hby at_258) rfl ((if0 _ _).trans (feq hz).1) (XS.iconst X0.here hx rfl (hb hby at_261) (XS.iload X0.here hx rfl (hb hby at_262) rfl (XS.iconst X0.here hx rfl (hb hby at_264) k)))))) ?_
      refine own_go (fun _ k => XS.isub X0.here hx rfl (hb hby at_265) rfl k) ?_
      obtain ⟨v548, T548, L548, X548, hQ548, st548⟩ := own_callS (y := own_y3) X0 hx hZ hown (ow172 hw) (ow107 hw) (ow108 hw) (ow109 hw) (rm_maxi l Z a0 hw hO [] (0 : Int32) (1 : Int32) hs1 O0) 0 0 0 (by show _ ≤ 48; omega) (by show _ ≤ 320; omega) e0 (g := (mkF m 266 #[iv p1, iv p2, iv p3, iv p4, iv p5, iv (4 : Int32), iv uz, rv wy, rv sb1_, rv sb2_, rv sb3_, rv sb4_, rv ls, ya, yb, yc, yd, iv (2 : Int32), .unset, .unset] [(.int (1 : Int32)), (.int (0 : Int32))])) rfl (by rw [hml]; rfl) [(.int (0 : Int32)), (.int (1 : Int32))] [] (lenOf own_pd_1 rfl) rfl rfl (hb hby at_266)
      rcases hQ548 with hQ548 | hQ548
      · obtain ⟨rfl, Nc551, hp549, Kc550⟩ := hQ548
        refine own_go st548 ?_
        clear st548 X0 e0
        replace N0 := Fr.app N0 Nc551
        clear Nc551
        show own_Go p e below s _ _ _ (T548.setTop (mkF m 269 #[iv p1, iv p2, iv p3, iv p4, iv p5, iv (4 : Int32), iv uz, rv wy, rv sb1_, rv sb2_, rv sb3_, rv sb4_, rv ls, ya, yb, yc, yd, iv (2 : Int32), .unset, .unset] [(.int (1 : Int32))]))
        refine own_go (fun _ k => XS.goto X548.here hx rfl (pc0 := 269) (pc' := 273) rfl (hb hby at_269) (by decide) (by decide) (XS.istore X548.here hx rfl (hb hby at_273) rfl (l' := #[iv p1, iv p2, iv p3, iv p4, iv p5, iv (4 : Int32), iv uz, rv wy, rv sb1_, rv sb2_, rv sb3_, rv sb4_, rv ls, ya, yb, yc, yd, iv (2 : Int32), iv (1 : Int32), .unset]) rfl (XS.aload X548.here hx rfl (hb hby at_275) rfl rfl (XS.aload X548.here hx rfl (hb hby at_277) rfl rfl k)))) ?_
        obtain ⟨v552, T552, L552, X552, hQ552, st552⟩ := own_callV (y := own_y24) (z := own_y24) X548 hx hZ hown (ow62 hw) (ow63 hw) (notFace_of_selects (args := #[]) (mvT hZ (ow65 hw))) (ow65 hw) (ow64 hw) (ow2 hw) (ow66 hw) (rm_anny4 l Z a0 hw hO [] ls mc b k sb1_ sb2_ sb3_ sb4_ p1 p2 p3 p4 hs1 O0 (g0.keep K1) (g1.keep K1 nin0) (g2.keep K1 nin0) (g3.keep K1 nin0) (g4.keep K1 nin0) (fe0.keep K1) (fe1.keep K1) (fe2.keep K1) (fe3.keep K1) (own_NSkeep fpn0 fe0 K1 all0) (own_NSkeep fpn1 fe1 K1 all0) (own_NSkeep fpn2 fe2 K1 all0) (own_NSkeep fpn3 fe3 K1 all0)) 0 2 13 (by show _ ≤ 48; omega) (by show _ ≤ 320; omega) Kc550 (oE2.ext O0) (g := (mkF m 279 #[iv p1, iv p2, iv p3, iv p4, iv p5, iv (4 : Int32), iv uz, rv wy, rv sb1_, rv sb2_, rv sb3_, rv sb4_, rv ls, ya, yb, yc, yd, iv (2 : Int32), iv (1 : Int32), .unset] [(.ref ls), (.ref wy)])) rfl (by rw [hml]; rfl) [(.ref ls)] [] (lenOf own_pd_16 rfl) rfl rfl (hb hby at_279)
        rcases hQ552 with hQ552 | hQ552 | hQ552 | hQ552 | hQ552
        · obtain ⟨w553, rfl, Nc559, hp554, Kc558, hb555, f556, f557⟩ := hQ552
          refine own_go st552 ?_
          clear st552 X548 Kc550
          replace N0 := Fr.app N0 Nc559
          clear Nc559
          exact absurd hq0.2 hp554
        · obtain ⟨w560, rfl, Nc567, hp561, hp562, Kc566, hb563, f564, f565⟩ := hQ552
          refine own_go st552 ?_
          clear st552 X548 Kc550
          replace N0 := Fr.app N0 Nc567
          clear Nc567
          exact absurd hq1.2 hp562
        · obtain ⟨w568, w569, w570, rfl, Nc580, hp571, hp572, hp573, Kc579, hb574, f575, f576, f577, f578⟩ := hQ552
          refine own_go st552 ?_
          clear st552 X548 Kc550
          replace N0 := Fr.app N0 Nc580
          clear Nc580
          have big581 : Z.heap.size ≤ w568 := Nat.le_trans O0.1 hb574
          have sz582 : h0.size ≤ w568 := Nat.le_trans K0.1 hb574
          have sz583 : hs1.size ≤ w568 := Nat.le_trans K1.1 hb574
          replace O0 := own_oldKeep O0 Kc579 all0
          replace K0 := K0.trans Kc579 all0
          replace K1 := K1.trans Kc579 all0
          clear Kc579
          show own_Go p e below s _ _ _ (T552.setTop (mkF m 282 #[iv p1, iv p2, iv p3, iv p4, iv p5, iv (4 : Int32), iv uz, rv wy, rv sb1_, rv sb2_, rv sb3_, rv sb4_, rv ls, ya, yb, yc, yd, iv (2 : Int32), iv (1 : Int32), .unset] [(.ref w568)]))
          exact sg_s282_1 hw hO p1 p2 p3 p4 p5 (4 : Int32) sb1_ sb2_ sb3_ sb4_ ls w568 (iv uz : Slot) (rv wy : Slot) (iv (2 : Int32) : Slot) (ya : Slot) (yb : Slot) (yc : Slot) (yd : Slot) w569 w570 h0 T552.heap X552 hx hby hml hret hlk hZ hown hnm (rfl : T552.heap = T552.heap) N0 O0 K0 (g0.keep K1) (g1.keep K1 nin0) f575 f576 f577 f578 (by omega) (by omega)
        · obtain ⟨w584, w585, w586, rfl, Nc597, hp587, hp588, hp589, hp590, Kc596, hb591, f592, f593, f594, f595⟩ := hQ552
          refine own_go st552 ?_
          clear st552 X548 Kc550
          replace N0 := Fr.app N0 Nc597
          clear Nc597
          exact absurd hp589 hqs
        · obtain ⟨w598, w599, w600, rfl, Nc611, hp601, hp602, hp603, hp604, Kc610, hb605, f606, f607, f608, f609⟩ := hQ552
          refine own_go st552 ?_
          clear st552 X548 Kc550
          replace N0 := Fr.app N0 Nc611
          clear Nc611
          exact absurd hp603 hqs
      · obtain ⟨rfl, Nc614, hp612, Kc613⟩ := hQ548
        refine own_go st548 ?_
        clear st548 X0 e0
        replace N0 := Fr.app N0 Nc614
        clear Nc614
        exact absurd (by decide : (0 : Int32) < (1 : Int32)) hp612
set_option maxRecDepth 65536 in
set_option maxHeartbeats 40000000 in
theorem sg_s254_3 {l : Launch} {Z : State} {a0 : Array Value} (hw : own_W Z a0) {zc : Int32} {wd : Addr} {kd : ClassId} {wx : Addr} {wy : Addr} {wsp : Addr} {wspv : Addr} {wspk : ClassId} (hO : own_Olds Z zc wd kd wx wy wsp wspv wspk) {p : Program} {e : Env} {s : State} {m : MethodId} {args : Array Value} {below : List Frame} {meth : Method} {c : Code} {T : State} {locs : List Loc} {cells slots : Nat} (p1 : Int32) (p2 : Int32) (p3 : Int32) (p4 : Int32) (p5 : Int32) (nn : Int32) (uz : Int32) (wa : Addr) (sb1_ : Addr) (sb2_ : Addr) (sb3_ : Addr) (sb4_ : Addr) (ls : Addr) (ya : Slot) (yb : Slot) (yc : Slot) (yd : Slot) (h0 hs1 : Heap)
    (X0 : Stand p l e room_1 s m args below meth c T locs cells slots) (hx : p.tables.exec = Jvm.exec) (hby : c.code = code) (hml : c.maxLocals = 20) (hret : meth.sig.returnType = some .boolean) (hlk : meth.locks = false) (hZ : Z.Warmed39 s.vm) (hown : s.vm.findClass "com/example/padlock/padlock/lock/AccessAnnouncedPinLaw" = some m.cls) (hnm : meth.name = "law") (e0 : T.heap = hs1) (N0 : Fr Z.heap.size locs) (O0 : Ext Z.heap hs1) (K0 : Keep h0 hs1 []) (fp0 : own_LS Z wd hs1 ls nn sb1_ sb2_ sb3_ sb4_) (fp1 : own_4 Z hs1 sb1_ sb2_ sb3_ sb4_ p1 p2 p3 p4) (hacc : own_Acc uz wa wx wy) (hq0 : (0 : Int32) < nn ∧ own_Sp p1) (hq1 : (1 : Int32) < nn ∧ own_Sp p2) (hq2 : (2 : Int32) < nn ∧ own_Sp p3) (hqn : ¬ ((3 : Int32) < nn ∧ own_Sp p4)) (hcells : cells ≤ 40) (hslots : slots ≤ 290) :
    own_Go p e below s (Q_law Z zc wd kd wx wy wsp wspv wspk p1 p2 p3 p4 p5 h0) room_1.cells room_1.slots (T.setTop (mkF m 254 #[iv p1, iv p2, iv p3, iv p4, iv p5, iv nn, iv uz, rv wa, rv sb1_, rv sb2_, rv sb3_, rv sb4_, rv ls, ya, yb, yc, yd, .unset, .unset, .unset] [(.int (3 : Int32))])) := by
  obtain ⟨oCS, oCz, oDE, oDV, oEx, oSh, oE1, oE2, oPF, oSPE, oSPC, oSPF, oSPV, oNe⟩ := id hO
  have K1 := Keep.refl hs1 []
  show own_Go p e below s _ _ _ (T.setTop (mkF m 254 #[iv p1, iv p2, iv p3, iv p4, iv p5, iv nn, iv uz, rv wa, rv sb1_, rv sb2_, rv sb3_, rv sb4_, rv ls, ya, yb, yc, yd, .unset, .unset, .unset] [(.int (3 : Int32))]))
  rcases hacc with ⟨hz, hwa⟩ | ⟨hz, hwa⟩
  · rw [hwa]
    show own_Go p e below s _ _ _ (T.setTop (mkF m 254 #[iv p1, iv p2, iv p3, iv p4, iv p5, iv nn, iv uz, rv wx, rv sb1_, rv sb2_, rv sb3_, rv sb4_, rv ls, ya, yb, yc, yd, .unset, .unset, .unset] [(.int (3 : Int32))]))
    show own_Go p e below s _ _ _ (T.setTop (mkF m 254 #[iv p1, iv p2, iv p3, iv p4, iv p5, iv nn, iv uz, rv wx, rv sb1_, rv sb2_, rv sb3_, rv sb4_, rv ls, ya, yb, yc, yd, .unset, .unset, .unset] [(.int (3 : Int32))]))
    exact sg_s254x hw hO p1 p2 p3 p4 p5 nn uz sb1_ sb2_ sb3_ sb4_ ls (ya : Slot) (yb : Slot) (yc : Slot) (yd : Slot) (3 : Int32) h0 hs1 X0 hx hby hml hret hlk hZ hown hnm e0 N0 O0 K0 (own_LSkeep fp0 K1) (own_4keep fp1 K1) hz (by omega) (by omega)
  · rw [hwa]
    show own_Go p e below s _ _ _ (T.setTop (mkF m 254 #[iv p1, iv p2, iv p3, iv p4, iv p5, iv nn, iv uz, rv wy, rv sb1_, rv sb2_, rv sb3_, rv sb4_, rv ls, ya, yb, yc, yd, .unset, .unset, .unset] [(.int (3 : Int32))]))
    show own_Go p e below s _ _ _ (T.setTop (mkF m 254 #[iv p1, iv p2, iv p3, iv p4, iv p5, iv nn, iv uz, rv wy, rv sb1_, rv sb2_, rv sb3_, rv sb4_, rv ls, ya, yb, yc, yd, .unset, .unset, .unset] [(.int (3 : Int32))]))
    obtain ⟨fe0, fe1, fe2, fe3, fn0, fn1, fn2, fn3⟩ := fp1
    rcases fp0 with ⟨hnn, mc, g0, g1, g2, g3⟩ | ⟨hnn, mc, b, k, g0, g1, g2, g3, g4⟩ | ⟨hnn, mc, b, k, g0, g1, g2, g3, g4⟩ | ⟨hnn, mc, b, k, g0, g1, g2, g3, g4⟩ | ⟨hnn, mc, b, k, g0, g1, g2, g3, g4⟩
    · have fpn0 := fn0
      have fpn1 := fn1
      have fpn2 := fn2
      have fpn3 := fn3
      exact absurd hq2.1 (by rw [hnn]; decide)
    · have fpn0 := fn0
      have fpn1 := fn1
      have fpn2 := fn2
      have fpn3 := fn3
      exact absurd hq2.1 (by rw [hnn]; decide)
    · have fpn0 := fn0
      have fpn1 := fn1
      have fpn2 := fn2
      have fpn3 := fn3
      exact absurd hq2.1 (by rw [hnn]; decide)
    · have fpn0 := fn0
      have fpn1 := fn1
      have fpn2 := fn2
      have fpn3 := fn3
      rw [hnn]
      show own_Go p e below s _ _ _ (T.setTop (mkF m 254 #[iv p1, iv p2, iv p3, iv p4, iv p5, iv (3 : Int32), iv uz, rv wy, rv sb1_, rv sb2_, rv sb3_, rv sb4_, rv ls, ya, yb, yc, yd, .unset, .unset, .unset] [(.int (3 : Int32))]))
      show own_Go p e below s _ _ _ (T.setTop (mkF m 254 #[iv p1, iv p2, iv p3, iv p4, iv p5, iv (3 : Int32), iv uz, rv wy, rv sb1_, rv sb2_, rv sb3_, rv sb4_, rv ls, ya, yb, yc, yd, .unset, .unset, .unset] [(.int (3 : Int32))]))
      refine own_go (fun _ k => XS.istore X0.here hx rfl (hb hby at_254) rfl (l' := #[iv p1, iv p2, iv p3, iv p4, iv p5, iv (3 : Int32), iv uz, rv wy, rv sb1_, rv sb2_, rv sb3_, rv sb4_, rv ls, ya, yb, yc, yd, iv (3 : Int32), .unset, .unset]) rfl (XS.iload X0.here hx rfl (hb hby at_256) rfl (XS.ifNo X0.here hx rfl (hb hby at_258) rfl ((if0 _ _).trans (feq hz).1) (XS.iconst X0.here hx rfl (hb hby at_261) (XS.iload X0.here hx rfl (hb hby at_262) rfl (XS.iconst X0.here hx rfl (hb hby at_264) k)))))) ?_
      refine own_go (fun _ k => XS.isub X0.here hx rfl (hb hby at_265) rfl k) ?_
      obtain ⟨v615, T615, L615, X615, hQ615, st615⟩ := own_callS (y := own_y3) X0 hx hZ hown (ow172 hw) (ow107 hw) (ow108 hw) (ow109 hw) (rm_maxi l Z a0 hw hO [] (0 : Int32) (2 : Int32) hs1 O0) 0 0 0 (by show _ ≤ 48; omega) (by show _ ≤ 320; omega) e0 (g := (mkF m 266 #[iv p1, iv p2, iv p3, iv p4, iv p5, iv (3 : Int32), iv uz, rv wy, rv sb1_, rv sb2_, rv sb3_, rv sb4_, rv ls, ya, yb, yc, yd, iv (3 : Int32), .unset, .unset] [(.int (2 : Int32)), (.int (0 : Int32))])) rfl (by rw [hml]; rfl) [(.int (0 : Int32)), (.int (2 : Int32))] [] (lenOf own_pd_1 rfl) rfl rfl (hb hby at_266)
      rcases hQ615 with hQ615 | hQ615
      · obtain ⟨rfl, Nc618, hp616, Kc617⟩ := hQ615
        refine own_go st615 ?_
        clear st615 X0 e0
        replace N0 := Fr.app N0 Nc618
        clear Nc618
        show own_Go p e below s _ _ _ (T615.setTop (mkF m 269 #[iv p1, iv p2, iv p3, iv p4, iv p5, iv (3 : Int32), iv uz, rv wy, rv sb1_, rv sb2_, rv sb3_, rv sb4_, rv ls, ya, yb, yc, yd, iv (3 : Int32), .unset, .unset] [(.int (2 : Int32))]))
        refine own_go (fun _ k => XS.goto X615.here hx rfl (pc0 := 269) (pc' := 273) rfl (hb hby at_269) (by decide) (by decide) (XS.istore X615.here hx rfl (hb hby at_273) rfl (l' := #[iv p1, iv p2, iv p3, iv p4, iv p5, iv (3 : Int32), iv uz, rv wy, rv sb1_, rv sb2_, rv sb3_, rv sb4_, rv ls, ya, yb, yc, yd, iv (3 : Int32), iv (2 : Int32), .unset]) rfl (XS.aload X615.here hx rfl (hb hby at_275) rfl rfl (XS.aload X615.here hx rfl (hb hby at_277) rfl rfl k)))) ?_
        obtain ⟨v619, T619, L619, X619, hQ619, st619⟩ := own_callV (y := own_y24) (z := own_y24) X615 hx hZ hown (ow62 hw) (ow63 hw) (notFace_of_selects (args := #[]) (mvT hZ (ow65 hw))) (ow65 hw) (ow64 hw) (ow2 hw) (ow66 hw) (rm_anny3 l Z a0 hw hO [] ls mc b k sb1_ sb2_ sb3_ p1 p2 p3 hs1 O0 (g0.keep K1) (g1.keep K1 nin0) (g2.keep K1 nin0) (g3.keep K1 nin0) (g4.keep K1 nin0) (fe0.keep K1) (fe1.keep K1) (fe2.keep K1) (own_NSkeep fpn0 fe0 K1 all0) (own_NSkeep fpn1 fe1 K1 all0) (own_NSkeep fpn2 fe2 K1 all0)) 0 2 13 (by show _ ≤ 48; omega) (by show _ ≤ 320; omega) Kc617 (oE2.ext O0) (g := (mkF m 279 #[iv p1, iv p2, iv p3, iv p4, iv p5, iv (3 : Int32), iv uz, rv wy, rv sb1_, rv sb2_, rv sb3_, rv sb4_, rv ls, ya, yb, yc, yd, iv (3 : Int32), iv (2 : Int32), .unset] [(.ref ls), (.ref wy)])) rfl (by rw [hml]; rfl) [(.ref ls)] [] (lenOf own_pd_16 rfl) rfl rfl (hb hby at_279)
        rcases hQ619 with hQ619 | hQ619 | hQ619 | hQ619
        · obtain ⟨w620, rfl, Nc626, hp621, Kc625, hb622, f623, f624⟩ := hQ619
          refine own_go st619 ?_
          clear st619 X615 Kc617
          replace N0 := Fr.app N0 Nc626
          clear Nc626
          exact absurd hq0.2 hp621
        · obtain ⟨w627, rfl, Nc634, hp628, hp629, Kc633, hb630, f631, f632⟩ := hQ619
          refine own_go st619 ?_
          clear st619 X615 Kc617
          replace N0 := Fr.app N0 Nc634
          clear Nc634
          exact absurd hq1.2 hp629
        · obtain ⟨w635, w636, w637, rfl, Nc647, hp638, hp639, hp640, Kc646, hb641, f642, f643, f644, f645⟩ := hQ619
          refine own_go st619 ?_
          clear st619 X615 Kc617
          replace N0 := Fr.app N0 Nc647
          clear Nc647
          exact absurd hq2.2 hp640
        · obtain ⟨w648, w649, w650, rfl, Nc660, hp651, hp652, hp653, Kc659, hb654, f655, f656, f657, f658⟩ := hQ619
          refine own_go st619 ?_
          clear st619 X615 Kc617
          replace N0 := Fr.app N0 Nc660
          clear Nc660
          have big661 : Z.heap.size ≤ w648 := Nat.le_trans O0.1 hb654
          have sz662 : h0.size ≤ w648 := Nat.le_trans K0.1 hb654
          have sz663 : hs1.size ≤ w648 := Nat.le_trans K1.1 hb654
          replace O0 := own_oldKeep O0 Kc659 all0
          replace K0 := K0.trans Kc659 all0
          replace K1 := K1.trans Kc659 all0
          clear Kc659
          show own_Go p e below s _ _ _ (T619.setTop (mkF m 282 #[iv p1, iv p2, iv p3, iv p4, iv p5, iv (3 : Int32), iv uz, rv wy, rv sb1_, rv sb2_, rv sb3_, rv sb4_, rv ls, ya, yb, yc, yd, iv (3 : Int32), iv (2 : Int32), .unset] [(.ref w648)]))
          exact sg_s282_2 hw hO p1 p2 p3 p4 p5 (3 : Int32) sb1_ sb2_ sb3_ sb4_ ls w648 (iv uz : Slot) (rv wy : Slot) (iv (3 : Int32) : Slot) (ya : Slot) (yb : Slot) (yc : Slot) (yd : Slot) w649 w650 h0 T619.heap X619 hx hby hml hret hlk hZ hown hnm (rfl : T619.heap = T619.heap) N0 O0 K0 (g0.keep K1) (g1.keep K1 nin0) f655 f656 f657 f658 (by omega) (by omega)
      · obtain ⟨rfl, Nc666, hp664, Kc665⟩ := hQ615
        refine own_go st615 ?_
        clear st615 X0 e0
        replace N0 := Fr.app N0 Nc666
        clear Nc666
        exact absurd (by decide : (0 : Int32) < (2 : Int32)) hp664
    · have fpn0 := fn0
      have fpn1 := fn1
      have fpn2 := fn2
      have fpn3 := fn3
      have hqs : ¬ own_Sp p4 := fun h => hqn ⟨by rw [hnn]; decide, h⟩
      rw [hnn]
      show own_Go p e below s _ _ _ (T.setTop (mkF m 254 #[iv p1, iv p2, iv p3, iv p4, iv p5, iv (4 : Int32), iv uz, rv wy, rv sb1_, rv sb2_, rv sb3_, rv sb4_, rv ls, ya, yb, yc, yd, .unset, .unset, .unset] [(.int (3 : Int32))]))
      show own_Go p e below s _ _ _ (T.setTop (mkF m 254 #[iv p1, iv p2, iv p3, iv p4, iv p5, iv (4 : Int32), iv uz, rv wy, rv sb1_, rv sb2_, rv sb3_, rv sb4_, rv ls, ya, yb, yc, yd, .unset, .unset, .unset] [(.int (3 : Int32))]))
      refine own_go (fun _ k => XS.istore X0.here hx rfl (hb hby at_254) rfl (l' := #[iv p1, iv p2, iv p3, iv p4, iv p5, iv (4 : Int32), iv uz, rv wy, rv sb1_, rv sb2_, rv sb3_, rv sb4_, rv ls, ya, yb, yc, yd, iv (3 : Int32), .unset, .unset]) rfl (XS.iload X0.here hx rfl (hb hby at_256) rfl (XS.ifNo X0.here hx rfl (hb hby at_258) rfl ((if0 _ _).trans (feq hz).1) (XS.iconst X0.here hx rfl (hb hby at_261) (XS.iload X0.here hx rfl (hb hby at_262) rfl (XS.iconst X0.here hx rfl (hb hby at_264) k)))))) ?_
      refine own_go (fun _ k => XS.isub X0.here hx rfl (hb hby at_265) rfl k) ?_
      obtain ⟨v667, T667, L667, X667, hQ667, st667⟩ := own_callS (y := own_y3) X0 hx hZ hown (ow172 hw) (ow107 hw) (ow108 hw) (ow109 hw) (rm_maxi l Z a0 hw hO [] (0 : Int32) (2 : Int32) hs1 O0) 0 0 0 (by show _ ≤ 48; omega) (by show _ ≤ 320; omega) e0 (g := (mkF m 266 #[iv p1, iv p2, iv p3, iv p4, iv p5, iv (4 : Int32), iv uz, rv wy, rv sb1_, rv sb2_, rv sb3_, rv sb4_, rv ls, ya, yb, yc, yd, iv (3 : Int32), .unset, .unset] [(.int (2 : Int32)), (.int (0 : Int32))])) rfl (by rw [hml]; rfl) [(.int (0 : Int32)), (.int (2 : Int32))] [] (lenOf own_pd_1 rfl) rfl rfl (hb hby at_266)
      rcases hQ667 with hQ667 | hQ667
      · obtain ⟨rfl, Nc670, hp668, Kc669⟩ := hQ667
        refine own_go st667 ?_
        clear st667 X0 e0
        replace N0 := Fr.app N0 Nc670
        clear Nc670
        show own_Go p e below s _ _ _ (T667.setTop (mkF m 269 #[iv p1, iv p2, iv p3, iv p4, iv p5, iv (4 : Int32), iv uz, rv wy, rv sb1_, rv sb2_, rv sb3_, rv sb4_, rv ls, ya, yb, yc, yd, iv (3 : Int32), .unset, .unset] [(.int (2 : Int32))]))
        refine own_go (fun _ k => XS.goto X667.here hx rfl (pc0 := 269) (pc' := 273) rfl (hb hby at_269) (by decide) (by decide) (XS.istore X667.here hx rfl (hb hby at_273) rfl (l' := #[iv p1, iv p2, iv p3, iv p4, iv p5, iv (4 : Int32), iv uz, rv wy, rv sb1_, rv sb2_, rv sb3_, rv sb4_, rv ls, ya, yb, yc, yd, iv (3 : Int32), iv (2 : Int32), .unset]) rfl (XS.aload X667.here hx rfl (hb hby at_275) rfl rfl (XS.aload X667.here hx rfl (hb hby at_277) rfl rfl k)))) ?_
        obtain ⟨v671, T671, L671, X671, hQ671, st671⟩ := own_callV (y := own_y24) (z := own_y24) X667 hx hZ hown (ow62 hw) (ow63 hw) (notFace_of_selects (args := #[]) (mvT hZ (ow65 hw))) (ow65 hw) (ow64 hw) (ow2 hw) (ow66 hw) (rm_anny4 l Z a0 hw hO [] ls mc b k sb1_ sb2_ sb3_ sb4_ p1 p2 p3 p4 hs1 O0 (g0.keep K1) (g1.keep K1 nin0) (g2.keep K1 nin0) (g3.keep K1 nin0) (g4.keep K1 nin0) (fe0.keep K1) (fe1.keep K1) (fe2.keep K1) (fe3.keep K1) (own_NSkeep fpn0 fe0 K1 all0) (own_NSkeep fpn1 fe1 K1 all0) (own_NSkeep fpn2 fe2 K1 all0) (own_NSkeep fpn3 fe3 K1 all0)) 0 2 13 (by show _ ≤ 48; omega) (by show _ ≤ 320; omega) Kc669 (oE2.ext O0) (g := (mkF m 279 #[iv p1, iv p2, iv p3, iv p4, iv p5, iv (4 : Int32), iv uz, rv wy, rv sb1_, rv sb2_, rv sb3_, rv sb4_, rv ls, ya, yb, yc, yd, iv (3 : Int32), iv (2 : Int32), .unset] [(.ref ls), (.ref wy)])) rfl (by rw [hml]; rfl) [(.ref ls)] [] (lenOf own_pd_16 rfl) rfl rfl (hb hby at_279)
        rcases hQ671 with hQ671 | hQ671 | hQ671 | hQ671 | hQ671
        · obtain ⟨w672, rfl, Nc678, hp673, Kc677, hb674, f675, f676⟩ := hQ671
          refine own_go st671 ?_
          clear st671 X667 Kc669
          replace N0 := Fr.app N0 Nc678
          clear Nc678
          exact absurd hq0.2 hp673
        · obtain ⟨w679, rfl, Nc686, hp680, hp681, Kc685, hb682, f683, f684⟩ := hQ671
          refine own_go st671 ?_
          clear st671 X667 Kc669
          replace N0 := Fr.app N0 Nc686
          clear Nc686
          exact absurd hq1.2 hp681
        · obtain ⟨w687, w688, w689, rfl, Nc699, hp690, hp691, hp692, Kc698, hb693, f694, f695, f696, f697⟩ := hQ671
          refine own_go st671 ?_
          clear st671 X667 Kc669
          replace N0 := Fr.app N0 Nc699
          clear Nc699
          exact absurd hq2.2 hp692
        · obtain ⟨w700, w701, w702, rfl, Nc713, hp703, hp704, hp705, hp706, Kc712, hb707, f708, f709, f710, f711⟩ := hQ671
          refine own_go st671 ?_
          clear st671 X667 Kc669
          replace N0 := Fr.app N0 Nc713
          clear Nc713
          have big714 : Z.heap.size ≤ w700 := Nat.le_trans O0.1 hb707
          have sz715 : h0.size ≤ w700 := Nat.le_trans K0.1 hb707
          have sz716 : hs1.size ≤ w700 := Nat.le_trans K1.1 hb707
          replace O0 := own_oldKeep O0 Kc712 all0
          replace K0 := K0.trans Kc712 all0
          replace K1 := K1.trans Kc712 all0
          clear Kc712
          show own_Go p e below s _ _ _ (T671.setTop (mkF m 282 #[iv p1, iv p2, iv p3, iv p4, iv p5, iv (4 : Int32), iv uz, rv wy, rv sb1_, rv sb2_, rv sb3_, rv sb4_, rv ls, ya, yb, yc, yd, iv (3 : Int32), iv (2 : Int32), .unset] [(.ref w700)]))
          exact sg_s282_2 hw hO p1 p2 p3 p4 p5 (4 : Int32) sb1_ sb2_ sb3_ sb4_ ls w700 (iv uz : Slot) (rv wy : Slot) (iv (3 : Int32) : Slot) (ya : Slot) (yb : Slot) (yc : Slot) (yd : Slot) w701 w702 h0 T671.heap X671 hx hby hml hret hlk hZ hown hnm (rfl : T671.heap = T671.heap) N0 O0 K0 (g0.keep K1) (g1.keep K1 nin0) f708 f709 f710 f711 (by omega) (by omega)
        · obtain ⟨w717, w718, w719, rfl, Nc730, hp720, hp721, hp722, hp723, Kc729, hb724, f725, f726, f727, f728⟩ := hQ671
          refine own_go st671 ?_
          clear st671 X667 Kc669
          replace N0 := Fr.app N0 Nc730
          clear Nc730
          exact absurd hp723 hqs
      · obtain ⟨rfl, Nc733, hp731, Kc732⟩ := hQ667
        refine own_go st667 ?_
        clear st667 X0 e0
        replace N0 := Fr.app N0 Nc733
        clear Nc733
        exact absurd (by decide : (0 : Int32) < (2 : Int32)) hp731
set_option maxRecDepth 65536 in
set_option maxHeartbeats 40000000 in
theorem sg_s254_4 {l : Launch} {Z : State} {a0 : Array Value} (hw : own_W Z a0) {zc : Int32} {wd : Addr} {kd : ClassId} {wx : Addr} {wy : Addr} {wsp : Addr} {wspv : Addr} {wspk : ClassId} (hO : own_Olds Z zc wd kd wx wy wsp wspv wspk) {p : Program} {e : Env} {s : State} {m : MethodId} {args : Array Value} {below : List Frame} {meth : Method} {c : Code} {T : State} {locs : List Loc} {cells slots : Nat} (p1 : Int32) (p2 : Int32) (p3 : Int32) (p4 : Int32) (p5 : Int32) (nn : Int32) (uz : Int32) (wa : Addr) (sb1_ : Addr) (sb2_ : Addr) (sb3_ : Addr) (sb4_ : Addr) (ls : Addr) (ya : Slot) (yb : Slot) (yc : Slot) (yd : Slot) (h0 hs1 : Heap)
    (X0 : Stand p l e room_1 s m args below meth c T locs cells slots) (hx : p.tables.exec = Jvm.exec) (hby : c.code = code) (hml : c.maxLocals = 20) (hret : meth.sig.returnType = some .boolean) (hlk : meth.locks = false) (hZ : Z.Warmed39 s.vm) (hown : s.vm.findClass "com/example/padlock/padlock/lock/AccessAnnouncedPinLaw" = some m.cls) (hnm : meth.name = "law") (e0 : T.heap = hs1) (N0 : Fr Z.heap.size locs) (O0 : Ext Z.heap hs1) (K0 : Keep h0 hs1 []) (fp0 : own_LS Z wd hs1 ls nn sb1_ sb2_ sb3_ sb4_) (fp1 : own_4 Z hs1 sb1_ sb2_ sb3_ sb4_ p1 p2 p3 p4) (hacc : own_Acc uz wa wx wy) (hq0 : (0 : Int32) < nn ∧ own_Sp p1) (hq1 : (1 : Int32) < nn ∧ own_Sp p2) (hq2 : (2 : Int32) < nn ∧ own_Sp p3) (hq3 : (3 : Int32) < nn ∧ own_Sp p4) (hcells : cells ≤ 40) (hslots : slots ≤ 290) :
    own_Go p e below s (Q_law Z zc wd kd wx wy wsp wspv wspk p1 p2 p3 p4 p5 h0) room_1.cells room_1.slots (T.setTop (mkF m 254 #[iv p1, iv p2, iv p3, iv p4, iv p5, iv nn, iv uz, rv wa, rv sb1_, rv sb2_, rv sb3_, rv sb4_, rv ls, ya, yb, yc, yd, .unset, .unset, .unset] [(.int (4 : Int32))])) := by
  obtain ⟨oCS, oCz, oDE, oDV, oEx, oSh, oE1, oE2, oPF, oSPE, oSPC, oSPF, oSPV, oNe⟩ := id hO
  have K1 := Keep.refl hs1 []
  show own_Go p e below s _ _ _ (T.setTop (mkF m 254 #[iv p1, iv p2, iv p3, iv p4, iv p5, iv nn, iv uz, rv wa, rv sb1_, rv sb2_, rv sb3_, rv sb4_, rv ls, ya, yb, yc, yd, .unset, .unset, .unset] [(.int (4 : Int32))]))
  rcases hacc with ⟨hz, hwa⟩ | ⟨hz, hwa⟩
  · rw [hwa]
    show own_Go p e below s _ _ _ (T.setTop (mkF m 254 #[iv p1, iv p2, iv p3, iv p4, iv p5, iv nn, iv uz, rv wx, rv sb1_, rv sb2_, rv sb3_, rv sb4_, rv ls, ya, yb, yc, yd, .unset, .unset, .unset] [(.int (4 : Int32))]))
    show own_Go p e below s _ _ _ (T.setTop (mkF m 254 #[iv p1, iv p2, iv p3, iv p4, iv p5, iv nn, iv uz, rv wx, rv sb1_, rv sb2_, rv sb3_, rv sb4_, rv ls, ya, yb, yc, yd, .unset, .unset, .unset] [(.int (4 : Int32))]))
    exact sg_s254x hw hO p1 p2 p3 p4 p5 nn uz sb1_ sb2_ sb3_ sb4_ ls (ya : Slot) (yb : Slot) (yc : Slot) (yd : Slot) (4 : Int32) h0 hs1 X0 hx hby hml hret hlk hZ hown hnm e0 N0 O0 K0 (own_LSkeep fp0 K1) (own_4keep fp1 K1) hz (by omega) (by omega)
  · rw [hwa]
    show own_Go p e below s _ _ _ (T.setTop (mkF m 254 #[iv p1, iv p2, iv p3, iv p4, iv p5, iv nn, iv uz, rv wy, rv sb1_, rv sb2_, rv sb3_, rv sb4_, rv ls, ya, yb, yc, yd, .unset, .unset, .unset] [(.int (4 : Int32))]))
    show own_Go p e below s _ _ _ (T.setTop (mkF m 254 #[iv p1, iv p2, iv p3, iv p4, iv p5, iv nn, iv uz, rv wy, rv sb1_, rv sb2_, rv sb3_, rv sb4_, rv ls, ya, yb, yc, yd, .unset, .unset, .unset] [(.int (4 : Int32))]))
    obtain ⟨fe0, fe1, fe2, fe3, fn0, fn1, fn2, fn3⟩ := fp1
    rcases fp0 with ⟨hnn, mc, g0, g1, g2, g3⟩ | ⟨hnn, mc, b, k, g0, g1, g2, g3, g4⟩ | ⟨hnn, mc, b, k, g0, g1, g2, g3, g4⟩ | ⟨hnn, mc, b, k, g0, g1, g2, g3, g4⟩ | ⟨hnn, mc, b, k, g0, g1, g2, g3, g4⟩
    · have fpn0 := fn0
      have fpn1 := fn1
      have fpn2 := fn2
      have fpn3 := fn3
      exact absurd hq3.1 (by rw [hnn]; decide)
    · have fpn0 := fn0
      have fpn1 := fn1
      have fpn2 := fn2
      have fpn3 := fn3
      exact absurd hq3.1 (by rw [hnn]; decide)
    · have fpn0 := fn0
      have fpn1 := fn1
      have fpn2 := fn2
      have fpn3 := fn3
      exact absurd hq3.1 (by rw [hnn]; decide)
    · have fpn0 := fn0
      have fpn1 := fn1
      have fpn2 := fn2
      have fpn3 := fn3
      exact absurd hq3.1 (by rw [hnn]; decide)
    · have fpn0 := fn0
      have fpn1 := fn1
      have fpn2 := fn2
      have fpn3 := fn3
      rw [hnn]
      show own_Go p e below s _ _ _ (T.setTop (mkF m 254 #[iv p1, iv p2, iv p3, iv p4, iv p5, iv (4 : Int32), iv uz, rv wy, rv sb1_, rv sb2_, rv sb3_, rv sb4_, rv ls, ya, yb, yc, yd, .unset, .unset, .unset] [(.int (4 : Int32))]))
      show own_Go p e below s _ _ _ (T.setTop (mkF m 254 #[iv p1, iv p2, iv p3, iv p4, iv p5, iv (4 : Int32), iv uz, rv wy, rv sb1_, rv sb2_, rv sb3_, rv sb4_, rv ls, ya, yb, yc, yd, .unset, .unset, .unset] [(.int (4 : Int32))]))
      refine own_go (fun _ k => XS.istore X0.here hx rfl (hb hby at_254) rfl (l' := #[iv p1, iv p2, iv p3, iv p4, iv p5, iv (4 : Int32), iv uz, rv wy, rv sb1_, rv sb2_, rv sb3_, rv sb4_, rv ls, ya, yb, yc, yd, iv (4 : Int32), .unset, .unset]) rfl (XS.iload X0.here hx rfl (hb hby at_256) rfl (XS.ifNo X0.here hx rfl (hb hby at_258) rfl ((if0 _ _).trans (feq hz).1) (XS.iconst X0.here hx rfl (hb hby at_261) (XS.iload X0.here hx rfl (hb hby at_262) rfl (XS.iconst X0.here hx rfl (hb hby at_264) k)))))) ?_
      refine own_go (fun _ k => XS.isub X0.here hx rfl (hb hby at_265) rfl k) ?_
      obtain ⟨v734, T734, L734, X734, hQ734, st734⟩ := own_callS (y := own_y3) X0 hx hZ hown (ow172 hw) (ow107 hw) (ow108 hw) (ow109 hw) (rm_maxi l Z a0 hw hO [] (0 : Int32) (3 : Int32) hs1 O0) 0 0 0 (by show _ ≤ 48; omega) (by show _ ≤ 320; omega) e0 (g := (mkF m 266 #[iv p1, iv p2, iv p3, iv p4, iv p5, iv (4 : Int32), iv uz, rv wy, rv sb1_, rv sb2_, rv sb3_, rv sb4_, rv ls, ya, yb, yc, yd, iv (4 : Int32), .unset, .unset] [(.int (3 : Int32)), (.int (0 : Int32))])) rfl (by rw [hml]; rfl) [(.int (0 : Int32)), (.int (3 : Int32))] [] (lenOf own_pd_1 rfl) rfl rfl (hb hby at_266)
      rcases hQ734 with hQ734 | hQ734
      · obtain ⟨rfl, Nc737, hp735, Kc736⟩ := hQ734
        refine own_go st734 ?_
        clear st734 X0 e0
        replace N0 := Fr.app N0 Nc737
        clear Nc737
        show own_Go p e below s _ _ _ (T734.setTop (mkF m 269 #[iv p1, iv p2, iv p3, iv p4, iv p5, iv (4 : Int32), iv uz, rv wy, rv sb1_, rv sb2_, rv sb3_, rv sb4_, rv ls, ya, yb, yc, yd, iv (4 : Int32), .unset, .unset] [(.int (3 : Int32))]))
        refine own_go (fun _ k => XS.goto X734.here hx rfl (pc0 := 269) (pc' := 273) rfl (hb hby at_269) (by decide) (by decide) (XS.istore X734.here hx rfl (hb hby at_273) rfl (l' := #[iv p1, iv p2, iv p3, iv p4, iv p5, iv (4 : Int32), iv uz, rv wy, rv sb1_, rv sb2_, rv sb3_, rv sb4_, rv ls, ya, yb, yc, yd, iv (4 : Int32), iv (3 : Int32), .unset]) rfl (XS.aload X734.here hx rfl (hb hby at_275) rfl rfl (XS.aload X734.here hx rfl (hb hby at_277) rfl rfl k)))) ?_
        obtain ⟨v738, T738, L738, X738, hQ738, st738⟩ := own_callV (y := own_y24) (z := own_y24) X734 hx hZ hown (ow62 hw) (ow63 hw) (notFace_of_selects (args := #[]) (mvT hZ (ow65 hw))) (ow65 hw) (ow64 hw) (ow2 hw) (ow66 hw) (rm_anny4 l Z a0 hw hO [] ls mc b k sb1_ sb2_ sb3_ sb4_ p1 p2 p3 p4 hs1 O0 (g0.keep K1) (g1.keep K1 nin0) (g2.keep K1 nin0) (g3.keep K1 nin0) (g4.keep K1 nin0) (fe0.keep K1) (fe1.keep K1) (fe2.keep K1) (fe3.keep K1) (own_NSkeep fpn0 fe0 K1 all0) (own_NSkeep fpn1 fe1 K1 all0) (own_NSkeep fpn2 fe2 K1 all0) (own_NSkeep fpn3 fe3 K1 all0)) 0 2 13 (by show _ ≤ 48; omega) (by show _ ≤ 320; omega) Kc736 (oE2.ext O0) (g := (mkF m 279 #[iv p1, iv p2, iv p3, iv p4, iv p5, iv (4 : Int32), iv uz, rv wy, rv sb1_, rv sb2_, rv sb3_, rv sb4_, rv ls, ya, yb, yc, yd, iv (4 : Int32), iv (3 : Int32), .unset] [(.ref ls), (.ref wy)])) rfl (by rw [hml]; rfl) [(.ref ls)] [] (lenOf own_pd_16 rfl) rfl rfl (hb hby at_279)
        rcases hQ738 with hQ738 | hQ738 | hQ738 | hQ738 | hQ738
        · obtain ⟨w739, rfl, Nc745, hp740, Kc744, hb741, f742, f743⟩ := hQ738
          refine own_go st738 ?_
          clear st738 X734 Kc736
          replace N0 := Fr.app N0 Nc745
          clear Nc745
          exact absurd hq0.2 hp740
        · obtain ⟨w746, rfl, Nc753, hp747, hp748, Kc752, hb749, f750, f751⟩ := hQ738
          refine own_go st738 ?_
          clear st738 X734 Kc736
          replace N0 := Fr.app N0 Nc753
          clear Nc753
          exact absurd hq1.2 hp748
        · obtain ⟨w754, w755, w756, rfl, Nc766, hp757, hp758, hp759, Kc765, hb760, f761, f762, f763, f764⟩ := hQ738
          refine own_go st738 ?_
          clear st738 X734 Kc736
          replace N0 := Fr.app N0 Nc766
          clear Nc766
          exact absurd hq2.2 hp759
        · obtain ⟨w767, w768, w769, rfl, Nc780, hp770, hp771, hp772, hp773, Kc779, hb774, f775, f776, f777, f778⟩ := hQ738
          refine own_go st738 ?_
          clear st738 X734 Kc736
          replace N0 := Fr.app N0 Nc780
          clear Nc780
          exact absurd hq3.2 hp773
        · obtain ⟨w781, w782, w783, rfl, Nc794, hp784, hp785, hp786, hp787, Kc793, hb788, f789, f790, f791, f792⟩ := hQ738
          refine own_go st738 ?_
          clear st738 X734 Kc736
          replace N0 := Fr.app N0 Nc794
          clear Nc794
          have big795 : Z.heap.size ≤ w781 := Nat.le_trans O0.1 hb788
          have sz796 : h0.size ≤ w781 := Nat.le_trans K0.1 hb788
          have sz797 : hs1.size ≤ w781 := Nat.le_trans K1.1 hb788
          replace O0 := own_oldKeep O0 Kc793 all0
          replace K0 := K0.trans Kc793 all0
          replace K1 := K1.trans Kc793 all0
          clear Kc793
          show own_Go p e below s _ _ _ (T738.setTop (mkF m 282 #[iv p1, iv p2, iv p3, iv p4, iv p5, iv (4 : Int32), iv uz, rv wy, rv sb1_, rv sb2_, rv sb3_, rv sb4_, rv ls, ya, yb, yc, yd, iv (4 : Int32), iv (3 : Int32), .unset] [(.ref w781)]))
          exact sg_s282_3 hw hO p1 p2 p3 p4 p5 (4 : Int32) sb1_ sb2_ sb3_ sb4_ ls w781 (iv uz : Slot) (rv wy : Slot) (iv (4 : Int32) : Slot) (ya : Slot) (yb : Slot) (yc : Slot) (yd : Slot) w782 w783 h0 T738.heap X738 hx hby hml hret hlk hZ hown hnm (rfl : T738.heap = T738.heap) N0 O0 K0 (g0.keep K1) (g1.keep K1 nin0) f789 f790 f791 f792 (by omega) (by omega)
      · obtain ⟨rfl, Nc800, hp798, Kc799⟩ := hQ734
        refine own_go st734 ?_
        clear st734 X0 e0
        replace N0 := Fr.app N0 Nc800
        clear Nc800
        exact absurd (by decide : (0 : Int32) < (3 : Int32)) hp798
set_option maxRecDepth 65536 in
set_option maxHeartbeats 40000000 in
theorem sg_s215 {l : Launch} {Z : State} {a0 : Array Value} (hw : own_W Z a0) {zc : Int32} {wd : Addr} {kd : ClassId} {wx : Addr} {wy : Addr} {wsp : Addr} {wspv : Addr} {wspk : ClassId} (hO : own_Olds Z zc wd kd wx wy wsp wspv wspk) {p : Program} {e : Env} {s : State} {m : MethodId} {args : Array Value} {below : List Frame} {meth : Method} {c : Code} {T : State} {locs : List Loc} {cells slots : Nat} (p1 : Int32) (p2 : Int32) (p3 : Int32) (p4 : Int32) (p5 : Int32) (nn : Int32) (uz : Int32) (wa : Addr) (sb1_ : Addr) (sb2_ : Addr) (sb3_ : Addr) (sb4_ : Addr) (ls : Addr) (sva : Int32) (svb : Int32) (svc : Int32) (svd : Int32) (h0 hs1 : Heap)
    (X0 : Stand p l e room_1 s m args below meth c T locs cells slots) (hx : p.tables.exec = Jvm.exec) (hby : c.code = code) (hml : c.maxLocals = 20) (hret : meth.sig.returnType = some .boolean) (hlk : meth.locks = false) (hZ : Z.Warmed39 s.vm) (hown : s.vm.findClass "com/example/padlock/padlock/lock/AccessAnnouncedPinLaw" = some m.cls) (hnm : meth.name = "law") (e0 : T.heap = hs1) (N0 : Fr Z.heap.size locs) (O0 : Ext Z.heap hs1) (K0 : Keep h0 hs1 []) (fp0 : own_LS Z wd hs1 ls nn sb1_ sb2_ sb3_ sb4_) (fp1 : own_4 Z hs1 sb1_ sb2_ sb3_ sb4_ p1 p2 p3 p4) (hacc : own_Acc uz wa wx wy) (hB1 : own_B sva ((0 : Int32) < nn ∧ own_Sp p1)) (hB2 : own_B svb ((1 : Int32) < nn ∧ own_Sp p2)) (hB3 : own_B svc ((2 : Int32) < nn ∧ own_Sp p3)) (hB4 : own_B svd ((3 : Int32) < nn ∧ own_Sp p4)) (hcells : cells ≤ 40) (hslots : slots ≤ 289) :
    own_Go p e below s (Q_law Z zc wd kd wx wy wsp wspv wspk p1 p2 p3 p4 p5 h0) room_1.cells room_1.slots (T.setTop (mkF m 215 #[iv p1, iv p2, iv p3, iv p4, iv p5, iv nn, iv uz, rv wa, rv sb1_, rv sb2_, rv sb3_, rv sb4_, rv ls, iv sva, iv svb, iv svc, .unset, .unset, .unset, .unset] [(.int svd)])) := by
  obtain ⟨oCS, oCz, oDE, oDV, oEx, oSh, oE1, oE2, oPF, oSPE, oSPC, oSPF, oSPV, oNe⟩ := id hO
  have K1 := Keep.refl hs1 []
  show own_Go p e below s _ _ _ (T.setTop (mkF m 215 #[iv p1, iv p2, iv p3, iv p4, iv p5, iv nn, iv uz, rv wa, rv sb1_, rv sb2_, rv sb3_, rv sb4_, rv ls, iv sva, iv svb, iv svc, .unset, .unset, .unset, .unset] [(.int svd)]))
  refine own_go (fun _ k => XS.istore X0.here hx rfl (hb hby at_215) rfl (l' := #[iv p1, iv p2, iv p3, iv p4, iv p5, iv nn, iv uz, rv wa, rv sb1_, rv sb2_, rv sb3_, rv sb4_, rv ls, iv sva, iv svb, iv svc, iv svd, .unset, .unset, .unset]) rfl (XS.iload X0.here hx rfl (hb hby at_217) rfl k)) ?_
  by_cases hc801 : sva = (0 : Int32)
  · refine own_go (fun _ k => XS.ifYes X0.here hx rfl (pc0 := 219) (pc' := 253) rfl (hb hby at_219) rfl ((if0 _ _).trans (teq hc801).1) (by decide) (by decide) k) ?_
    show own_Go p e below s _ _ _ (T.setTop (mkF m 253 #[iv p1, iv p2, iv p3, iv p4, iv p5, iv nn, iv uz, rv wa, rv sb1_, rv sb2_, rv sb3_, rv sb4_, rv ls, iv sva, iv svb, iv svc, iv svd, .unset, .unset, .unset] []))
    refine own_go (fun _ k => XS.iconst X0.here hx rfl (hb hby at_253) k) ?_
    show own_Go p e below s _ _ _ (T.setTop (mkF m 254 #[iv p1, iv p2, iv p3, iv p4, iv p5, iv nn, iv uz, rv wa, rv sb1_, rv sb2_, rv sb3_, rv sb4_, rv ls, iv sva, iv svb, iv svc, iv svd, .unset, .unset, .unset] [(.int (0 : Int32))]))
    exact sg_s254_0 hw hO p1 p2 p3 p4 p5 nn uz wa sb1_ sb2_ sb3_ sb4_ ls (iv sva : Slot) (iv svb : Slot) (iv svc : Slot) (iv svd : Slot) h0 hs1 X0 hx hby hml hret hlk hZ hown hnm e0 N0 O0 K0 (own_LSkeep fp0 K1) (own_4keep fp1 K1) hacc (own_BF hB1 hc801) (by omega) (by omega)
  · refine own_go (fun _ k => XS.ifNo X0.here hx rfl (hb hby at_219) rfl ((if0 _ _).trans (feq hc801).1) k) ?_
    show own_Go p e below s _ _ _ (T.setTop (mkF m 222 #[iv p1, iv p2, iv p3, iv p4, iv p5, iv nn, iv uz, rv wa, rv sb1_, rv sb2_, rv sb3_, rv sb4_, rv ls, iv sva, iv svb, iv svc, iv svd, .unset, .unset, .unset] []))
    refine own_go (fun _ k => XS.iload X0.here hx rfl (hb hby at_222) rfl k) ?_
    by_cases hc802 : svb = (0 : Int32)
    · refine own_go (fun _ k => XS.ifYes X0.here hx rfl (pc0 := 224) (pc' := 249) rfl (hb hby at_224) rfl ((if0 _ _).trans (teq hc802).1) (by decide) (by decide) k) ?_
      show own_Go p e below s _ _ _ (T.setTop (mkF m 249 #[iv p1, iv p2, iv p3, iv p4, iv p5, iv nn, iv uz, rv wa, rv sb1_, rv sb2_, rv sb3_, rv sb4_, rv ls, iv sva, iv svb, iv svc, iv svd, .unset, .unset, .unset] []))
      refine own_go (fun _ k => XS.iconst X0.here hx rfl (hb hby at_249) (XS.goto X0.here hx rfl (pc0 := 250) (pc' := 254) rfl (hb hby at_250) (by decide) (by decide) k)) ?_
      show own_Go p e below s _ _ _ (T.setTop (mkF m 254 #[iv p1, iv p2, iv p3, iv p4, iv p5, iv nn, iv uz, rv wa, rv sb1_, rv sb2_, rv sb3_, rv sb4_, rv ls, iv sva, iv svb, iv svc, iv svd, .unset, .unset, .unset] [(.int (1 : Int32))]))
      exact sg_s254_1 hw hO p1 p2 p3 p4 p5 nn uz wa sb1_ sb2_ sb3_ sb4_ ls (iv sva : Slot) (iv svb : Slot) (iv svc : Slot) (iv svd : Slot) h0 hs1 X0 hx hby hml hret hlk hZ hown hnm e0 N0 O0 K0 (own_LSkeep fp0 K1) (own_4keep fp1 K1) hacc (own_BT hB1 hc801) (own_BF hB2 hc802) (by omega) (by omega)
    · refine own_go (fun _ k => XS.ifNo X0.here hx rfl (hb hby at_224) rfl ((if0 _ _).trans (feq hc802).1) k) ?_
      show own_Go p e below s _ _ _ (T.setTop (mkF m 227 #[iv p1, iv p2, iv p3, iv p4, iv p5, iv nn, iv uz, rv wa, rv sb1_, rv sb2_, rv sb3_, rv sb4_, rv ls, iv sva, iv svb, iv svc, iv svd, .unset, .unset, .unset] []))
      refine own_go (fun _ k => XS.iload X0.here hx rfl (hb hby at_227) rfl k) ?_
      by_cases hc803 : svc = (0 : Int32)
      · refine own_go (fun _ k => XS.ifYes X0.here hx rfl (pc0 := 229) (pc' := 245) rfl (hb hby at_229) rfl ((if0 _ _).trans (teq hc803).1) (by decide) (by decide) k) ?_
        show own_Go p e below s _ _ _ (T.setTop (mkF m 245 #[iv p1, iv p2, iv p3, iv p4, iv p5, iv nn, iv uz, rv wa, rv sb1_, rv sb2_, rv sb3_, rv sb4_, rv ls, iv sva, iv svb, iv svc, iv svd, .unset, .unset, .unset] []))
        refine own_go (fun _ k => XS.iconst X0.here hx rfl (hb hby at_245) (XS.goto X0.here hx rfl (pc0 := 246) (pc' := 254) rfl (hb hby at_246) (by decide) (by decide) k)) ?_
        show own_Go p e below s _ _ _ (T.setTop (mkF m 254 #[iv p1, iv p2, iv p3, iv p4, iv p5, iv nn, iv uz, rv wa, rv sb1_, rv sb2_, rv sb3_, rv sb4_, rv ls, iv sva, iv svb, iv svc, iv svd, .unset, .unset, .unset] [(.int (2 : Int32))]))
        exact sg_s254_2 hw hO p1 p2 p3 p4 p5 nn uz wa sb1_ sb2_ sb3_ sb4_ ls (iv sva : Slot) (iv svb : Slot) (iv svc : Slot) (iv svd : Slot) h0 hs1 X0 hx hby hml hret hlk hZ hown hnm e0 N0 O0 K0 (own_LSkeep fp0 K1) (own_4keep fp1 K1) hacc (own_BT hB1 hc801) (own_BT hB2 hc802) (own_BF hB3 hc803) (by omega) (by omega)
      · refine own_go (fun _ k => XS.ifNo X0.here hx rfl (hb hby at_229) rfl ((if0 _ _).trans (feq hc803).1) k) ?_
        show own_Go p e below s _ _ _ (T.setTop (mkF m 232 #[iv p1, iv p2, iv p3, iv p4, iv p5, iv nn, iv uz, rv wa, rv sb1_, rv sb2_, rv sb3_, rv sb4_, rv ls, iv sva, iv svb, iv svc, iv svd, .unset, .unset, .unset] []))
        refine own_go (fun _ k => XS.iload X0.here hx rfl (hb hby at_232) rfl k) ?_
        by_cases hc804 : svd = (0 : Int32)
        · refine own_go (fun _ k => XS.ifYes X0.here hx rfl (pc0 := 234) (pc' := 241) rfl (hb hby at_234) rfl ((if0 _ _).trans (teq hc804).1) (by decide) (by decide) k) ?_
          show own_Go p e below s _ _ _ (T.setTop (mkF m 241 #[iv p1, iv p2, iv p3, iv p4, iv p5, iv nn, iv uz, rv wa, rv sb1_, rv sb2_, rv sb3_, rv sb4_, rv ls, iv sva, iv svb, iv svc, iv svd, .unset, .unset, .unset] []))
          refine own_go (fun _ k => XS.iconst X0.here hx rfl (hb hby at_241) (XS.goto X0.here hx rfl (pc0 := 242) (pc' := 254) rfl (hb hby at_242) (by decide) (by decide) k)) ?_
          show own_Go p e below s _ _ _ (T.setTop (mkF m 254 #[iv p1, iv p2, iv p3, iv p4, iv p5, iv nn, iv uz, rv wa, rv sb1_, rv sb2_, rv sb3_, rv sb4_, rv ls, iv sva, iv svb, iv svc, iv svd, .unset, .unset, .unset] [(.int (3 : Int32))]))
          exact sg_s254_3 hw hO p1 p2 p3 p4 p5 nn uz wa sb1_ sb2_ sb3_ sb4_ ls (iv sva : Slot) (iv svb : Slot) (iv svc : Slot) (iv svd : Slot) h0 hs1 X0 hx hby hml hret hlk hZ hown hnm e0 N0 O0 K0 (own_LSkeep fp0 K1) (own_4keep fp1 K1) hacc (own_BT hB1 hc801) (own_BT hB2 hc802) (own_BT hB3 hc803) (own_BF hB4 hc804) (by omega) (by omega)
        · refine own_go (fun _ k => XS.ifNo X0.here hx rfl (hb hby at_234) rfl ((if0 _ _).trans (feq hc804).1) k) ?_
          show own_Go p e below s _ _ _ (T.setTop (mkF m 237 #[iv p1, iv p2, iv p3, iv p4, iv p5, iv nn, iv uz, rv wa, rv sb1_, rv sb2_, rv sb3_, rv sb4_, rv ls, iv sva, iv svb, iv svc, iv svd, .unset, .unset, .unset] []))
          refine own_go (fun _ k => XS.iconst X0.here hx rfl (hb hby at_237) (XS.goto X0.here hx rfl (pc0 := 238) (pc' := 254) rfl (hb hby at_238) (by decide) (by decide) k)) ?_
          show own_Go p e below s _ _ _ (T.setTop (mkF m 254 #[iv p1, iv p2, iv p3, iv p4, iv p5, iv nn, iv uz, rv wa, rv sb1_, rv sb2_, rv sb3_, rv sb4_, rv ls, iv sva, iv svb, iv svc, iv svd, .unset, .unset, .unset] [(.int (4 : Int32))]))
          exact sg_s254_4 hw hO p1 p2 p3 p4 p5 nn uz wa sb1_ sb2_ sb3_ sb4_ ls (iv sva : Slot) (iv svb : Slot) (iv svc : Slot) (iv svd : Slot) h0 hs1 X0 hx hby hml hret hlk hZ hown hnm e0 N0 O0 K0 (own_LSkeep fp0 K1) (own_4keep fp1 K1) hacc (own_BT hB1 hc801) (own_BT hB2 hc802) (own_BT hB3 hc803) (own_BT hB4 hc804) (by omega) (by omega)
set_option maxRecDepth 65536 in
set_option maxHeartbeats 40000000 in
theorem sg_s195 {l : Launch} {Z : State} {a0 : Array Value} (hw : own_W Z a0) {zc : Int32} {wd : Addr} {kd : ClassId} {wx : Addr} {wy : Addr} {wsp : Addr} {wspv : Addr} {wspk : ClassId} (hO : own_Olds Z zc wd kd wx wy wsp wspv wspk) {p : Program} {e : Env} {s : State} {m : MethodId} {args : Array Value} {below : List Frame} {meth : Method} {c : Code} {T : State} {locs : List Loc} {cells slots : Nat} (p1 : Int32) (p2 : Int32) (p3 : Int32) (p4 : Int32) (p5 : Int32) (nn : Int32) (uz : Int32) (wa : Addr) (sb1_ : Addr) (sb2_ : Addr) (sb3_ : Addr) (sb4_ : Addr) (ls : Addr) (sva : Int32) (svb : Int32) (svc : Int32) (h0 hs1 : Heap)
    (X0 : Stand p l e room_1 s m args below meth c T locs cells slots) (hx : p.tables.exec = Jvm.exec) (hby : c.code = code) (hml : c.maxLocals = 20) (hret : meth.sig.returnType = some .boolean) (hlk : meth.locks = false) (hZ : Z.Warmed39 s.vm) (hown : s.vm.findClass "com/example/padlock/padlock/lock/AccessAnnouncedPinLaw" = some m.cls) (hnm : meth.name = "law") (e0 : T.heap = hs1) (N0 : Fr Z.heap.size locs) (O0 : Ext Z.heap hs1) (K0 : Keep h0 hs1 []) (fp0 : own_LS Z wd hs1 ls nn sb1_ sb2_ sb3_ sb4_) (fp1 : own_4 Z hs1 sb1_ sb2_ sb3_ sb4_ p1 p2 p3 p4) (hacc : own_Acc uz wa wx wy) (hB1 : own_B sva ((0 : Int32) < nn ∧ own_Sp p1)) (hB2 : own_B svb ((1 : Int32) < nn ∧ own_Sp p2)) (hB3 : own_B svc ((2 : Int32) < nn ∧ own_Sp p3)) (hcells : cells ≤ 39) (hslots : slots ≤ 282) :
    own_Go p e below s (Q_law Z zc wd kd wx wy wsp wspv wspk p1 p2 p3 p4 p5 h0) room_1.cells room_1.slots (T.setTop (mkF m 195 #[iv p1, iv p2, iv p3, iv p4, iv p5, iv nn, iv uz, rv wa, rv sb1_, rv sb2_, rv sb3_, rv sb4_, rv ls, iv sva, iv svb, .unset, .unset, .unset, .unset, .unset] [(.int svc)])) := by
  obtain ⟨oCS, oCz, oDE, oDV, oEx, oSh, oE1, oE2, oPF, oSPE, oSPC, oSPF, oSPV, oNe⟩ := id hO
  have K1 := Keep.refl hs1 []
  show own_Go p e below s _ _ _ (T.setTop (mkF m 195 #[iv p1, iv p2, iv p3, iv p4, iv p5, iv nn, iv uz, rv wa, rv sb1_, rv sb2_, rv sb3_, rv sb4_, rv ls, iv sva, iv svb, .unset, .unset, .unset, .unset, .unset] [(.int svc)]))
  refine own_go (fun _ k => XS.istore X0.here hx rfl (hb hby at_195) rfl (l' := #[iv p1, iv p2, iv p3, iv p4, iv p5, iv nn, iv uz, rv wa, rv sb1_, rv sb2_, rv sb3_, rv sb4_, rv ls, iv sva, iv svb, iv svc, .unset, .unset, .unset, .unset]) rfl (XS.iload X0.here hx rfl (hb hby at_197) rfl (XS.iconst X0.here hx rfl (hb hby at_199) k))) ?_
  by_cases hc805 : (3 : Int32) < nn
  · refine own_go (fun _ k => XS.icmpNo X0.here hx rfl (hb hby at_200) rfl (tlt hc805).2.2.2 k) ?_
    show own_Go p e below s _ _ _ (T.setTop (mkF m 203 #[iv p1, iv p2, iv p3, iv p4, iv p5, iv nn, iv uz, rv wa, rv sb1_, rv sb2_, rv sb3_, rv sb4_, rv ls, iv sva, iv svb, iv svc, .unset, .unset, .unset, .unset] []))
    refine own_go (fun _ k => XS.iloadN X0.here hx rfl (hb hby at_203) rfl k) ?_
    obtain ⟨v806, T806, L806, X806, hQ806, st806⟩ := own_callS (y := own_y20) X0 hx hZ hown (ow113 hw) (ow114 hw) (ow6 hw) (ow115 hw) (rm_shared l Z a0 hw hO [] p4 hs1 O0) 0 1 7 (by show _ ≤ 48; omega) (by show _ ≤ 320; omega) e0 (g := (mkF m 204 #[iv p1, iv p2, iv p3, iv p4, iv p5, iv nn, iv uz, rv wa, rv sb1_, rv sb2_, rv sb3_, rv sb4_, rv ls, iv sva, iv svb, iv svc, .unset, .unset, .unset, .unset] [(.int p4)])) rfl (by rw [hml]; rfl) [(.int p4)] [] (lenOf own_pd_17 rfl) rfl rfl (hb hby at_204)
    rcases hQ806 with hQ806 | hQ806
    · obtain ⟨rfl, Nc809, hp807, Kc808⟩ := hQ806
      refine own_go st806 ?_
      clear st806 X0 e0
      replace N0 := Fr.app N0 Nc809
      clear Nc809
      replace O0 := own_oldKeep O0 Kc808 all0
      replace K0 := K0.trans Kc808 all0
      replace K1 := K1.trans Kc808 all0
      clear Kc808
      show own_Go p e below s _ _ _ (T806.setTop (mkF m 207 #[iv p1, iv p2, iv p3, iv p4, iv p5, iv nn, iv uz, rv wa, rv sb1_, rv sb2_, rv sb3_, rv sb4_, rv ls, iv sva, iv svb, iv svc, .unset, .unset, .unset, .unset] [(.int (1 : Int32))]))
      refine own_go (fun _ k => XS.ifNo X806.here hx rfl (hb hby at_207) rfl ((if0 _ _).trans (feq (by decide : ¬ ((1 : Int32) = (0 : Int32)))).1) (XS.iconst X806.here hx rfl (hb hby at_210) (XS.goto X806.here hx rfl (pc0 := 211) (pc' := 215) rfl (hb hby at_211) (by decide) (by decide) k))) ?_
      show own_Go p e below s _ _ _ (T806.setTop (mkF m 215 #[iv p1, iv p2, iv p3, iv p4, iv p5, iv nn, iv uz, rv wa, rv sb1_, rv sb2_, rv sb3_, rv sb4_, rv ls, iv sva, iv svb, iv svc, .unset, .unset, .unset, .unset] [(.int (1 : Int32))]))
      exact sg_s215 hw hO p1 p2 p3 p4 p5 nn uz wa sb1_ sb2_ sb3_ sb4_ ls sva svb svc (1 : Int32) h0 T806.heap X806 hx hby hml hret hlk hZ hown hnm (rfl : T806.heap = T806.heap) N0 O0 K0 (own_LSkeep fp0 K1) (own_4keep fp1 K1) hacc hB1 hB2 hB3 (Or.inl ⟨rfl, hc805, hp807⟩) (by omega) (by omega)
    · obtain ⟨rfl, Nc812, hp810, Kc811⟩ := hQ806
      refine own_go st806 ?_
      clear st806 X0 e0
      replace N0 := Fr.app N0 Nc812
      clear Nc812
      replace O0 := own_oldKeep O0 Kc811 all0
      replace K0 := K0.trans Kc811 all0
      replace K1 := K1.trans Kc811 all0
      clear Kc811
      show own_Go p e below s _ _ _ (T806.setTop (mkF m 207 #[iv p1, iv p2, iv p3, iv p4, iv p5, iv nn, iv uz, rv wa, rv sb1_, rv sb2_, rv sb3_, rv sb4_, rv ls, iv sva, iv svb, iv svc, .unset, .unset, .unset, .unset] [(.int (0 : Int32))]))
      refine own_go (fun _ k => XS.ifYes X806.here hx rfl (pc0 := 207) (pc' := 214) rfl (hb hby at_207) rfl ((if0 _ _).trans (teq (by decide : (0 : Int32) = (0 : Int32))).1) (by decide) (by decide) (XS.iconst X806.here hx rfl (hb hby at_214) k)) ?_
      show own_Go p e below s _ _ _ (T806.setTop (mkF m 215 #[iv p1, iv p2, iv p3, iv p4, iv p5, iv nn, iv uz, rv wa, rv sb1_, rv sb2_, rv sb3_, rv sb4_, rv ls, iv sva, iv svb, iv svc, .unset, .unset, .unset, .unset] [(.int (0 : Int32))]))
      exact sg_s215 hw hO p1 p2 p3 p4 p5 nn uz wa sb1_ sb2_ sb3_ sb4_ ls sva svb svc (0 : Int32) h0 T806.heap X806 hx hby hml hret hlk hZ hown hnm (rfl : T806.heap = T806.heap) N0 O0 K0 (own_LSkeep fp0 K1) (own_4keep fp1 K1) hacc hB1 hB2 hB3 (Or.inr ⟨rfl, fun h => hp810 h.2⟩) (by omega) (by omega)
  · refine own_go (fun _ k => XS.icmpYes X0.here hx rfl (pc0 := 200) (pc' := 214) rfl (hb hby at_200) rfl (flt hc805).2.2.2 (by decide) (by decide) k) ?_
    show own_Go p e below s _ _ _ (T.setTop (mkF m 214 #[iv p1, iv p2, iv p3, iv p4, iv p5, iv nn, iv uz, rv wa, rv sb1_, rv sb2_, rv sb3_, rv sb4_, rv ls, iv sva, iv svb, iv svc, .unset, .unset, .unset, .unset] []))
    refine own_go (fun _ k => XS.iconst X0.here hx rfl (hb hby at_214) k) ?_
    show own_Go p e below s _ _ _ (T.setTop (mkF m 215 #[iv p1, iv p2, iv p3, iv p4, iv p5, iv nn, iv uz, rv wa, rv sb1_, rv sb2_, rv sb3_, rv sb4_, rv ls, iv sva, iv svb, iv svc, .unset, .unset, .unset, .unset] [(.int (0 : Int32))]))
    exact sg_s215 hw hO p1 p2 p3 p4 p5 nn uz wa sb1_ sb2_ sb3_ sb4_ ls sva svb svc (0 : Int32) h0 hs1 X0 hx hby hml hret hlk hZ hown hnm e0 N0 O0 K0 (own_LSkeep fp0 K1) (own_4keep fp1 K1) hacc hB1 hB2 hB3 (Or.inr ⟨rfl, fun h => hc805 h.1⟩) (by omega) (by omega)
set_option maxRecDepth 65536 in
set_option maxHeartbeats 40000000 in
theorem sg_s175 {l : Launch} {Z : State} {a0 : Array Value} (hw : own_W Z a0) {zc : Int32} {wd : Addr} {kd : ClassId} {wx : Addr} {wy : Addr} {wsp : Addr} {wspv : Addr} {wspk : ClassId} (hO : own_Olds Z zc wd kd wx wy wsp wspv wspk) {p : Program} {e : Env} {s : State} {m : MethodId} {args : Array Value} {below : List Frame} {meth : Method} {c : Code} {T : State} {locs : List Loc} {cells slots : Nat} (p1 : Int32) (p2 : Int32) (p3 : Int32) (p4 : Int32) (p5 : Int32) (nn : Int32) (uz : Int32) (wa : Addr) (sb1_ : Addr) (sb2_ : Addr) (sb3_ : Addr) (sb4_ : Addr) (ls : Addr) (sva : Int32) (svb : Int32) (h0 hs1 : Heap)
    (X0 : Stand p l e room_1 s m args below meth c T locs cells slots) (hx : p.tables.exec = Jvm.exec) (hby : c.code = code) (hml : c.maxLocals = 20) (hret : meth.sig.returnType = some .boolean) (hlk : meth.locks = false) (hZ : Z.Warmed39 s.vm) (hown : s.vm.findClass "com/example/padlock/padlock/lock/AccessAnnouncedPinLaw" = some m.cls) (hnm : meth.name = "law") (e0 : T.heap = hs1) (N0 : Fr Z.heap.size locs) (O0 : Ext Z.heap hs1) (K0 : Keep h0 hs1 []) (fp0 : own_LS Z wd hs1 ls nn sb1_ sb2_ sb3_ sb4_) (fp1 : own_4 Z hs1 sb1_ sb2_ sb3_ sb4_ p1 p2 p3 p4) (hacc : own_Acc uz wa wx wy) (hB1 : own_B sva ((0 : Int32) < nn ∧ own_Sp p1)) (hB2 : own_B svb ((1 : Int32) < nn ∧ own_Sp p2)) (hcells : cells ≤ 38) (hslots : slots ≤ 275) :
    own_Go p e below s (Q_law Z zc wd kd wx wy wsp wspv wspk p1 p2 p3 p4 p5 h0) room_1.cells room_1.slots (T.setTop (mkF m 175 #[iv p1, iv p2, iv p3, iv p4, iv p5, iv nn, iv uz, rv wa, rv sb1_, rv sb2_, rv sb3_, rv sb4_, rv ls, iv sva, .unset, .unset, .unset, .unset, .unset, .unset] [(.int svb)])) := by
  obtain ⟨oCS, oCz, oDE, oDV, oEx, oSh, oE1, oE2, oPF, oSPE, oSPC, oSPF, oSPV, oNe⟩ := id hO
  have K1 := Keep.refl hs1 []
  show own_Go p e below s _ _ _ (T.setTop (mkF m 175 #[iv p1, iv p2, iv p3, iv p4, iv p5, iv nn, iv uz, rv wa, rv sb1_, rv sb2_, rv sb3_, rv sb4_, rv ls, iv sva, .unset, .unset, .unset, .unset, .unset, .unset] [(.int svb)]))
  refine own_go (fun _ k => XS.istore X0.here hx rfl (hb hby at_175) rfl (l' := #[iv p1, iv p2, iv p3, iv p4, iv p5, iv nn, iv uz, rv wa, rv sb1_, rv sb2_, rv sb3_, rv sb4_, rv ls, iv sva, iv svb, .unset, .unset, .unset, .unset, .unset]) rfl (XS.iload X0.here hx rfl (hb hby at_177) rfl (XS.iconst X0.here hx rfl (hb hby at_179) k))) ?_
  by_cases hc813 : (2 : Int32) < nn
  · refine own_go (fun _ k => XS.icmpNo X0.here hx rfl (hb hby at_180) rfl (tlt hc813).2.2.2 k) ?_
    show own_Go p e below s _ _ _ (T.setTop (mkF m 183 #[iv p1, iv p2, iv p3, iv p4, iv p5, iv nn, iv uz, rv wa, rv sb1_, rv sb2_, rv sb3_, rv sb4_, rv ls, iv sva, iv svb, .unset, .unset, .unset, .unset, .unset] []))
    refine own_go (fun _ k => XS.iloadN X0.here hx rfl (hb hby at_183) rfl k) ?_
    obtain ⟨v814, T814, L814, X814, hQ814, st814⟩ := own_callS (y := own_y20) X0 hx hZ hown (ow113 hw) (ow114 hw) (ow6 hw) (ow115 hw) (rm_shared l Z a0 hw hO [] p3 hs1 O0) 0 1 7 (by show _ ≤ 48; omega) (by show _ ≤ 320; omega) e0 (g := (mkF m 184 #[iv p1, iv p2, iv p3, iv p4, iv p5, iv nn, iv uz, rv wa, rv sb1_, rv sb2_, rv sb3_, rv sb4_, rv ls, iv sva, iv svb, .unset, .unset, .unset, .unset, .unset] [(.int p3)])) rfl (by rw [hml]; rfl) [(.int p3)] [] (lenOf own_pd_17 rfl) rfl rfl (hb hby at_184)
    rcases hQ814 with hQ814 | hQ814
    · obtain ⟨rfl, Nc817, hp815, Kc816⟩ := hQ814
      refine own_go st814 ?_
      clear st814 X0 e0
      replace N0 := Fr.app N0 Nc817
      clear Nc817
      replace O0 := own_oldKeep O0 Kc816 all0
      replace K0 := K0.trans Kc816 all0
      replace K1 := K1.trans Kc816 all0
      clear Kc816
      show own_Go p e below s _ _ _ (T814.setTop (mkF m 187 #[iv p1, iv p2, iv p3, iv p4, iv p5, iv nn, iv uz, rv wa, rv sb1_, rv sb2_, rv sb3_, rv sb4_, rv ls, iv sva, iv svb, .unset, .unset, .unset, .unset, .unset] [(.int (1 : Int32))]))
      refine own_go (fun _ k => XS.ifNo X814.here hx rfl (hb hby at_187) rfl ((if0 _ _).trans (feq (by decide : ¬ ((1 : Int32) = (0 : Int32)))).1) (XS.iconst X814.here hx rfl (hb hby at_190) (XS.goto X814.here hx rfl (pc0 := 191) (pc' := 195) rfl (hb hby at_191) (by decide) (by decide) k))) ?_
      show own_Go p e below s _ _ _ (T814.setTop (mkF m 195 #[iv p1, iv p2, iv p3, iv p4, iv p5, iv nn, iv uz, rv wa, rv sb1_, rv sb2_, rv sb3_, rv sb4_, rv ls, iv sva, iv svb, .unset, .unset, .unset, .unset, .unset] [(.int (1 : Int32))]))
      exact sg_s195 hw hO p1 p2 p3 p4 p5 nn uz wa sb1_ sb2_ sb3_ sb4_ ls sva svb (1 : Int32) h0 T814.heap X814 hx hby hml hret hlk hZ hown hnm (rfl : T814.heap = T814.heap) N0 O0 K0 (own_LSkeep fp0 K1) (own_4keep fp1 K1) hacc hB1 hB2 (Or.inl ⟨rfl, hc813, hp815⟩) (by omega) (by omega)
    · obtain ⟨rfl, Nc820, hp818, Kc819⟩ := hQ814
      refine own_go st814 ?_
      clear st814 X0 e0
      replace N0 := Fr.app N0 Nc820
      clear Nc820
      replace O0 := own_oldKeep O0 Kc819 all0
      replace K0 := K0.trans Kc819 all0
      replace K1 := K1.trans Kc819 all0
      clear Kc819
      show own_Go p e below s _ _ _ (T814.setTop (mkF m 187 #[iv p1, iv p2, iv p3, iv p4, iv p5, iv nn, iv uz, rv wa, rv sb1_, rv sb2_, rv sb3_, rv sb4_, rv ls, iv sva, iv svb, .unset, .unset, .unset, .unset, .unset] [(.int (0 : Int32))]))
      refine own_go (fun _ k => XS.ifYes X814.here hx rfl (pc0 := 187) (pc' := 194) rfl (hb hby at_187) rfl ((if0 _ _).trans (teq (by decide : (0 : Int32) = (0 : Int32))).1) (by decide) (by decide) (XS.iconst X814.here hx rfl (hb hby at_194) k)) ?_
      show own_Go p e below s _ _ _ (T814.setTop (mkF m 195 #[iv p1, iv p2, iv p3, iv p4, iv p5, iv nn, iv uz, rv wa, rv sb1_, rv sb2_, rv sb3_, rv sb4_, rv ls, iv sva, iv svb, .unset, .unset, .unset, .unset, .unset] [(.int (0 : Int32))]))
      exact sg_s195 hw hO p1 p2 p3 p4 p5 nn uz wa sb1_ sb2_ sb3_ sb4_ ls sva svb (0 : Int32) h0 T814.heap X814 hx hby hml hret hlk hZ hown hnm (rfl : T814.heap = T814.heap) N0 O0 K0 (own_LSkeep fp0 K1) (own_4keep fp1 K1) hacc hB1 hB2 (Or.inr ⟨rfl, fun h => hp818 h.2⟩) (by omega) (by omega)
  · refine own_go (fun _ k => XS.icmpYes X0.here hx rfl (pc0 := 180) (pc' := 194) rfl (hb hby at_180) rfl (flt hc813).2.2.2 (by decide) (by decide) k) ?_
    show own_Go p e below s _ _ _ (T.setTop (mkF m 194 #[iv p1, iv p2, iv p3, iv p4, iv p5, iv nn, iv uz, rv wa, rv sb1_, rv sb2_, rv sb3_, rv sb4_, rv ls, iv sva, iv svb, .unset, .unset, .unset, .unset, .unset] []))
    refine own_go (fun _ k => XS.iconst X0.here hx rfl (hb hby at_194) k) ?_
    show own_Go p e below s _ _ _ (T.setTop (mkF m 195 #[iv p1, iv p2, iv p3, iv p4, iv p5, iv nn, iv uz, rv wa, rv sb1_, rv sb2_, rv sb3_, rv sb4_, rv ls, iv sva, iv svb, .unset, .unset, .unset, .unset, .unset] [(.int (0 : Int32))]))
    exact sg_s195 hw hO p1 p2 p3 p4 p5 nn uz wa sb1_ sb2_ sb3_ sb4_ ls sva svb (0 : Int32) h0 hs1 X0 hx hby hml hret hlk hZ hown hnm e0 N0 O0 K0 (own_LSkeep fp0 K1) (own_4keep fp1 K1) hacc hB1 hB2 (Or.inr ⟨rfl, fun h => hc813 h.1⟩) (by omega) (by omega)
set_option maxRecDepth 65536 in
set_option maxHeartbeats 40000000 in
theorem sg_s155 {l : Launch} {Z : State} {a0 : Array Value} (hw : own_W Z a0) {zc : Int32} {wd : Addr} {kd : ClassId} {wx : Addr} {wy : Addr} {wsp : Addr} {wspv : Addr} {wspk : ClassId} (hO : own_Olds Z zc wd kd wx wy wsp wspv wspk) {p : Program} {e : Env} {s : State} {m : MethodId} {args : Array Value} {below : List Frame} {meth : Method} {c : Code} {T : State} {locs : List Loc} {cells slots : Nat} (p1 : Int32) (p2 : Int32) (p3 : Int32) (p4 : Int32) (p5 : Int32) (nn : Int32) (uz : Int32) (wa : Addr) (sb1_ : Addr) (sb2_ : Addr) (sb3_ : Addr) (sb4_ : Addr) (ls : Addr) (sva : Int32) (h0 hs1 : Heap)
    (X0 : Stand p l e room_1 s m args below meth c T locs cells slots) (hx : p.tables.exec = Jvm.exec) (hby : c.code = code) (hml : c.maxLocals = 20) (hret : meth.sig.returnType = some .boolean) (hlk : meth.locks = false) (hZ : Z.Warmed39 s.vm) (hown : s.vm.findClass "com/example/padlock/padlock/lock/AccessAnnouncedPinLaw" = some m.cls) (hnm : meth.name = "law") (e0 : T.heap = hs1) (N0 : Fr Z.heap.size locs) (O0 : Ext Z.heap hs1) (K0 : Keep h0 hs1 []) (fp0 : own_LS Z wd hs1 ls nn sb1_ sb2_ sb3_ sb4_) (fp1 : own_4 Z hs1 sb1_ sb2_ sb3_ sb4_ p1 p2 p3 p4) (hacc : own_Acc uz wa wx wy) (hB1 : own_B sva ((0 : Int32) < nn ∧ own_Sp p1)) (hcells : cells ≤ 37) (hslots : slots ≤ 268) :
    own_Go p e below s (Q_law Z zc wd kd wx wy wsp wspv wspk p1 p2 p3 p4 p5 h0) room_1.cells room_1.slots (T.setTop (mkF m 155 #[iv p1, iv p2, iv p3, iv p4, iv p5, iv nn, iv uz, rv wa, rv sb1_, rv sb2_, rv sb3_, rv sb4_, rv ls, .unset, .unset, .unset, .unset, .unset, .unset, .unset] [(.int sva)])) := by
  obtain ⟨oCS, oCz, oDE, oDV, oEx, oSh, oE1, oE2, oPF, oSPE, oSPC, oSPF, oSPV, oNe⟩ := id hO
  have K1 := Keep.refl hs1 []
  show own_Go p e below s _ _ _ (T.setTop (mkF m 155 #[iv p1, iv p2, iv p3, iv p4, iv p5, iv nn, iv uz, rv wa, rv sb1_, rv sb2_, rv sb3_, rv sb4_, rv ls, .unset, .unset, .unset, .unset, .unset, .unset, .unset] [(.int sva)]))
  refine own_go (fun _ k => XS.istore X0.here hx rfl (hb hby at_155) rfl (l' := #[iv p1, iv p2, iv p3, iv p4, iv p5, iv nn, iv uz, rv wa, rv sb1_, rv sb2_, rv sb3_, rv sb4_, rv ls, iv sva, .unset, .unset, .unset, .unset, .unset, .unset]) rfl (XS.iload X0.here hx rfl (hb hby at_157) rfl (XS.iconst X0.here hx rfl (hb hby at_159) k))) ?_
  by_cases hc821 : (1 : Int32) < nn
  · refine own_go (fun _ k => XS.icmpNo X0.here hx rfl (hb hby at_160) rfl (tlt hc821).2.2.2 k) ?_
    show own_Go p e below s _ _ _ (T.setTop (mkF m 163 #[iv p1, iv p2, iv p3, iv p4, iv p5, iv nn, iv uz, rv wa, rv sb1_, rv sb2_, rv sb3_, rv sb4_, rv ls, iv sva, .unset, .unset, .unset, .unset, .unset, .unset] []))
    refine own_go (fun _ k => XS.iloadN X0.here hx rfl (hb hby at_163) rfl k) ?_
    obtain ⟨v822, T822, L822, X822, hQ822, st822⟩ := own_callS (y := own_y20) X0 hx hZ hown (ow113 hw) (ow114 hw) (ow6 hw) (ow115 hw) (rm_shared l Z a0 hw hO [] p2 hs1 O0) 0 1 7 (by show _ ≤ 48; omega) (by show _ ≤ 320; omega) e0 (g := (mkF m 164 #[iv p1, iv p2, iv p3, iv p4, iv p5, iv nn, iv uz, rv wa, rv sb1_, rv sb2_, rv sb3_, rv sb4_, rv ls, iv sva, .unset, .unset, .unset, .unset, .unset, .unset] [(.int p2)])) rfl (by rw [hml]; rfl) [(.int p2)] [] (lenOf own_pd_17 rfl) rfl rfl (hb hby at_164)
    rcases hQ822 with hQ822 | hQ822
    · obtain ⟨rfl, Nc825, hp823, Kc824⟩ := hQ822
      refine own_go st822 ?_
      clear st822 X0 e0
      replace N0 := Fr.app N0 Nc825
      clear Nc825
      replace O0 := own_oldKeep O0 Kc824 all0
      replace K0 := K0.trans Kc824 all0
      replace K1 := K1.trans Kc824 all0
      clear Kc824
      show own_Go p e below s _ _ _ (T822.setTop (mkF m 167 #[iv p1, iv p2, iv p3, iv p4, iv p5, iv nn, iv uz, rv wa, rv sb1_, rv sb2_, rv sb3_, rv sb4_, rv ls, iv sva, .unset, .unset, .unset, .unset, .unset, .unset] [(.int (1 : Int32))]))
      refine own_go (fun _ k => XS.ifNo X822.here hx rfl (hb hby at_167) rfl ((if0 _ _).trans (feq (by decide : ¬ ((1 : Int32) = (0 : Int32)))).1) (XS.iconst X822.here hx rfl (hb hby at_170) (XS.goto X822.here hx rfl (pc0 := 171) (pc' := 175) rfl (hb hby at_171) (by decide) (by decide) k))) ?_
      show own_Go p e below s _ _ _ (T822.setTop (mkF m 175 #[iv p1, iv p2, iv p3, iv p4, iv p5, iv nn, iv uz, rv wa, rv sb1_, rv sb2_, rv sb3_, rv sb4_, rv ls, iv sva, .unset, .unset, .unset, .unset, .unset, .unset] [(.int (1 : Int32))]))
      exact sg_s175 hw hO p1 p2 p3 p4 p5 nn uz wa sb1_ sb2_ sb3_ sb4_ ls sva (1 : Int32) h0 T822.heap X822 hx hby hml hret hlk hZ hown hnm (rfl : T822.heap = T822.heap) N0 O0 K0 (own_LSkeep fp0 K1) (own_4keep fp1 K1) hacc hB1 (Or.inl ⟨rfl, hc821, hp823⟩) (by omega) (by omega)
    · obtain ⟨rfl, Nc828, hp826, Kc827⟩ := hQ822
      refine own_go st822 ?_
      clear st822 X0 e0
      replace N0 := Fr.app N0 Nc828
      clear Nc828
      replace O0 := own_oldKeep O0 Kc827 all0
      replace K0 := K0.trans Kc827 all0
      replace K1 := K1.trans Kc827 all0
      clear Kc827
      show own_Go p e below s _ _ _ (T822.setTop (mkF m 167 #[iv p1, iv p2, iv p3, iv p4, iv p5, iv nn, iv uz, rv wa, rv sb1_, rv sb2_, rv sb3_, rv sb4_, rv ls, iv sva, .unset, .unset, .unset, .unset, .unset, .unset] [(.int (0 : Int32))]))
      refine own_go (fun _ k => XS.ifYes X822.here hx rfl (pc0 := 167) (pc' := 174) rfl (hb hby at_167) rfl ((if0 _ _).trans (teq (by decide : (0 : Int32) = (0 : Int32))).1) (by decide) (by decide) (XS.iconst X822.here hx rfl (hb hby at_174) k)) ?_
      show own_Go p e below s _ _ _ (T822.setTop (mkF m 175 #[iv p1, iv p2, iv p3, iv p4, iv p5, iv nn, iv uz, rv wa, rv sb1_, rv sb2_, rv sb3_, rv sb4_, rv ls, iv sva, .unset, .unset, .unset, .unset, .unset, .unset] [(.int (0 : Int32))]))
      exact sg_s175 hw hO p1 p2 p3 p4 p5 nn uz wa sb1_ sb2_ sb3_ sb4_ ls sva (0 : Int32) h0 T822.heap X822 hx hby hml hret hlk hZ hown hnm (rfl : T822.heap = T822.heap) N0 O0 K0 (own_LSkeep fp0 K1) (own_4keep fp1 K1) hacc hB1 (Or.inr ⟨rfl, fun h => hp826 h.2⟩) (by omega) (by omega)
  · refine own_go (fun _ k => XS.icmpYes X0.here hx rfl (pc0 := 160) (pc' := 174) rfl (hb hby at_160) rfl (flt hc821).2.2.2 (by decide) (by decide) k) ?_
    show own_Go p e below s _ _ _ (T.setTop (mkF m 174 #[iv p1, iv p2, iv p3, iv p4, iv p5, iv nn, iv uz, rv wa, rv sb1_, rv sb2_, rv sb3_, rv sb4_, rv ls, iv sva, .unset, .unset, .unset, .unset, .unset, .unset] []))
    refine own_go (fun _ k => XS.iconst X0.here hx rfl (hb hby at_174) k) ?_
    show own_Go p e below s _ _ _ (T.setTop (mkF m 175 #[iv p1, iv p2, iv p3, iv p4, iv p5, iv nn, iv uz, rv wa, rv sb1_, rv sb2_, rv sb3_, rv sb4_, rv ls, iv sva, .unset, .unset, .unset, .unset, .unset, .unset] [(.int (0 : Int32))]))
    exact sg_s175 hw hO p1 p2 p3 p4 p5 nn uz wa sb1_ sb2_ sb3_ sb4_ ls sva (0 : Int32) h0 hs1 X0 hx hby hml hret hlk hZ hown hnm e0 N0 O0 K0 (own_LSkeep fp0 K1) (own_4keep fp1 K1) hacc hB1 (Or.inr ⟨rfl, fun h => hc821 h.1⟩) (by omega) (by omega)
set_option maxRecDepth 65536 in
set_option maxHeartbeats 40000000 in
theorem sg_s138 {l : Launch} {Z : State} {a0 : Array Value} (hw : own_W Z a0) {zc : Int32} {wd : Addr} {kd : ClassId} {wx : Addr} {wy : Addr} {wsp : Addr} {wspv : Addr} {wspk : ClassId} (hO : own_Olds Z zc wd kd wx wy wsp wspv wspk) {p : Program} {e : Env} {s : State} {m : MethodId} {args : Array Value} {below : List Frame} {meth : Method} {c : Code} {T : State} {locs : List Loc} {cells slots : Nat} (p1 : Int32) (p2 : Int32) (p3 : Int32) (p4 : Int32) (p5 : Int32) (nn : Int32) (uz : Int32) (wa : Addr) (sb1_ : Addr) (sb2_ : Addr) (sb3_ : Addr) (sb4_ : Addr) (ls : Addr) (h0 hs1 : Heap)
    (X0 : Stand p l e room_1 s m args below meth c T locs cells slots) (hx : p.tables.exec = Jvm.exec) (hby : c.code = code) (hml : c.maxLocals = 20) (hret : meth.sig.returnType = some .boolean) (hlk : meth.locks = false) (hZ : Z.Warmed39 s.vm) (hown : s.vm.findClass "com/example/padlock/padlock/lock/AccessAnnouncedPinLaw" = some m.cls) (hnm : meth.name = "law") (e0 : T.heap = hs1) (N0 : Fr Z.heap.size locs) (O0 : Ext Z.heap hs1) (K0 : Keep h0 hs1 []) (fp0 : own_LS Z wd hs1 ls nn sb1_ sb2_ sb3_ sb4_) (fp1 : own_4 Z hs1 sb1_ sb2_ sb3_ sb4_ p1 p2 p3 p4) (hacc : own_Acc uz wa wx wy) (hcells : cells ≤ 36) (hslots : slots ≤ 260) :
    own_Go p e below s (Q_law Z zc wd kd wx wy wsp wspv wspk p1 p2 p3 p4 p5 h0) room_1.cells room_1.slots (T.setTop (mkF m 138 #[iv p1, iv p2, iv p3, iv p4, iv p5, iv nn, iv uz, rv wa, rv sb1_, rv sb2_, rv sb3_, rv sb4_, rv ls, .unset, .unset, .unset, .unset, .unset, .unset, .unset] [])) := by
  obtain ⟨oCS, oCz, oDE, oDV, oEx, oSh, oE1, oE2, oPF, oSPE, oSPC, oSPF, oSPV, oNe⟩ := id hO
  have K1 := Keep.refl hs1 []
  show own_Go p e below s _ _ _ (T.setTop (mkF m 138 #[iv p1, iv p2, iv p3, iv p4, iv p5, iv nn, iv uz, rv wa, rv sb1_, rv sb2_, rv sb3_, rv sb4_, rv ls, .unset, .unset, .unset, .unset, .unset, .unset, .unset] []))
  refine own_go (fun _ k => XS.iload X0.here hx rfl (hb hby at_138) rfl k) ?_
  by_cases hc829 : (0 : Int32) < nn
  · refine own_go (fun _ k => XS.ifNo X0.here hx rfl (hb hby at_140) rfl ((if0 _ _).trans (tlt hc829).2.2.2) k) ?_
    show own_Go p e below s _ _ _ (T.setTop (mkF m 143 #[iv p1, iv p2, iv p3, iv p4, iv p5, iv nn, iv uz, rv wa, rv sb1_, rv sb2_, rv sb3_, rv sb4_, rv ls, .unset, .unset, .unset, .unset, .unset, .unset, .unset] []))
    refine own_go (fun _ k => XS.iloadN X0.here hx rfl (hb hby at_143) rfl k) ?_
    obtain ⟨v830, T830, L830, X830, hQ830, st830⟩ := own_callS (y := own_y20) X0 hx hZ hown (ow113 hw) (ow114 hw) (ow6 hw) (ow115 hw) (rm_shared l Z a0 hw hO [] p1 hs1 O0) 0 1 7 (by show _ ≤ 48; omega) (by show _ ≤ 320; omega) e0 (g := (mkF m 144 #[iv p1, iv p2, iv p3, iv p4, iv p5, iv nn, iv uz, rv wa, rv sb1_, rv sb2_, rv sb3_, rv sb4_, rv ls, .unset, .unset, .unset, .unset, .unset, .unset, .unset] [(.int p1)])) rfl (by rw [hml]; rfl) [(.int p1)] [] (lenOf own_pd_17 rfl) rfl rfl (hb hby at_144)
    rcases hQ830 with hQ830 | hQ830
    · obtain ⟨rfl, Nc833, hp831, Kc832⟩ := hQ830
      refine own_go st830 ?_
      clear st830 X0 e0
      replace N0 := Fr.app N0 Nc833
      clear Nc833
      replace O0 := own_oldKeep O0 Kc832 all0
      replace K0 := K0.trans Kc832 all0
      replace K1 := K1.trans Kc832 all0
      clear Kc832
      show own_Go p e below s _ _ _ (T830.setTop (mkF m 147 #[iv p1, iv p2, iv p3, iv p4, iv p5, iv nn, iv uz, rv wa, rv sb1_, rv sb2_, rv sb3_, rv sb4_, rv ls, .unset, .unset, .unset, .unset, .unset, .unset, .unset] [(.int (1 : Int32))]))
      refine own_go (fun _ k => XS.ifNo X830.here hx rfl (hb hby at_147) rfl ((if0 _ _).trans (feq (by decide : ¬ ((1 : Int32) = (0 : Int32)))).1) (XS.iconst X830.here hx rfl (hb hby at_150) (XS.goto X830.here hx rfl (pc0 := 151) (pc' := 155) rfl (hb hby at_151) (by decide) (by decide) k))) ?_
      show own_Go p e below s _ _ _ (T830.setTop (mkF m 155 #[iv p1, iv p2, iv p3, iv p4, iv p5, iv nn, iv uz, rv wa, rv sb1_, rv sb2_, rv sb3_, rv sb4_, rv ls, .unset, .unset, .unset, .unset, .unset, .unset, .unset] [(.int (1 : Int32))]))
      exact sg_s155 hw hO p1 p2 p3 p4 p5 nn uz wa sb1_ sb2_ sb3_ sb4_ ls (1 : Int32) h0 T830.heap X830 hx hby hml hret hlk hZ hown hnm (rfl : T830.heap = T830.heap) N0 O0 K0 (own_LSkeep fp0 K1) (own_4keep fp1 K1) hacc (Or.inl ⟨rfl, hc829, hp831⟩) (by omega) (by omega)
    · obtain ⟨rfl, Nc836, hp834, Kc835⟩ := hQ830
      refine own_go st830 ?_
      clear st830 X0 e0
      replace N0 := Fr.app N0 Nc836
      clear Nc836
      replace O0 := own_oldKeep O0 Kc835 all0
      replace K0 := K0.trans Kc835 all0
      replace K1 := K1.trans Kc835 all0
      clear Kc835
      show own_Go p e below s _ _ _ (T830.setTop (mkF m 147 #[iv p1, iv p2, iv p3, iv p4, iv p5, iv nn, iv uz, rv wa, rv sb1_, rv sb2_, rv sb3_, rv sb4_, rv ls, .unset, .unset, .unset, .unset, .unset, .unset, .unset] [(.int (0 : Int32))]))
      refine own_go (fun _ k => XS.ifYes X830.here hx rfl (pc0 := 147) (pc' := 154) rfl (hb hby at_147) rfl ((if0 _ _).trans (teq (by decide : (0 : Int32) = (0 : Int32))).1) (by decide) (by decide) (XS.iconst X830.here hx rfl (hb hby at_154) k)) ?_
      show own_Go p e below s _ _ _ (T830.setTop (mkF m 155 #[iv p1, iv p2, iv p3, iv p4, iv p5, iv nn, iv uz, rv wa, rv sb1_, rv sb2_, rv sb3_, rv sb4_, rv ls, .unset, .unset, .unset, .unset, .unset, .unset, .unset] [(.int (0 : Int32))]))
      exact sg_s155 hw hO p1 p2 p3 p4 p5 nn uz wa sb1_ sb2_ sb3_ sb4_ ls (0 : Int32) h0 T830.heap X830 hx hby hml hret hlk hZ hown hnm (rfl : T830.heap = T830.heap) N0 O0 K0 (own_LSkeep fp0 K1) (own_4keep fp1 K1) hacc (Or.inr ⟨rfl, fun h => hp834 h.2⟩) (by omega) (by omega)
  · refine own_go (fun _ k => XS.ifYes X0.here hx rfl (pc0 := 140) (pc' := 154) rfl (hb hby at_140) rfl ((if0 _ _).trans (flt hc829).2.2.2) (by decide) (by decide) k) ?_
    show own_Go p e below s _ _ _ (T.setTop (mkF m 154 #[iv p1, iv p2, iv p3, iv p4, iv p5, iv nn, iv uz, rv wa, rv sb1_, rv sb2_, rv sb3_, rv sb4_, rv ls, .unset, .unset, .unset, .unset, .unset, .unset, .unset] []))
    refine own_go (fun _ k => XS.iconst X0.here hx rfl (hb hby at_154) k) ?_
    show own_Go p e below s _ _ _ (T.setTop (mkF m 155 #[iv p1, iv p2, iv p3, iv p4, iv p5, iv nn, iv uz, rv wa, rv sb1_, rv sb2_, rv sb3_, rv sb4_, rv ls, .unset, .unset, .unset, .unset, .unset, .unset, .unset] [(.int (0 : Int32))]))
    exact sg_s155 hw hO p1 p2 p3 p4 p5 nn uz wa sb1_ sb2_ sb3_ sb4_ ls (0 : Int32) h0 hs1 X0 hx hby hml hret hlk hZ hown hnm e0 N0 O0 K0 (own_LSkeep fp0 K1) (own_4keep fp1 K1) hacc (Or.inr ⟨rfl, fun h => hc829 h.1⟩) (by omega) (by omega)
set_option maxRecDepth 65536 in
set_option maxHeartbeats 40000000 in
theorem sg_s75 {l : Launch} {Z : State} {a0 : Array Value} (hw : own_W Z a0) {zc : Int32} {wd : Addr} {kd : ClassId} {wx : Addr} {wy : Addr} {wsp : Addr} {wspv : Addr} {wspk : ClassId} (hO : own_Olds Z zc wd kd wx wy wsp wspv wspk) {p : Program} {e : Env} {s : State} {m : MethodId} {args : Array Value} {below : List Frame} {meth : Method} {c : Code} {T : State} {locs : List Loc} {cells slots : Nat} (p1 : Int32) (p2 : Int32) (p3 : Int32) (p4 : Int32) (p5 : Int32) (uz : Int32) (wa : Addr) (sb1_ : Addr) (sb2_ : Addr) (sb3_ : Addr) (sb4_ : Addr) (ls : Addr) (mc : Int32) (h0 hs1 : Heap)
    (X0 : Stand p l e room_1 s m args below meth c T locs cells slots) (hx : p.tables.exec = Jvm.exec) (hby : c.code = code) (hml : c.maxLocals = 20) (hret : meth.sig.returnType = some .boolean) (hlk : meth.locks = false) (hZ : Z.Warmed39 s.vm) (hown : s.vm.findClass "com/example/padlock/padlock/lock/AccessAnnouncedPinLaw" = some m.cls) (hnm : meth.name = "law") (e0 : T.heap = hs1) (N0 : Fr Z.heap.size locs) (O0 : Ext Z.heap hs1) (K0 : Keep h0 hs1 []) (fp0 : Exa Z hs1 ls "java/util/ArrayList") (fp1 : Fld Z hs1 ls "java/util/ArrayList" "size" "I" (.int (0 : Int32))) (fp2 : Fld Z hs1 ls "java/util/ArrayList" "elementData" "[Ljava/lang/Object;" (.ref wd)) (fp3 : Fld Z hs1 ls "java/util/AbstractList" "modCount" "I" (.int mc)) (fp4 : Exa Z hs1 sb1_ "java/lang/String") (fp5 : Exa Z hs1 sb2_ "java/lang/String") (fp6 : Exa Z hs1 sb3_ "java/lang/String") (fp7 : Exa Z hs1 sb4_ "java/lang/String") (fp8 : own_NS Z hs1 sb1_ (own_Sp p1)) (fp9 : own_NS Z hs1 sb2_ (own_Sp p2)) (fp10 : own_NS Z hs1 sb3_ (own_Sp p3)) (fp11 : own_NS Z hs1 sb4_ (own_Sp p4)) (big_ls : Z.heap.size ≤ ls) (sz_ls : h0.size ≤ ls) (hacc : own_Acc uz wa wx wy) (hcells : cells ≤ 30) (hslots : slots ≤ 200) :
    own_Go p e below s (Q_law Z zc wd kd wx wy wsp wspv wspk p1 p2 p3 p4 p5 h0) room_1.cells room_1.slots (T.setTop (mkF m 75 #[iv p1, iv p2, iv p3, iv p4, iv p5, iv ((p5 &&& (2147483647 : Int32)) % (5 : Int32)), iv uz, rv wa, rv sb1_, rv sb2_, rv sb3_, rv sb4_, rv ls, .unset, .unset, .unset, .unset, .unset, .unset, .unset] [])) := by
  obtain ⟨oCS, oCz, oDE, oDV, oEx, oSh, oE1, oE2, oPF, oSPE, oSPC, oSPF, oSPV, oNe⟩ := id hO
  have K1 := Keep.refl hs1 [ls]
  have ne837 : sb1_ ≠ ls := (ne_exa fp4 fp0 (by decide))
  have ne838 : sb2_ ≠ ls := (ne_exa fp5 fp0 (by decide))
  have ne839 : sb3_ ≠ ls := (ne_exa fp6 fp0 (by decide))
  have ne840 : sb4_ ≠ ls := (ne_exa fp7 fp0 (by decide))
  have far841 : own_Afar Z hs1 ls := (own_afE fp0 (by decide) (ow39 hw))
  show own_Go p e below s _ _ _ (T.setTop (mkF m 75 #[iv p1, iv p2, iv p3, iv p4, iv p5, iv ((p5 &&& (2147483647 : Int32)) % (5 : Int32)), iv uz, rv wa, rv sb1_, rv sb2_, rv sb3_, rv sb4_, rv ls, .unset, .unset, .unset, .unset, .unset, .unset, .unset] []))
  rcases own_m5 p5 with hn | hn | hn | hn | hn
  · rw [hn]
    clear hn
    show own_Go p e below s _ _ _ (T.setTop (mkF m 75 #[iv p1, iv p2, iv p3, iv p4, iv p5, iv (0 : Int32), iv uz, rv wa, rv sb1_, rv sb2_, rv sb3_, rv sb4_, rv ls, .unset, .unset, .unset, .unset, .unset, .unset, .unset] []))
    show own_Go p e below s _ _ _ (T.setTop (mkF m 75 #[iv p1, iv p2, iv p3, iv p4, iv p5, iv (0 : Int32), iv uz, rv wa, rv sb1_, rv sb2_, rv sb3_, rv sb4_, rv ls, .unset, .unset, .unset, .unset, .unset, .unset, .unset] []))
    refine own_go (fun _ k => XS.iload X0.here hx rfl (hb hby at_75) rfl (XS.ifYes X0.here hx rfl (pc0 := 77) (pc' := 90) rfl (hb hby at_77) rfl ((if0 _ _).trans (flt (by decide : ¬ ((0 : Int32) < (0 : Int32)))).2.2.2) (by decide) (by decide) (XS.iload X0.here hx rfl (hb hby at_90) rfl (XS.iconst X0.here hx rfl (hb hby at_92) (XS.icmpYes X0.here hx rfl (pc0 := 93) (pc' := 106) rfl (hb hby at_93) rfl (flt (by decide : ¬ ((1 : Int32) < (0 : Int32)))).2.2.2 (by decide) (by decide) (XS.iload X0.here hx rfl (hb hby at_106) rfl k)))))) ?_
    refine own_go (fun _ k => XS.iconst X0.here hx rfl (hb hby at_108) (XS.icmpYes X0.here hx rfl (pc0 := 109) (pc' := 122) rfl (hb hby at_109) rfl (flt (by decide : ¬ ((2 : Int32) < (0 : Int32)))).2.2.2 (by decide) (by decide) (XS.iload X0.here hx rfl (hb hby at_122) rfl (XS.iconst X0.here hx rfl (hb hby at_124) (XS.icmpYes X0.here hx rfl (pc0 := 125) (pc' := 138) rfl (hb hby at_125) rfl (flt (by decide : ¬ ((3 : Int32) < (0 : Int32)))).2.2.2 (by decide) (by decide) k))))) ?_
    show own_Go p e below s _ _ _ (T.setTop (mkF m 138 #[iv p1, iv p2, iv p3, iv p4, iv p5, iv (0 : Int32), iv uz, rv wa, rv sb1_, rv sb2_, rv sb3_, rv sb4_, rv ls, .unset, .unset, .unset, .unset, .unset, .unset, .unset] []))
    have ls842 : own_LS Z wd hs1 ls (0 : Int32) sb1_ sb2_ sb3_ sb4_ := Or.inl ⟨rfl, _, fp0, fp1, fp2, fp3⟩
    have f4843 : own_4 Z hs1 sb1_ sb2_ sb3_ sb4_ p1 p2 p3 p4 := ⟨(fp4.keep K1), (fp5.keep K1), (fp6.keep K1), (fp7.keep K1), (own_NSkeep fp8 fp4 K1 (allS far841 all0)), (own_NSkeep fp9 fp5 K1 (allS far841 all0)), (own_NSkeep fp10 fp6 K1 (allS far841 all0)), (own_NSkeep fp11 fp7 K1 (allS far841 all0))⟩
    exact sg_s138 hw hO p1 p2 p3 p4 p5 (0 : Int32) uz wa sb1_ sb2_ sb3_ sb4_ ls h0 hs1 X0 hx hby hml hret hlk hZ hown hnm e0 N0 O0 K0 ls842 f4843 hacc (by omega) (by omega)
  · rw [hn]
    clear hn
    show own_Go p e below s _ _ _ (T.setTop (mkF m 75 #[iv p1, iv p2, iv p3, iv p4, iv p5, iv (1 : Int32), iv uz, rv wa, rv sb1_, rv sb2_, rv sb3_, rv sb4_, rv ls, .unset, .unset, .unset, .unset, .unset, .unset, .unset] []))
    show own_Go p e below s _ _ _ (T.setTop (mkF m 75 #[iv p1, iv p2, iv p3, iv p4, iv p5, iv (1 : Int32), iv uz, rv wa, rv sb1_, rv sb2_, rv sb3_, rv sb4_, rv ls, .unset, .unset, .unset, .unset, .unset, .unset, .unset] []))
    refine own_go (fun _ k => XS.iload X0.here hx rfl (hb hby at_75) rfl (XS.ifNo X0.here hx rfl (hb hby at_77) rfl ((if0 _ _).trans (tlt (by decide : (0 : Int32) < (1 : Int32))).2.2.2) (XS.aload X0.here hx rfl (hb hby at_80) rfl rfl (XS.aload X0.here hx rfl (hb hby at_82) rfl rfl k)))) ?_
    obtain ⟨v844, T844, L844, X844, hQ844, st844⟩ := own_callF (xi := own_y26) (y := own_y7) X0 hx hZ hown (ow81 hw) (ow82 hw) (ow83 hw) (ow84 hw) (ow85 hw) (ow86 hw) (ow87 hw) (ow76 hw) (ow40 hw) (ow88 hw) (by decide) (rm_add1_0 l Z a0 hw hO [] ls sb1_ mc hs1 O0 fp0 fp1 fp2 fp3 (Ins.of_exa (fp4.keep K1) (ow112 hw)) big_ls) 0 1 10 (by show _ ≤ 48; omega) (by show _ ≤ 320; omega) e0 fp0 (g := (mkF m 84 #[iv p1, iv p2, iv p3, iv p4, iv p5, iv (1 : Int32), iv uz, rv wa, rv sb1_, rv sb2_, rv sb3_, rv sb4_, rv ls, .unset, .unset, .unset, .unset, .unset, .unset, .unset] [(.ref sb1_), (.ref ls)])) rfl (by rw [hml]; rfl) [(.ref sb1_)] [] (lenOf own_pd_15 rfl) rfl rfl (hb hby at_84)
    obtain ⟨w845, w846, rfl, Nc855, Kc854, hb847, f848, f849, f850, f851, f852, f853⟩ := hQ844
    refine own_go st844 ?_
    clear st844 X0 e0
    replace N0 := Fr.app N0 Nc855
    clear Nc855
    have ne856 : ls ≠ w845 := Nat.ne_of_lt (Nat.lt_of_lt_of_le fp0.lt hb847)
    have big857 : Z.heap.size ≤ w845 := Nat.le_trans O0.1 hb847
    have sz858 : h0.size ≤ w845 := Nat.le_trans K0.1 hb847
    have sz859 : hs1.size ≤ w845 := Nat.le_trans K1.1 hb847
    replace fp0 := fp0.keep Kc854
    clear fp1
    clear fp2
    clear fp3
    replace O0 := own_oldKeep O0 Kc854 (allS big_ls all0)
    replace K0 := K0.trans Kc854 (allS (Or.inr sz_ls) all0)
    replace K1 := K1.trans Kc854 (allS (Or.inl (List.mem_of_getElem? (i := 0) rfl)) all0)
    clear Kc854
    refine own_go (fun _ k => XS.pop X844.here hx rfl (hb hby at_89) rfl rfl (XS.iload X844.here hx rfl (hb hby at_90) rfl (XS.iconst X844.here hx rfl (hb hby at_92) (XS.icmpYes X844.here hx rfl (pc0 := 93) (pc' := 106) rfl (hb hby at_93) rfl (flt (by decide : ¬ ((1 : Int32) < (1 : Int32)))).2.2.2 (by decide) (by decide) (XS.iload X844.here hx rfl (hb hby at_106) rfl (XS.iconst X844.here hx rfl (hb hby at_108) k)))))) ?_
    refine own_go (fun _ k => XS.icmpYes X844.here hx rfl (pc0 := 109) (pc' := 122) rfl (hb hby at_109) rfl (flt (by decide : ¬ ((2 : Int32) < (1 : Int32)))).2.2.2 (by decide) (by decide) (XS.iload X844.here hx rfl (hb hby at_122) rfl (XS.iconst X844.here hx rfl (hb hby at_124) (XS.icmpYes X844.here hx rfl (pc0 := 125) (pc' := 138) rfl (hb hby at_125) rfl (flt (by decide : ¬ ((3 : Int32) < (1 : Int32)))).2.2.2 (by decide) (by decide) k)))) ?_
    show own_Go p e below s _ _ _ (T844.setTop (mkF m 138 #[iv p1, iv p2, iv p3, iv p4, iv p5, iv (1 : Int32), iv uz, rv wa, rv sb1_, rv sb2_, rv sb3_, rv sb4_, rv ls, .unset, .unset, .unset, .unset, .unset, .unset, .unset] []))
    have ls860 : own_LS Z wd T844.heap ls (1 : Int32) sb1_ sb2_ sb3_ sb4_ := Or.inr (Or.inl ⟨rfl, _, _, _, f848, f849, f850, f851, f852⟩)
    have f4861 : own_4 Z T844.heap sb1_ sb2_ sb3_ sb4_ p1 p2 p3 p4 := ⟨(fp4.keep K1), (fp5.keep K1), (fp6.keep K1), (fp7.keep K1), (own_NSkeep fp8 fp4 K1 (allS far841 all0)), (own_NSkeep fp9 fp5 K1 (allS far841 all0)), (own_NSkeep fp10 fp6 K1 (allS far841 all0)), (own_NSkeep fp11 fp7 K1 (allS far841 all0))⟩
    exact sg_s138 hw hO p1 p2 p3 p4 p5 (1 : Int32) uz wa sb1_ sb2_ sb3_ sb4_ ls h0 T844.heap X844 hx hby hml hret hlk hZ hown hnm (rfl : T844.heap = T844.heap) N0 O0 K0 ls860 f4861 hacc (by omega) (by omega)
  · rw [hn]
    clear hn
    show own_Go p e below s _ _ _ (T.setTop (mkF m 75 #[iv p1, iv p2, iv p3, iv p4, iv p5, iv (2 : Int32), iv uz, rv wa, rv sb1_, rv sb2_, rv sb3_, rv sb4_, rv ls, .unset, .unset, .unset, .unset, .unset, .unset, .unset] []))
    show own_Go p e below s _ _ _ (T.setTop (mkF m 75 #[iv p1, iv p2, iv p3, iv p4, iv p5, iv (2 : Int32), iv uz, rv wa, rv sb1_, rv sb2_, rv sb3_, rv sb4_, rv ls, .unset, .unset, .unset, .unset, .unset, .unset, .unset] []))
    refine own_go (fun _ k => XS.iload X0.here hx rfl (hb hby at_75) rfl (XS.ifNo X0.here hx rfl (hb hby at_77) rfl ((if0 _ _).trans (tlt (by decide : (0 : Int32) < (2 : Int32))).2.2.2) (XS.aload X0.here hx rfl (hb hby at_80) rfl rfl (XS.aload X0.here hx rfl (hb hby at_82) rfl rfl k)))) ?_
    obtain ⟨v862, T862, L862, X862, hQ862, st862⟩ := own_callF (xi := own_y26) (y := own_y7) X0 hx hZ hown (ow81 hw) (ow82 hw) (ow83 hw) (ow84 hw) (ow85 hw) (ow86 hw) (ow87 hw) (ow76 hw) (ow40 hw) (ow88 hw) (by decide) (rm_add1_0 l Z a0 hw hO [] ls sb1_ mc hs1 O0 fp0 fp1 fp2 fp3 (Ins.of_exa (fp4.keep K1) (ow112 hw)) big_ls) 0 1 10 (by show _ ≤ 48; omega) (by show _ ≤ 320; omega) e0 fp0 (g := (mkF m 84 #[iv p1, iv p2, iv p3, iv p4, iv p5, iv (2 : Int32), iv uz, rv wa, rv sb1_, rv sb2_, rv sb3_, rv sb4_, rv ls, .unset, .unset, .unset, .unset, .unset, .unset, .unset] [(.ref sb1_), (.ref ls)])) rfl (by rw [hml]; rfl) [(.ref sb1_)] [] (lenOf own_pd_15 rfl) rfl rfl (hb hby at_84)
    obtain ⟨w863, w864, rfl, Nc873, Kc872, hb865, f866, f867, f868, f869, f870, f871⟩ := hQ862
    refine own_go st862 ?_
    clear st862 X0 e0
    replace N0 := Fr.app N0 Nc873
    clear Nc873
    have ne874 : ls ≠ w863 := Nat.ne_of_lt (Nat.lt_of_lt_of_le fp0.lt hb865)
    have big875 : Z.heap.size ≤ w863 := Nat.le_trans O0.1 hb865
    have sz876 : h0.size ≤ w863 := Nat.le_trans K0.1 hb865
    have sz877 : hs1.size ≤ w863 := Nat.le_trans K1.1 hb865
    replace fp0 := fp0.keep Kc872
    clear fp1
    clear fp2
    clear fp3
    replace O0 := own_oldKeep O0 Kc872 (allS big_ls all0)
    replace K0 := K0.trans Kc872 (allS (Or.inr sz_ls) all0)
    replace K1 := K1.trans Kc872 (allS (Or.inl (List.mem_of_getElem? (i := 0) rfl)) all0)
    clear Kc872
    refine own_go (fun _ k => XS.pop X862.here hx rfl (hb hby at_89) rfl rfl (XS.iload X862.here hx rfl (hb hby at_90) rfl (XS.iconst X862.here hx rfl (hb hby at_92) (XS.icmpNo X862.here hx rfl (hb hby at_93) rfl (tlt (by decide : (1 : Int32) < (2 : Int32))).2.2.2 (XS.aload X862.here hx rfl (hb hby at_96) rfl rfl (XS.aload X862.here hx rfl (hb hby at_98) rfl rfl k)))))) ?_
    obtain ⟨v878, T878, L878, X878, hQ878, st878⟩ := own_callF (xi := own_y26) (y := own_y7) X862 hx hZ hown (ow81 hw) (ow82 hw) (ow83 hw) (ow84 hw) (ow85 hw) (ow86 hw) (ow87 hw) (ow76 hw) (ow40 hw) (ow88 hw) (by decide) (rm_add1_1 l Z a0 hw hO [] ls sb2_ w863 w864 (mc + (1 : Int32)) sb1_ T862.heap O0 f866 f867 f868 f869 f870 f871 (Ins.of_exa (fp5.keep K1) (ow112 hw)) big_ls big875) 0 0 0 (by show _ ≤ 48; omega) (by show _ ≤ 320; omega) (rfl : T862.heap = T862.heap) f866 (g := (mkF m 100 #[iv p1, iv p2, iv p3, iv p4, iv p5, iv (2 : Int32), iv uz, rv wa, rv sb1_, rv sb2_, rv sb3_, rv sb4_, rv ls, .unset, .unset, .unset, .unset, .unset, .unset, .unset] [(.ref sb2_), (.ref ls)])) rfl (by rw [hml]; rfl) [(.ref sb2_)] [] (lenOf own_pd_15 rfl) rfl rfl (hb hby at_100)
    obtain ⟨rfl, Nc886, Kc885, f879, f880, f881, f882, f883, f884⟩ := hQ878
    refine own_go st878 ?_
    clear st878 X862
    replace N0 := Fr.app N0 Nc886
    clear Nc886
    replace f866 := f866.keep Kc885
    clear f867
    clear f868
    clear f869
    clear f870
    replace O0 := own_oldKeep O0 Kc885 (allS big_ls (allS big875 all0))
    replace K0 := K0.trans Kc885 (allS (Or.inr sz_ls) (allS (Or.inr sz876) all0))
    replace K1 := K1.trans Kc885 (allS (Or.inl (List.mem_of_getElem? (i := 0) rfl)) (allS (Or.inr sz877) all0))
    clear Kc885
    refine own_go (fun _ k => XS.pop X878.here hx rfl (hb hby at_105) rfl rfl (XS.iload X878.here hx rfl (hb hby at_106) rfl (XS.iconst X878.here hx rfl (hb hby at_108) (XS.icmpYes X878.here hx rfl (pc0 := 109) (pc' := 122) rfl (hb hby at_109) rfl (flt (by decide : ¬ ((2 : Int32) < (2 : Int32)))).2.2.2 (by decide) (by decide) (XS.iload X878.here hx rfl (hb hby at_122) rfl (XS.iconst X878.here hx rfl (hb hby at_124) k)))))) ?_
    refine own_go (fun _ k => XS.icmpYes X878.here hx rfl (pc0 := 125) (pc' := 138) rfl (hb hby at_125) rfl (flt (by decide : ¬ ((3 : Int32) < (2 : Int32)))).2.2.2 (by decide) (by decide) k) ?_
    show own_Go p e below s _ _ _ (T878.setTop (mkF m 138 #[iv p1, iv p2, iv p3, iv p4, iv p5, iv (2 : Int32), iv uz, rv wa, rv sb1_, rv sb2_, rv sb3_, rv sb4_, rv ls, .unset, .unset, .unset, .unset, .unset, .unset, .unset] []))
    have ls887 : own_LS Z wd T878.heap ls (2 : Int32) sb1_ sb2_ sb3_ sb4_ := Or.inr (Or.inr (Or.inl ⟨rfl, _, _, _, f879, f880, f881, f882, f883⟩))
    have f4888 : own_4 Z T878.heap sb1_ sb2_ sb3_ sb4_ p1 p2 p3 p4 := ⟨(fp4.keep K1), (fp5.keep K1), (fp6.keep K1), (fp7.keep K1), (own_NSkeep fp8 fp4 K1 (allS far841 all0)), (own_NSkeep fp9 fp5 K1 (allS far841 all0)), (own_NSkeep fp10 fp6 K1 (allS far841 all0)), (own_NSkeep fp11 fp7 K1 (allS far841 all0))⟩
    exact sg_s138 hw hO p1 p2 p3 p4 p5 (2 : Int32) uz wa sb1_ sb2_ sb3_ sb4_ ls h0 T878.heap X878 hx hby hml hret hlk hZ hown hnm (rfl : T878.heap = T878.heap) N0 O0 K0 ls887 f4888 hacc (by omega) (by omega)
  · rw [hn]
    clear hn
    show own_Go p e below s _ _ _ (T.setTop (mkF m 75 #[iv p1, iv p2, iv p3, iv p4, iv p5, iv (3 : Int32), iv uz, rv wa, rv sb1_, rv sb2_, rv sb3_, rv sb4_, rv ls, .unset, .unset, .unset, .unset, .unset, .unset, .unset] []))
    show own_Go p e below s _ _ _ (T.setTop (mkF m 75 #[iv p1, iv p2, iv p3, iv p4, iv p5, iv (3 : Int32), iv uz, rv wa, rv sb1_, rv sb2_, rv sb3_, rv sb4_, rv ls, .unset, .unset, .unset, .unset, .unset, .unset, .unset] []))
    refine own_go (fun _ k => XS.iload X0.here hx rfl (hb hby at_75) rfl (XS.ifNo X0.here hx rfl (hb hby at_77) rfl ((if0 _ _).trans (tlt (by decide : (0 : Int32) < (3 : Int32))).2.2.2) (XS.aload X0.here hx rfl (hb hby at_80) rfl rfl (XS.aload X0.here hx rfl (hb hby at_82) rfl rfl k)))) ?_
    obtain ⟨v889, T889, L889, X889, hQ889, st889⟩ := own_callF (xi := own_y26) (y := own_y7) X0 hx hZ hown (ow81 hw) (ow82 hw) (ow83 hw) (ow84 hw) (ow85 hw) (ow86 hw) (ow87 hw) (ow76 hw) (ow40 hw) (ow88 hw) (by decide) (rm_add1_0 l Z a0 hw hO [] ls sb1_ mc hs1 O0 fp0 fp1 fp2 fp3 (Ins.of_exa (fp4.keep K1) (ow112 hw)) big_ls) 0 1 10 (by show _ ≤ 48; omega) (by show _ ≤ 320; omega) e0 fp0 (g := (mkF m 84 #[iv p1, iv p2, iv p3, iv p4, iv p5, iv (3 : Int32), iv uz, rv wa, rv sb1_, rv sb2_, rv sb3_, rv sb4_, rv ls, .unset, .unset, .unset, .unset, .unset, .unset, .unset] [(.ref sb1_), (.ref ls)])) rfl (by rw [hml]; rfl) [(.ref sb1_)] [] (lenOf own_pd_15 rfl) rfl rfl (hb hby at_84)
    obtain ⟨w890, w891, rfl, Nc900, Kc899, hb892, f893, f894, f895, f896, f897, f898⟩ := hQ889
    refine own_go st889 ?_
    clear st889 X0 e0
    replace N0 := Fr.app N0 Nc900
    clear Nc900
    have ne901 : ls ≠ w890 := Nat.ne_of_lt (Nat.lt_of_lt_of_le fp0.lt hb892)
    have big902 : Z.heap.size ≤ w890 := Nat.le_trans O0.1 hb892
    have sz903 : h0.size ≤ w890 := Nat.le_trans K0.1 hb892
    have sz904 : hs1.size ≤ w890 := Nat.le_trans K1.1 hb892
    replace fp0 := fp0.keep Kc899
    clear fp1
    clear fp2
    clear fp3
    replace O0 := own_oldKeep O0 Kc899 (allS big_ls all0)
    replace K0 := K0.trans Kc899 (allS (Or.inr sz_ls) all0)
    replace K1 := K1.trans Kc899 (allS (Or.inl (List.mem_of_getElem? (i := 0) rfl)) all0)
    clear Kc899
    refine own_go (fun _ k => XS.pop X889.here hx rfl (hb hby at_89) rfl rfl (XS.iload X889.here hx rfl (hb hby at_90) rfl (XS.iconst X889.here hx rfl (hb hby at_92) (XS.icmpNo X889.here hx rfl (hb hby at_93) rfl (tlt (by decide : (1 : Int32) < (3 : Int32))).2.2.2 (XS.aload X889.here hx rfl (hb hby at_96) rfl rfl (XS.aload X889.here hx rfl (hb hby at_98) rfl rfl k)))))) ?_
    obtain ⟨v905, T905, L905, X905, hQ905, st905⟩ := own_callF (xi := own_y26) (y := own_y7) X889 hx hZ hown (ow81 hw) (ow82 hw) (ow83 hw) (ow84 hw) (ow85 hw) (ow86 hw) (ow87 hw) (ow76 hw) (ow40 hw) (ow88 hw) (by decide) (rm_add1_1 l Z a0 hw hO [] ls sb2_ w890 w891 (mc + (1 : Int32)) sb1_ T889.heap O0 f893 f894 f895 f896 f897 f898 (Ins.of_exa (fp5.keep K1) (ow112 hw)) big_ls big902) 0 0 0 (by show _ ≤ 48; omega) (by show _ ≤ 320; omega) (rfl : T889.heap = T889.heap) f893 (g := (mkF m 100 #[iv p1, iv p2, iv p3, iv p4, iv p5, iv (3 : Int32), iv uz, rv wa, rv sb1_, rv sb2_, rv sb3_, rv sb4_, rv ls, .unset, .unset, .unset, .unset, .unset, .unset, .unset] [(.ref sb2_), (.ref ls)])) rfl (by rw [hml]; rfl) [(.ref sb2_)] [] (lenOf own_pd_15 rfl) rfl rfl (hb hby at_100)
    obtain ⟨rfl, Nc913, Kc912, f906, f907, f908, f909, f910, f911⟩ := hQ905
    refine own_go st905 ?_
    clear st905 X889
    replace N0 := Fr.app N0 Nc913
    clear Nc913
    replace f893 := f893.keep Kc912
    clear f894
    clear f895
    clear f896
    clear f897
    replace O0 := own_oldKeep O0 Kc912 (allS big_ls (allS big902 all0))
    replace K0 := K0.trans Kc912 (allS (Or.inr sz_ls) (allS (Or.inr sz903) all0))
    replace K1 := K1.trans Kc912 (allS (Or.inl (List.mem_of_getElem? (i := 0) rfl)) (allS (Or.inr sz904) all0))
    clear Kc912
    refine own_go (fun _ k => XS.pop X905.here hx rfl (hb hby at_105) rfl rfl (XS.iload X905.here hx rfl (hb hby at_106) rfl (XS.iconst X905.here hx rfl (hb hby at_108) (XS.icmpNo X905.here hx rfl (hb hby at_109) rfl (tlt (by decide : (2 : Int32) < (3 : Int32))).2.2.2 (XS.aload X905.here hx rfl (hb hby at_112) rfl rfl (XS.aload X905.here hx rfl (hb hby at_114) rfl rfl k)))))) ?_
    obtain ⟨v914, T914, L914, X914, hQ914, st914⟩ := own_callF (xi := own_y26) (y := own_y7) X905 hx hZ hown (ow81 hw) (ow82 hw) (ow83 hw) (ow84 hw) (ow85 hw) (ow86 hw) (ow87 hw) (ow76 hw) (ow40 hw) (ow88 hw) (by decide) (rm_add1_2 l Z a0 hw hO [] ls sb3_ w890 w891 ((mc + (1 : Int32)) + (1 : Int32)) sb1_ sb2_ T905.heap O0 f906 f907 f908 f909 f910 f911 (Ins.of_exa (fp6.keep K1) (ow112 hw)) big_ls big902) 0 0 0 (by show _ ≤ 48; omega) (by show _ ≤ 320; omega) (rfl : T905.heap = T905.heap) f906 (g := (mkF m 116 #[iv p1, iv p2, iv p3, iv p4, iv p5, iv (3 : Int32), iv uz, rv wa, rv sb1_, rv sb2_, rv sb3_, rv sb4_, rv ls, .unset, .unset, .unset, .unset, .unset, .unset, .unset] [(.ref sb3_), (.ref ls)])) rfl (by rw [hml]; rfl) [(.ref sb3_)] [] (lenOf own_pd_15 rfl) rfl rfl (hb hby at_116)
    obtain ⟨rfl, Nc922, Kc921, f915, f916, f917, f918, f919, f920⟩ := hQ914
    refine own_go st914 ?_
    clear st914 X905
    replace N0 := Fr.app N0 Nc922
    clear Nc922
    replace f906 := f906.keep Kc921
    clear f907
    clear f908
    clear f909
    clear f910
    replace O0 := own_oldKeep O0 Kc921 (allS big_ls (allS big902 all0))
    replace K0 := K0.trans Kc921 (allS (Or.inr sz_ls) (allS (Or.inr sz903) all0))
    replace K1 := K1.trans Kc921 (allS (Or.inl (List.mem_of_getElem? (i := 0) rfl)) (allS (Or.inr sz904) all0))
    clear Kc921
    refine own_go (fun _ k => XS.pop X914.here hx rfl (hb hby at_121) rfl rfl (XS.iload X914.here hx rfl (hb hby at_122) rfl (XS.iconst X914.here hx rfl (hb hby at_124) (XS.icmpYes X914.here hx rfl (pc0 := 125) (pc' := 138) rfl (hb hby at_125) rfl (flt (by decide : ¬ ((3 : Int32) < (3 : Int32)))).2.2.2 (by decide) (by decide) k)))) ?_
    show own_Go p e below s _ _ _ (T914.setTop (mkF m 138 #[iv p1, iv p2, iv p3, iv p4, iv p5, iv (3 : Int32), iv uz, rv wa, rv sb1_, rv sb2_, rv sb3_, rv sb4_, rv ls, .unset, .unset, .unset, .unset, .unset, .unset, .unset] []))
    have ls923 : own_LS Z wd T914.heap ls (3 : Int32) sb1_ sb2_ sb3_ sb4_ := Or.inr (Or.inr (Or.inr (Or.inl ⟨rfl, _, _, _, f915, f916, f917, f918, f919⟩)))
    have f4924 : own_4 Z T914.heap sb1_ sb2_ sb3_ sb4_ p1 p2 p3 p4 := ⟨(fp4.keep K1), (fp5.keep K1), (fp6.keep K1), (fp7.keep K1), (own_NSkeep fp8 fp4 K1 (allS far841 all0)), (own_NSkeep fp9 fp5 K1 (allS far841 all0)), (own_NSkeep fp10 fp6 K1 (allS far841 all0)), (own_NSkeep fp11 fp7 K1 (allS far841 all0))⟩
    exact sg_s138 hw hO p1 p2 p3 p4 p5 (3 : Int32) uz wa sb1_ sb2_ sb3_ sb4_ ls h0 T914.heap X914 hx hby hml hret hlk hZ hown hnm (rfl : T914.heap = T914.heap) N0 O0 K0 ls923 f4924 hacc (by omega) (by omega)
  · rw [hn]
    clear hn
    show own_Go p e below s _ _ _ (T.setTop (mkF m 75 #[iv p1, iv p2, iv p3, iv p4, iv p5, iv (4 : Int32), iv uz, rv wa, rv sb1_, rv sb2_, rv sb3_, rv sb4_, rv ls, .unset, .unset, .unset, .unset, .unset, .unset, .unset] []))
    show own_Go p e below s _ _ _ (T.setTop (mkF m 75 #[iv p1, iv p2, iv p3, iv p4, iv p5, iv (4 : Int32), iv uz, rv wa, rv sb1_, rv sb2_, rv sb3_, rv sb4_, rv ls, .unset, .unset, .unset, .unset, .unset, .unset, .unset] []))
    refine own_go (fun _ k => XS.iload X0.here hx rfl (hb hby at_75) rfl (XS.ifNo X0.here hx rfl (hb hby at_77) rfl ((if0 _ _).trans (tlt (by decide : (0 : Int32) < (4 : Int32))).2.2.2) (XS.aload X0.here hx rfl (hb hby at_80) rfl rfl (XS.aload X0.here hx rfl (hb hby at_82) rfl rfl k)))) ?_
    obtain ⟨v925, T925, L925, X925, hQ925, st925⟩ := own_callF (xi := own_y26) (y := own_y7) X0 hx hZ hown (ow81 hw) (ow82 hw) (ow83 hw) (ow84 hw) (ow85 hw) (ow86 hw) (ow87 hw) (ow76 hw) (ow40 hw) (ow88 hw) (by decide) (rm_add1_0 l Z a0 hw hO [] ls sb1_ mc hs1 O0 fp0 fp1 fp2 fp3 (Ins.of_exa (fp4.keep K1) (ow112 hw)) big_ls) 0 1 10 (by show _ ≤ 48; omega) (by show _ ≤ 320; omega) e0 fp0 (g := (mkF m 84 #[iv p1, iv p2, iv p3, iv p4, iv p5, iv (4 : Int32), iv uz, rv wa, rv sb1_, rv sb2_, rv sb3_, rv sb4_, rv ls, .unset, .unset, .unset, .unset, .unset, .unset, .unset] [(.ref sb1_), (.ref ls)])) rfl (by rw [hml]; rfl) [(.ref sb1_)] [] (lenOf own_pd_15 rfl) rfl rfl (hb hby at_84)
    obtain ⟨w926, w927, rfl, Nc936, Kc935, hb928, f929, f930, f931, f932, f933, f934⟩ := hQ925
    refine own_go st925 ?_
    clear st925 X0 e0
    replace N0 := Fr.app N0 Nc936
    clear Nc936
    have ne937 : ls ≠ w926 := Nat.ne_of_lt (Nat.lt_of_lt_of_le fp0.lt hb928)
    have big938 : Z.heap.size ≤ w926 := Nat.le_trans O0.1 hb928
    have sz939 : h0.size ≤ w926 := Nat.le_trans K0.1 hb928
    have sz940 : hs1.size ≤ w926 := Nat.le_trans K1.1 hb928
    replace fp0 := fp0.keep Kc935
    clear fp1
    clear fp2
    clear fp3
    replace O0 := own_oldKeep O0 Kc935 (allS big_ls all0)
    replace K0 := K0.trans Kc935 (allS (Or.inr sz_ls) all0)
    replace K1 := K1.trans Kc935 (allS (Or.inl (List.mem_of_getElem? (i := 0) rfl)) all0)
    clear Kc935
    refine own_go (fun _ k => XS.pop X925.here hx rfl (hb hby at_89) rfl rfl (XS.iload X925.here hx rfl (hb hby at_90) rfl (XS.iconst X925.here hx rfl (hb hby at_92) (XS.icmpNo X925.here hx rfl (hb hby at_93) rfl (tlt (by decide : (1 : Int32) < (4 : Int32))).2.2.2 (XS.aload X925.here hx rfl (hb hby at_96) rfl rfl (XS.aload X925.here hx rfl (hb hby at_98) rfl rfl k)))))) ?_
    obtain ⟨v941, T941, L941, X941, hQ941, st941⟩ := own_callF (xi := own_y26) (y := own_y7) X925 hx hZ hown (ow81 hw) (ow82 hw) (ow83 hw) (ow84 hw) (ow85 hw) (ow86 hw) (ow87 hw) (ow76 hw) (ow40 hw) (ow88 hw) (by decide) (rm_add1_1 l Z a0 hw hO [] ls sb2_ w926 w927 (mc + (1 : Int32)) sb1_ T925.heap O0 f929 f930 f931 f932 f933 f934 (Ins.of_exa (fp5.keep K1) (ow112 hw)) big_ls big938) 0 0 0 (by show _ ≤ 48; omega) (by show _ ≤ 320; omega) (rfl : T925.heap = T925.heap) f929 (g := (mkF m 100 #[iv p1, iv p2, iv p3, iv p4, iv p5, iv (4 : Int32), iv uz, rv wa, rv sb1_, rv sb2_, rv sb3_, rv sb4_, rv ls, .unset, .unset, .unset, .unset, .unset, .unset, .unset] [(.ref sb2_), (.ref ls)])) rfl (by rw [hml]; rfl) [(.ref sb2_)] [] (lenOf own_pd_15 rfl) rfl rfl (hb hby at_100)
    obtain ⟨rfl, Nc949, Kc948, f942, f943, f944, f945, f946, f947⟩ := hQ941
    refine own_go st941 ?_
    clear st941 X925
    replace N0 := Fr.app N0 Nc949
    clear Nc949
    replace f929 := f929.keep Kc948
    clear f930
    clear f931
    clear f932
    clear f933
    replace O0 := own_oldKeep O0 Kc948 (allS big_ls (allS big938 all0))
    replace K0 := K0.trans Kc948 (allS (Or.inr sz_ls) (allS (Or.inr sz939) all0))
    replace K1 := K1.trans Kc948 (allS (Or.inl (List.mem_of_getElem? (i := 0) rfl)) (allS (Or.inr sz940) all0))
    clear Kc948
    refine own_go (fun _ k => XS.pop X941.here hx rfl (hb hby at_105) rfl rfl (XS.iload X941.here hx rfl (hb hby at_106) rfl (XS.iconst X941.here hx rfl (hb hby at_108) (XS.icmpNo X941.here hx rfl (hb hby at_109) rfl (tlt (by decide : (2 : Int32) < (4 : Int32))).2.2.2 (XS.aload X941.here hx rfl (hb hby at_112) rfl rfl (XS.aload X941.here hx rfl (hb hby at_114) rfl rfl k)))))) ?_
    obtain ⟨v950, T950, L950, X950, hQ950, st950⟩ := own_callF (xi := own_y26) (y := own_y7) X941 hx hZ hown (ow81 hw) (ow82 hw) (ow83 hw) (ow84 hw) (ow85 hw) (ow86 hw) (ow87 hw) (ow76 hw) (ow40 hw) (ow88 hw) (by decide) (rm_add1_2 l Z a0 hw hO [] ls sb3_ w926 w927 ((mc + (1 : Int32)) + (1 : Int32)) sb1_ sb2_ T941.heap O0 f942 f943 f944 f945 f946 f947 (Ins.of_exa (fp6.keep K1) (ow112 hw)) big_ls big938) 0 0 0 (by show _ ≤ 48; omega) (by show _ ≤ 320; omega) (rfl : T941.heap = T941.heap) f942 (g := (mkF m 116 #[iv p1, iv p2, iv p3, iv p4, iv p5, iv (4 : Int32), iv uz, rv wa, rv sb1_, rv sb2_, rv sb3_, rv sb4_, rv ls, .unset, .unset, .unset, .unset, .unset, .unset, .unset] [(.ref sb3_), (.ref ls)])) rfl (by rw [hml]; rfl) [(.ref sb3_)] [] (lenOf own_pd_15 rfl) rfl rfl (hb hby at_116)
    obtain ⟨rfl, Nc958, Kc957, f951, f952, f953, f954, f955, f956⟩ := hQ950
    refine own_go st950 ?_
    clear st950 X941
    replace N0 := Fr.app N0 Nc958
    clear Nc958
    replace f942 := f942.keep Kc957
    clear f943
    clear f944
    clear f945
    clear f946
    replace O0 := own_oldKeep O0 Kc957 (allS big_ls (allS big938 all0))
    replace K0 := K0.trans Kc957 (allS (Or.inr sz_ls) (allS (Or.inr sz939) all0))
    replace K1 := K1.trans Kc957 (allS (Or.inl (List.mem_of_getElem? (i := 0) rfl)) (allS (Or.inr sz940) all0))
    clear Kc957
    refine own_go (fun _ k => XS.pop X950.here hx rfl (hb hby at_121) rfl rfl (XS.iload X950.here hx rfl (hb hby at_122) rfl (XS.iconst X950.here hx rfl (hb hby at_124) (XS.icmpNo X950.here hx rfl (hb hby at_125) rfl (tlt (by decide : (3 : Int32) < (4 : Int32))).2.2.2 (XS.aload X950.here hx rfl (hb hby at_128) rfl rfl (XS.aload X950.here hx rfl (hb hby at_130) rfl rfl k)))))) ?_
    show own_Go p e below s _ _ _ (T950.setTop (mkF m 132 #[iv p1, iv p2, iv p3, iv p4, iv p5, iv (4 : Int32), iv uz, rv wa, rv sb1_, rv sb2_, rv sb3_, rv sb4_, rv ls, .unset, .unset, .unset, .unset, .unset, .unset, .unset] [(.ref sb4_), (.ref ls)]))
    obtain ⟨v959, T959, L959, X959, hQ959, st959⟩ := own_callF (xi := own_y26) (y := own_y7) X950 hx hZ hown (ow81 hw) (ow82 hw) (ow83 hw) (ow84 hw) (ow85 hw) (ow86 hw) (ow87 hw) (ow76 hw) (ow40 hw) (ow88 hw) (by decide) (rm_add1_3 l Z a0 hw hO [] ls sb4_ w926 w927 (((mc + (1 : Int32)) + (1 : Int32)) + (1 : Int32)) sb1_ sb2_ sb3_ T950.heap O0 f951 f952 f953 f954 f955 f956 (Ins.of_exa (fp7.keep K1) (ow112 hw)) big_ls big938) 0 0 0 (by show _ ≤ 48; omega) (by show _ ≤ 320; omega) (rfl : T950.heap = T950.heap) f951 (g := (mkF m 132 #[iv p1, iv p2, iv p3, iv p4, iv p5, iv (4 : Int32), iv uz, rv wa, rv sb1_, rv sb2_, rv sb3_, rv sb4_, rv ls, .unset, .unset, .unset, .unset, .unset, .unset, .unset] [(.ref sb4_), (.ref ls)])) rfl (by rw [hml]; rfl) [(.ref sb4_)] [] (lenOf own_pd_15 rfl) rfl rfl (hb hby at_132)
    obtain ⟨rfl, Nc967, Kc966, f960, f961, f962, f963, f964, f965⟩ := hQ959
    refine own_go st959 ?_
    clear st959 X950
    replace N0 := Fr.app N0 Nc967
    clear Nc967
    replace f951 := f951.keep Kc966
    clear f952
    clear f953
    clear f954
    clear f955
    replace O0 := own_oldKeep O0 Kc966 (allS big_ls (allS big938 all0))
    replace K0 := K0.trans Kc966 (allS (Or.inr sz_ls) (allS (Or.inr sz939) all0))
    replace K1 := K1.trans Kc966 (allS (Or.inl (List.mem_of_getElem? (i := 0) rfl)) (allS (Or.inr sz940) all0))
    clear Kc966
    refine own_go (fun _ k => XS.pop X959.here hx rfl (hb hby at_137) rfl rfl k) ?_
    show own_Go p e below s _ _ _ (T959.setTop (mkF m 138 #[iv p1, iv p2, iv p3, iv p4, iv p5, iv (4 : Int32), iv uz, rv wa, rv sb1_, rv sb2_, rv sb3_, rv sb4_, rv ls, .unset, .unset, .unset, .unset, .unset, .unset, .unset] []))
    have ls968 : own_LS Z wd T959.heap ls (4 : Int32) sb1_ sb2_ sb3_ sb4_ := Or.inr (Or.inr (Or.inr (Or.inr (⟨rfl, _, _, _, f960, f961, f962, f963, f964⟩))))
    have f4969 : own_4 Z T959.heap sb1_ sb2_ sb3_ sb4_ p1 p2 p3 p4 := ⟨(fp4.keep K1), (fp5.keep K1), (fp6.keep K1), (fp7.keep K1), (own_NSkeep fp8 fp4 K1 (allS far841 all0)), (own_NSkeep fp9 fp5 K1 (allS far841 all0)), (own_NSkeep fp10 fp6 K1 (allS far841 all0)), (own_NSkeep fp11 fp7 K1 (allS far841 all0))⟩
    exact sg_s138 hw hO p1 p2 p3 p4 p5 (4 : Int32) uz wa sb1_ sb2_ sb3_ sb4_ ls h0 T959.heap X959 hx hby hml hret hlk hZ hown hnm (rfl : T959.heap = T959.heap) N0 O0 K0 ls968 f4969 hacc (by omega) (by omega)
set_option maxRecDepth 65536 in
set_option maxHeartbeats 40000000 in
theorem sg_s40 {l : Launch} {Z : State} {a0 : Array Value} (hw : own_W Z a0) {zc : Int32} {wd : Addr} {kd : ClassId} {wx : Addr} {wy : Addr} {wsp : Addr} {wspv : Addr} {wspk : ClassId} (hO : own_Olds Z zc wd kd wx wy wsp wspv wspk) {p : Program} {e : Env} {s : State} {m : MethodId} {args : Array Value} {below : List Frame} {meth : Method} {c : Code} {T : State} {locs : List Loc} {cells slots : Nat} (p1 : Int32) (p2 : Int32) (p3 : Int32) (p4 : Int32) (p5 : Int32) (uz : Int32) (wa : Addr) (h0 hs1 : Heap)
    (X0 : Stand p l e room_1 s m args below meth c T locs cells slots) (hx : p.tables.exec = Jvm.exec) (hby : c.code = code) (hml : c.maxLocals = 20) (hret : meth.sig.returnType = some .boolean) (hlk : meth.locks = false) (hZ : Z.Warmed39 s.vm) (hown : s.vm.findClass "com/example/padlock/padlock/lock/AccessAnnouncedPinLaw" = some m.cls) (hnm : meth.name = "law") (e0 : T.heap = hs1) (N0 : Fr Z.heap.size locs) (O0 : Ext Z.heap hs1) (K0 : Keep h0 hs1 []) (hacc : own_Acc uz wa wx wy) (hcells : cells ≤ 0) (hslots : slots ≤ 0) :
    own_Go p e below s (Q_law Z zc wd kd wx wy wsp wspv wspk p1 p2 p3 p4 p5 h0) room_1.cells room_1.slots (T.setTop (mkF m 40 #[iv p1, iv p2, iv p3, iv p4, iv p5, iv ((p5 &&& (2147483647 : Int32)) % (5 : Int32)), iv uz, .unset, .unset, .unset, .unset, .unset, .unset, .unset, .unset, .unset, .unset, .unset, .unset, .unset] [(.ref wa)])) := by
  obtain ⟨oCS, oCz, oDE, oDV, oEx, oSh, oE1, oE2, oPF, oSPE, oSPC, oSPF, oSPV, oNe⟩ := id hO
  have K1 := Keep.refl hs1 []
  show own_Go p e below s _ _ _ (T.setTop (mkF m 40 #[iv p1, iv p2, iv p3, iv p4, iv p5, iv ((p5 &&& (2147483647 : Int32)) % (5 : Int32)), iv uz, .unset, .unset, .unset, .unset, .unset, .unset, .unset, .unset, .unset, .unset, .unset, .unset, .unset] [(.ref wa)]))
  refine own_go (fun _ k => XS.astore X0.here hx rfl (hb hby at_40) rfl rfl (l' := #[iv p1, iv p2, iv p3, iv p4, iv p5, iv ((p5 &&& (2147483647 : Int32)) % (5 : Int32)), iv uz, rv wa, .unset, .unset, .unset, .unset, .unset, .unset, .unset, .unset, .unset, .unset, .unset, .unset]) rfl (XS.iloadN X0.here hx rfl (hb hby at_42) rfl k)) ?_
  obtain ⟨v970, T970, L970, X970, hQ970, st970⟩ := own_callS (y := own_y22) X0 hx hZ hown (ow4 hw) (ow5 hw) (ow6 hw) (ow7 hw) (rm_node l Z a0 hw hO [] p1 hs1 O0) 0 4 26 (by show _ ≤ 48; omega) (by show _ ≤ 320; omega) e0 (g := (mkF m 43 #[iv p1, iv p2, iv p3, iv p4, iv p5, iv ((p5 &&& (2147483647 : Int32)) % (5 : Int32)), iv uz, rv wa, .unset, .unset, .unset, .unset, .unset, .unset, .unset, .unset, .unset, .unset, .unset, .unset] [(.int p1)])) rfl (by rw [hml]; rfl) [(.int p1)] [] (lenOf own_pd_18 rfl) rfl rfl (hb hby at_43)
  obtain ⟨w971, rfl, Nc976, Kc975, hb972, f973, f974⟩ := hQ970
  refine own_go st970 ?_
  clear st970 X0 e0
  replace N0 := Fr.app N0 Nc976
  clear Nc976
  have big977 : Z.heap.size ≤ w971 := Nat.le_trans O0.1 hb972
  have sz978 : h0.size ≤ w971 := Nat.le_trans K0.1 hb972
  have sz979 : hs1.size ≤ w971 := Nat.le_trans K1.1 hb972
  replace O0 := own_oldKeep O0 Kc975 all0
  replace K0 := K0.trans Kc975 all0
  replace K1 := K1.trans Kc975 all0
  clear Kc975
  refine own_go (fun _ k => XS.astore X970.here hx rfl (hb hby at_46) rfl rfl (l' := #[iv p1, iv p2, iv p3, iv p4, iv p5, iv ((p5 &&& (2147483647 : Int32)) % (5 : Int32)), iv uz, rv wa, rv w971, .unset, .unset, .unset, .unset, .unset, .unset, .unset, .unset, .unset, .unset, .unset]) rfl (XS.iloadN X970.here hx rfl (hb hby at_48) rfl k)) ?_
  obtain ⟨v980, T980, L980, X980, hQ980, st980⟩ := own_callS (y := own_y22) X970 hx hZ hown (ow4 hw) (ow5 hw) (ow6 hw) (ow7 hw) (rm_node l Z a0 hw hO [] p2 T970.heap O0) 0 4 26 (by show _ ≤ 48; omega) (by show _ ≤ 320; omega) (rfl : T970.heap = T970.heap) (g := (mkF m 49 #[iv p1, iv p2, iv p3, iv p4, iv p5, iv ((p5 &&& (2147483647 : Int32)) % (5 : Int32)), iv uz, rv wa, rv w971, .unset, .unset, .unset, .unset, .unset, .unset, .unset, .unset, .unset, .unset, .unset] [(.int p2)])) rfl (by rw [hml]; rfl) [(.int p2)] [] (lenOf own_pd_18 rfl) rfl rfl (hb hby at_49)
  obtain ⟨w981, rfl, Nc986, Kc985, hb982, f983, f984⟩ := hQ980
  refine own_go st980 ?_
  clear st980 X970
  replace N0 := Fr.app N0 Nc986
  clear Nc986
  have ne987 : w971 ≠ w981 := Nat.ne_of_lt (Nat.lt_of_lt_of_le f973.lt hb982)
  have big988 : Z.heap.size ≤ w981 := Nat.le_trans O0.1 hb982
  have sz989 : h0.size ≤ w981 := Nat.le_trans K0.1 hb982
  have sz990 : hs1.size ≤ w981 := Nat.le_trans K1.1 hb982
  replace f974 := (own_NSkeep f974 f973 Kc985 all0)
  replace f973 := f973.keep Kc985
  replace O0 := own_oldKeep O0 Kc985 all0
  replace K0 := K0.trans Kc985 all0
  replace K1 := K1.trans Kc985 all0
  clear Kc985
  refine own_go (fun _ k => XS.astore X980.here hx rfl (hb hby at_52) rfl rfl (l' := #[iv p1, iv p2, iv p3, iv p4, iv p5, iv ((p5 &&& (2147483647 : Int32)) % (5 : Int32)), iv uz, rv wa, rv w971, rv w981, .unset, .unset, .unset, .unset, .unset, .unset, .unset, .unset, .unset, .unset]) rfl (XS.iloadN X980.here hx rfl (hb hby at_54) rfl k)) ?_
  obtain ⟨v991, T991, L991, X991, hQ991, st991⟩ := own_callS (y := own_y22) X980 hx hZ hown (ow4 hw) (ow5 hw) (ow6 hw) (ow7 hw) (rm_node l Z a0 hw hO [] p3 T980.heap O0) 0 4 26 (by show _ ≤ 48; omega) (by show _ ≤ 320; omega) (rfl : T980.heap = T980.heap) (g := (mkF m 55 #[iv p1, iv p2, iv p3, iv p4, iv p5, iv ((p5 &&& (2147483647 : Int32)) % (5 : Int32)), iv uz, rv wa, rv w971, rv w981, .unset, .unset, .unset, .unset, .unset, .unset, .unset, .unset, .unset, .unset] [(.int p3)])) rfl (by rw [hml]; rfl) [(.int p3)] [] (lenOf own_pd_18 rfl) rfl rfl (hb hby at_55)
  obtain ⟨w992, rfl, Nc997, Kc996, hb993, f994, f995⟩ := hQ991
  refine own_go st991 ?_
  clear st991 X980
  replace N0 := Fr.app N0 Nc997
  clear Nc997
  have ne998 : w971 ≠ w992 := Nat.ne_of_lt (Nat.lt_of_lt_of_le f973.lt hb993)
  have ne999 : w981 ≠ w992 := Nat.ne_of_lt (Nat.lt_of_lt_of_le f983.lt hb993)
  have big1000 : Z.heap.size ≤ w992 := Nat.le_trans O0.1 hb993
  have sz1001 : h0.size ≤ w992 := Nat.le_trans K0.1 hb993
  have sz1002 : hs1.size ≤ w992 := Nat.le_trans K1.1 hb993
  replace f974 := (own_NSkeep f974 f973 Kc996 all0)
  replace f984 := (own_NSkeep f984 f983 Kc996 all0)
  replace f973 := f973.keep Kc996
  replace f983 := f983.keep Kc996
  replace O0 := own_oldKeep O0 Kc996 all0
  replace K0 := K0.trans Kc996 all0
  replace K1 := K1.trans Kc996 all0
  clear Kc996
  refine own_go (fun _ k => XS.astore X991.here hx rfl (hb hby at_58) rfl rfl (l' := #[iv p1, iv p2, iv p3, iv p4, iv p5, iv ((p5 &&& (2147483647 : Int32)) % (5 : Int32)), iv uz, rv wa, rv w971, rv w981, rv w992, .unset, .unset, .unset, .unset, .unset, .unset, .unset, .unset, .unset]) rfl (XS.iloadN X991.here hx rfl (hb hby at_60) rfl k)) ?_
  obtain ⟨v1003, T1003, L1003, X1003, hQ1003, st1003⟩ := own_callS (y := own_y22) X991 hx hZ hown (ow4 hw) (ow5 hw) (ow6 hw) (ow7 hw) (rm_node l Z a0 hw hO [] p4 T991.heap O0) 0 4 26 (by show _ ≤ 48; omega) (by show _ ≤ 320; omega) (rfl : T991.heap = T991.heap) (g := (mkF m 61 #[iv p1, iv p2, iv p3, iv p4, iv p5, iv ((p5 &&& (2147483647 : Int32)) % (5 : Int32)), iv uz, rv wa, rv w971, rv w981, rv w992, .unset, .unset, .unset, .unset, .unset, .unset, .unset, .unset, .unset] [(.int p4)])) rfl (by rw [hml]; rfl) [(.int p4)] [] (lenOf own_pd_18 rfl) rfl rfl (hb hby at_61)
  obtain ⟨w1004, rfl, Nc1009, Kc1008, hb1005, f1006, f1007⟩ := hQ1003
  refine own_go st1003 ?_
  clear st1003 X991
  replace N0 := Fr.app N0 Nc1009
  clear Nc1009
  have ne1010 : w971 ≠ w1004 := Nat.ne_of_lt (Nat.lt_of_lt_of_le f973.lt hb1005)
  have ne1011 : w981 ≠ w1004 := Nat.ne_of_lt (Nat.lt_of_lt_of_le f983.lt hb1005)
  have ne1012 : w992 ≠ w1004 := Nat.ne_of_lt (Nat.lt_of_lt_of_le f994.lt hb1005)
  have big1013 : Z.heap.size ≤ w1004 := Nat.le_trans O0.1 hb1005
  have sz1014 : h0.size ≤ w1004 := Nat.le_trans K0.1 hb1005
  have sz1015 : hs1.size ≤ w1004 := Nat.le_trans K1.1 hb1005
  replace f974 := (own_NSkeep f974 f973 Kc1008 all0)
  replace f984 := (own_NSkeep f984 f983 Kc1008 all0)
  replace f995 := (own_NSkeep f995 f994 Kc1008 all0)
  replace f973 := f973.keep Kc1008
  replace f983 := f983.keep Kc1008
  replace f994 := f994.keep Kc1008
  replace O0 := own_oldKeep O0 Kc1008 all0
  replace K0 := K0.trans Kc1008 all0
  replace K1 := K1.trans Kc1008 all0
  clear Kc1008
  refine own_go (fun _ k => XS.astore X1003.here hx rfl (hb hby at_64) rfl rfl (l' := #[iv p1, iv p2, iv p3, iv p4, iv p5, iv ((p5 &&& (2147483647 : Int32)) % (5 : Int32)), iv uz, rv wa, rv w971, rv w981, rv w992, rv w1004, .unset, .unset, .unset, .unset, .unset, .unset, .unset, .unset]) rfl k) ?_
  obtain ⟨T1016, h1016, X1016, e1016, E1016, A1016, D1016, -, st1016⟩ := newO X1003 hx hZ hown (ow38 hw) (ow39 hw) (ow40 hw) (rfl : T1003.heap = T1003.heap) (g := (mkF m 66 #[iv p1, iv p2, iv p3, iv p4, iv p5, iv ((p5 &&& (2147483647 : Int32)) % (5 : Int32)), iv uz, rv wa, rv w971, rv w981, rv w992, rv w1004, .unset, .unset, .unset, .unset, .unset, .unset, .unset, .unset] [])) rfl (hb hby at_66) (by show _ ≤ 48; omega) (by show _ ≤ 320; omega)
  obtain ⟨b1016, g1016⟩ : ∃ z, z = T1003.heap.size := ⟨_, rfl⟩
  rw [← g1016] at A1016 D1016 st1016
  refine own_go st1016 ?_
  clear st1016 X1003
  have ge1016 := Nat.le_of_eq g1016.symm
  have ne1017 : w971 ≠ b1016 := Nat.ne_of_lt (Nat.lt_of_lt_of_le f973.lt ge1016)
  have ne1018 : w981 ≠ b1016 := Nat.ne_of_lt (Nat.lt_of_lt_of_le f983.lt ge1016)
  have ne1019 : w992 ≠ b1016 := Nat.ne_of_lt (Nat.lt_of_lt_of_le f994.lt ge1016)
  have ne1020 : w1004 ≠ b1016 := Nat.ne_of_lt (Nat.lt_of_lt_of_le f1006.lt ge1016)
  have big1021 : Z.heap.size ≤ b1016 := Nat.le_trans O0.1 ge1016
  have sz1022 : h0.size ≤ b1016 := Nat.le_trans K0.1 ge1016
  have sz1023 : hs1.size ≤ b1016 := Nat.le_trans K1.1 ge1016
  replace f974 := own_NSext f974 E1016
  replace f984 := own_NSext f984 E1016
  replace f995 := own_NSext f995 E1016
  replace f973 := f973.ext E1016
  replace f983 := f983.ext E1016
  replace f994 := f994.ext E1016
  replace f1006 := f1006.ext E1016
  replace f1007 := own_NSext f1007 E1016
  replace O0 := own_oldExt O0 E1016
  replace K0 := K0.ext E1016
  replace K1 := K1.ext E1016
  clear E1016
  have f1024 : Fld Z h1016 b1016 "java/util/AbstractList" "modCount" "I" (.int (0 : Int32)) := D1016 (Or.inl (ow58 hw)) (ty := .int) own_fd0
  have f1025 : Fld Z h1016 b1016 "java/util/ArrayList" "elementData" "[Ljava/lang/Object;" .null := D1016 (Or.inl (ow61 hw)) (ty := (.array (.object "java/lang/Object"))) own_fd1
  have f1026 : Fld Z h1016 b1016 "java/util/ArrayList" "size" "I" (.int (0 : Int32)) := D1016 (Or.inl (ow79 hw)) (ty := .int) own_fd0
  refine own_go (fun _ k => XS.dup X1016.here hx rfl (hb hby at_69) rfl rfl k) ?_
  obtain ⟨v1027, T1027, L1027, X1027, hQ1027, st1027⟩ := own_callI (y := own_y2) X1016 hx hZ hown (ow41 hw) (ow42 hw) (ow40 hw) (ow43 hw) (rm_alinit l Z a0 hw hO [] b1016 h1016 O0 A1016 f1026 f1025 f1024 big1021) 1 0 0 rfl (by show _ ≤ 48; omega) (by show _ ≤ 320; omega) e1016 (g := (mkF m 70 #[iv p1, iv p2, iv p3, iv p4, iv p5, iv ((p5 &&& (2147483647 : Int32)) % (5 : Int32)), iv uz, rv wa, rv w971, rv w981, rv w992, rv w1004, .unset, .unset, .unset, .unset, .unset, .unset, .unset, .unset] [(.ref b1016), (.ref b1016)])) rfl (by rw [hml]; rfl) b1016 [] [(.ref b1016)] (lenOf own_pd_0 rfl) rfl rfl (hb hby at_70)
  obtain ⟨rfl, Nc1033, Kc1032, f1028, f1029, f1030, f1031⟩ := hQ1027
  refine own_go st1027 ?_
  clear st1027 X1016 e1016
  replace N0 := Fr.app N0 Nc1033
  clear Nc1033
  replace f974 := (own_NSkeep f974 f973 Kc1032 (allS (own_afE A1016 (by decide) (ow39 hw)) all0))
  replace f984 := (own_NSkeep f984 f983 Kc1032 (allS (own_afE A1016 (by decide) (ow39 hw)) all0))
  replace f995 := (own_NSkeep f995 f994 Kc1032 (allS (own_afE A1016 (by decide) (ow39 hw)) all0))
  replace f1007 := (own_NSkeep f1007 f1006 Kc1032 (allS (own_afE A1016 (by decide) (ow39 hw)) all0))
  replace f973 := f973.keep Kc1032
  replace f983 := f983.keep Kc1032
  replace f994 := f994.keep Kc1032
  replace f1006 := f1006.keep Kc1032
  replace A1016 := A1016.keep Kc1032
  clear f1024
  clear f1025
  clear f1026
  replace O0 := own_oldKeep O0 Kc1032 (allS big1021 all0)
  replace K0 := K0.trans Kc1032 (allS (Or.inr sz1022) all0)
  replace K1 := K1.trans Kc1032 (allS (Or.inr sz1023) all0)
  clear Kc1032
  refine own_go (fun _ k => XS.astore X1027.here hx rfl (hb hby at_73) rfl rfl (l' := #[iv p1, iv p2, iv p3, iv p4, iv p5, iv ((p5 &&& (2147483647 : Int32)) % (5 : Int32)), iv uz, rv wa, rv w971, rv w981, rv w992, rv w1004, rv b1016, .unset, .unset, .unset, .unset, .unset, .unset, .unset]) rfl k) ?_
  show own_Go p e below s _ _ _ (T1027.setTop (mkF m 75 #[iv p1, iv p2, iv p3, iv p4, iv p5, iv ((p5 &&& (2147483647 : Int32)) % (5 : Int32)), iv uz, rv wa, rv w971, rv w981, rv w992, rv w1004, rv b1016, .unset, .unset, .unset, .unset, .unset, .unset, .unset] []))
  exact sg_s75 hw hO p1 p2 p3 p4 p5 uz wa w971 w981 w992 w1004 b1016 (0 : Int32) h0 T1027.heap X1027 hx hby hml hret hlk hZ hown hnm (rfl : T1027.heap = T1027.heap) N0 O0 K0 f1028 f1029 f1030 f1031 f973 f983 f994 f1006 f974 f984 f995 f1007 big1021 sz1022 hacc (by omega) (by omega)
set_option maxRecDepth 65536 in
set_option maxHeartbeats 40000000 in
theorem sg_s24 {l : Launch} {Z : State} {a0 : Array Value} (hw : own_W Z a0) {zc : Int32} {wd : Addr} {kd : ClassId} {wx : Addr} {wy : Addr} {wsp : Addr} {wspv : Addr} {wspk : ClassId} (hO : own_Olds Z zc wd kd wx wy wsp wspv wspk) {p : Program} {e : Env} {s : State} {m : MethodId} {args : Array Value} {below : List Frame} {meth : Method} {c : Code} {T : State} {locs : List Loc} {cells slots : Nat} (p1 : Int32) (p2 : Int32) (p3 : Int32) (p4 : Int32) (p5 : Int32) (uz : Int32) (h0 hs1 : Heap)
    (X0 : Stand p l e room_1 s m args below meth c T locs cells slots) (hx : p.tables.exec = Jvm.exec) (hby : c.code = code) (hml : c.maxLocals = 20) (hret : meth.sig.returnType = some .boolean) (hlk : meth.locks = false) (hZ : Z.Warmed39 s.vm) (hown : s.vm.findClass "com/example/padlock/padlock/lock/AccessAnnouncedPinLaw" = some m.cls) (hnm : meth.name = "law") (e0 : T.heap = hs1) (N0 : Fr Z.heap.size locs) (O0 : Ext Z.heap hs1) (K0 : Keep h0 hs1 []) (hcells : cells ≤ 0) (hslots : slots ≤ 0) :
    own_Go p e below s (Q_law Z zc wd kd wx wy wsp wspv wspk p1 p2 p3 p4 p5 h0) room_1.cells room_1.slots (T.setTop (mkF m 24 #[iv p1, iv p2, iv p3, iv p4, iv p5, iv ((p5 &&& (2147483647 : Int32)) % (5 : Int32)), .unset, .unset, .unset, .unset, .unset, .unset, .unset, .unset, .unset, .unset, .unset, .unset, .unset, .unset] [(.int uz)])) := by
  obtain ⟨oCS, oCz, oDE, oDV, oEx, oSh, oE1, oE2, oPF, oSPE, oSPC, oSPF, oSPV, oNe⟩ := id hO
  have K1 := Keep.refl hs1 []
  show own_Go p e below s _ _ _ (T.setTop (mkF m 24 #[iv p1, iv p2, iv p3, iv p4, iv p5, iv ((p5 &&& (2147483647 : Int32)) % (5 : Int32)), .unset, .unset, .unset, .unset, .unset, .unset, .unset, .unset, .unset, .unset, .unset, .unset, .unset, .unset] [(.int uz)]))
  refine own_go (fun _ k => XS.istore X0.here hx rfl (hb hby at_24) rfl (l' := #[iv p1, iv p2, iv p3, iv p4, iv p5, iv ((p5 &&& (2147483647 : Int32)) % (5 : Int32)), iv uz, .unset, .unset, .unset, .unset, .unset, .unset, .unset, .unset, .unset, .unset, .unset, .unset, .unset]) rfl (XS.iload X0.here hx rfl (hb hby at_26) rfl k)) ?_
  by_cases hc1034 : uz = (0 : Int32)
  · refine own_go (fun _ k => XS.ifYes X0.here hx rfl (pc0 := 28) (pc' := 37) rfl (hb hby at_28) rfl ((if0 _ _).trans (teq hc1034).1) (by decide) (by decide) k) ?_
    show own_Go p e below s _ _ _ (T.setTop (mkF m 37 #[iv p1, iv p2, iv p3, iv p4, iv p5, iv ((p5 &&& (2147483647 : Int32)) % (5 : Int32)), iv uz, .unset, .unset, .unset, .unset, .unset, .unset, .unset, .unset, .unset, .unset, .unset, .unset, .unset] []))
    obtain ⟨T1035, X1035, e1035, st1035⟩ := getS2 X0 hx hZ hown (host := "") (Or.inl (ow1 hw)) Via.refl e0 (oEx.ext O0) (g := (mkF m 37 #[iv p1, iv p2, iv p3, iv p4, iv p5, iv ((p5 &&& (2147483647 : Int32)) % (5 : Int32)), iv uz, .unset, .unset, .unset, .unset, .unset, .unset, .unset, .unset, .unset, .unset, .unset, .unset, .unset] [])) rfl (hb hby at_37)
    refine own_go st1035 ?_
    clear st1035 X0 e0
    show own_Go p e below s _ _ _ (T1035.setTop (mkF m 40 #[iv p1, iv p2, iv p3, iv p4, iv p5, iv ((p5 &&& (2147483647 : Int32)) % (5 : Int32)), iv uz, .unset, .unset, .unset, .unset, .unset, .unset, .unset, .unset, .unset, .unset, .unset, .unset, .unset] [(.ref wx)]))
    exact sg_s40 hw hO p1 p2 p3 p4 p5 uz wx h0 hs1 X1035 hx hby hml hret hlk hZ hown hnm e1035 N0 O0 K0 (Or.inl ⟨hc1034, rfl⟩) (by omega) (by omega)
  · refine own_go (fun _ k => XS.ifNo X0.here hx rfl (hb hby at_28) rfl ((if0 _ _).trans (feq hc1034).1) k) ?_
    show own_Go p e below s _ _ _ (T.setTop (mkF m 31 #[iv p1, iv p2, iv p3, iv p4, iv p5, iv ((p5 &&& (2147483647 : Int32)) % (5 : Int32)), iv uz, .unset, .unset, .unset, .unset, .unset, .unset, .unset, .unset, .unset, .unset, .unset, .unset, .unset] []))
    obtain ⟨T1036, X1036, e1036, st1036⟩ := getS2 X0 hx hZ hown (host := "") (Or.inl (ow171 hw)) Via.refl e0 (oSh.ext O0) (g := (mkF m 31 #[iv p1, iv p2, iv p3, iv p4, iv p5, iv ((p5 &&& (2147483647 : Int32)) % (5 : Int32)), iv uz, .unset, .unset, .unset, .unset, .unset, .unset, .unset, .unset, .unset, .unset, .unset, .unset, .unset] [])) rfl (hb hby at_31)
    refine own_go st1036 ?_
    clear st1036 X0 e0
    refine own_go (fun _ k => XS.goto X1036.here hx rfl (pc0 := 34) (pc' := 40) rfl (hb hby at_34) (by decide) (by decide) k) ?_
    show own_Go p e below s _ _ _ (T1036.setTop (mkF m 40 #[iv p1, iv p2, iv p3, iv p4, iv p5, iv ((p5 &&& (2147483647 : Int32)) % (5 : Int32)), iv uz, .unset, .unset, .unset, .unset, .unset, .unset, .unset, .unset, .unset, .unset, .unset, .unset, .unset] [(.ref wy)]))
    exact sg_s40 hw hO p1 p2 p3 p4 p5 uz wy h0 hs1 X1036 hx hby hml hret hlk hZ hown hnm e1036 N0 O0 K0 (Or.inr ⟨hc1034, rfl⟩) (by omega) (by omega)
theorem ef_law (m : MethodId) (x0 : Int32) (x1 : Int32) (x2 : Int32) (x3 : Int32) (x4 : Int32) : entryFrame m #[(.int x0), (.int x1), (.int x2), (.int x3), (.int x4)] maxLocals = mkF m 0 #[iv x0, iv x1, iv x2, iv x3, iv x4, .unset, .unset, .unset, .unset, .unset, .unset, .unset, .unset, .unset, .unset, .unset, .unset, .unset, .unset, .unset] [] := by first | (simp [entryFrame, mkF, argsToLocals, Value.category, maxLocals]; done) | rfl
set_option maxRecDepth 65536 in
set_option maxHeartbeats 40000000 in
theorem rm_law (l : Launch) (Z : State) (a0 : Array Value) (hw : own_W Z a0) {zc : Int32} {wd : Addr} {kd : ClassId} {wx : Addr} {wy : Addr} {wsp : Addr} {wspv : Addr} {wspk : ClassId} (hO : own_Olds Z zc wd kd wx wy wsp wspv wspk) (ws : List Jvm.Cond) (p1 : Int32) (p2 : Int32) (p3 : Int32) (p4 : Int32) (p5 : Int32) (h0 : Heap) (O0 : Ext Z.heap h0) :
    own_MF l Z h0 x code maxLocals ret room_1 #[(.int p1), (.int p2), (.int p3), (.int p4), (.int p5)] (Q_law Z zc wd kd wx wy wsp wspv wspk p1 p2 p3 p4 p5 h0) ws := by
  refine own_met (Q := (Q_law Z zc wd kd wx wy wsp wspv wspk p1 p2 p3 p4 p5 h0)) _ _ (plainFor_of_name own_pn_8) ?_
  intro p e s m below meth c T X0 hx hby hml hret hlk hZ hown hnm e0
  replace hown : s.vm.findClass "com/example/padlock/padlock/lock/AccessAnnouncedPinLaw" = some m.cls := hown
  replace hnm : meth.name = "law" := hnm
  have hml : c.maxLocals = 20 := hml
  obtain ⟨oCS, oCz, oDE, oDV, oEx, oSh, oE1, oE2, oPF, oSPE, oSPC, oSPF, oSPV, oNe⟩ := id hO
  have N0 := Fr.nil Z.heap.size
  have K0 := Keep.refl h0 []
  refine own_go (fun _ k => castTop (ef_law m p1 p2 p3 p4 p5) k) ?_
  show own_Go p e below s _ _ _ (T.setTop (mkF m 0 #[iv p1, iv p2, iv p3, iv p4, iv p5, .unset, .unset, .unset, .unset, .unset, .unset, .unset, .unset, .unset, .unset, .unset, .unset, .unset, .unset, .unset] []))
  refine own_go (fun _ k => XS.iload X0.here hx rfl (hb hby at_0) rfl k) ?_
  refine own_go (X0.ldcInt hx hown (mvT hZ (ow0 hw)) (g := (mkF m 2 #[iv p1, iv p2, iv p3, iv p4, iv p5, .unset, .unset, .unset, .unset, .unset, .unset, .unset, .unset, .unset, .unset, .unset, .unset, .unset, .unset, .unset] [(.int p5)])) rfl (hb hby at_2)) ?_
  refine own_go (fun _ k => XS.iand X0.here hx rfl (hb hby at_4) rfl (XS.iconst X0.here hx rfl (hb hby at_5) (iremM X0 hx rfl (hb hby at_6) rfl (by decide : ¬ ((5 : Int32) = (0 : Int32))) (XS.istore X0.here hx rfl (hb hby at_7) rfl (l' := #[iv p1, iv p2, iv p3, iv p4, iv p5, iv ((p5 &&& (2147483647 : Int32)) % (5 : Int32)), .unset, .unset, .unset, .unset, .unset, .unset, .unset, .unset, .unset, .unset, .unset, .unset, .unset, .unset]) rfl (XS.iload X0.here hx rfl (hb hby at_9) rfl (XS.bipush X0.here hx rfl (hb hby at_11) k)))))) ?_
  refine own_go (fun _ k => XS.iushr X0.here hx rfl (hb hby at_13) rfl (XS.iconst X0.here hx rfl (hb hby at_14) (XS.iand X0.here hx rfl (hb hby at_15) rfl k))) ?_
  by_cases hc1037 : (((p5.toUInt32 >>> ((8 : Int32) &&& 31).toUInt32).toInt32) &&& (1 : Int32)) = (0 : Int32)
  · refine own_go (fun _ k => XS.ifYes X0.here hx rfl (pc0 := 16) (pc' := 23) rfl (hb hby at_16) rfl ((if0 _ _).trans (teq hc1037).1) (by decide) (by decide) k) ?_
    show own_Go p e below s _ _ _ (T.setTop (mkF m 23 #[iv p1, iv p2, iv p3, iv p4, iv p5, iv ((p5 &&& (2147483647 : Int32)) % (5 : Int32)), .unset, .unset, .unset, .unset, .unset, .unset, .unset, .unset, .unset, .unset, .unset, .unset, .unset, .unset] []))
    refine own_go (fun _ k => XS.iconst X0.here hx rfl (hb hby at_23) k) ?_
    show own_Go p e below s _ _ _ (T.setTop (mkF m 24 #[iv p1, iv p2, iv p3, iv p4, iv p5, iv ((p5 &&& (2147483647 : Int32)) % (5 : Int32)), .unset, .unset, .unset, .unset, .unset, .unset, .unset, .unset, .unset, .unset, .unset, .unset, .unset, .unset] [(.int (0 : Int32))]))
    exact sg_s24 hw hO p1 p2 p3 p4 p5 (0 : Int32) h0 h0 X0 hx hby hml hret hlk hZ hown hnm e0 N0 O0 K0 (by omega) (by omega)
  · refine own_go (fun _ k => XS.ifNo X0.here hx rfl (hb hby at_16) rfl ((if0 _ _).trans (feq hc1037).1) k) ?_
    show own_Go p e below s _ _ _ (T.setTop (mkF m 19 #[iv p1, iv p2, iv p3, iv p4, iv p5, iv ((p5 &&& (2147483647 : Int32)) % (5 : Int32)), .unset, .unset, .unset, .unset, .unset, .unset, .unset, .unset, .unset, .unset, .unset, .unset, .unset, .unset] []))
    refine own_go (fun _ k => XS.iconst X0.here hx rfl (hb hby at_19) (XS.goto X0.here hx rfl (pc0 := 20) (pc' := 24) rfl (hb hby at_20) (by decide) (by decide) k)) ?_
    show own_Go p e below s _ _ _ (T.setTop (mkF m 24 #[iv p1, iv p2, iv p3, iv p4, iv p5, iv ((p5 &&& (2147483647 : Int32)) % (5 : Int32)), .unset, .unset, .unset, .unset, .unset, .unset, .unset, .unset, .unset, .unset, .unset, .unset, .unset, .unset] [(.int (1 : Int32))]))
    exact sg_s24 hw hO p1 p2 p3 p4 p5 (1 : Int32) h0 h0 X0 hx hby hml hret hlk hZ hown hnm e0 N0 O0 K0 (by omega) (by omega)
set_option maxRecDepth 65536 in
set_option maxHeartbeats 40000000 in
theorem comes_1 {Post : Tables → Env → Array Value → State → Outcome → State → Prop} (hpost : ∀ tb e args s v u, (limb_1_1.after args s (.returned v) u = true ∧ limb_1_2.after args s (.returned v) u = true ∧ True) → FrameEnd s (.returned v) u (Jvm.fieldLocs frame_1_writes args s ++ Jvm.arrayLocs frame_1_arrays args s ++ Jvm.staticLocs frame_1_statics s) 48 320 → Post tb e args s (.returned v) u) :
    ArmFor flags0 classFile x code maxLocals ret World_1 tables_1 room_1 Calls_1 rest_1 Pre_1 Post := by
  intro l hfl _ _ p e ha hc hk s m args below hf hA hF happ hP
  obtain ⟨hcalls, hrest, hpre⟩ := hP
  obtain ⟨-, -, -, hnamed, -, -, -, hat⟩ := (Spec.applies_iff hf).mp happ
  obtain ⟨hg, hn⟩ := and_e (Cond.before_iff.mp (show (Jvm.Cond.and given_1 narrow_1).before args s = true from hpre))
  obtain ⟨gA0, gB0⟩ := and_e hg
  obtain ⟨gA1, gB1⟩ := and_e gB0
  obtain ⟨gA2, gB2⟩ := and_e gB1
  obtain ⟨gA3, gB3⟩ := and_e gB2
  obtain ⟨gA4, gB4⟩ := and_e gB3
  obtain ⟨w0, w1, w2, w3, w4, rfl⟩ : ∃ w0 w1 w2 w3 w4 : Value, args = #[w0, w1, w2, w3, w4] := by
    have hs : args.size = 5 := by simpa [Cond.value, given_1] using gA0
    obtain ⟨L⟩ := args
    match L, hs with
    | [w0, w1, w2, w3, w4], _ => exact ⟨w0, w1, w2, w3, w4, rfl⟩
  have hw := fun d (hd : d ∈ tables_1) => atoms_spec (ws := Jvm.Cond.code x code maxLocals ret :: tables_1) hat d (List.mem_cons_of_mem _ hd)
  have hfit : Fit s := fun {y c} hc i hi => by
    obtain ⟨ha, rfl⟩ := Array.getElem?_eq_some_iff.mp hc
    have q := List.all_eq_true.mp ((Array.all_eq_true_iff_forall_mem.mp hF) _ (Array.getElem_mem ha)) i (List.mem_range.mpr hi)
    simpa [Array.getElem?_eq_getElem hi] using q
  obtain ⟨hsets, hown0⟩ := atoms_of _ (rest_1_c_eq ▸ (show rest_1_c.before _ s = true from hrest))
  have hr0 := Cond.before_iff.mp hown0
  obtain ⟨i0, ei0⟩ := is_v gA1
  obtain rfl : w0 = (.int i0) := Option.some.inj ei0
  obtain ⟨i1, ei1⟩ := is_v gA2
  obtain rfl : w1 = (.int i1) := Option.some.inj ei1
  obtain ⟨i2, ei2⟩ := is_v gA3
  obtain rfl : w2 = (.int i2) := Option.some.inj ei2
  obtain ⟨i3, ei3⟩ := is_v gA4
  obtain rfl : w3 = (.int i3) := Option.some.inj ei3
  obtain ⟨i4, ei4⟩ := is_v gB4
  obtain rfl : w4 = (.int i4) := Option.some.inj ei4
  obtain ⟨zc, cse⟩ := is_v (Cond.before_iff.mp (hsets _ (List.mem_of_getElem? (i := 1) rfl)))
  have oCS := Sta.start cse (Or.inl (hsets _ (List.mem_of_getElem? (i := 0) rfl)))
  have csn := Cond.before_iff.mp (hsets _ (List.mem_of_getElem? (i := 2) rfl))
  have oCz : ¬ zc = (0 : Int32) := gotF (Cond.eq_ints cse (Term.int_eval 0)) (by have q := not_v csn; simpa using q)
  have al2 := Cond.before_iff.mp (hsets _ (List.mem_of_getElem? (i := 15) rfl))
  have al4 := Cond.before_iff.mp (hsets _ (List.mem_of_getElem? (i := 17) rfl))
  obtain ⟨wd, ale⟩ := arr_v al2
  obtain ⟨cld, alA⟩ := Arr.start ale al2
  have oDE := Sta.start ale (Or.inr ⟨(ow40 hw), (hsets _ (List.mem_of_getElem? (i := 11) rfl))⟩)
  have aln := own_lenOf ale (alA.fin (Vm.Alike.refl _)) al4
  have oDV : Arv s s.heap wd cld.cls (.object "java/lang/Object") (0 : Int32) [] .null := Arv.start hfit alA aln.1 aln.2 (by decide) rfl trivial
  obtain ⟨nw0, hn⟩ := and_e hn
  obtain ⟨nw1, hn⟩ := and_e hn
  obtain ⟨nw2, hn⟩ := and_e hn
  obtain ⟨nw3, hn⟩ := and_e hn
  obtain ⟨nw4, hn⟩ := and_e hn
  obtain ⟨nw5, hn⟩ := and_e hn
  obtain ⟨nw6, hn⟩ := and_e hn
  obtain ⟨nw7, hn⟩ := and_e hn
  obtain ⟨nw8, hn⟩ := and_e hn
  obtain ⟨nw9, hn⟩ := and_e hn
  obtain ⟨nw10, hn⟩ := and_e hn
  obtain ⟨nw11, hn⟩ := and_e hn
  obtain ⟨nw12, hn⟩ := and_e hn
  obtain ⟨nw13, hn⟩ := and_e hn
  obtain ⟨nw14, hn⟩ := and_e hn
  obtain ⟨nw15, hn⟩ := and_e hn
  obtain ⟨nw16, hn⟩ := and_e hn
  obtain ⟨nw17, hn⟩ := and_e hn
  obtain ⟨nw18, hn⟩ := and_e hn
  obtain ⟨nw19, hn⟩ := and_e hn
  obtain ⟨nw20, hn⟩ := and_e hn
  obtain ⟨nw21, hn⟩ := and_e hn
  obtain ⟨nw22, hn⟩ := and_e hn
  obtain ⟨nw23, hn⟩ := and_e hn
  obtain ⟨nw24, hn⟩ := and_e hn
  obtain ⟨nw25, hn⟩ := and_e hn
  obtain ⟨nw26, hn⟩ := and_e hn
  obtain ⟨nw27, hn⟩ := and_e hn
  have nw28 := hn
  obtain ⟨wx, e1⟩ := exa_v nw0
  obtain ⟨wy, e2⟩ := exa_v nw1
  have oE1 := Exa.start e1 nw0
  have oE2 := Exa.start e2 nw1
  have oEx := Sta.start e1 (Or.inr ⟨(ow2 hw), (ow3 hw)⟩)
  have oSh := Sta.start e2 (Or.inr ⟨(ow2 hw), (ow142 hw)⟩)
  obtain ⟨wsp, xSPe⟩ := exa_v nw2
  have oSPE := Exa.start xSPe nw2
  have oSPC := Fld.start (own_ordFld nw5 xSPe)
  obtain ⟨wspv, xSPf⟩ := arr_v nw3
  have oSPF := Fld.start ((fld_at xSPe).symm.trans xSPf)
  obtain ⟨xSPc, xSPA⟩ := Arr.start xSPf nw3
  have xSPn := own_lenOf xSPf (xSPA.fin (Vm.Alike.refl _)) nw4
  have oSPV : Arv s s.heap wspv xSPc.cls .byte (7 : Int32) [.int (115 : Int32), .int (104 : Int32), .int (97 : Int32), .int (114 : Int32), .int (101 : Int32), .int (100 : Int32), .int (45 : Int32)] (.int (0 : Int32)) := Arv.start hfit xSPA xSPn.1 xSPn.2 (by decide) rfl ⟨own_elemI xSPf (xSPA.fin (Vm.Alike.refl _)) (by decide) nw12, own_elemI xSPf (xSPA.fin (Vm.Alike.refl _)) (by decide) nw13, own_elemI xSPf (xSPA.fin (Vm.Alike.refl _)) (by decide) nw14, own_elemI xSPf (xSPA.fin (Vm.Alike.refl _)) (by decide) nw15, own_elemI xSPf (xSPA.fin (Vm.Alike.refl _)) (by decide) nw16, own_elemI xSPf (xSPA.fin (Vm.Alike.refl _)) (by decide) nw17, own_elemI xSPf (xSPA.fin (Vm.Alike.refl _)) (by decide) nw18, trivial⟩
  have oPF := Fld.start ((fld_at e2).symm.trans xSPe)
  have oNe : wx ≠ wy := own_neOrd nw7 nw6 e1 e2
  have hO : own_Olds s _ _ _ _ _ _ _ _ := ⟨oCS, oCz, oDE, oDV, oEx, oSh, oE1, oE2, oPF, oSPE, oSPC, oSPF, oSPV, oNe⟩
  obtain ⟨n, o, h1, h2, h3, _, L, rfl, ⟨rfl, N, -⟩, hq⟩ := rm_law l s _ hw hO tables_1 i0 i1 i2 i3 i4  s.heap ⟨Nat.le_refl _, fun _ _ q => q⟩  p e ha hc hk s m _ below hf ((Spec.applies_iff_loose hf).mp happ).1 ⟨rfl, State.Warmed39.refl s, rfl⟩ trivial
  refine ⟨n, _, h1, h2, h3, hpost _ _ _ _ _ _ ⟨Cond.after_iff.mpr rfl, Cond.after_iff.mpr (eq_i res_at (Term.int_eval (1)) rfl), trivial⟩ ⟨hq.1, hq.2.1, (hq.2.2.sift fun y hy => Or.inr (N y hy)).mono (by decide) (by decide)⟩⟩
theorem main_1_1 : Claimed_1_1 := comes_1 fun _ _ _ _ _ _ h hF => ⟨h.1, hF⟩
theorem main_1_2 : Claimed_1_2 := comes_1 fun _ _ _ _ _ _ h hF => ⟨h.2.1, hF⟩
end Jvm.Pilot.@@N@@
namespace Jvm.Pilot.@@N@@
open Jvm Jvm.ClassFile Sem Op Lib Jvm.Free Jvm.Stand Jvm.Pilot.@@N@@.Jvm.D
/-! MADE BY PROGRAM (witnessworld.py) out of the Statement's table words and the real class files: 33 classes; the members and pool entries that the words name. The judged class is class 1, her method 3. -/
namespace start1
open Jvm.ClassFile
def u (s : String) : CpInfo := .utf8 (stringToUtf16 s)
/-- a pool by its gaps: so many unusable entries, then the entry; so many at the end -/
def gap : Nat → List CpInfo → List CpInfo
  | 0, r => r
  | n + 1, r => .unusable :: gap n r
def poolList (es : List (Nat × CpInfo)) (last : Nat) : List CpInfo := es.foldr (fun e r => gap e.1 (e.2 :: r)) (gap last [])
def pool (es : List (Nat × CpInfo)) (last : Nat) : Array CpInfo := ⟨poolList es last⟩
def fileOf (pool : Array CpInfo) (this : Nat) (attrs : Array Attribute := #[]) (ms : Array MethodInfo := #[]) (fl : Nat := 33) (sup : Nat := 0) (ifs : Array Nat := #[]) (fds : Array FieldInfo := #[]) : ClassFile where
  minorVersion := 0
  majorVersion := 65
  constantPool := pool
  accessFlags := fl
  thisClass := this
  superClass := sup
  interfaces := ifs
  fields := fds
  methods := ms
  attributes := attrs
def plain (name : String) (sup : Option ClassId) : Class where
  name := name
  kind := .ordinary
  loader := none
  accessFlags := 33
  super := sup
  interfaces := #[]
  cf := none
  fields := #[]
  methods := #[]
  instanceTypes := #[]
  staticTypes := #[]
  resolved := #[]
  callSites := []
  init := .initialized
  statics := none
  mirror := none

def pool0 : Array CpInfo := pool [(5, u "<init>"), (0, u "()V"), (1, .class_ 10), (1, u "java/lang/Object")] 113

def k0c0 : Code := { maxStack := 0, maxLocals := 1, code := object_method_1_code, exceptionTable := #[], attributes := #[] }
def k0m0 : Method := { name := "<init>", desc := "()V", sig := { parameters := [], returnType := none }, accessFlags := 1, code := some k0c0 }
/-- java/lang/Object -/
def k0 : Class := { plain "java/lang/Object" none with
  accessFlags := 33
  interfaces := #[]
  cf := some (fileOf pool0 8 #[] #[{ accessFlags := 1, nameIndex := 5, descriptorIndex := 6, attributes := #[] }] 33 0 #[] #[])
  fields := #[]
  methods := #[k0m0]
  instanceTypes := #[]
  staticTypes := #[]
  resolved := Array.replicate 124 none
  statics := none }

def pool1 : Array CpInfo := pool [(2, .class_ 4), (0, .nameAndType 5 6), (0, u "java/lang/Object"), (0, u "<init>"), (0, u "()V"), (0, .class_ 8), (0, u "java/lang/String"), (0, .methodref 7 10), (0, .nameAndType 5 11), (0, u "([C)V"), (0, .integer 2147483647), (0, .fieldref 14 15), (0, .class_ 16), (0, .nameAndType 17 18), (0, u "com/example/padlock/padlock/lock/Access"), (0, u "SHARED"), (0, u "Lcom/example/padlock/padlock/lock/Access;"), (0, .fieldref 14 20), (0, .nameAndType 21 18), (0, u "EXCLUSIVE"), (0, .methodref 23 24), (0, .class_ 25), (0, .nameAndType 26 27), (0, u "com/example/padlock/padlock/lock/AccessAnnouncedPinLaw"), (0, u "node"), (0, u "(I)Ljava/lang/String;"), (0, .class_ 29), (0, u "java/util/ArrayList"), (0, .methodref 28 3), (0, .interfaceMethodref 32 33), (0, .class_ 34), (0, .nameAndType 35 36), (0, u "java/util/List"), (0, u "add"), (0, u "(Ljava/lang/Object;)Z"), (0, .methodref 23 38), (0, .nameAndType 39 40), (0, u "shared"), (0, u "(I)Z"), (0, .methodref 42 43), (0, .class_ 44), (0, .nameAndType 45 46), (0, u "java/lang/Math"), (0, u "max"), (0, u "(II)I"), (0, .methodref 14 48), (0, .nameAndType 49 50), (0, u "announced"), (0, u "(Ljava/util/List;)Ljava/util/List;"), (0, .interfaceMethodref 32 52), (0, .nameAndType 53 54), (0, u "size"), (0, u "()I"), (0, .interfaceMethodref 32 56), (0, .nameAndType 57 58), (0, u "get"), (0, u "(I)Ljava/lang/Object;"), (5, u "law"), (0, u "(IIIII)Z")] 2

def k1m0 : Method := { name := "<init>", desc := "()V", sig := { parameters := [], returnType := none }, accessFlags := 1, code := none }
def k1c1 : Code := { maxStack := 5, maxLocals := 4, code := method_2_code, exceptionTable := #[], attributes := #[] }
def k1m1 : Method := { name := "node", desc := "(I)Ljava/lang/String;", sig := { parameters := [.int], returnType := some (.object "java/lang/String") }, accessFlags := 10, code := some k1c1 }
def k1c2 : Code := { maxStack := 4, maxLocals := 3, code := method_3_code, exceptionTable := #[], attributes := #[] }
def k1m2 : Method := { name := "shared", desc := "(I)Z", sig := { parameters := [.int], returnType := some .boolean }, accessFlags := 10, code := some k1c2 }
def k1c3 : Code := { maxStack := 3, maxLocals := 20, code := code, exceptionTable := #[], attributes := #[] }
def k1m3 : Method := { name := "law", desc := "(IIIII)Z", sig := { parameters := [.int, .int, .int, .int, .int], returnType := some .boolean }, accessFlags := 9, code := some k1c3 }
/-- com/example/padlock/padlock/lock/AccessAnnouncedPinLaw -/
def k1 : Class := { plain "com/example/padlock/padlock/lock/AccessAnnouncedPinLaw" (some 0) with
  accessFlags := 49
  interfaces := #[]
  cf := some (fileOf pool1 23 #[] #[{ accessFlags := 1, nameIndex := 5, descriptorIndex := 6, attributes := #[] }, { accessFlags := 10, nameIndex := 26, descriptorIndex := 27, attributes := #[] }, { accessFlags := 10, nameIndex := 39, descriptorIndex := 40, attributes := #[] }, { accessFlags := 9, nameIndex := 64, descriptorIndex := 65, attributes := #[] }] 49 2 #[] #[])
  fields := #[]
  methods := #[k1m0, k1m1, k1m2, k1m3]
  instanceTypes := #[]
  staticTypes := #[]
  resolved := Array.replicate 68 none
  statics := none }

def pool2 : Array CpInfo := pool [(1, .class_ 2), (0, u "java/lang/constant/Constable"), (0, .class_ 4), (0, u "java/lang/Object")] 6

/-- java/lang/constant/Constable -/
def k2 : Class := { plain "java/lang/constant/Constable" (some 0) with
  accessFlags := 1537
  interfaces := #[]
  cf := some (fileOf pool2 1 #[] #[] 1537 3 #[] #[])
  fields := #[]
  methods := #[]
  instanceTypes := #[]
  staticTypes := #[]
  resolved := Array.replicate 11 none
  statics := none }

def pool3 : Array CpInfo := pool [(1, .class_ 2), (0, u "java/lang/Comparable"), (0, .class_ 4), (0, u "java/lang/Object")] 7

/-- java/lang/Comparable -/
def k3 : Class := { plain "java/lang/Comparable" (some 0) with
  accessFlags := 1537
  interfaces := #[]
  cf := some (fileOf pool3 1 #[] #[] 1537 3 #[] #[])
  fields := #[]
  methods := #[]
  instanceTypes := #[]
  staticTypes := #[]
  resolved := Array.replicate 12 none
  statics := none }

def pool4 : Array CpInfo := pool [(1, .class_ 2), (0, u "java/io/Serializable"), (0, .class_ 4), (0, u "java/lang/Object")] 2

/-- java/io/Serializable -/
def k4 : Class := { plain "java/io/Serializable" (some 0) with
  accessFlags := 1537
  interfaces := #[]
  cf := some (fileOf pool4 1 #[] #[] 1537 3 #[] #[])
  fields := #[]
  methods := #[]
  instanceTypes := #[]
  staticTypes := #[]
  resolved := Array.replicate 7 none
  statics := none }

def pool5 : Array CpInfo := pool [(2, .class_ 4), (1, u "java/lang/Enum"), (0, u "name"), (0, u "Ljava/lang/String;"), (2, u "ordinal"), (0, u "I"), (1, .class_ 14), (1, u "java/lang/Object"), (4, u "hash"), (86, .class_ 108), (1, u "java/lang/Enum$EnumDesc"), (2, .class_ 112), (0, u "java/lang/constant/Constable"), (0, .class_ 114), (0, u "java/lang/Comparable"), (0, .class_ 116), (0, u "java/io/Serializable")] 87

/-- java/lang/Enum -/
def k5 : Class := { plain "java/lang/Enum" (some 0) with
  accessFlags := 1057
  interfaces := #[2, 3, 4]
  cf := some (fileOf pool5 2 #[.nestMembers #[106]] #[] 1057 12 #[111, 113, 115] #[{ accessFlags := 18, nameIndex := 5, descriptorIndex := 6, attributes := #[] }, { accessFlags := 18, nameIndex := 9, descriptorIndex := 10, attributes := #[] }, { accessFlags := 2, nameIndex := 19, descriptorIndex := 10, attributes := #[] }])
  fields := #[{ name := "name", type := (.object "java/lang/String"), accessFlags := 18, slot := 0, constantValue := 0 }, { name := "ordinal", type := .int, accessFlags := 18, slot := 1, constantValue := 0 }, { name := "hash", type := .int, accessFlags := 2, slot := 2, constantValue := 0 }]
  methods := #[]
  instanceTypes := #[(.object "java/lang/String"), .int, .int]
  staticTypes := #[]
  resolved := Array.replicate 204 none
  statics := none }

def pool6 : Array CpInfo := pool [(7, .class_ 8), (0, u "com/example/padlock/padlock/line/GrantRule"), (0, .class_ 10), (0, u "java/lang/Object")] 11

/-- com/example/padlock/padlock/line/GrantRule -/
def k6 : Class := { plain "com/example/padlock/padlock/line/GrantRule" (some 0) with
  accessFlags := 1537
  interfaces := #[]
  cf := some (fileOf pool6 7 #[] #[] 1537 9 #[] #[])
  fields := #[]
  methods := #[]
  instanceTypes := #[]
  staticTypes := #[]
  resolved := Array.replicate 22 none
  statics := none }

def pool7 : Array CpInfo := pool [(1, .class_ 2), (0, u "com/example/padlock/padlock/lock/Access"), (0, .fieldref 1 4), (0, .nameAndType 5 6), (0, u "EXCLUSIVE"), (0, u "Lcom/example/padlock/padlock/lock/Access;"), (0, .fieldref 1 8), (0, .nameAndType 9 6), (0, u "SHARED"), (2, u "$VALUES"), (0, u "[Lcom/example/padlock/padlock/lock/Access;"), (6, .class_ 22), (1, u "java/lang/Enum"), (4, u "<init>"), (1, .fieldref 1 30), (0, .nameAndType 31 32), (0, u "nodePrefix"), (0, u "Ljava/lang/String;"), (2, u "title"), (0, .methodref 37 38), (0, .class_ 39), (0, .nameAndType 40 41), (0, u "java/lang/String"), (0, u "startsWith"), (0, u "(Ljava/lang/String;)Z"), (1, .class_ 45), (1, u "java/util/List"), (20, .interfaceMethodref 43 67), (0, .nameAndType 68 69), (0, u "size"), (0, u "()I"), (0, .interfaceMethodref 43 71), (0, .nameAndType 72 73), (0, u "get"), (0, u "(I)Ljava/lang/Object;"), (6, .methodref 1 81), (0, .nameAndType 82 83), (0, u "ofNode"), (0, u "(Ljava/lang/String;)Lcom/example/padlock/padlock/lock/Access;"), (0, .methodref 1 85), (0, .nameAndType 86 87), (0, u "conflictsWith"), (0, u "(Lcom/example/padlock/padlock/lock/Access;)Z"), (3, .class_ 92), (0, u "java/util/ArrayList"), (0, .methodref 91 94), (0, .nameAndType 27 95), (0, u "()V"), (0, .interfaceMethodref 43 97), (0, .nameAndType 98 99), (0, u "add"), (0, u "(Ljava/lang/Object;)Z"), (17, .class_ 118), (0, u "com/example/padlock/padlock/line/GrantRule"), (9, u "(Ljava/util/List;)Ljava/util/List;"), (1, u "announced")] 24

def k7c0 : Code := { maxStack := 2, maxLocals := 1, code := prog_5_method_4_code, exceptionTable := #[], attributes := #[] }
def k7m0 : Method := { name := "ofNode", desc := "(Ljava/lang/String;)Lcom/example/padlock/padlock/lock/Access;", sig := { parameters := [(.object "java/lang/String")], returnType := some (.object "com/example/padlock/padlock/lock/Access") }, accessFlags := 8, code := some k7c0 }
def k7c1 : Code := { maxStack := 2, maxLocals := 2, code := prog_5_method_7_code, exceptionTable := #[], attributes := #[] }
def k7m1 : Method := { name := "conflictsWith", desc := "(Lcom/example/padlock/padlock/lock/Access;)Z", sig := { parameters := [(.object "com/example/padlock/padlock/lock/Access")], returnType := some .boolean }, accessFlags := 0, code := some k7c1 }
def k7c2 : Code := { maxStack := 4, maxLocals := 4, code := prog_5_method_10_code, exceptionTable := #[], attributes := #[] }
def k7m2 : Method := { name := "announced", desc := "(Ljava/util/List;)Ljava/util/List;", sig := { parameters := [(.object "java/util/List")], returnType := some (.object "java/util/List") }, accessFlags := 1, code := some k7c2 }
/-- com/example/padlock/padlock/lock/Access -/
def k7 : Class := { plain "com/example/padlock/padlock/lock/Access" (some 5) with
  accessFlags := 16433
  interfaces := #[6]
  cf := some (fileOf pool7 1 #[] #[{ accessFlags := 8, nameIndex := 82, descriptorIndex := 83, attributes := #[] }, { accessFlags := 0, nameIndex := 86, descriptorIndex := 87, attributes := #[] }, { accessFlags := 1, nameIndex := 130, descriptorIndex := 128, attributes := #[] }] 16433 20 #[117] #[{ accessFlags := 16409, nameIndex := 5, descriptorIndex := 6, attributes := #[] }, { accessFlags := 16409, nameIndex := 9, descriptorIndex := 6, attributes := #[] }, { accessFlags := 18, nameIndex := 31, descriptorIndex := 32, attributes := #[] }, { accessFlags := 18, nameIndex := 35, descriptorIndex := 32, attributes := #[] }, { accessFlags := 4122, nameIndex := 12, descriptorIndex := 13, attributes := #[] }])
  fields := #[{ name := "EXCLUSIVE", type := (.object "com/example/padlock/padlock/lock/Access"), accessFlags := 16409, slot := 0, constantValue := 0 }, { name := "SHARED", type := (.object "com/example/padlock/padlock/lock/Access"), accessFlags := 16409, slot := 1, constantValue := 0 }, { name := "nodePrefix", type := (.object "java/lang/String"), accessFlags := 18, slot := 3, constantValue := 0 }, { name := "title", type := (.object "java/lang/String"), accessFlags := 18, slot := 4, constantValue := 0 }, { name := "$VALUES", type := (.array (.object "com/example/padlock/padlock/lock/Access")), accessFlags := 4122, slot := 2, constantValue := 0 }]
  methods := #[k7m0, k7m1, k7m2]
  instanceTypes := #[(.object "java/lang/String"), .int, .int, (.object "java/lang/String"), (.object "java/lang/String")]
  staticTypes := #[(.object "com/example/padlock/padlock/lock/Access"), (.object "com/example/padlock/padlock/lock/Access"), (.array (.object "com/example/padlock/padlock/lock/Access"))]
  resolved := Array.replicate 155 none
  statics := some 0 }

def pool8 : Array CpInfo := pool [(2, .class_ 4), (1, u "java/lang/CharSequence"), (42, .class_ 48), (0, u "java/lang/CharSequence$1CodePointIterator"), (10, .class_ 60), (0, u "java/lang/CharSequence$1CharIterator"), (5, .class_ 67), (0, u "java/lang/Object")] 63

/-- java/lang/CharSequence -/
def k8 : Class := { plain "java/lang/CharSequence" (some 0) with
  accessFlags := 1537
  interfaces := #[]
  cf := some (fileOf pool8 2 #[.nestMembers #[47, 59]] #[] 1537 66 #[] #[])
  fields := #[]
  methods := #[]
  instanceTypes := #[]
  staticTypes := #[]
  resolved := Array.replicate 131 none
  statics := none }

def pool9 : Array CpInfo := pool [(1, .class_ 2), (0, u "java/lang/constant/ConstantDesc"), (0, .class_ 4), (0, u "java/lang/Object")] 32

/-- java/lang/constant/ConstantDesc -/
def k9 : Class := { plain "java/lang/constant/ConstantDesc" (some 0) with
  accessFlags := 1537
  interfaces := #[]
  cf := some (fileOf pool9 1 #[] #[] 1537 3 #[] #[])
  fields := #[]
  methods := #[]
  instanceTypes := #[]
  staticTypes := #[]
  resolved := Array.replicate 37 none
  statics := none }

def pool10 : Array CpInfo := pool [(1, .methodref 2 3), (0, .class_ 4), (0, .nameAndType 5 6), (0, u "java/lang/Object"), (0, u "<init>"), (0, u "()V"), (2, .fieldref 10 11), (0, .class_ 12), (0, .nameAndType 13 14), (0, u "java/lang/String"), (0, u "value"), (0, u "[B"), (0, .fieldref 10 16), (0, .nameAndType 17 18), (0, u "coder"), (0, u "B"), (2, u "hash"), (0, u "I"), (2, u "hashIsZero"), (0, u "Z"), (0, .methodref 10 28), (0, .nameAndType 5 29), (0, u "([CIILjava/lang/Void;)V"), (8, .fieldref 10 39), (0, .nameAndType 40 26), (0, u "COMPACT_STRINGS"), (1, .class_ 44), (1, u "java/lang/StringUTF16"), (0, u "compress"), (1, .methodref 42 48), (0, .nameAndType 49 50), (0, u "coderFromArrayLen"), (0, u "([BI)B"), (126, .methodref 42 178), (0, .nameAndType 45 179), (0, u "([CII)[B"), (154, u "()I"), (0, .methodref 10 336), (0, .nameAndType 17 337), (0, u "()B"), (38, u "([BI[BII)I"), (128, .methodref 10 506), (0, .nameAndType 507 334), (0, u "length"), (51, .class_ 561), (1, u "jdk/internal/util/ArraysSupport"), (0, u "mismatch"), (12, .class_ 576), (0, u "java/lang/CharSequence"), (22, u "CASE_INSENSITIVE_ORDER"), (0, u "Ljava/util/Comparator;"), (6, .methodref 559 608), (0, .nameAndType 562 376), (15, .methodref 10 625), (0, .nameAndType 626 627), (0, u "startsWith"), (0, u "(Ljava/lang/String;I)Z"), (382, u "([C)V"), (90, u "serialPersistentFields"), (0, u "[Ljava/io/ObjectStreamField;"), (0, .class_ 1104), (0, u "java/lang/String$CaseInsensitiveComparator"), (1, .class_ 1107), (0, u "java/io/Serializable"), (0, .class_ 1109), (0, u "java/lang/Comparable"), (0, .class_ 1111), (0, u "java/lang/constant/Constable"), (0, .class_ 1113), (0, u "java/lang/constant/ConstantDesc"), (2, u "serialVersionUID"), (0, u "J"), (3, u "REPL"), (0, u "C"), (2, u "LATIN1"), (1, u "UTF16"), (129, u "(Ljava/lang/String;)Z")] 193

def k10m0 : Method := { name := "<init>", desc := "()V", sig := { parameters := [], returnType := none }, accessFlags := 1, code := none }
def k10c1 : Code := { maxStack := 5, maxLocals := 2, code := jdk_42_method_3_code, exceptionTable := #[], attributes := #[] }
def k10m1 : Method := { name := "<init>", desc := "([C)V", sig := { parameters := [(.array .char)], returnType := none }, accessFlags := 1, code := some k10c1 }
def k10c2 : Code := { maxStack := 2, maxLocals := 1, code := jdk_42_method_54_code, exceptionTable := #[], attributes := #[] }
def k10m2 : Method := { name := "length", desc := "()I", sig := { parameters := [], returnType := some .int }, accessFlags := 1, code := some k10c2 }
def k10c3 : Code := { maxStack := 5, maxLocals := 8, code := jdk_42_method_75_code, exceptionTable := #[], attributes := #[] }
def k10m3 : Method := { name := "startsWith", desc := "(Ljava/lang/String;I)Z", sig := { parameters := [(.object "java/lang/String"), .int], returnType := some .boolean }, accessFlags := 1, code := some k10c3 }
def k10c4 : Code := { maxStack := 3, maxLocals := 2, code := jdk_42_method_76_code, exceptionTable := #[], attributes := #[] }
def k10m4 : Method := { name := "startsWith", desc := "(Ljava/lang/String;)Z", sig := { parameters := [(.object "java/lang/String")], returnType := some .boolean }, accessFlags := 1, code := some k10c4 }
def k10c5 : Code := { maxStack := 4, maxLocals := 6, code := jdk_42_method_149_code, exceptionTable := #[], attributes := #[] }
def k10m5 : Method := { name := "<init>", desc := "([CIILjava/lang/Void;)V", sig := { parameters := [(.array .char), .int, .int, (.object "java/lang/Void")], returnType := none }, accessFlags := 2, code := some k10c5 }
def k10c6 : Code := { maxStack := 1, maxLocals := 1, code := jdk_42_method_152_code, exceptionTable := #[], attributes := #[] }
def k10m6 : Method := { name := "coder", desc := "()B", sig := { parameters := [], returnType := some .byte }, accessFlags := 0, code := some k10c6 }
/-- java/lang/String -/
def k10 : Class := { plain "java/lang/String" (some 0) with
  accessFlags := 49
  interfaces := #[4, 3, 8, 2, 9]
  cf := some (fileOf pool10 10 #[.nestMembers #[1103]] #[{ accessFlags := 1, nameIndex := 5, descriptorIndex := 6, attributes := #[] }, { accessFlags := 1, nameIndex := 5, descriptorIndex := 1010, attributes := #[] }, { accessFlags := 1, nameIndex := 507, descriptorIndex := 334, attributes := #[] }, { accessFlags := 1, nameIndex := 626, descriptorIndex := 627, attributes := #[] }, { accessFlags := 1, nameIndex := 626, descriptorIndex := 1257, attributes := #[] }, { accessFlags := 2, nameIndex := 5, descriptorIndex := 29, attributes := #[] }, { accessFlags := 0, nameIndex := 17, descriptorIndex := 337, attributes := #[] }] 49 2 #[1106, 1108, 575, 1110, 1112] #[{ accessFlags := 18, nameIndex := 13, descriptorIndex := 14, attributes := #[] }, { accessFlags := 18, nameIndex := 17, descriptorIndex := 18, attributes := #[] }, { accessFlags := 2, nameIndex := 21, descriptorIndex := 22, attributes := #[] }, { accessFlags := 2, nameIndex := 25, descriptorIndex := 26, attributes := #[] }, { accessFlags := 26, nameIndex := 1116, descriptorIndex := 1117, attributes := #[] }, { accessFlags := 24, nameIndex := 40, descriptorIndex := 26, attributes := #[] }, { accessFlags := 26, nameIndex := 1101, descriptorIndex := 1102, attributes := #[] }, { accessFlags := 26, nameIndex := 1121, descriptorIndex := 1122, attributes := #[] }, { accessFlags := 25, nameIndex := 599, descriptorIndex := 600, attributes := #[] }, { accessFlags := 24, nameIndex := 1125, descriptorIndex := 18, attributes := #[] }, { accessFlags := 24, nameIndex := 1127, descriptorIndex := 18, attributes := #[] }])
  fields := #[{ name := "value", type := (.array .byte), accessFlags := 18, slot := 0, constantValue := 0 }, { name := "coder", type := .byte, accessFlags := 18, slot := 1, constantValue := 0 }, { name := "hash", type := .int, accessFlags := 2, slot := 2, constantValue := 0 }, { name := "hashIsZero", type := .boolean, accessFlags := 2, slot := 3, constantValue := 0 }, { name := "serialVersionUID", type := .long, accessFlags := 26, slot := 0, constantValue := 0 }, { name := "COMPACT_STRINGS", type := .boolean, accessFlags := 24, slot := 1, constantValue := 0 }, { name := "serialPersistentFields", type := (.array (.object "java/io/ObjectStreamField")), accessFlags := 26, slot := 2, constantValue := 0 }, { name := "REPL", type := .char, accessFlags := 26, slot := 3, constantValue := 0 }, { name := "CASE_INSENSITIVE_ORDER", type := (.object "java/util/Comparator"), accessFlags := 25, slot := 4, constantValue := 0 }, { name := "LATIN1", type := .byte, accessFlags := 24, slot := 5, constantValue := 0 }, { name := "UTF16", type := .byte, accessFlags := 24, slot := 6, constantValue := 0 }]
  methods := #[k10m0, k10m1, k10m2, k10m3, k10m4, k10m5, k10m6]
  instanceTypes := #[(.array .byte), .byte, .int, .boolean]
  staticTypes := #[.long, .boolean, (.array (.object "java/io/ObjectStreamField")), .char, (.object "java/util/Comparator"), .byte, .byte]
  resolved := Array.replicate 1451 none
  statics := some 1 }

def pool11 : Array CpInfo := pool [(6, .class_ 8), (1, u "java/lang/Object"), (0, u "<init>"), (0, u "()V"), (1, .class_ 14), (1, u "java/lang/StringUTF16"), (31, u "$assertionsDisabled"), (0, u "Z"), (13, u "HI_BYTE_SHIFT"), (0, u "I"), (2, u "LO_BYTE_SHIFT"), (49, .methodref 12 116), (0, .nameAndType 117 118), (0, u "compress"), (0, u "([CI[BII)I"), (3, u "([CII)[B"), (138, u "coderFromArrayLen"), (0, u "([BI)B"), (106, .class_ 371), (1, u "java/lang/StringUTF16$LinesSpliterator"), (58, u "MAX_LENGTH"), (196, .class_ 628), (0, u "java/lang/StringUTF16$CodePointsSpliterator"), (0, .class_ 630), (0, u "java/lang/StringUTF16$CharsSpliterator")] 4

def k11m0 : Method := { name := "<init>", desc := "()V", sig := { parameters := [], returnType := none }, accessFlags := 0, code := none }
def k11c1 : Code := { maxStack := 2, maxLocals := 2, code := jdk_52_method_15_code, exceptionTable := #[], attributes := #[] }
def k11m1 : Method := { name := "coderFromArrayLen", desc := "([BI)B", sig := { parameters := [(.array .byte), .int], returnType := some .byte }, accessFlags := 8, code := some k11c1 }
def k11c2 : Code := { maxStack := 5, maxLocals := 6, code := jdk_52_method_16_code, exceptionTable := #[], attributes := #[] }
def k11m2 : Method := { name := "compress", desc := "([CII)[B", sig := { parameters := [(.array .char), .int, .int], returnType := some (.array .byte) }, accessFlags := 9, code := some k11c2 }
def k11c3 : Code := { maxStack := 3, maxLocals := 7, code := jdk_52_method_21_code, exceptionTable := #[], attributes := #[] }
def k11m3 : Method := { name := "compress", desc := "([CI[BII)I", sig := { parameters := [(.array .char), .int, (.array .byte), .int, .int], returnType := some .int }, accessFlags := 9, code := some k11c3 }
/-- java/lang/StringUTF16 -/
def k11 : Class := { plain "java/lang/StringUTF16" (some 0) with
  accessFlags := 48
  interfaces := #[]
  cf := some (fileOf pool11 12 #[.nestMembers #[627, 629, 369]] #[{ accessFlags := 0, nameIndex := 9, descriptorIndex := 10, attributes := #[] }, { accessFlags := 8, nameIndex := 261, descriptorIndex := 262, attributes := #[] }, { accessFlags := 9, nameIndex := 117, descriptorIndex := 122, attributes := #[] }, { accessFlags := 9, nameIndex := 117, descriptorIndex := 118, attributes := #[] }] 48 6 #[] #[{ accessFlags := 26, nameIndex := 61, descriptorIndex := 62, attributes := #[] }, { accessFlags := 26, nameIndex := 65, descriptorIndex := 62, attributes := #[] }, { accessFlags := 24, nameIndex := 430, descriptorIndex := 62, attributes := #[] }, { accessFlags := 4120, nameIndex := 46, descriptorIndex := 47, attributes := #[] }])
  fields := #[{ name := "HI_BYTE_SHIFT", type := .int, accessFlags := 26, slot := 0, constantValue := 0 }, { name := "LO_BYTE_SHIFT", type := .int, accessFlags := 26, slot := 1, constantValue := 0 }, { name := "MAX_LENGTH", type := .int, accessFlags := 24, slot := 2, constantValue := 0 }, { name := "$assertionsDisabled", type := .boolean, accessFlags := 4120, slot := 3, constantValue := 0 }]
  methods := #[k11m0, k11m1, k11m2, k11m3]
  instanceTypes := #[]
  staticTypes := #[.int, .int, .int, .boolean]
  resolved := Array.replicate 635 none
  statics := none }

def pool12 : Array CpInfo := pool [(8, .class_ 10), (1, u "java/lang/Iterable"), (24, .class_ 36), (0, u "java/lang/Object")] 25

/-- java/lang/Iterable -/
def k12 : Class := { plain "java/lang/Iterable" (some 0) with
  accessFlags := 1537
  interfaces := #[]
  cf := some (fileOf pool12 8 #[] #[] 1537 35 #[] #[])
  fields := #[]
  methods := #[]
  instanceTypes := #[]
  staticTypes := #[]
  resolved := Array.replicate 62 none
  statics := none }

def pool13 : Array CpInfo := pool [(10, .class_ 12), (1, u "java/util/Collection"), (47, .class_ 61), (0, u "java/lang/Object"), (0, .class_ 63), (0, u "java/lang/Iterable")] 51

/-- java/util/Collection -/
def k13 : Class := { plain "java/util/Collection" (some 0) with
  accessFlags := 1537
  interfaces := #[12]
  cf := some (fileOf pool13 10 #[] #[] 1537 60 #[62] #[])
  fields := #[]
  methods := #[]
  instanceTypes := #[]
  staticTypes := #[]
  resolved := Array.replicate 115 none
  statics := none }

def pool14 : Array CpInfo := pool [(1, .methodref 2 3), (0, .class_ 4), (0, .nameAndType 5 6), (0, u "java/lang/Object"), (0, u "<init>"), (0, u "()V"), (1, .class_ 10), (1, u "java/util/AbstractCollection"), (66, .class_ 78), (0, u "java/util/Collection")] 81

def k14c0 : Code := { maxStack := 1, maxLocals := 1, code := jdk_22_method_1_code, exceptionTable := #[], attributes := #[] }
def k14m0 : Method := { name := "<init>", desc := "()V", sig := { parameters := [], returnType := none }, accessFlags := 4, code := some k14c0 }
/-- java/util/AbstractCollection -/
def k14 : Class := { plain "java/util/AbstractCollection" (some 0) with
  accessFlags := 1057
  interfaces := #[13]
  cf := some (fileOf pool14 8 #[] #[{ accessFlags := 4, nameIndex := 5, descriptorIndex := 6, attributes := #[] }] 1057 2 #[77] #[])
  fields := #[]
  methods := #[k14m0]
  instanceTypes := #[]
  staticTypes := #[]
  resolved := Array.replicate 160 none
  statics := none }

def pool15 : Array CpInfo := pool [(8, .class_ 10), (1, u "java/util/SequencedCollection"), (15, .class_ 27), (0, u "java/lang/Object"), (0, .class_ 29), (0, u "java/util/Collection")] 27

/-- java/util/SequencedCollection -/
def k15 : Class := { plain "java/util/SequencedCollection" (some 0) with
  accessFlags := 1537
  interfaces := #[13]
  cf := some (fileOf pool15 8 #[] #[] 1537 26 #[28] #[])
  fields := #[]
  methods := #[]
  instanceTypes := #[]
  staticTypes := #[]
  resolved := Array.replicate 57 none
  statics := none }

def pool16 : Array CpInfo := pool [(8, .class_ 10), (1, u "java/util/List"), (49, u "add"), (3, u "(Ljava/lang/Object;)Z"), (10, u "get"), (0, u "(I)Ljava/lang/Object;"), (2, u "size"), (0, u "()I"), (22, .class_ 104), (0, u "java/lang/Object"), (15, .class_ 121), (0, u "java/util/SequencedCollection")] 129

def k16m0 : Method := { name := "size", desc := "()I", sig := { parameters := [], returnType := some .int }, accessFlags := 1025, code := none }
def k16m1 : Method := { name := "add", desc := "(Ljava/lang/Object;)Z", sig := { parameters := [(.object "java/lang/Object")], returnType := some .boolean }, accessFlags := 1025, code := none }
def k16m2 : Method := { name := "get", desc := "(I)Ljava/lang/Object;", sig := { parameters := [.int], returnType := some (.object "java/lang/Object") }, accessFlags := 1025, code := none }
/-- java/util/List -/
def k16 : Class := { plain "java/util/List" (some 0) with
  accessFlags := 1537
  interfaces := #[15]
  cf := some (fileOf pool16 8 #[] #[{ accessFlags := 1025, nameIndex := 79, descriptorIndex := 80, attributes := #[] }, { accessFlags := 1025, nameIndex := 60, descriptorIndex := 64, attributes := #[] }, { accessFlags := 1025, nameIndex := 75, descriptorIndex := 76, attributes := #[] }] 1537 103 #[120] #[])
  fields := #[]
  methods := #[k16m0, k16m1, k16m2]
  instanceTypes := #[]
  staticTypes := #[]
  resolved := Array.replicate 251 none
  statics := none }

def pool17 : Array CpInfo := pool [(1, .methodref 2 3), (0, .class_ 4), (0, .nameAndType 5 6), (0, u "java/util/AbstractCollection"), (0, u "<init>"), (0, u "()V"), (0, .fieldref 8 9), (0, .class_ 10), (0, .nameAndType 11 12), (0, u "java/util/AbstractList"), (0, u "modCount"), (0, u "I"), (64, .class_ 78), (0, u "java/util/AbstractList$Itr"), (3, .class_ 83), (0, u "java/util/AbstractList$ListItr"), (9, .class_ 94), (0, u "java/util/AbstractList$RandomAccessSubList"), (3, .class_ 99), (0, u "java/util/AbstractList$SubList"), (33, .class_ 134), (0, u "java/util/List"), (73, .class_ 209), (0, u "java/util/AbstractList$SubList$1"), (0, .class_ 211), (0, u "java/util/AbstractList$RandomAccessSpliterator")] 6

def k17c0 : Code := { maxStack := 2, maxLocals := 1, code := jdk_39_method_1_code, exceptionTable := #[], attributes := #[] }
def k17m0 : Method := { name := "<init>", desc := "()V", sig := { parameters := [], returnType := none }, accessFlags := 4, code := some k17c0 }
/-- java/util/AbstractList -/
def k17 : Class := { plain "java/util/AbstractList" (some 14) with
  accessFlags := 1057
  interfaces := #[16]
  cf := some (fileOf pool17 8 #[.nestMembers #[93, 98, 208, 210, 82, 77]] #[{ accessFlags := 4, nameIndex := 5, descriptorIndex := 6, attributes := #[] }] 1057 2 #[133] #[{ accessFlags := 132, nameIndex := 11, descriptorIndex := 12, attributes := #[] }])
  fields := #[{ name := "modCount", type := .int, accessFlags := 132, slot := 0, constantValue := 0 }]
  methods := #[k17m0]
  instanceTypes := #[.int]
  staticTypes := #[]
  resolved := Array.replicate 218 none
  statics := none }

def pool18 : Array CpInfo := pool [(1, .class_ 2), (0, u "java/util/RandomAccess"), (0, .class_ 4), (0, u "java/lang/Object")] 2

/-- java/util/RandomAccess -/
def k18 : Class := { plain "java/util/RandomAccess" (some 0) with
  accessFlags := 1537
  interfaces := #[]
  cf := some (fileOf pool18 1 #[] #[] 1537 3 #[] #[])
  fields := #[]
  methods := #[]
  instanceTypes := #[]
  staticTypes := #[]
  resolved := Array.replicate 7 none
  statics := none }

def pool19 : Array CpInfo := pool [(1, .class_ 2), (0, u "java/lang/Cloneable"), (0, .class_ 4), (0, u "java/lang/Object")] 2

/-- java/lang/Cloneable -/
def k19 : Class := { plain "java/lang/Cloneable" (some 0) with
  accessFlags := 1537
  interfaces := #[]
  cf := some (fileOf pool19 1 #[] #[] 1537 3 #[] #[])
  fields := #[]
  methods := #[]
  instanceTypes := #[]
  staticTypes := #[]
  resolved := Array.replicate 7 none
  statics := none }

def pool20 : Array CpInfo := pool [(1, .methodref 2 3), (0, .class_ 4), (0, .nameAndType 5 6), (0, u "java/util/AbstractList"), (0, u "<init>"), (0, u "()V"), (0, .class_ 8), (0, u "java/lang/Object"), (0, .fieldref 10 11), (0, .class_ 12), (0, .nameAndType 13 14), (0, u "java/util/ArrayList"), (0, u "elementData"), (0, u "[Ljava/lang/Object;"), (2, u "EMPTY_ELEMENTDATA"), (21, .fieldref 10 40), (0, .nameAndType 41 14), (0, u "DEFAULTCAPACITY_EMPTY_ELEMENTDATA"), (5, u "()[Ljava/lang/Object;"), (0, .fieldref 10 49), (0, .nameAndType 50 51), (0, u "size"), (0, u "I"), (11, .fieldref 10 64), (0, .nameAndType 65 51), (0, u "modCount"), (3, .methodref 10 70), (0, .nameAndType 71 72), (0, u "grow"), (0, u "(I)[Ljava/lang/Object;"), (6, .methodref 80 81), (0, .class_ 82), (0, .nameAndType 83 84), (0, u "java/lang/Math"), (0, u "max"), (0, u "(II)I"), (11, u "(Ljava/lang/Object;)Z"), (21, .methodref 119 120), (0, .class_ 121), (0, .nameAndType 122 84), (0, u "java/util/Objects"), (0, u "checkIndex"), (0, .methodref 10 124), (0, .nameAndType 13 125), (0, u "(I)Ljava/lang/Object;"), (3, .methodref 10 130), (0, .nameAndType 71 47), (0, .methodref 10 132), (0, .nameAndType 133 134), (0, u "add"), (0, u "(Ljava/lang/Object;[Ljava/lang/Object;I)V"), (13, .class_ 149), (0, u "java/util/List"), (36, u "()I"), (75, .class_ 263), (0, u "java/util/ArrayList$ListItr"), (3, .class_ 268), (0, u "java/util/ArrayList$Itr"), (7, .class_ 277), (0, u "java/util/ArrayList$SubList"), (12, .class_ 291), (0, u "java/util/ArrayList$ArrayListSpliterator"), (37, .class_ 330), (0, u "java/util/RandomAccess"), (0, .class_ 332), (0, u "java/lang/Cloneable"), (0, .class_ 334), (0, u "java/io/Serializable"), (0, u "serialVersionUID"), (0, u "J"), (3, u "DEFAULT_CAPACITY"), (40, u "get"), (118, .class_ 501), (0, u "java/util/ArrayList$SubList$2"), (0, .class_ 503), (0, u "java/util/ArrayList$SubList$1")] 5

def k20c0 : Code := { maxStack := 2, maxLocals := 1, code := jdk_38_method_2_code, exceptionTable := #[], attributes := #[] }
def k20m0 : Method := { name := "<init>", desc := "()V", sig := { parameters := [], returnType := none }, accessFlags := 1, code := some k20c0 }
def k20c1 : Code := { maxStack := 4, maxLocals := 4, code := jdk_38_method_6_code, exceptionTable := #[], attributes := #[] }
def k20m1 : Method := { name := "grow", desc := "(I)[Ljava/lang/Object;", sig := { parameters := [.int], returnType := some (.array (.object "java/lang/Object")) }, accessFlags := 2, code := some k20c1 }
def k20c2 : Code := { maxStack := 3, maxLocals := 1, code := jdk_38_method_7_code, exceptionTable := #[], attributes := #[] }
def k20m2 : Method := { name := "grow", desc := "()[Ljava/lang/Object;", sig := { parameters := [], returnType := some (.array (.object "java/lang/Object")) }, accessFlags := 2, code := some k20c2 }
def k20c3 : Code := { maxStack := 1, maxLocals := 1, code := jdk_38_method_8_code, exceptionTable := #[], attributes := #[] }
def k20m3 : Method := { name := "size", desc := "()I", sig := { parameters := [], returnType := some .int }, accessFlags := 1, code := some k20c3 }
def k20c4 : Code := { maxStack := 2, maxLocals := 2, code := jdk_38_method_18_code, exceptionTable := #[], attributes := #[] }
def k20m4 : Method := { name := "elementData", desc := "(I)Ljava/lang/Object;", sig := { parameters := [.int], returnType := some (.object "java/lang/Object") }, accessFlags := 0, code := some k20c4 }
def k20c5 : Code := { maxStack := 2, maxLocals := 2, code := jdk_38_method_20_code, exceptionTable := #[], attributes := #[] }
def k20m5 : Method := { name := "get", desc := "(I)Ljava/lang/Object;", sig := { parameters := [.int], returnType := some (.object "java/lang/Object") }, accessFlags := 1, code := some k20c5 }
def k20c6 : Code := { maxStack := 3, maxLocals := 4, code := jdk_38_method_24_code, exceptionTable := #[], attributes := #[] }
def k20m6 : Method := { name := "add", desc := "(Ljava/lang/Object;[Ljava/lang/Object;I)V", sig := { parameters := [(.object "java/lang/Object"), (.array (.object "java/lang/Object")), .int], returnType := none }, accessFlags := 2, code := some k20c6 }
def k20c7 : Code := { maxStack := 4, maxLocals := 2, code := jdk_38_method_25_code, exceptionTable := #[], attributes := #[] }
def k20m7 : Method := { name := "add", desc := "(Ljava/lang/Object;)Z", sig := { parameters := [(.object "java/lang/Object")], returnType := some .boolean }, accessFlags := 1, code := some k20c7 }
/-- java/util/ArrayList -/
def k20 : Class := { plain "java/util/ArrayList" (some 17) with
  accessFlags := 33
  interfaces := #[16, 18, 19, 4]
  cf := some (fileOf pool20 10 #[.nestMembers #[290, 276, 500, 502, 262, 267]] #[{ accessFlags := 1, nameIndex := 5, descriptorIndex := 6, attributes := #[] }, { accessFlags := 2, nameIndex := 71, descriptorIndex := 72, attributes := #[] }, { accessFlags := 2, nameIndex := 71, descriptorIndex := 47, attributes := #[] }, { accessFlags := 1, nameIndex := 50, descriptorIndex := 186, attributes := #[] }, { accessFlags := 0, nameIndex := 13, descriptorIndex := 125, attributes := #[] }, { accessFlags := 1, nameIndex := 381, descriptorIndex := 125, attributes := #[] }, { accessFlags := 2, nameIndex := 133, descriptorIndex := 134, attributes := #[] }, { accessFlags := 1, nameIndex := 133, descriptorIndex := 96, attributes := #[] }] 33 2 #[148, 329, 331, 333] #[{ accessFlags := 26, nameIndex := 335, descriptorIndex := 336, attributes := #[] }, { accessFlags := 26, nameIndex := 340, descriptorIndex := 51, attributes := #[] }, { accessFlags := 26, nameIndex := 17, descriptorIndex := 14, attributes := #[] }, { accessFlags := 26, nameIndex := 41, descriptorIndex := 14, attributes := #[] }, { accessFlags := 128, nameIndex := 13, descriptorIndex := 14, attributes := #[] }, { accessFlags := 2, nameIndex := 50, descriptorIndex := 51, attributes := #[] }])
  fields := #[{ name := "serialVersionUID", type := .long, accessFlags := 26, slot := 0, constantValue := 0 }, { name := "DEFAULT_CAPACITY", type := .int, accessFlags := 26, slot := 1, constantValue := 0 }, { name := "EMPTY_ELEMENTDATA", type := (.array (.object "java/lang/Object")), accessFlags := 26, slot := 2, constantValue := 0 }, { name := "DEFAULTCAPACITY_EMPTY_ELEMENTDATA", type := (.array (.object "java/lang/Object")), accessFlags := 26, slot := 3, constantValue := 0 }, { name := "elementData", type := (.array (.object "java/lang/Object")), accessFlags := 128, slot := 1, constantValue := 0 }, { name := "size", type := .int, accessFlags := 2, slot := 2, constantValue := 0 }]
  methods := #[k20m0, k20m1, k20m2, k20m3, k20m4, k20m5, k20m6, k20m7]
  instanceTypes := #[.int, (.array (.object "java/lang/Object")), .int]
  staticTypes := #[.long, .int, (.array (.object "java/lang/Object")), (.array (.object "java/lang/Object"))]
  resolved := Array.replicate 509 none
  statics := some 2 }

def pool21 : Array CpInfo := pool [(1, .class_ 2), (0, u "java/lang/Math"), (1, .class_ 6), (1, u "java/lang/Object"), (0, u "<init>"), (0, u "()V"), (89, .class_ 100), (1, u "java/lang/Math$RandomNumberGeneratorHolder"), (71, u "negativeZeroFloatBits"), (0, u "J"), (2, u "negativeZeroDoubleBits"), (21, u "max"), (46, u "$assertionsDisabled"), (0, u "Z"), (88, u "(II)I"), (2, u "twoToTheDoubleScaleDown"), (0, u "D"), (4, u "twoToTheDoubleScaleUp"), (9, u "E"), (3, u "PI"), (2, u "TAU"), (2, u "DEGREES_TO_RADIANS"), (0, u "RADIANS_TO_DEGREES")] 94

def k21m0 : Method := { name := "<init>", desc := "()V", sig := { parameters := [], returnType := none }, accessFlags := 2, code := none }
def k21c1 : Code := { maxStack := 2, maxLocals := 2, code := jdk_29_method_65_code, exceptionTable := #[], attributes := #[] }
def k21m1 : Method := { name := "max", desc := "(II)I", sig := { parameters := [.int, .int], returnType := some .int }, accessFlags := 9, code := some k21c1 }
/-- java/lang/Math -/
def k21 : Class := { plain "java/lang/Math" (some 0) with
  accessFlags := 49
  interfaces := #[]
  cf := some (fileOf pool21 1 #[.nestMembers #[98]] #[{ accessFlags := 2, nameIndex := 7, descriptorIndex := 8, attributes := #[] }, { accessFlags := 9, nameIndex := 198, descriptorIndex := 335, attributes := #[] }] 49 4 #[] #[{ accessFlags := 25, nameIndex := 354, descriptorIndex := 339, attributes := #[] }, { accessFlags := 25, nameIndex := 358, descriptorIndex := 339, attributes := #[] }, { accessFlags := 25, nameIndex := 361, descriptorIndex := 339, attributes := #[] }, { accessFlags := 26, nameIndex := 364, descriptorIndex := 339, attributes := #[] }, { accessFlags := 26, nameIndex := 365, descriptorIndex := 339, attributes := #[] }, { accessFlags := 26, nameIndex := 172, descriptorIndex := 173, attributes := #[] }, { accessFlags := 26, nameIndex := 176, descriptorIndex := 173, attributes := #[] }, { accessFlags := 8, nameIndex := 344, descriptorIndex := 339, attributes := #[] }, { accessFlags := 8, nameIndex := 338, descriptorIndex := 339, attributes := #[] }, { accessFlags := 4120, nameIndex := 245, descriptorIndex := 246, attributes := #[] }])
  fields := #[{ name := "E", type := .double, accessFlags := 25, slot := 0, constantValue := 0 }, { name := "PI", type := .double, accessFlags := 25, slot := 1, constantValue := 0 }, { name := "TAU", type := .double, accessFlags := 25, slot := 2, constantValue := 0 }, { name := "DEGREES_TO_RADIANS", type := .double, accessFlags := 26, slot := 3, constantValue := 0 }, { name := "RADIANS_TO_DEGREES", type := .double, accessFlags := 26, slot := 4, constantValue := 0 }, { name := "negativeZeroFloatBits", type := .long, accessFlags := 26, slot := 5, constantValue := 0 }, { name := "negativeZeroDoubleBits", type := .long, accessFlags := 26, slot := 6, constantValue := 0 }, { name := "twoToTheDoubleScaleUp", type := .double, accessFlags := 8, slot := 7, constantValue := 0 }, { name := "twoToTheDoubleScaleDown", type := .double, accessFlags := 8, slot := 8, constantValue := 0 }, { name := "$assertionsDisabled", type := .boolean, accessFlags := 4120, slot := 9, constantValue := 0 }]
  methods := #[k21m0, k21m1]
  instanceTypes := #[]
  staticTypes := #[.double, .double, .double, .double, .double, .long, .long, .double, .double, .boolean]
  resolved := Array.replicate 460 none
  statics := none }

def pool22 : Array CpInfo := pool [(2, .class_ 4), (1, u "java/lang/Object"), (0, u "<init>"), (0, u "()V"), (35, .class_ 44), (1, u "java/util/Objects"), (60, .methodref 106 107), (0, .class_ 108), (0, .nameAndType 109 110), (0, u "jdk/internal/util/Preconditions"), (0, u "checkIndex"), (0, u "(IILjava/util/function/BiFunction;)I"), (60, u "(II)I")] 12

def k22m0 : Method := { name := "<init>", desc := "()V", sig := { parameters := [], returnType := none }, accessFlags := 2, code := none }
def k22c1 : Code := { maxStack := 3, maxLocals := 2, code := jdk_31_method_17_code, exceptionTable := #[], attributes := #[] }
def k22m1 : Method := { name := "checkIndex", desc := "(II)I", sig := { parameters := [.int, .int], returnType := some .int }, accessFlags := 9, code := some k22c1 }
/-- java/util/Objects -/
def k22 : Class := { plain "java/util/Objects" (some 0) with
  accessFlags := 49
  interfaces := #[]
  cf := some (fileOf pool22 42 #[] #[{ accessFlags := 2, nameIndex := 5, descriptorIndex := 6, attributes := #[] }, { accessFlags := 9, nameIndex := 109, descriptorIndex := 171, attributes := #[] }] 49 2 #[] #[])
  fields := #[]
  methods := #[k22m0, k22m1]
  instanceTypes := #[]
  staticTypes := #[]
  resolved := Array.replicate 184 none
  statics := none }

def pool23 : Array CpInfo := pool [(2, .class_ 4), (1, u "java/lang/Object"), (0, u "<init>"), (0, u "()V"), (17, .class_ 26), (1, u "jdk/internal/util/Preconditions"), (6, u "checkIndex"), (21, .class_ 56), (0, u "jdk/internal/util/Preconditions$4"), (57, .class_ 115), (0, u "jdk/internal/util/Preconditions$1"), (7, u "SIOOBE_FORMATTER"), (0, u "Ljava/util/function/BiFunction;"), (0, .class_ 126), (0, u "jdk/internal/util/Preconditions$2"), (3, u "AIOOBE_FORMATTER"), (0, .class_ 132), (0, u "jdk/internal/util/Preconditions$3"), (3, u "IOOBE_FORMATTER"), (41, u "(IILjava/util/function/BiFunction;)I")] 15

def k23m0 : Method := { name := "<init>", desc := "()V", sig := { parameters := [], returnType := none }, accessFlags := 1, code := none }
def k23c1 : Code := { maxStack := 3, maxLocals := 3, code := jdk_41_method_11_code, exceptionTable := #[], attributes := #[] }
def k23m1 : Method := { name := "checkIndex", desc := "(IILjava/util/function/BiFunction;)I", sig := { parameters := [.int, .int, (.object "java/util/function/BiFunction")], returnType := some .int }, accessFlags := 9, code := some k23c1 }
/-- jdk/internal/util/Preconditions -/
def k23 : Class := { plain "jdk/internal/util/Preconditions" (some 0) with
  accessFlags := 33
  interfaces := #[]
  cf := some (fileOf pool23 24 #[.nestMembers #[55, 131, 125, 114]] #[{ accessFlags := 1, nameIndex := 5, descriptorIndex := 6, attributes := #[] }, { accessFlags := 9, nameIndex := 33, descriptorIndex := 178, attributes := #[] }] 33 2 #[] #[{ accessFlags := 25, nameIndex := 123, descriptorIndex := 124, attributes := #[] }, { accessFlags := 25, nameIndex := 130, descriptorIndex := 124, attributes := #[] }, { accessFlags := 25, nameIndex := 136, descriptorIndex := 124, attributes := #[] }])
  fields := #[{ name := "SIOOBE_FORMATTER", type := (.object "java/util/function/BiFunction"), accessFlags := 25, slot := 0, constantValue := 0 }, { name := "AIOOBE_FORMATTER", type := (.object "java/util/function/BiFunction"), accessFlags := 25, slot := 1, constantValue := 0 }, { name := "IOOBE_FORMATTER", type := (.object "java/util/function/BiFunction"), accessFlags := 25, slot := 2, constantValue := 0 }]
  methods := #[k23m0, k23m1]
  instanceTypes := #[]
  staticTypes := #[(.object "java/util/function/BiFunction"), (.object "java/util/function/BiFunction"), (.object "java/util/function/BiFunction")]
  resolved := Array.replicate 194 none
  statics := some 3 }

def pool24 : Array CpInfo := pool [(9, u "<init>"), (6, .class_ 18), (1, u "java/lang/Object"), (0, u "()V"), (1, .class_ 23), (1, u "jdk/internal/util/ArraysSupport"), (0, u "LOG2_ARRAY_LONG_INDEX_SCALE"), (0, u "I"), (2, u "U"), (0, u "Ljdk/internal/misc/Unsafe;"), (8, u "BIG_ENDIAN"), (0, u "Z"), (8, u "LOG2_BYTE_BIT_SIZE"), (4, u "LOG2_ARRAY_INT_INDEX_SCALE"), (54, u "JLA"), (0, u "Ljdk/internal/access/JavaLangAccess;"), (11, u "LOG2_ARRAY_BOOLEAN_INDEX_SCALE"), (9, u "LOG2_ARRAY_BYTE_INDEX_SCALE"), (5, u "LOG2_ARRAY_CHAR_INDEX_SCALE"), (5, u "LOG2_ARRAY_SHORT_INDEX_SCALE"), (5, u "mismatch"), (12, u "LOG2_ARRAY_FLOAT_INDEX_SCALE"), (24, u "LOG2_ARRAY_DOUBLE_INDEX_SCALE"), (89, u "T_BOOLEAN"), (2, u "T_CHAR"), (1, u "T_FLOAT"), (1, u "T_DOUBLE"), (1, u "T_BYTE"), (1, u "T_SHORT"), (1, u "T_INT"), (1, u "T_LONG"), (1, u "SOFT_MAX_ARRAY_LENGTH"), (42, u "([BI[BII)I")] 40

def k24m0 : Method := { name := "<init>", desc := "()V", sig := { parameters := [], returnType := none }, accessFlags := 2, code := none }
def k24c1 : Code := { maxStack := 8, maxLocals := 8, code := jdk_48_method_14_code, exceptionTable := #[], attributes := #[] }
def k24m1 : Method := { name := "mismatch", desc := "([BI[BII)I", sig := { parameters := [(.array .byte), .int, (.array .byte), .int, .int], returnType := some .int }, accessFlags := 9, code := some k24c1 }
/-- jdk/internal/util/ArraysSupport -/
def k24 : Class := { plain "jdk/internal/util/ArraysSupport" (some 0) with
  accessFlags := 33
  interfaces := #[]
  cf := some (fileOf pool24 21 #[] #[{ accessFlags := 2, nameIndex := 9, descriptorIndex := 19, attributes := #[] }, { accessFlags := 9, nameIndex := 149, descriptorIndex := 337, attributes := #[] }] 33 16 #[] #[{ accessFlags := 24, nameIndex := 28, descriptorIndex := 29, attributes := #[] }, { accessFlags := 26, nameIndex := 38, descriptorIndex := 39, attributes := #[] }, { accessFlags := 25, nameIndex := 121, descriptorIndex := 25, attributes := #[] }, { accessFlags := 25, nameIndex := 131, descriptorIndex := 25, attributes := #[] }, { accessFlags := 25, nameIndex := 137, descriptorIndex := 25, attributes := #[] }, { accessFlags := 25, nameIndex := 143, descriptorIndex := 25, attributes := #[] }, { accessFlags := 25, nameIndex := 53, descriptorIndex := 25, attributes := #[] }, { accessFlags := 25, nameIndex := 24, descriptorIndex := 25, attributes := #[] }, { accessFlags := 25, nameIndex := 162, descriptorIndex := 25, attributes := #[] }, { accessFlags := 25, nameIndex := 187, descriptorIndex := 25, attributes := #[] }, { accessFlags := 26, nameIndex := 48, descriptorIndex := 25, attributes := #[] }, { accessFlags := 25, nameIndex := 277, descriptorIndex := 25, attributes := #[] }, { accessFlags := 25, nameIndex := 280, descriptorIndex := 25, attributes := #[] }, { accessFlags := 25, nameIndex := 282, descriptorIndex := 25, attributes := #[] }, { accessFlags := 25, nameIndex := 284, descriptorIndex := 25, attributes := #[] }, { accessFlags := 25, nameIndex := 286, descriptorIndex := 25, attributes := #[] }, { accessFlags := 25, nameIndex := 288, descriptorIndex := 25, attributes := #[] }, { accessFlags := 25, nameIndex := 290, descriptorIndex := 25, attributes := #[] }, { accessFlags := 25, nameIndex := 292, descriptorIndex := 25, attributes := #[] }, { accessFlags := 26, nameIndex := 108, descriptorIndex := 109, attributes := #[] }, { accessFlags := 25, nameIndex := 294, descriptorIndex := 25, attributes := #[] }])
  fields := #[{ name := "U", type := (.object "jdk/internal/misc/Unsafe"), accessFlags := 24, slot := 0, constantValue := 0 }, { name := "BIG_ENDIAN", type := .boolean, accessFlags := 26, slot := 1, constantValue := 0 }, { name := "LOG2_ARRAY_BOOLEAN_INDEX_SCALE", type := .int, accessFlags := 25, slot := 2, constantValue := 0 }, { name := "LOG2_ARRAY_BYTE_INDEX_SCALE", type := .int, accessFlags := 25, slot := 3, constantValue := 0 }, { name := "LOG2_ARRAY_CHAR_INDEX_SCALE", type := .int, accessFlags := 25, slot := 4, constantValue := 0 }, { name := "LOG2_ARRAY_SHORT_INDEX_SCALE", type := .int, accessFlags := 25, slot := 5, constantValue := 0 }, { name := "LOG2_ARRAY_INT_INDEX_SCALE", type := .int, accessFlags := 25, slot := 6, constantValue := 0 }, { name := "LOG2_ARRAY_LONG_INDEX_SCALE", type := .int, accessFlags := 25, slot := 7, constantValue := 0 }, { name := "LOG2_ARRAY_FLOAT_INDEX_SCALE", type := .int, accessFlags := 25, slot := 8, constantValue := 0 }, { name := "LOG2_ARRAY_DOUBLE_INDEX_SCALE", type := .int, accessFlags := 25, slot := 9, constantValue := 0 }, { name := "LOG2_BYTE_BIT_SIZE", type := .int, accessFlags := 26, slot := 10, constantValue := 0 }, { name := "T_BOOLEAN", type := .int, accessFlags := 25, slot := 11, constantValue := 0 }, { name := "T_CHAR", type := .int, accessFlags := 25, slot := 12, constantValue := 0 }, { name := "T_FLOAT", type := .int, accessFlags := 25, slot := 13, constantValue := 0 }, { name := "T_DOUBLE", type := .int, accessFlags := 25, slot := 14, constantValue := 0 }, { name := "T_BYTE", type := .int, accessFlags := 25, slot := 15, constantValue := 0 }, { name := "T_SHORT", type := .int, accessFlags := 25, slot := 16, constantValue := 0 }, { name := "T_INT", type := .int, accessFlags := 25, slot := 17, constantValue := 0 }, { name := "T_LONG", type := .int, accessFlags := 25, slot := 18, constantValue := 0 }, { name := "JLA", type := (.object "jdk/internal/access/JavaLangAccess"), accessFlags := 26, slot := 19, constantValue := 0 }, { name := "SOFT_MAX_ARRAY_LENGTH", type := .int, accessFlags := 25, slot := 20, constantValue := 0 }]
  methods := #[k24m0, k24m1]
  instanceTypes := #[]
  staticTypes := #[(.object "jdk/internal/misc/Unsafe"), .boolean, .int, .int, .int, .int, .int, .int, .int, .int, .int, .int, .int, .int, .int, .int, .int, .int, .int, (.object "jdk/internal/access/JavaLangAccess"), .int]
  resolved := Array.replicate 378 none
  statics := none }

def pool25 : Array CpInfo := pool [(4, .class_ 6), (1, u "java/lang/Object"), (0, u "<init>"), (0, u "()V"), (5, .class_ 16), (1, u "java/lang/StringLatin1"), (104, u "$assertionsDisabled"), (0, u "Z"), (98, .class_ 223), (1, u "java/lang/StringLatin1$LinesSpliterator"), (166, .class_ 391), (0, u "java/lang/StringLatin1$CharsSpliterator")] 3

def k25m0 : Method := { name := "<init>", desc := "()V", sig := { parameters := [], returnType := none }, accessFlags := 0, code := none }
/-- java/lang/StringLatin1 -/
def k25 : Class := { plain "java/lang/StringLatin1" (some 0) with
  accessFlags := 48
  interfaces := #[]
  cf := some (fileOf pool25 14 #[.nestMembers #[390, 221]] #[{ accessFlags := 0, nameIndex := 7, descriptorIndex := 8, attributes := #[] }] 48 4 #[] #[{ accessFlags := 4120, nameIndex := 121, descriptorIndex := 122, attributes := #[] }])
  fields := #[{ name := "$assertionsDisabled", type := .boolean, accessFlags := 4120, slot := 0, constantValue := 0 }]
  methods := #[k25m0]
  instanceTypes := #[]
  staticTypes := #[.boolean]
  resolved := Array.replicate 395 none
  statics := none }

/-- the primitive byte -/
def k26 : Class := { plain "byte" none with kind := .primitive 'B', accessFlags := 0x411 }
/-- [B -/
def k27 : Class := { plain "[B" (some 0) with kind := .array 26 .byte, interfaces := #[19, 4], accessFlags := 1041 }

/-- the primitive char -/
def k28 : Class := { plain "char" none with kind := .primitive 'C', accessFlags := 0x411 }
/-- [C -/
def k29 : Class := { plain "[C" (some 0) with kind := .array 28 .char, interfaces := #[19, 4], accessFlags := 1041 }

/-- the primitive int -/
def k30 : Class := { plain "int" none with kind := .primitive 'I', accessFlags := 0x411 }
/-- [I -/
def k31 : Class := { plain "[I" (some 0) with kind := .array 30 .int, interfaces := #[19, 4], accessFlags := 1041 }

/-- [Ljava/lang/Object; -/
def k32 : Class := { plain "[Ljava/lang/Object;" (some 0) with kind := .array 0 (.object "java/lang/Object"), interfaces := #[19, 4], accessFlags := 1041 }

def heap : Heap := #[{ cls := 7, slots := #[.ref 8, .ref 9, .null], vm := .statics 7 },
  { cls := 10, slots := #[.long 0, .int 1, .null, .int 0, .null, .int 0, .int 0], vm := .statics 10 },
  { cls := 20, slots := #[.long 0, .int 0, .ref 10, .ref 11], vm := .statics 20 },
  { cls := 23, slots := #[.null, .null, .null], vm := .statics 23 },
  { cls := 27, slots := #[.int 115, .int 104, .int 97, .int 114, .int 101, .int 100, .int 45], vm := .none },
  { cls := 27, slots := #[.int 101, .int 120, .int 99, .int 108, .int 117, .int 115, .int 105, .int 118, .int 101, .int 45], vm := .none },
  { cls := 10, slots := #[.ref 4, .int 0, .int 0, .int 0], vm := .none },
  { cls := 10, slots := #[.ref 5, .int 0, .int 0, .int 0], vm := .none },
  { cls := 7, slots := #[.null, .int 0, .int 0, .ref 7, .null], vm := .none },
  { cls := 7, slots := #[.null, .int 1, .int 0, .ref 6, .null], vm := .none },
  { cls := 32, slots := #[], vm := .none },
  { cls := 32, slots := #[], vm := .none }]
def classes : Array Class := #[k0, k1, k2, k3, k4, k5, k6, k7, k8, k9, k10, k11, k12, k13, k14, k15, k16, k17, k18, k19, k20, k21, k22, k23, k24, k25, k26, k27, k28, k29, k30, k31, k32]
def interned : List (Array UInt16 × Addr) := []
def slotsUsed : Nat := 52
def theMethod : MethodId := ⟨1, 3⟩
def args0 : Array Value := #[.int 3, .int 4, .int 5, .int 6, .int 7]
def aboutOver (below : List Frame) : State where
  vm := { classes := classes, interned := interned.toArray }
  heap := heap
  slotsUsed := slotsUsed
  threads := #[{ frames := .invoking theMethod args0 :: below }]
def below0 : List Frame := [.native { method := ⟨0, 0⟩, args := #[] }]
def about1 : State := aboutOver below0
def p0 : Program := .bare "" "" ""
def e0 : Env := launch0.env 0 0 0
theorem w_frames : about1.frames = Frame.invoking theMethod args0 :: below0 := rfl
set_option maxRecDepth 65536 in
theorem w_args : argsFit about1.vm theMethod args0 = true := by decide +kernel
set_option maxRecDepth 65536 in
theorem w_heap : heapFits about1 = true := by decide +kernel
set_option maxRecDepth 65536 in
theorem w_runnable : about1.curStatus? = some .runnable := by decide +kernel
set_option maxRecDepth 65536 in
theorem w_alone : about1.alone = true := by decide +kernel
set_option maxRecDepth 65536 in
theorem w_named : about1.methodNamed? x = some theMethod := by decide +kernel
set_option maxRecDepth 65536 in
theorem w_hears : about1.hears theMethod below0 = true := by decide +kernel
set_option maxRecDepth 65536 in
theorem w_ripe : about1.ripe theMethod args0 below0 = true := by decide +kernel
theorem w_running : about1.status = .running := rfl
set_option maxRecDepth 65536 in
theorem w_room : about1.hasRoom e0.platform room_1 = true :=
  launch0.hasRoom_least _ room_1 (by decide +kernel) (by decide +kernel) (by decide +kernel) (by decide +kernel) (by decide +kernel) (by decide +kernel)
theorem allAtoms_all (ts : List Jvm.Cond) (a : Array Jvm.Value) (st : Jvm.State) : (allAtoms ts).before a st = ts.all (fun c => c.before a st) := by
  induction ts with
  | nil => rfl
  | cons c t ih =>
    show (Jvm.Cond.and c (allAtoms t)).before a st = _
    rw [Jvm.Cond.before_and, ih, List.all_cons]
def words1 : List Jvm.Cond := Jvm.Cond.code x code maxLocals ret :: tables_1
/-- a 'code' word, met by the world's own term for the bytes: nothing is compared byte by byte -/
theorem code_word {y : MethodName} {bytes : ByteArray} {mx : Nat} {rt : Option FieldType} {a : Array Value} {s : State} {m : MethodId} {meth : Method} {c : Code} (h1 : s.methodNamed? y = some m) (h2 : s.vm.method? m = some meth) (h3 : meth.code = some c) (h4 : c.code = bytes)
    (h5 : (c.maxLocals == mx && c.exceptionTable.isEmpty && decide (c.maxStack ≤ mostOperands) && decide (meth.sig.returnType = rt) && !meth.locks && decide (parseMethodDescriptor y.desc = some meth.sig)) = true) : (Jvm.Cond.code y bytes mx rt).before a s = true := by
  simp only [Bool.and_eq_true, beq_iff_eq, Bool.not_eq_true', decide_eq_true_eq] at h5
  obtain ⟨⟨⟨⟨⟨g1, g2⟩, g3⟩, g4⟩, g5⟩, g6⟩ := h5
  simp [Cond.before, Cond.holds, Cond.value, h1, h2, h3, h4, g1, g2, g3, g4, g5, g6]
def isCode : Jvm.Cond → Bool
  | .code _ _ _ _ => true
  | _ => false
theorem all_split {L : List Jvm.Cond} {P : Jvm.Cond → Bool} (h1 : L.all (fun c => isCode c || P c) = true) (h2 : ∀ c ∈ L.filter isCode, P c = true) : L.all P = true := by
  refine List.all_eq_true.mpr fun c hc => ?_
  have h := List.all_eq_true.mp h1 c hc
  rcases Bool.eq_false_or_eq_true (isCode c) with hi | hi
  · exact h2 c (List.mem_filter.mpr ⟨hc, hi⟩)
  · simpa [hi] using h
set_option maxRecDepth 65536 in
theorem w_c0 : (Jvm.Cond.code x code maxLocals ret).before args0 about1 = true := code_word (m := ⟨1, 3⟩) (meth := k1m3) (c := k1c3) (by decide +kernel) rfl rfl rfl (by decide +kernel)
set_option maxRecDepth 65536 in
theorem w_c1 : (Jvm.Cond.code ({ cls := "com/example/padlock/padlock/lock/AccessAnnouncedPinLaw", name := "node", desc := "(I)Ljava/lang/String;" } : Jvm.MethodName) method_2_code (4 : Nat) (Option.some (Jvm.ClassFile.FieldType.object "java/lang/String"))).before args0 about1 = true := code_word (m := ⟨1, 1⟩) (meth := k1m1) (c := k1c1) (by decide +kernel) rfl rfl rfl (by decide +kernel)
set_option maxRecDepth 65536 in
theorem w_c2 : (Jvm.Cond.code ({ cls := "java/lang/String", name := "<init>", desc := "([C)V" } : Jvm.MethodName) jdk_42_method_3_code (2 : Nat) (Option.none : Option Jvm.ClassFile.FieldType)).before args0 about1 = true := code_word (m := ⟨10, 1⟩) (meth := k10m1) (c := k10c1) (by decide +kernel) rfl rfl rfl (by decide +kernel)
set_option maxRecDepth 65536 in
theorem w_c3 : (Jvm.Cond.code ({ cls := "java/lang/String", name := "<init>", desc := "([CIILjava/lang/Void;)V" } : Jvm.MethodName) jdk_42_method_149_code (6 : Nat) (Option.none : Option Jvm.ClassFile.FieldType)).before args0 about1 = true := code_word (m := ⟨10, 5⟩) (meth := k10m5) (c := k10c5) (by decide +kernel) rfl rfl rfl (by decide +kernel)
set_option maxRecDepth 65536 in
theorem w_c4 : (Jvm.Cond.code ({ cls := "java/lang/Object", name := "<init>", desc := "()V" } : Jvm.MethodName) object_method_1_code (1 : Nat) (Option.none : Option Jvm.ClassFile.FieldType)).before args0 about1 = true := code_word (m := ⟨0, 0⟩) (meth := k0m0) (c := k0c0) (by decide +kernel) rfl rfl rfl (by decide +kernel)
set_option maxRecDepth 65536 in
theorem w_c5 : (Jvm.Cond.code ({ cls := "java/lang/StringUTF16", name := "compress", desc := "([CII)[B" } : Jvm.MethodName) jdk_52_method_16_code (6 : Nat) (Option.some (Jvm.ClassFile.FieldType.array Jvm.ClassFile.FieldType.byte))).before args0 about1 = true := code_word (m := ⟨11, 2⟩) (meth := k11m2) (c := k11c2) (by decide +kernel) rfl rfl rfl (by decide +kernel)
set_option maxRecDepth 65536 in
theorem w_c6 : (Jvm.Cond.code ({ cls := "java/lang/StringUTF16", name := "compress", desc := "([CI[BII)I" } : Jvm.MethodName) jdk_52_method_21_code (7 : Nat) (Option.some Jvm.ClassFile.FieldType.int)).before args0 about1 = true := code_word (m := ⟨11, 3⟩) (meth := k11m3) (c := k11c3) (by decide +kernel) rfl rfl rfl (by decide +kernel)
set_option maxRecDepth 65536 in
theorem w_c7 : (Jvm.Cond.code ({ cls := "java/lang/StringUTF16", name := "coderFromArrayLen", desc := "([BI)B" } : Jvm.MethodName) jdk_52_method_15_code (2 : Nat) (Option.some Jvm.ClassFile.FieldType.byte)).before args0 about1 = true := code_word (m := ⟨11, 1⟩) (meth := k11m1) (c := k11c1) (by decide +kernel) rfl rfl rfl (by decide +kernel)
set_option maxRecDepth 65536 in
theorem w_c8 : (Jvm.Cond.code ({ cls := "java/util/ArrayList", name := "<init>", desc := "()V" } : Jvm.MethodName) jdk_38_method_2_code (1 : Nat) (Option.none : Option Jvm.ClassFile.FieldType)).before args0 about1 = true := code_word (m := ⟨20, 0⟩) (meth := k20m0) (c := k20c0) (by decide +kernel) rfl rfl rfl (by decide +kernel)
set_option maxRecDepth 65536 in
theorem w_c9 : (Jvm.Cond.code ({ cls := "java/util/AbstractList", name := "<init>", desc := "()V" } : Jvm.MethodName) jdk_39_method_1_code (1 : Nat) (Option.none : Option Jvm.ClassFile.FieldType)).before args0 about1 = true := code_word (m := ⟨17, 0⟩) (meth := k17m0) (c := k17c0) (by decide +kernel) rfl rfl rfl (by decide +kernel)
set_option maxRecDepth 65536 in
theorem w_c10 : (Jvm.Cond.code ({ cls := "java/util/AbstractCollection", name := "<init>", desc := "()V" } : Jvm.MethodName) jdk_22_method_1_code (1 : Nat) (Option.none : Option Jvm.ClassFile.FieldType)).before args0 about1 = true := code_word (m := ⟨14, 0⟩) (meth := k14m0) (c := k14c0) (by decide +kernel) rfl rfl rfl (by decide +kernel)
set_option maxRecDepth 65536 in
theorem w_c11 : (Jvm.Cond.code ({ cls := "com/example/padlock/padlock/lock/Access", name := "announced", desc := "(Ljava/util/List;)Ljava/util/List;" } : Jvm.MethodName) prog_5_method_10_code (4 : Nat) (Option.some (Jvm.ClassFile.FieldType.object "java/util/List"))).before args0 about1 = true := code_word (m := ⟨7, 2⟩) (meth := k7m2) (c := k7c2) (by decide +kernel) rfl rfl rfl (by decide +kernel)
set_option maxRecDepth 65536 in
theorem w_c12 : (Jvm.Cond.code ({ cls := "java/util/ArrayList", name := "size", desc := "()I" } : Jvm.MethodName) jdk_38_method_8_code (1 : Nat) (Option.some Jvm.ClassFile.FieldType.int)).before args0 about1 = true := code_word (m := ⟨20, 3⟩) (meth := k20m3) (c := k20c3) (by decide +kernel) rfl rfl rfl (by decide +kernel)
set_option maxRecDepth 65536 in
theorem w_c13 : (Jvm.Cond.code ({ cls := "java/util/ArrayList", name := "add", desc := "(Ljava/lang/Object;)Z" } : Jvm.MethodName) jdk_38_method_25_code (2 : Nat) (Option.some Jvm.ClassFile.FieldType.boolean)).before args0 about1 = true := code_word (m := ⟨20, 7⟩) (meth := k20m7) (c := k20c7) (by decide +kernel) rfl rfl rfl (by decide +kernel)
set_option maxRecDepth 65536 in
theorem w_c14 : (Jvm.Cond.code ({ cls := "java/util/ArrayList", name := "add", desc := "(Ljava/lang/Object;[Ljava/lang/Object;I)V" } : Jvm.MethodName) jdk_38_method_24_code (4 : Nat) (Option.none : Option Jvm.ClassFile.FieldType)).before args0 about1 = true := code_word (m := ⟨20, 6⟩) (meth := k20m6) (c := k20c6) (by decide +kernel) rfl rfl rfl (by decide +kernel)
set_option maxRecDepth 65536 in
theorem w_c15 : (Jvm.Cond.code ({ cls := "java/util/ArrayList", name := "grow", desc := "()[Ljava/lang/Object;" } : Jvm.MethodName) jdk_38_method_7_code (1 : Nat) (Option.some (Jvm.ClassFile.FieldType.array (Jvm.ClassFile.FieldType.object "java/lang/Object")))).before args0 about1 = true := code_word (m := ⟨20, 2⟩) (meth := k20m2) (c := k20c2) (by decide +kernel) rfl rfl rfl (by decide +kernel)
set_option maxRecDepth 65536 in
theorem w_c16 : (Jvm.Cond.code ({ cls := "java/util/ArrayList", name := "grow", desc := "(I)[Ljava/lang/Object;" } : Jvm.MethodName) jdk_38_method_6_code (4 : Nat) (Option.some (Jvm.ClassFile.FieldType.array (Jvm.ClassFile.FieldType.object "java/lang/Object")))).before args0 about1 = true := code_word (m := ⟨20, 1⟩) (meth := k20m1) (c := k20c1) (by decide +kernel) rfl rfl rfl (by decide +kernel)
set_option maxRecDepth 65536 in
theorem w_c17 : (Jvm.Cond.code ({ cls := "java/lang/Math", name := "max", desc := "(II)I" } : Jvm.MethodName) jdk_29_method_65_code (2 : Nat) (Option.some Jvm.ClassFile.FieldType.int)).before args0 about1 = true := code_word (m := ⟨21, 1⟩) (meth := k21m1) (c := k21c1) (by decide +kernel) rfl rfl rfl (by decide +kernel)
set_option maxRecDepth 65536 in
theorem w_c18 : (Jvm.Cond.code ({ cls := "com/example/padlock/padlock/lock/AccessAnnouncedPinLaw", name := "shared", desc := "(I)Z" } : Jvm.MethodName) method_3_code (3 : Nat) (Option.some Jvm.ClassFile.FieldType.boolean)).before args0 about1 = true := code_word (m := ⟨1, 2⟩) (meth := k1m2) (c := k1c2) (by decide +kernel) rfl rfl rfl (by decide +kernel)
set_option maxRecDepth 65536 in
theorem w_c19 : (Jvm.Cond.code ({ cls := "java/util/ArrayList", name := "get", desc := "(I)Ljava/lang/Object;" } : Jvm.MethodName) jdk_38_method_20_code (2 : Nat) (Option.some (Jvm.ClassFile.FieldType.object "java/lang/Object"))).before args0 about1 = true := code_word (m := ⟨20, 5⟩) (meth := k20m5) (c := k20c5) (by decide +kernel) rfl rfl rfl (by decide +kernel)
set_option maxRecDepth 65536 in
theorem w_c20 : (Jvm.Cond.code ({ cls := "java/util/Objects", name := "checkIndex", desc := "(II)I" } : Jvm.MethodName) jdk_31_method_17_code (2 : Nat) (Option.some Jvm.ClassFile.FieldType.int)).before args0 about1 = true := code_word (m := ⟨22, 1⟩) (meth := k22m1) (c := k22c1) (by decide +kernel) rfl rfl rfl (by decide +kernel)
set_option maxRecDepth 65536 in
theorem w_c21 : (Jvm.Cond.code ({ cls := "jdk/internal/util/Preconditions", name := "checkIndex", desc := "(IILjava/util/function/BiFunction;)I" } : Jvm.MethodName) jdk_41_method_11_code (3 : Nat) (Option.some Jvm.ClassFile.FieldType.int)).before args0 about1 = true := code_word (m := ⟨23, 1⟩) (meth := k23m1) (c := k23c1) (by decide +kernel) rfl rfl rfl (by decide +kernel)
set_option maxRecDepth 65536 in
theorem w_c22 : (Jvm.Cond.code ({ cls := "java/util/ArrayList", name := "elementData", desc := "(I)Ljava/lang/Object;" } : Jvm.MethodName) jdk_38_method_18_code (2 : Nat) (Option.some (Jvm.ClassFile.FieldType.object "java/lang/Object"))).before args0 about1 = true := code_word (m := ⟨20, 4⟩) (meth := k20m4) (c := k20c4) (by decide +kernel) rfl rfl rfl (by decide +kernel)
set_option maxRecDepth 65536 in
theorem w_c23 : (Jvm.Cond.code ({ cls := "com/example/padlock/padlock/lock/Access", name := "ofNode", desc := "(Ljava/lang/String;)Lcom/example/padlock/padlock/lock/Access;" } : Jvm.MethodName) prog_5_method_4_code (1 : Nat) (Option.some (Jvm.ClassFile.FieldType.object "com/example/padlock/padlock/lock/Access"))).before args0 about1 = true := code_word (m := ⟨7, 0⟩) (meth := k7m0) (c := k7c0) (by decide +kernel) rfl rfl rfl (by decide +kernel)
set_option maxRecDepth 65536 in
theorem w_c24 : (Jvm.Cond.code ({ cls := "java/lang/String", name := "startsWith", desc := "(Ljava/lang/String;)Z" } : Jvm.MethodName) jdk_42_method_76_code (2 : Nat) (Option.some Jvm.ClassFile.FieldType.boolean)).before args0 about1 = true := code_word (m := ⟨10, 4⟩) (meth := k10m4) (c := k10c4) (by decide +kernel) rfl rfl rfl (by decide +kernel)
set_option maxRecDepth 65536 in
theorem w_c25 : (Jvm.Cond.code ({ cls := "java/lang/String", name := "startsWith", desc := "(Ljava/lang/String;I)Z" } : Jvm.MethodName) jdk_42_method_75_code (8 : Nat) (Option.some Jvm.ClassFile.FieldType.boolean)).before args0 about1 = true := code_word (m := ⟨10, 3⟩) (meth := k10m3) (c := k10c3) (by decide +kernel) rfl rfl rfl (by decide +kernel)
set_option maxRecDepth 65536 in
theorem w_c26 : (Jvm.Cond.code ({ cls := "java/lang/String", name := "length", desc := "()I" } : Jvm.MethodName) jdk_42_method_54_code (1 : Nat) (Option.some Jvm.ClassFile.FieldType.int)).before args0 about1 = true := code_word (m := ⟨10, 2⟩) (meth := k10m2) (c := k10c2) (by decide +kernel) rfl rfl rfl (by decide +kernel)
set_option maxRecDepth 65536 in
theorem w_c27 : (Jvm.Cond.code ({ cls := "java/lang/String", name := "coder", desc := "()B" } : Jvm.MethodName) jdk_42_method_152_code (1 : Nat) (Option.some Jvm.ClassFile.FieldType.byte)).before args0 about1 = true := code_word (m := ⟨10, 6⟩) (meth := k10m6) (c := k10c6) (by decide +kernel) rfl rfl rfl (by decide +kernel)
set_option maxRecDepth 65536 in
theorem w_c28 : (Jvm.Cond.code ({ cls := "com/example/padlock/padlock/lock/Access", name := "conflictsWith", desc := "(Lcom/example/padlock/padlock/lock/Access;)Z" } : Jvm.MethodName) prog_5_method_7_code (2 : Nat) (Option.some Jvm.ClassFile.FieldType.boolean)).before args0 about1 = true := code_word (m := ⟨7, 1⟩) (meth := k7m1) (c := k7c1) (by decide +kernel) rfl rfl rfl (by decide +kernel)
set_option maxRecDepth 65536 in
theorem w_c29 : (Jvm.Cond.code ({ cls := "jdk/internal/util/ArraysSupport", name := "mismatch", desc := "([BI[BII)I" } : Jvm.MethodName) jdk_48_method_14_code (8 : Nat) (Option.some Jvm.ClassFile.FieldType.int)).before args0 about1 = true := code_word (m := ⟨24, 1⟩) (meth := k24m1) (c := k24c1) (by decide +kernel) rfl rfl rfl (by decide +kernel)
def codes1 : List Jvm.Cond := [Jvm.Cond.code x code maxLocals ret, Jvm.Cond.code ({ cls := "com/example/padlock/padlock/lock/AccessAnnouncedPinLaw", name := "node", desc := "(I)Ljava/lang/String;" } : Jvm.MethodName) method_2_code (4 : Nat) (Option.some (Jvm.ClassFile.FieldType.object "java/lang/String")), Jvm.Cond.code ({ cls := "java/lang/String", name := "<init>", desc := "([C)V" } : Jvm.MethodName) jdk_42_method_3_code (2 : Nat) (Option.none : Option Jvm.ClassFile.FieldType), Jvm.Cond.code ({ cls := "java/lang/String", name := "<init>", desc := "([CIILjava/lang/Void;)V" } : Jvm.MethodName) jdk_42_method_149_code (6 : Nat) (Option.none : Option Jvm.ClassFile.FieldType), Jvm.Cond.code ({ cls := "java/lang/Object", name := "<init>", desc := "()V" } : Jvm.MethodName) object_method_1_code (1 : Nat) (Option.none : Option Jvm.ClassFile.FieldType), Jvm.Cond.code ({ cls := "java/lang/StringUTF16", name := "compress", desc := "([CII)[B" } : Jvm.MethodName) jdk_52_method_16_code (6 : Nat) (Option.some (Jvm.ClassFile.FieldType.array Jvm.ClassFile.FieldType.byte)), Jvm.Cond.code ({ cls := "java/lang/StringUTF16", name := "compress", desc := "([CI[BII)I" } : Jvm.MethodName) jdk_52_method_21_code (7 : Nat) (Option.some Jvm.ClassFile.FieldType.int), Jvm.Cond.code ({ cls := "java/lang/StringUTF16", name := "coderFromArrayLen", desc := "([BI)B" } : Jvm.MethodName) jdk_52_method_15_code (2 : Nat) (Option.some Jvm.ClassFile.FieldType.byte), Jvm.Cond.code ({ cls := "java/util/ArrayList", name := "<init>", desc := "()V" } : Jvm.MethodName) jdk_38_method_2_code (1 : Nat) (Option.none : Option Jvm.ClassFile.FieldType), Jvm.Cond.code ({ cls := "java/util/AbstractList", name := "<init>", desc := "()V" } : Jvm.MethodName) jdk_39_method_1_code (1 : Nat) (Option.none : Option Jvm.ClassFile.FieldType), Jvm.Cond.code ({ cls := "java/util/AbstractCollection", name := "<init>", desc := "()V" } : Jvm.MethodName) jdk_22_method_1_code (1 : Nat) (Option.none : Option Jvm.ClassFile.FieldType), Jvm.Cond.code ({ cls := "com/example/padlock/padlock/lock/Access", name := "announced", desc := "(Ljava/util/List;)Ljava/util/List;" } : Jvm.MethodName) prog_5_method_10_code (4 : Nat) (Option.some (Jvm.ClassFile.FieldType.object "java/util/List")), Jvm.Cond.code ({ cls := "java/util/ArrayList", name := "size", desc := "()I" } : Jvm.MethodName) jdk_38_method_8_code (1 : Nat) (Option.some Jvm.ClassFile.FieldType.int), Jvm.Cond.code ({ cls := "java/util/ArrayList", name := "add", desc := "(Ljava/lang/Object;)Z" } : Jvm.MethodName) jdk_38_method_25_code (2 : Nat) (Option.some Jvm.ClassFile.FieldType.boolean), Jvm.Cond.code ({ cls := "java/util/ArrayList", name := "add", desc := "(Ljava/lang/Object;[Ljava/lang/Object;I)V" } : Jvm.MethodName) jdk_38_method_24_code (4 : Nat) (Option.none : Option Jvm.ClassFile.FieldType), Jvm.Cond.code ({ cls := "java/util/ArrayList", name := "grow", desc := "()[Ljava/lang/Object;" } : Jvm.MethodName) jdk_38_method_7_code (1 : Nat) (Option.some (Jvm.ClassFile.FieldType.array (Jvm.ClassFile.FieldType.object "java/lang/Object"))), Jvm.Cond.code ({ cls := "java/util/ArrayList", name := "grow", desc := "(I)[Ljava/lang/Object;" } : Jvm.MethodName) jdk_38_method_6_code (4 : Nat) (Option.some (Jvm.ClassFile.FieldType.array (Jvm.ClassFile.FieldType.object "java/lang/Object"))), Jvm.Cond.code ({ cls := "java/lang/Math", name := "max", desc := "(II)I" } : Jvm.MethodName) jdk_29_method_65_code (2 : Nat) (Option.some Jvm.ClassFile.FieldType.int), Jvm.Cond.code ({ cls := "com/example/padlock/padlock/lock/AccessAnnouncedPinLaw", name := "shared", desc := "(I)Z" } : Jvm.MethodName) method_3_code (3 : Nat) (Option.some Jvm.ClassFile.FieldType.boolean), Jvm.Cond.code ({ cls := "java/util/ArrayList", name := "get", desc := "(I)Ljava/lang/Object;" } : Jvm.MethodName) jdk_38_method_20_code (2 : Nat) (Option.some (Jvm.ClassFile.FieldType.object "java/lang/Object")), Jvm.Cond.code ({ cls := "java/util/Objects", name := "checkIndex", desc := "(II)I" } : Jvm.MethodName) jdk_31_method_17_code (2 : Nat) (Option.some Jvm.ClassFile.FieldType.int), Jvm.Cond.code ({ cls := "jdk/internal/util/Preconditions", name := "checkIndex", desc := "(IILjava/util/function/BiFunction;)I" } : Jvm.MethodName) jdk_41_method_11_code (3 : Nat) (Option.some Jvm.ClassFile.FieldType.int), Jvm.Cond.code ({ cls := "java/util/ArrayList", name := "elementData", desc := "(I)Ljava/lang/Object;" } : Jvm.MethodName) jdk_38_method_18_code (2 : Nat) (Option.some (Jvm.ClassFile.FieldType.object "java/lang/Object")), Jvm.Cond.code ({ cls := "com/example/padlock/padlock/lock/Access", name := "ofNode", desc := "(Ljava/lang/String;)Lcom/example/padlock/padlock/lock/Access;" } : Jvm.MethodName) prog_5_method_4_code (1 : Nat) (Option.some (Jvm.ClassFile.FieldType.object "com/example/padlock/padlock/lock/Access")), Jvm.Cond.code ({ cls := "java/lang/String", name := "startsWith", desc := "(Ljava/lang/String;)Z" } : Jvm.MethodName) jdk_42_method_76_code (2 : Nat) (Option.some Jvm.ClassFile.FieldType.boolean), Jvm.Cond.code ({ cls := "java/lang/String", name := "startsWith", desc := "(Ljava/lang/String;I)Z" } : Jvm.MethodName) jdk_42_method_75_code (8 : Nat) (Option.some Jvm.ClassFile.FieldType.boolean), Jvm.Cond.code ({ cls := "java/lang/String", name := "length", desc := "()I" } : Jvm.MethodName) jdk_42_method_54_code (1 : Nat) (Option.some Jvm.ClassFile.FieldType.int), Jvm.Cond.code ({ cls := "java/lang/String", name := "coder", desc := "()B" } : Jvm.MethodName) jdk_42_method_152_code (1 : Nat) (Option.some Jvm.ClassFile.FieldType.byte), Jvm.Cond.code ({ cls := "com/example/padlock/padlock/lock/Access", name := "conflictsWith", desc := "(Lcom/example/padlock/padlock/lock/Access;)Z" } : Jvm.MethodName) prog_5_method_7_code (2 : Nat) (Option.some Jvm.ClassFile.FieldType.boolean), Jvm.Cond.code ({ cls := "jdk/internal/util/ArraysSupport", name := "mismatch", desc := "([BI[BII)I" } : Jvm.MethodName) jdk_48_method_14_code (8 : Nat) (Option.some Jvm.ClassFile.FieldType.int)]
set_option maxRecDepth 65536 in
theorem codes_eq : words1.filter isCode = codes1 := rfl
theorem w_codes : ∀ c ∈ words1.filter isCode, c.before args0 about1 = true := by
  rw [codes_eq]
  intro c hc
  simp only [codes1, List.mem_cons, List.not_mem_nil, or_false] at hc
  rcases hc with rfl | rfl | rfl | rfl | rfl | rfl | rfl | rfl | rfl | rfl | rfl | rfl | rfl | rfl | rfl | rfl | rfl | rfl | rfl | rfl | rfl | rfl | rfl | rfl | rfl | rfl | rfl | rfl | rfl | rfl
  · exact w_c0
  · exact w_c1
  · exact w_c2
  · exact w_c3
  · exact w_c4
  · exact w_c5
  · exact w_c6
  · exact w_c7
  · exact w_c8
  · exact w_c9
  · exact w_c10
  · exact w_c11
  · exact w_c12
  · exact w_c13
  · exact w_c14
  · exact w_c15
  · exact w_c16
  · exact w_c17
  · exact w_c18
  · exact w_c19
  · exact w_c20
  · exact w_c21
  · exact w_c22
  · exact w_c23
  · exact w_c24
  · exact w_c25
  · exact w_c26
  · exact w_c27
  · exact w_c28
  · exact w_c29
set_option maxRecDepth 65536 in
theorem w_t1 : (words1.take 24).all (fun c => isCode c || c.before args0 about1) = true := by decide +kernel
set_option maxRecDepth 65536 in
theorem w_t2 : ((words1.drop 24).take 24).all (fun c => isCode c || c.before args0 about1) = true := by decide +kernel
set_option maxRecDepth 65536 in
theorem w_t3 : (((words1.drop 24).drop 24).take 24).all (fun c => isCode c || c.before args0 about1) = true := by decide +kernel
set_option maxRecDepth 65536 in
theorem w_t4 : ((((words1.drop 24).drop 24).drop 24).take 24).all (fun c => isCode c || c.before args0 about1) = true := by decide +kernel
set_option maxRecDepth 65536 in
theorem w_t5 : (((((words1.drop 24).drop 24).drop 24).drop 24).take 24).all (fun c => isCode c || c.before args0 about1) = true := by decide +kernel
set_option maxRecDepth 65536 in
theorem w_t6 : ((((((words1.drop 24).drop 24).drop 24).drop 24).drop 24).take 24).all (fun c => isCode c || c.before args0 about1) = true := by decide +kernel
set_option maxRecDepth 65536 in
theorem w_t7 : (((((((words1.drop 24).drop 24).drop 24).drop 24).drop 24).drop 24).take 24).all (fun c => isCode c || c.before args0 about1) = true := by decide +kernel
set_option maxRecDepth 65536 in
theorem w_t8 : (((((((words1.drop 24).drop 24).drop 24).drop 24).drop 24).drop 24).drop 24).all (fun c => isCode c || c.before args0 about1) = true := by decide +kernel
theorem w_tables : (allAtoms (Jvm.Cond.code x code maxLocals ret :: tables_1)).before args0 about1 = true := by
  rw [allAtoms_all]
  show words1.all (fun c => c.before args0 about1) = true
  refine all_split ?_ w_codes
  rw [← List.take_append_drop 24 words1, List.all_append, w_t1, ← List.take_append_drop 24 (words1.drop 24), List.all_append, w_t2, ← List.take_append_drop 24 ((words1.drop 24).drop 24), List.all_append, w_t3, ← List.take_append_drop 24 (((words1.drop 24).drop 24).drop 24), List.all_append, w_t4, ← List.take_append_drop 24 ((((words1.drop 24).drop 24).drop 24).drop 24), List.all_append, w_t5, ← List.take_append_drop 24 (((((words1.drop 24).drop 24).drop 24).drop 24).drop 24), List.all_append, w_t6, ← List.take_append_drop 24 ((((((words1.drop 24).drop 24).drop 24).drop 24).drop 24).drop 24), List.all_append, w_t7, w_t8]
  rfl
set_option maxRecDepth 65536 in
theorem w_rest : rest_1_c.before args0 about1 = true := by decide +kernel
set_option maxRecDepth 65536 in
theorem w_case : (Jvm.Cond.and given_1 narrow_1).before args0 about1 = true := by decide +kernel
theorem w_applies : (headSpec (Jvm.Cond.code x code maxLocals ret :: tables_1) room_1).applies x e0.platform about1 = true :=
  (Spec.applies_iff w_frames).mpr ⟨w_running, w_runnable, w_alone, w_named, w_hears, w_ripe, w_room, w_tables⟩
theorem atStart : AtStart classFile x code maxLocals ret World_1 tables_1 room_1 Calls_1 rest_1 Pre_1 launch0 p0 e0 about1 theMethod args0 below0 :=
  ⟨lists_1, trivial, launch0.admits_env _ _ _, launch0.least_env, fairChoices_fair.cas, fairChoices_fair.clock, w_frames, w_args, w_heap, w_applies, trivial, w_rest, w_case⟩
end start1
theorem witness_1 : WitnessClaimed_1 := ⟨start1.p0, start1.e0, start1.about1, start1.theMethod, start1.args0, start1.below0, start1.atStart⟩
end Jvm.Pilot.@@N@@
