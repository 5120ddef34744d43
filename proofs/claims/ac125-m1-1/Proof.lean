import JvmDerived
import JvmDerived.Pilot.@@N@@Statement
import JvmDerived.Pilot.@@N@@Code
set_option linter.unusedVariables false
set_option linter.unusedSimpArgs false
/- laws to paste: Road.backV, Road.eqW (cut by pick.py; bodies as the Statement names them) -/
namespace Jvm.Pilot.@@N@@
namespace StrChars
open Jvm Sem ClassFile Op Lib Jvm.Stand Jvm.Free.XT Jvm.Free.ALB Jvm.Free.JM Jvm.Free
open Jvm.Lib.Cold (StaticIs)
/-- a char array whose places are chars -/
def Ch (a : Addr) (A : Cell) (U : State) : Prop := Arr .char a A U ∧ Typed .char A
theorem Ch.mv {a : Addr} {A : Cell} {U U' : State} (h : Ch a A U) (hal : U.vm.Alike U'.vm) (hh : U'.heap = U.heap) : Ch a A U' := ⟨h.1.mv hal hh, h.2⟩
theorem Ch.keep {a : Addr} {A : Cell} {U U' : State} (h : Ch a A U) (hal : U.vm.Alike U'.vm) (hk : U'.heap[a]? = some A) : Ch a A U' := ⟨h.1.keep hal hk, h.2⟩
/-- what place i of a char[]'s cell holds -/
def cv (A : Cell) (i : Nat) : Int32 := match A.slots[i]? with | some (.int x) => x | _ => 0
theorem Ch.get {a : Addr} {A : Cell} {U : State} (h : Ch a A U) {i : Nat} (hi : i < A.slots.size) : A.slots[i]? = some (.int (cv A i)) := by
  have e := Array.getElem?_eq_getElem hi
  have f := h.2 i _ e
  unfold cv; rw [e]
  generalize A.slots[i] = v at f
  cases v <;> simp [fits] at f ⊢
/-- the byte that i2b leaves of a char -/
def lo8 (x : Int32) : Int32 := x.toInt8.toInt32
theorem fits_lo8 (y : Int32) : fits .byte (.int (lo8 y)) = true := by
  have h1 := y.toInt8.le_toInt
  have h2 := y.toInt8.toInt_lt
  simp only [lo8, fits, Bool.and_eq_true, decide_eq_true_eq, Int32.le_iff_toInt_le, Int8.toInt_toInt32, show (-128 : Int32).toInt = -128 from by decide, show (127 : Int32).toInt = 127 from by decide]
  omega
/-- A' is A but that each place j of lo .. hi - 1 holds f j -/
def Laid (A A' : Cell) (lo hi : Nat) (f : Nat → Value) : Prop := A'.cls = A.cls ∧ A'.vm = A.vm ∧ A'.slots.size = A.slots.size ∧ ∀ i, A'.slots[i]? = if lo ≤ i ∧ i < hi then some (f i) else A.slots[i]?
theorem Laid.zero (A : Cell) (lo : Nat) (f : Nat → Value) : Laid A A lo (lo + 0) f := ⟨rfl, rfl, rfl, fun i => by rw [if_neg (by omega)]⟩
theorem Laid.step {A Ak : Cell} {lo k : Nat} {f : Nat → Value} {v : Value} (h : Laid A Ak lo k f) (hlo : lo ≤ k) (hk : k < Ak.slots.size) (hv : v = f k) : Laid A (Ak.setSlot k v) lo (k + 1) f := by
  refine ⟨h.1, h.2.1, by simpa [Cell.setSlot] using h.2.2.1, fun i => ?_⟩
  by_cases e : k = i
  · subst e; rw [Cell.slots_setSlot_self v hk, if_pos (by omega), hv]
  · rw [Cell.slots_setSlot_ne v e, h.2.2.2 i]
    by_cases q : lo ≤ i ∧ i < k
    · rw [if_pos q, if_pos (by omega)]
    · rw [if_neg q, if_neg (by omega)]
def U16 : String := "java/lang/StringUTF16"
namespace Cmp5
def yN : MethodName := ⟨"java/lang/StringUTF16", "compress", "([CI[BII)I"⟩
abbrev yB : ByteArray := jdk_52_method_21_code
theorem d0 : decode yB 0 = .ok (.iconst 0, 1) := by decide +kernel
theorem d1 : decode yB 1 = .ok (.istore 5, 2) := by decide +kernel
theorem d3 : decode yB 3 = .ok (.iload 5, 2) := by decide +kernel
theorem d5 : decode yB 5 = .ok (.iload 4, 2) := by decide +kernel
theorem d7 : decode yB 7 = .ok (.if_icmp (.ge) 37, 3) := by decide +kernel
theorem d10 : decode yB 10 = .ok (.aload_n 0, 1) := by decide +kernel
theorem d11 : decode yB 11 = .ok (.iload_n 1, 1) := by decide +kernel
theorem d12 : decode yB 12 = .ok (.caload, 1) := by decide +kernel
theorem d13 : decode yB 13 = .ok (.istore 6, 2) := by decide +kernel
theorem d15 : decode yB 15 = .ok (.iload 6, 2) := by decide +kernel
theorem d17 : decode yB 17 = .ok (.sipush 255, 3) := by decide +kernel
theorem d20 : decode yB 20 = .ok (.if_icmp (.le) 6, 3) := by decide +kernel
theorem d26 : decode yB 26 = .ok (.aload_n 2, 1) := by decide +kernel
theorem d27 : decode yB 27 = .ok (.iload_n 3, 1) := by decide +kernel
theorem d28 : decode yB 28 = .ok (.iload 6, 2) := by decide +kernel
theorem d30 : decode yB 30 = .ok (.i2b, 1) := by decide +kernel
theorem d31 : decode yB 31 = .ok (.bastore, 1) := by decide +kernel
theorem d32 : decode yB 32 = .ok (.iinc 1 1, 3) := by decide +kernel
theorem d35 : decode yB 35 = .ok (.iinc 3 1, 3) := by decide +kernel
theorem d38 : decode yB 38 = .ok (.iinc 5 1, 3) := by decide +kernel
theorem d41 : decode yB 41 = .ok (.goto (-38), 3) := by decide +kernel
theorem d44 : decode yB 44 = .ok (.iload 4, 2) := by decide +kernel
theorem d46 : decode yB 46 = .ok (.ireturn, 1) := by decide +kernel
def site : List Cond := []
def tab : Cond := tabOf yN yB 7 (some .int) site
def P (b : Addr) (A : Cell) (d : Addr) (B : Cell) (o q len : Nat) (args : Array Value) (s : State) : Prop := args = #[.ref b, .int (Int32.ofNat o), .ref d, .int (Int32.ofNat q), .int (Int32.ofNat len)] ∧ Ch b A s ∧ Arr .byte d B s ∧ b ≠ d ∧ o + len ≤ A.slots.size ∧ q + len ≤ B.slots.size ∧ ∀ i, i < len → ¬ 255 < cv A (o + i)
def E (b : Addr) (A : Cell) (d : Addr) (B : Cell) (o q len : Nat) (r : Option Value) (s u : State) : Prop := r = some (.int (Int32.ofNat len)) ∧ ∃ B', Put d B' s u ∧ Laid B B' q (q + len) (fun j => Value.int (lo8 (cv A (o + (j - q)))))
/-- no char of the range above 255: len; the places written hold each char's low byte -/
theorem law (l : Launch) (b : Addr) (A : Cell) (d : Addr) (B : Cell) (o q len : Nat) : Law l yN 5 5 0 0 yB 7 (some .int) site (P b A d B o q len) (E b A d B o q len) (copyLocs d q len) 0 0 := by
  refine Law.of_walk (plainFor_of_name (by decide +kernel)) (by decide +kernel) (by decide +kernel) (by decide) (fun _ _ h => by rw [h.1]; rfl) (fun _ U U' hal hh h => ⟨h.1, h.2.1.mv hal hh, h.2.2.1.mv hal hh, h.2.2.2⟩) (fun r U U' V V' h1 hal h2 h => ⟨h.1, h.2.elim fun B' q => ⟨B', q.1.mv h1 h2, q.2⟩⟩) ?_
  intro p e s m args below meth c s₁ X0 hexec hbytes hml hret hlk hnm hown hh0 W hP
  obtain ⟨rfl, hA, hB, hne, l1, l2, hp⟩ := hP
  have c1 : Steps p.tables e below (s₁.setTop (entryFrame m #[.ref b, .int (Int32.ofNat o), .ref d, .int (Int32.ofNat q), .int (Int32.ofNat len)] 7)) (s₁.setTop (mkF m 0 #[.val (.ref b), .val (.int (Int32.ofNat o)), .val (.ref d), .val (.int (Int32.ofNat q)), .val (.int (Int32.ofNat len)), .unset, .unset] [])) := entry rfl
  have hA0 := hA.1.mv X0.warmed.alike hh0
  have hB0 := hB.mv X0.warmed.alike hh0
  have a31 := hA.1.2.2.2
  have c2 : Steps p.tables e below (s₁.setTop (entryFrame m #[.ref b, .int (Int32.ofNat o), .ref d, .int (Int32.ofNat q), .int (Int32.ofNat len)] 7)) (s₁.setTop (mkF m 3 #[.val (.ref b), .val (.int (Int32.ofNat o)), .val (.ref d), .val (.int (Int32.ofNat q)), .val (.int (Int32.ofNat len)), .val (.int 0), .unset] [])) := c1.trans (by
    refine iconstV X0.here hexec rfl 0 (hb hbytes d0) (by decide) ?_
    refine XS.istore X0.here hexec rfl (hb hbytes d1) rfl rfl ?_
    exact Steps.refl _)
  have loop : ∀ (r i : Nat), i + r = len → ∀ (z : Slot), (z = .unset ∨ ∃ w, z = .val w ∧ w.category = 1) → ∀ (Tl : State) (Bk : Cell), Stand p l e { frames := 0, locals := 0, cells := 0, slots := 0 } s m #[.ref b, .int (Int32.ofNat o), .ref d, .int (Int32.ofNat q), .int (Int32.ofNat len)] below meth c Tl ([] ++ copyLocs d q i) 0 0 → Put d Bk s₁ Tl → Laid B Bk q (q + i) (fun j => Value.int (lo8 (cv A (o + (j - q))))) →
      Steps p.tables e below (s₁.setTop (entryFrame m #[.ref b, .int (Int32.ofNat o), .ref d, .int (Int32.ofNat q), .int (Int32.ofNat len)] 7)) (Tl.setTop (mkF m 3 #[.val (.ref b), .val (.int (Int32.ofNat (o + i))), .val (.ref d), .val (.int (Int32.ofNat (q + i))), .val (.int (Int32.ofNat len)), .val (.int (Int32.ofNat i)), z] [])) → ∃ (T' : State) (B' : Cell) (z' : Slot), Stand p l e { frames := 0, locals := 0, cells := 0, slots := 0 } s m #[.ref b, .int (Int32.ofNat o), .ref d, .int (Int32.ofNat q), .int (Int32.ofNat len)] below meth c T' ([] ++ copyLocs d q len) 0 0 ∧ Put d B' s₁ T' ∧ Laid B B' q (q + len) (fun j => Value.int (lo8 (cv A (o + (j - q))))) ∧
      Steps p.tables e below (s₁.setTop (entryFrame m #[.ref b, .int (Int32.ofNat o), .ref d, .int (Int32.ofNat q), .int (Int32.ofNat len)] 7)) (T'.setTop (mkF m 3 #[.val (.ref b), .val (.int (Int32.ofNat (o + len))), .val (.ref d), .val (.int (Int32.ofNat (q + len))), .val (.int (Int32.ofNat len)), .val (.int (Int32.ofNat len)), z'] [])) := by
    intro r
    induction r with
    | zero =>
      intro i hi z hz Tl Bk Xl pl fl cl
      have hil : i = len := by omega
      rw [hil] at Xl fl cl
      exact ⟨Tl, Bk, z, Xl, pl, fl, cl⟩
    | succ r ih =>
      intro i hi z hz Tl Bk Xl pl fl cl
      have all := X0.warmed.alike.symm.trans Xl.warmed.alike
      have hAl := hA0.keep all (pl.other hne hA0.1)
      have hBk := hB0.like all pl.1 fl.1 fl.2.1 fl.2.2.1
      have hlt : q + i < Bk.slots.size := by rw [fl.2.2.1]; omega
      have c3 : Steps p.tables e below (s₁.setTop (entryFrame m #[.ref b, .int (Int32.ofNat o), .ref d, .int (Int32.ofNat q), .int (Int32.ofNat len)] 7)) (Tl.setTop (mkF m 12 #[.val (.ref b), .val (.int (Int32.ofNat (o + i))), .val (.ref d), .val (.int (Int32.ofNat (q + i))), .val (.int (Int32.ofNat len)), .val (.int (Int32.ofNat i)), z] [.int (Int32.ofNat (o + i)), .ref b])) := cl.trans (by
        refine XS.iload Xl.here hexec rfl (hb hbytes d3) rfl ?_
        refine XS.iload Xl.here hexec rfl (hb hbytes d5) rfl ?_
        refine XS.icmpNo Xl.here hexec rfl (hb hbytes d7) rfl (ii_ge_f (lt32 (by omega) (by omega))) ?_
        refine XS.aloadN Xl.here hexec rfl (hb hbytes d10) rfl rfl ?_
        refine XS.iloadN Xl.here hexec rfl (hb hbytes d11) rfl ?_
        exact Steps.refl _)
      have c4 : Steps p.tables e below (s₁.setTop (entryFrame m #[.ref b, .int (Int32.ofNat o), .ref d, .int (Int32.ofNat q), .int (Int32.ofNat len)] 7)) (Tl.setTop (mkF m 13 #[.val (.ref b), .val (.int (Int32.ofNat (o + i))), .val (.ref d), .val (.int (Int32.ofNat (q + i))), .val (.int (Int32.ofNat len)), .val (.int (Int32.ofNat i)), z] [.int (cv A (o + i))])) := c3.trans (by
        refine Xl.aget hexec hAl rfl (hA.get (i := o + i) (by omega)) rfl rfl (hb hbytes d12) ?_
        exact Steps.refl _)
      have c5 : Steps p.tables e below (s₁.setTop (entryFrame m #[.ref b, .int (Int32.ofNat o), .ref d, .int (Int32.ofNat q), .int (Int32.ofNat len)] 7)) (Tl.setTop (mkF m 15 #[.val (.ref b), .val (.int (Int32.ofNat (o + i))), .val (.ref d), .val (.int (Int32.ofNat (q + i))), .val (.int (Int32.ofNat len)), .val (.int (Int32.ofNat i)), .val (.int (cv A (o + i)))] [])) := c4.trans (by
        refine XS.istoreS Xl.here hexec rfl (hb hbytes d13) rfl rfl hz ?_
        exact Steps.refl _)
      have c6 : Steps p.tables e below (s₁.setTop (entryFrame m #[.ref b, .int (Int32.ofNat o), .ref d, .int (Int32.ofNat q), .int (Int32.ofNat len)] 7)) (Tl.setTop (mkF m 31 #[.val (.ref b), .val (.int (Int32.ofNat (o + i))), .val (.ref d), .val (.int (Int32.ofNat (q + i))), .val (.int (Int32.ofNat len)), .val (.int (Int32.ofNat i)), .val (.int (cv A (o + i)))] [.int (lo8 (cv A (o + i))), .int (Int32.ofNat (q + i)), .ref d])) := c5.trans (by
        refine XS.iload Xl.here hexec rfl (hb hbytes d15) rfl ?_
        refine sipushV Xl.here hexec rfl 255 (hb hbytes d17) (by decide) ?_
        refine XS.icmpYes Xl.here hexec rfl (pc0 := 20) rfl (hb hbytes d20) rfl (ii_le_t (hp i (by omega))) (by decide) rfl ?_
        refine XS.aloadN Xl.here hexec rfl (hb hbytes d26) rfl rfl ?_
        refine XS.iloadN Xl.here hexec rfl (hb hbytes d27) rfl ?_
        refine XS.iload Xl.here hexec rfl (hb hbytes d28) rfl ?_
        refine i2b Xl.here hexec rfl (hb hbytes d30) rfl ?_
        exact Steps.refl _)
      obtain ⟨T7, X7, p7, st7⟩ := Xl.aput hexec hBk rfl hlt rfl (fits_lo8 (cv A (o + i))) (g := (mkF m 31 #[.val (.ref b), .val (.int (Int32.ofNat (o + i))), .val (.ref d), .val (.int (Int32.ofNat (q + i))), .val (.int (Int32.ofNat len)), .val (.int (Int32.ofNat i)), .val (.int (cv A (o + i)))] [.int (lo8 (cv A (o + i))), .int (Int32.ofNat (q + i)), .ref d])) rfl (rest := []) rfl (hb hbytes d31)
      have c8 : Steps p.tables e below (s₁.setTop (entryFrame m #[.ref b, .int (Int32.ofNat o), .ref d, .int (Int32.ofNat q), .int (Int32.ofNat len)] 7)) (T7.setTop (mkF m 32 #[.val (.ref b), .val (.int (Int32.ofNat (o + i))), .val (.ref d), .val (.int (Int32.ofNat (q + i))), .val (.int (Int32.ofNat len)), .val (.int (Int32.ofNat i)), .val (.int (cv A (o + i)))] [])) := c6.trans (st7 _ (Steps.refl _))
      have c9 : Steps p.tables e below (s₁.setTop (entryFrame m #[.ref b, .int (Int32.ofNat o), .ref d, .int (Int32.ofNat q), .int (Int32.ofNat len)] 7)) (T7.setTop (mkF m 3 #[.val (.ref b), .val (.int (Int32.ofNat (o + i) + 1)), .val (.ref d), .val (.int (Int32.ofNat (q + i) + 1)), .val (.int (Int32.ofNat len)), .val (.int (Int32.ofNat i + 1)), .val (.int (cv A (o + i)))] [])) := c8.trans (by
        refine iincV X7.here hexec rfl 1 (hb hbytes d32) (by decide) rfl rfl ?_
        refine iincV X7.here hexec rfl 1 (hb hbytes d35) (by decide) rfl rfl ?_
        refine iincV X7.here hexec rfl 1 (hb hbytes d38) (by decide) rfl rfl ?_
        refine XS.goto X7.here hexec rfl (pc0 := 41) rfl (hb hbytes d41) (by decide) rfl ?_
        exact Steps.refl _)
      have c10 : Steps p.tables e below (s₁.setTop (entryFrame m #[.ref b, .int (Int32.ofNat o), .ref d, .int (Int32.ofNat q), .int (Int32.ofNat len)] 7)) (T7.setTop (mkF m 3 #[.val (.ref b), .val (.int (Int32.ofNat (o + (i + 1)))), .val (.ref d), .val (.int (Int32.ofNat (q + (i + 1)))), .val (.int (Int32.ofNat len)), .val (.int (Int32.ofNat (i + 1))), .val (.int (cv A (o + i)))] [])) := by
        have := c9
        rw [succ32, succ32, succ32] at this
        exact this
      exact ih (i + 1) (by omega) _ (Or.inr ⟨_, rfl, rfl⟩) T7 _ (by rw [copyLocs_step, ← List.append_assoc]; exact X7) (pl.trans p7) (fl.step (by omega) hlt (by simp)) c10
  obtain ⟨T9, B9, z9, X9, p9, f9, g9⟩ := loop len 0 (by omega) .unset (Or.inl rfl) s₁ B (by simpa [copyLocs] using X0) ⟨hB0.1, fun _ _ => rfl, rfl⟩ (Laid.zero _ _ _) c2
  have c11 : Steps p.tables e below (s₁.setTop (entryFrame m #[.ref b, .int (Int32.ofNat o), .ref d, .int (Int32.ofNat q), .int (Int32.ofNat len)] 7)) (T9.setTop (mkF m 46 #[.val (.ref b), .val (.int (Int32.ofNat (o + len))), .val (.ref d), .val (.int (Int32.ofNat (q + len))), .val (.int (Int32.ofNat len)), .val (.int (Int32.ofNat len)), z9] [.int (Int32.ofNat len)])) := g9.trans (by
    refine XS.iload X9.here hexec rfl (hb hbytes d3) rfl ?_
    refine XS.iload X9.here hexec rfl (hb hbytes d5) rfl ?_
    refine XS.icmpYes X9.here hexec rfl (pc0 := 7) rfl (hb hbytes d7) rfl (ii_ge_t (nlt32 (by omega) (Nat.le_refl _))) (by decide) rfl ?_
    refine XS.iload X9.here hexec rfl (hb hbytes d44) rfl ?_
    exact Steps.refl _)
  exact ⟨T9, some (.int (Int32.ofNat len)), _, _, _, X9, by simp, rfl, rfl, (fun h => by cases h), ⟨rfl, B9, p9.from hh0, f9⟩, fun fs hl => c11.trans (X9.ireturnOut hexec hret rfl (Or.inl rfl) (hb hbytes d46) hl)⟩
end Cmp5
namespace Cmp3
def yN : MethodName := ⟨"java/lang/StringUTF16", "compress", "([CII)[B"⟩
abbrev yB : ByteArray := jdk_52_method_16_code
theorem d0 : decode yB 0 = .ok (.iload_n 2, 1) := by decide +kernel
theorem d1 : decode yB 1 = .ok (.newarray .byte, 2) := by decide +kernel
theorem d3 : decode yB 3 = .ok (.astore_n 3, 1) := by decide +kernel
theorem d4 : decode yB 4 = .ok (.aload_n 0, 1) := by decide +kernel
theorem d5 : decode yB 5 = .ok (.iload_n 1, 1) := by decide +kernel
theorem d6 : decode yB 6 = .ok (.aload_n 3, 1) := by decide +kernel
theorem d7 : decode yB 7 = .ok (.iconst 0, 1) := by decide +kernel
theorem d8 : decode yB 8 = .ok (.iload_n 2, 1) := by decide +kernel
theorem d9 : decode yB 9 = .ok (.invokestatic 115, 3) := by decide +kernel
theorem d12 : decode yB 12 = .ok (.istore 4, 2) := by decide +kernel
theorem d14 : decode yB 14 = .ok (.iload 4, 2) := by decide +kernel
theorem d16 : decode yB 16 = .ok (.iload_n 2, 1) := by decide +kernel
theorem d17 : decode yB 17 = .ok (.if_icmp (.eq) 40, 3) := by decide +kernel
theorem d57 : decode yB 57 = .ok (.aload_n 3, 1) := by decide +kernel
theorem d58 : decode yB 58 = .ok (.areturn, 1) := by decide +kernel
def site : List Cond := [.arrayClass .byte, Cmp5.tab] ++ staticW U16 115 Cmp5.yN
def tab : Cond := tabOf yN yB 6 (some (.array .byte)) site
def P (b : Addr) (A : Cell) (o len : Nat) (args : Array Value) (s : State) : Prop := args = #[.ref b, .int (Int32.ofNat o), .int (Int32.ofNat len)] ∧ Ch b A s ∧ o + len ≤ A.slots.size ∧ len ≤ 536870912 ∧ ∀ i, i < len → ¬ 255 < cv A (o + i)
def E (b : Addr) (A : Cell) (o len : Nat) (r : Option Value) (s u : State) : Prop := NewArr .byte "[B" len (fun j => .int (lo8 (cv A (o + j)))) r s u ∧ u.heap.size = s.heap.size + 1
/-- no char of the range above 255: a new byte[] of their low bytes -/
theorem law (l : Launch) (b : Addr) (A : Cell) (o len : Nat) : Law l yN 3 3 1 18 yB 6 (some (.array .byte)) site (P b A o len) (E b A o len) [] 1 len := by
  refine Law.of_walk (plainFor_of_name (by decide +kernel)) (by decide +kernel) (by decide +kernel) (by decide) (fun _ _ h => by rw [h.1]; rfl) (fun _ U U' hal hh h => ⟨h.1, h.2.1.mv hal hh, h.2.2⟩) (fun r U U' V V' h1 hal h2 h => ⟨NewArr.mv r U U' V V' h1 hal h2 h.1, by rw [h1, h2]; exact h.2⟩) ?_
  intro p e s m args below meth c s₁ X0 hexec hbytes hml hret hlk hnm hown hh0 W hP
  obtain ⟨rfl, hA, l1, l2, hp⟩ := hP
  have a31 := hA.1.2.2.2
  have c1 : Steps p.tables e below (s₁.setTop (entryFrame m #[.ref b, .int (Int32.ofNat o), .int (Int32.ofNat len)] 6)) (s₁.setTop (mkF m 0 #[.val (.ref b), .val (.int (Int32.ofNat o)), .val (.int (Int32.ofNat len)), .unset, .unset, .unset] [])) := entry rfl
  have c2 : Steps p.tables e below (s₁.setTop (entryFrame m #[.ref b, .int (Int32.ofNat o), .int (Int32.ofNat len)] 6)) (s₁.setTop (mkF m 1 #[.val (.ref b), .val (.int (Int32.ofNat o)), .val (.int (Int32.ofNat len)), .unset, .unset, .unset] [.int (Int32.ofNat len)])) := c1.trans (by
    refine XS.iloadN X0.here hexec rfl (hb hbytes d0) rfl ?_
    exact Steps.refl _)
  obtain ⟨T3, B3, X3, ba3, bs3, bv3, bh3, bf3, st3⟩ := X0.anew hexec (atype := .byte) (wk W (.arrayClass .byte)) rfl (by show len * 1 ≤ _; omega) (by omega) (g := (mkF m 1 #[.val (.ref b), .val (.int (Int32.ofNat o)), .val (.int (Int32.ofNat len)), .unset, .unset, .unset] [.int (Int32.ofNat len)])) rfl (hb hbytes d1) (rest := []) rfl (Nat.le_refl _) (by show 0 + len ≤ len; omega)
  rw [hh0] at ba3 st3
  have kp3 : XT.Kept s T3 := (XT.Kept.of_eq hh0).push bh3
  have hA3 := hA.keep X3.warmed.alike (kp3 _ _ hA.1.1)
  have hne : b ≠ s.heap.size := hA.1.ne
  have c4 : Steps p.tables e below (s₁.setTop (entryFrame m #[.ref b, .int (Int32.ofNat o), .int (Int32.ofNat len)] 6)) (T3.setTop (mkF m 3 #[.val (.ref b), .val (.int (Int32.ofNat o)), .val (.int (Int32.ofNat len)), .unset, .unset, .unset] [.ref s.heap.size])) := c2.trans (st3 _ (Steps.refl _))
  have c5 : Steps p.tables e below (s₁.setTop (entryFrame m #[.ref b, .int (Int32.ofNat o), .int (Int32.ofNat len)] 6)) (T3.setTop (mkF m 9 #[.val (.ref b), .val (.int (Int32.ofNat o)), .val (.int (Int32.ofNat len)), .val (.ref s.heap.size), .unset, .unset] [.int (Int32.ofNat len), .int 0, .ref s.heap.size, .int (Int32.ofNat o), .ref b])) := c4.trans (by
    refine XS.astoreN X3.here hexec rfl (hb hbytes d3) rfl rfl rfl ?_
    refine XS.aloadN X3.here hexec rfl (hb hbytes d4) rfl rfl ?_
    refine XS.iloadN X3.here hexec rfl (hb hbytes d5) rfl ?_
    refine XS.aloadN X3.here hexec rfl (hb hbytes d6) rfl rfl ?_
    refine iconstV X3.here hexec rfl 0 (hb hbytes d7) (by decide) ?_
    refine XS.iloadN X3.here hexec rfl (hb hbytes d8) rfl ?_
    exact Steps.refl _)
  obtain ⟨v6, T6, X6, E6, g6⟩ := X3.callS hexec (Cmp5.law l b A s.heap.size B3 o 0 len) hown (wks W (staticW U16 115 Cmp5.yN)) (wk W Cmp5.tab) (W := 0) (Nat.le_of_ble_eq_true rfl) (Nat.le_of_ble_eq_true rfl) (Nat.le_refl _) (by show 0 + len + 0 ≤ len; omega) (g := (mkF m 9 #[.val (.ref b), .val (.int (Int32.ofNat o)), .val (.int (Int32.ofNat len)), .val (.ref s.heap.size), .unset, .unset] [.int (Int32.ofNat len), .int (Int32.ofNat 0), .ref s.heap.size, .int (Int32.ofNat o), .ref b])) rfl (by rw [hml]; rfl) c5 (argsL := [.ref b, .int (Int32.ofNat o), .ref s.heap.size, .int (Int32.ofNat 0), .int (Int32.ofNat len)]) (rest := []) rfl rfl (by show 2 * 0 + 0 ≤ _; decide) (hb hbytes d9) (⟨rfl, hA3, ba3, hne, l1, by rw [bs3]; simp, hp⟩)
  obtain ⟨rfl, B6, p6, f6⟩ := E6
  have c7 : Steps p.tables e below (s₁.setTop (entryFrame m #[.ref b, .int (Int32.ofNat o), .int (Int32.ofNat len)] 6)) (T6.setTop (mkF m 12 #[.val (.ref b), .val (.int (Int32.ofNat o)), .val (.int (Int32.ofNat len)), .val (.ref s.heap.size), .unset, .unset] [.int (Int32.ofNat len)])) := g6
  have c8 : Steps p.tables e below (s₁.setTop (entryFrame m #[.ref b, .int (Int32.ofNat o), .int (Int32.ofNat len)] 6)) (T6.setTop (mkF m 58 #[.val (.ref b), .val (.int (Int32.ofNat o)), .val (.int (Int32.ofNat len)), .val (.ref s.heap.size), .val (.int (Int32.ofNat len)), .unset] [.ref s.heap.size])) := c7.trans (by
    refine XS.istore X6.here hexec rfl (hb hbytes d12) rfl rfl ?_
    refine XS.iload X6.here hexec rfl (hb hbytes d14) rfl ?_
    refine XS.iloadN X6.here hexec rfl (hb hbytes d16) rfl ?_
    refine XS.icmpYes X6.here hexec rfl (pc0 := 17) rfl (hb hbytes d17) rfl (ii_eq_t rfl) (by decide) rfl ?_
    refine XS.aloadN X6.here hexec rfl (hb hbytes d57) rfl rfl ?_
    exact Steps.refl _)
  have X8 := X6.wide (L' := []) (cells' := 1) (slots' := len) (fun x hx hlt => by
    simp only [List.nil_append, copyLocs, List.mem_map, List.mem_range] at hx
    obtain ⟨i, -, rfl⟩ := hx
    exact absurd hlt (Nat.lt_irrefl _)) (Nat.le_refl _) (by omega)
  exact ⟨T6, some (.ref s.heap.size), _, _, _, X8, rfl, rfl, rfl, (fun h => by cases h), ⟨⟨rfl, B6, ba3.like (X3.warmed.alike.symm.trans X6.warmed.alike) p6.1 f6.1 f6.2.1 f6.2.2.1, f6.2.1.trans bv3, by rw [X6.warmed.alike.findClass, f6.1]; exact bf3, by rw [f6.2.2.1, bs3]; simp, fun j hj => by rw [f6.2.2.2 j, if_pos (by omega)]; rfl, kp3.put p6 (Nat.le_refl _)⟩, by rw [p6.2.2, bh3, hh0]; simp⟩, fun fs hl => c8.trans (X8.areturnOut hexec rfl hret rfl (hb hbytes d58) hl)⟩
end Cmp3
namespace CodL
def yN : MethodName := ⟨"java/lang/StringUTF16", "coderFromArrayLen", "([BI)B"⟩
abbrev yB : ByteArray := jdk_52_method_15_code
theorem d0 : decode yB 0 = .ok (.iload_n 1, 1) := by decide +kernel
theorem d1 : decode yB 1 = .ok (.aload_n 0, 1) := by decide +kernel
theorem d2 : decode yB 2 = .ok (.arraylength, 1) := by decide +kernel
theorem d3 : decode yB 3 = .ok (.isub, 1) := by decide +kernel
theorem d4 : decode yB 4 = .ok (.bipush 31, 2) := by decide +kernel
theorem d6 : decode yB 6 = .ok (.iushr, 1) := by decide +kernel
theorem d7 : decode yB 7 = .ok (.i2b, 1) := by decide +kernel
theorem d8 : decode yB 8 = .ok (.ireturn, 1) := by decide +kernel
def site : List Cond := []
def tab : Cond := tabOf yN yB 2 (some .byte) site
def P (d : Addr) (B : Cell) (args : Array Value) (s : State) : Prop := args = #[.ref d, .int (Int32.ofNat B.slots.size)] ∧ Arr .byte d B s
def E (r : Option Value) (s u : State) : Prop := XT.PureE (some (.int 0)) r s u
/-- an array as long as the number of chars: LATIN1 -/
theorem law (l : Launch) (d : Addr) (B : Cell) : Law l yN 2 2 0 0 yB 2 (some .byte) site (P d B) E [] 0 0 := by
  refine Law.of_walk (plainFor_of_name (by decide +kernel)) (by decide +kernel) (by decide +kernel) (by decide) (fun _ _ h => by rw [h.1]; rfl) (fun _ U U' hal hh h => ⟨h.1, h.2.mv hal hh⟩) (fun r U U' V V' h1 hal h2 h => XT.PureE.mv r U U' V V' h1 hal h2 h) ?_
  intro p e s m args below meth c s₁ X0 hexec hbytes hml hret hlk hnm hown hh0 W hP
  obtain ⟨rfl, hB⟩ := hP
  have hB0 := hB.mv X0.warmed.alike hh0
  have c1 : Steps p.tables e below (s₁.setTop (entryFrame m #[.ref d, .int (Int32.ofNat B.slots.size)] 2)) (s₁.setTop (mkF m 0 #[.val (.ref d), .val (.int (Int32.ofNat B.slots.size))] [])) := entry rfl
  have c2 : Steps p.tables e below (s₁.setTop (entryFrame m #[.ref d, .int (Int32.ofNat B.slots.size)] 2)) (s₁.setTop (mkF m 2 #[.val (.ref d), .val (.int (Int32.ofNat B.slots.size))] [.ref d, .int (Int32.ofNat B.slots.size)])) := c1.trans (by
    refine XS.iloadN X0.here hexec rfl (hb hbytes d0) rfl ?_
    refine XS.aloadN X0.here hexec rfl (hb hbytes d1) rfl rfl ?_
    exact Steps.refl _)
  have c3 : Steps p.tables e below (s₁.setTop (entryFrame m #[.ref d, .int (Int32.ofNat B.slots.size)] 2)) (s₁.setTop (mkF m 8 #[.val (.ref d), .val (.int (Int32.ofNat B.slots.size))] [.int (lo8 (ushr (Int32.ofNat B.slots.size - Int32.ofNat B.slots.size) 31))])) := c2.trans (by
    refine X0.alen hexec hB0 rfl rfl (hb hbytes d2) ?_
    refine XS.isub X0.here hexec rfl (hb hbytes d3) rfl ?_
    refine bipushV X0.here hexec rfl 31 (hb hbytes d4) (by decide) ?_
    refine iushr X0.here hexec rfl (hb hbytes d6) rfl ?_
    refine i2b X0.here hexec rfl (hb hbytes d7) rfl ?_
    exact Steps.refl _)
  have e0 : lo8 (ushr (Int32.ofNat B.slots.size - Int32.ofNat B.slots.size) 31) = 0 := by rw [Int32.sub_self]; decide
  rw [e0] at c3
  exact ⟨s₁, some (.int 0), _, _, _, X0, rfl, rfl, rfl, (fun h => by cases h), ⟨rfl, hh0⟩, fun fs hl => c3.trans (X0.ireturnOut hexec hret rfl (Or.inr (Or.inr (Or.inl rfl))) (hb hbytes d8) hl)⟩
end CodL
/-- the String at a is Latin-1 over a new byte[] (the heap's one new cell): the low bytes of the len chars of A from o on; every cell but a is kept -/
def Got (a : Addr) (D : Cell) (fV fC : Field) (A : Cell) (o len : Nat) (r : Option Value) (s u : State) : Prop := r = none ∧ ∃ D' V : Cell, Blank "java/lang/String" a D' u ∧ Same D D' [fV.slot, fC.slot] ∧ D'.slots[fV.slot]? = some (.ref s.heap.size) ∧ D'.slots[fC.slot]? = some (.int 0) ∧ Arr .byte s.heap.size V u ∧ V.vm = .none ∧ u.vm.findClass "[B" = some V.cls ∧ V.slots.size = len ∧ (∀ j, j < len → V.slots[j]? = some (.int (lo8 (cv A (o + j))))) ∧ (∀ (y : Addr) (c : Cell), y ≠ a → s.heap[y]? = some c → u.heap[y]? = some c) ∧ u.heap.size = s.heap.size + 1
theorem Got.mv {a : Addr} {D A : Cell} {fV fC : Field} {o len : Nat} : ∀ r (U U' V V' : State), U'.heap = U.heap → V.vm.Alike V'.vm → V'.heap = V.heap → Got a D fV fC A o len r U V → Got a D fV fC A o len r U' V' :=
  fun r U U' V V' h1 hal h2 ⟨e0, D', X, a1, a2, a3, a4, a5, a6, a7, a8, a9, a10, a11⟩ => ⟨e0, D', X, a1.mv hal h2, a2, by rw [h1]; exact a3, a4, by rw [h1]; exact a5.mv hal h2, a6, by rw [hal.findClass]; exact a7, a8, a9, by rw [h1, h2]; exact a10, by rw [h1, h2]; exact a11⟩
namespace New4
def yN : MethodName := ⟨"java/lang/String", "<init>", "([CIILjava/lang/Void;)V"⟩
abbrev yB : ByteArray := jdk_42_method_149_code
theorem d0 : decode yB 0 = .ok (.aload_n 0, 1) := by decide +kernel
theorem d1 : decode yB 1 = .ok (.invokespecial 1, 3) := by decide +kernel
theorem d4 : decode yB 4 = .ok (.iload_n 3, 1) := by decide +kernel
theorem d5 : decode yB 5 = .ok (.ifCond (.ne) 22, 3) := by decide +kernel
theorem d27 : decode yB 27 = .ok (.getstatic 38, 3) := by decide +kernel
theorem d30 : decode yB 30 = .ok (.ifCond (.eq) 28, 3) := by decide +kernel
theorem d33 : decode yB 33 = .ok (.aload_n 1, 1) := by decide +kernel
theorem d34 : decode yB 34 = .ok (.iload_n 2, 1) := by decide +kernel
theorem d35 : decode yB 35 = .ok (.iload_n 3, 1) := by decide +kernel
theorem d36 : decode yB 36 = .ok (.invokestatic 177, 3) := by decide +kernel
theorem d39 : decode yB 39 = .ok (.astore 5, 2) := by decide +kernel
theorem d41 : decode yB 41 = .ok (.aload_n 0, 1) := by decide +kernel
theorem d42 : decode yB 42 = .ok (.aload 5, 2) := by decide +kernel
theorem d44 : decode yB 44 = .ok (.iload_n 3, 1) := by decide +kernel
theorem d45 : decode yB 45 = .ok (.invokestatic 47, 3) := by decide +kernel
theorem d48 : decode yB 48 = .ok (.putfield 15, 3) := by decide +kernel
theorem d51 : decode yB 51 = .ok (.aload_n 0, 1) := by decide +kernel
theorem d52 : decode yB 52 = .ok (.aload 5, 2) := by decide +kernel
theorem d54 : decode yB 54 = .ok (.putfield 9, 3) := by decide +kernel
theorem d57 : decode yB 57 = .ok (.return_, 1) := by decide +kernel
def site : List Cond := [.fieldLink "java/lang/String" 38 "java/lang/String" "COMPACT_STRINGS" "Z", Cmp3.tab, CodL.tab, .laysFinal "java/lang/String" "java/lang/String" "value" "[B", .fieldLink "java/lang/String" 9 "java/lang/String" "value" "[B", .laysFinal "java/lang/String" "java/lang/String" "coder" "B", .fieldLink "java/lang/String" 15 "java/lang/String" "coder" "B"] ++ objW "java/lang/String" 1 ++ staticW "java/lang/String" 177 Cmp3.yN ++ staticW "java/lang/String" 47 CodL.yN
def tab : Cond := tabOf yN yB 6 none site
def P (a : Addr) (D : Cell) (fV fC : Field) (b : Addr) (A : Cell) (z : Int32) (o len : Nat) (args : Array Value) (s : State) : Prop := args = #[.ref a, .ref b, .int (Int32.ofNat o), .int (Int32.ofNat len), .null] ∧ Blank "java/lang/String" a D s ∧ Found "java/lang/String" "value" "[B" fV s ∧ Found "java/lang/String" "coder" "B" fC s ∧ Ch b A s ∧ StaticIs s "java/lang/String" "COMPACT_STRINGS" "Z" (.int z) ∧ ¬ z = 0 ∧ 0 < len ∧ o + len ≤ A.slots.size ∧ len ≤ 536870912 ∧ ∀ i, i < len → ¬ 255 < cv A (o + i)
def E (a : Addr) (D : Cell) (fV fC : Field) (A : Cell) (o len : Nat) (r : Option Value) (s u : State) : Prop := Got a D fV fC A o len r s u
/-- len > 0, no char of the range above 255: a Latin-1 String of their low bytes -/
theorem law (l : Launch) (a : Addr) (D : Cell) (fV fC : Field) (b : Addr) (A : Cell) (z : Int32) (o len : Nat) : Law l yN 5 4 2 35 yB 6 none site (P a D fV fC b A z o len) (E a D fV fC A o len) [⟨a, fC.slot⟩, ⟨a, fV.slot⟩] 1 len := by
  refine Law.of_walk (plainFor_of_name (by decide +kernel)) (by decide +kernel) (by decide +kernel) (by decide) (fun _ _ h => by rw [h.1]; rfl) (fun _ U U' hal hh h => ⟨h.1, h.2.1.mv hal hh, h.2.2.1.al hal, h.2.2.2.1.al hal, h.2.2.2.2.1.mv hal hh, h.2.2.2.2.2.1.there hal hh, h.2.2.2.2.2.2⟩) (fun r U U' V V' h1 hal h2 h => Got.mv r U U' V V' h1 hal h2 h) ?_
  intro p e s m args below meth c s₁ X0 hexec hbytes hml hret hlk hnm hown hh0 W hP
  obtain ⟨rfl, hB, f1, f2, hA, s1, hz, l0, l1, l2, hp⟩ := hP
  have a31 := hA.1.2.2.2
  have c1 : Steps p.tables e below (s₁.setTop (entryFrame m #[.ref a, .ref b, .int (Int32.ofNat o), .int (Int32.ofNat len), .null] 6)) (s₁.setTop (mkF m 0 #[.val (.ref a), .val (.ref b), .val (.int (Int32.ofNat o)), .val (.int (Int32.ofNat len)), .val .null, .unset] [])) := entry rfl
  have c2 : Steps p.tables e below (s₁.setTop (entryFrame m #[.ref a, .ref b, .int (Int32.ofNat o), .int (Int32.ofNat len), .null] 6)) (s₁.setTop (mkF m 1 #[.val (.ref a), .val (.ref b), .val (.int (Int32.ofNat o)), .val (.int (Int32.ofNat len)), .val .null, .unset] [.ref a])) := c1.trans (by
    refine XS.aloadN X0.here hexec rfl (hb hbytes d0) rfl rfl ?_
    exact Steps.refl _)
  obtain ⟨T3, X3, q3, st3⟩ := X0.oinit hexec hown (wks W (objW "java/lang/String" 1)) (g := (mkF m 1 #[.val (.ref a), .val (.ref b), .val (.int (Int32.ofNat o)), .val (.int (Int32.ofNat len)), .val .null, .unset] [.ref a])) rfl (by rw [hml]; rfl) (rest := []) rfl (hb hbytes d1) (W := 0) (by show 2 * 0 + 0 ≤ _; decide) (Nat.le_of_ble_eq_true rfl) (Nat.le_of_ble_eq_true rfl)
  have hh3 := q3.trans hh0
  have c4 : Steps p.tables e below (s₁.setTop (entryFrame m #[.ref a, .ref b, .int (Int32.ofNat o), .int (Int32.ofNat len), .null] 6)) (T3.setTop (mkF m 27 #[.val (.ref a), .val (.ref b), .val (.int (Int32.ofNat o)), .val (.int (Int32.ofNat len)), .val .null, .unset] [])) := (c2.trans (st3 _ (Steps.refl _))).trans (by
    refine XS.iloadN X3.here hexec rfl (hb hbytes d4) rfl ?_
    refine XS.ifYes X3.here hexec rfl (pc0 := 5) rfl (hb hbytes d5) rfl (i0_ne_t (nz32 (by omega) l0)) (by decide) rfl ?_
    exact Steps.refl _)
  obtain ⟨T5, X5, q5, st5⟩ := X3.sget hexec hown (wk W (.fieldLink "java/lang/String" 38 "java/lang/String" "COMPACT_STRINGS" "Z")) s1 (fun _ _ h => by rw [hh3]; exact h) (g := (mkF m 27 #[.val (.ref a), .val (.ref b), .val (.int (Int32.ofNat o)), .val (.int (Int32.ofNat len)), .val .null, .unset] [])) rfl (hb hbytes d27)
  have hh5 := q5.trans hh3
  have c6 : Steps p.tables e below (s₁.setTop (entryFrame m #[.ref a, .ref b, .int (Int32.ofNat o), .int (Int32.ofNat len), .null] 6)) (T5.setTop (mkF m 30 #[.val (.ref a), .val (.ref b), .val (.int (Int32.ofNat o)), .val (.int (Int32.ofNat len)), .val .null, .unset] [.int z])) := c4.trans (st5 _ (Steps.refl _))
  have c7 : Steps p.tables e below (s₁.setTop (entryFrame m #[.ref a, .ref b, .int (Int32.ofNat o), .int (Int32.ofNat len), .null] 6)) (T5.setTop (mkF m 36 #[.val (.ref a), .val (.ref b), .val (.int (Int32.ofNat o)), .val (.int (Int32.ofNat len)), .val .null, .unset] [.int (Int32.ofNat len), .int (Int32.ofNat o), .ref b])) := c6.trans (by
    refine XS.ifNo X5.here hexec rfl (hb hbytes d30) rfl (i0_eq_f hz) ?_
    refine XS.aloadN X5.here hexec rfl (hb hbytes d33) rfl rfl ?_
    refine XS.iloadN X5.here hexec rfl (hb hbytes d34) rfl ?_
    refine XS.iloadN X5.here hexec rfl (hb hbytes d35) rfl ?_
    exact Steps.refl _)
  obtain ⟨v8, T8, X8, E8, g8⟩ := X5.callS hexec (Cmp3.law l b A o len) hown (wks W (staticW "java/lang/String" 177 Cmp3.yN)) (wk W Cmp3.tab) (W := 0) (Nat.le_of_ble_eq_true rfl) (Nat.le_of_ble_eq_true rfl) (Nat.le_refl _) (by show 0 + len ≤ len; omega) (g := (mkF m 36 #[.val (.ref a), .val (.ref b), .val (.int (Int32.ofNat o)), .val (.int (Int32.ofNat len)), .val .null, .unset] [.int (Int32.ofNat len), .int (Int32.ofNat o), .ref b])) rfl (by rw [hml]; rfl) c7 (argsL := [.ref b, .int (Int32.ofNat o), .int (Int32.ofNat len)]) (rest := []) rfl rfl (by show 2 * 0 + 0 ≤ _; decide) (hb hbytes d36) (⟨rfl, hA.mv X5.warmed.alike hh5, l1, l2, hp⟩)
  obtain ⟨e8, z8⟩ := E8
  obtain ⟨rfl, N, n1, n2, n3, n4, n5, n6⟩ := NewArr.mv _ T5 s _ _ hh5.symm (Vm.Alike.refl _) rfl e8
  rw [hh5] at z8
  have hB1 := hB.keep X8.warmed.alike (n6 _ _ hB.1)
  have hne : s.heap.size ≠ a := (Nat.ne_of_lt (Array.getElem?_eq_some_iff.mp hB.1).1).symm
  have c9 : Steps p.tables e below (s₁.setTop (entryFrame m #[.ref a, .ref b, .int (Int32.ofNat o), .int (Int32.ofNat len), .null] 6)) (T8.setTop (mkF m 39 #[.val (.ref a), .val (.ref b), .val (.int (Int32.ofNat o)), .val (.int (Int32.ofNat len)), .val .null, .unset] [.ref s.heap.size])) := g8
  have c10 : Steps p.tables e below (s₁.setTop (entryFrame m #[.ref a, .ref b, .int (Int32.ofNat o), .int (Int32.ofNat len), .null] 6)) (T8.setTop (mkF m 45 #[.val (.ref a), .val (.ref b), .val (.int (Int32.ofNat o)), .val (.int (Int32.ofNat len)), .val .null, .val (.ref s.heap.size)] [.int (Int32.ofNat N.slots.size), .ref s.heap.size, .ref a])) := by
    have hc : Steps p.tables e below (s₁.setTop (entryFrame m #[.ref a, .ref b, .int (Int32.ofNat o), .int (Int32.ofNat len), .null] 6)) (T8.setTop (mkF m 45 #[.val (.ref a), .val (.ref b), .val (.int (Int32.ofNat o)), .val (.int (Int32.ofNat len)), .val .null, .val (.ref s.heap.size)] [.int (Int32.ofNat len), .ref s.heap.size, .ref a])) := c9.trans (by
      refine XS.astore X8.here hexec rfl (hb hbytes d39) rfl rfl rfl ?_
      refine XS.aloadN X8.here hexec rfl (hb hbytes d41) rfl rfl ?_
      refine XS.aload X8.here hexec rfl (hb hbytes d42) rfl rfl ?_
      refine XS.iloadN X8.here hexec rfl (hb hbytes d44) rfl ?_
      exact Steps.refl _)
    rw [n4]; exact hc
  obtain ⟨v11, T11, X11, E11, g11⟩ := X8.callS hexec (CodL.law l s.heap.size N) hown (wks W (staticW "java/lang/String" 47 CodL.yN)) (wk W CodL.tab) (W := 1) (Nat.le_of_ble_eq_true rfl) (Nat.le_of_ble_eq_true rfl) (Nat.le_refl _) (by show 0 + len + 0 ≤ len; omega) (g := (mkF m 45 #[.val (.ref a), .val (.ref b), .val (.int (Int32.ofNat o)), .val (.int (Int32.ofNat len)), .val .null, .val (.ref s.heap.size)] [.int (Int32.ofNat N.slots.size), .ref s.heap.size, .ref a])) rfl (by rw [hml]; rfl) c10 (argsL := [.ref s.heap.size, .int (Int32.ofNat N.slots.size)]) (rest := [.ref a]) rfl rfl (by show 2 * 0 + (1 + 0) ≤ _; decide) (hb hbytes d45) (⟨rfl, n1⟩)
  obtain ⟨rfl, q11⟩ := E11
  have hB11 := hB1.mv (X8.warmed.alike.symm.trans X11.warmed.alike) q11
  have c12 : Steps p.tables e below (s₁.setTop (entryFrame m #[.ref a, .ref b, .int (Int32.ofNat o), .int (Int32.ofNat len), .null] 6)) (T11.setTop (mkF m 48 #[.val (.ref a), .val (.ref b), .val (.int (Int32.ofNat o)), .val (.int (Int32.ofNat len)), .val .null, .val (.ref s.heap.size)] [.int 0, .ref a])) := g11
  obtain ⟨T13, X13, p13, bl13, sl13, st13⟩ := X11.finit hexec hown (wk W (.fieldLink "java/lang/String" 15 "java/lang/String" "coder" "B")) (Or.inr ⟨_, (wk W (.laysFinal "java/lang/String" "java/lang/String" "coder" "B"))⟩) (Or.inl ⟨rfl, hnm⟩) f2 (Or.inl rfl) hB11 (t := .byte) (by decide +kernel) rfl (g := (mkF m 48 #[.val (.ref a), .val (.ref b), .val (.int (Int32.ofNat o)), .val (.int (Int32.ofNat len)), .val .null, .val (.ref s.heap.size)] [.int 0, .ref a])) rfl (rest := []) rfl (hb hbytes d48)
  have c14 : Steps p.tables e below (s₁.setTop (entryFrame m #[.ref a, .ref b, .int (Int32.ofNat o), .int (Int32.ofNat len), .null] 6)) (T13.setTop (mkF m 54 #[.val (.ref a), .val (.ref b), .val (.int (Int32.ofNat o)), .val (.int (Int32.ofNat len)), .val .null, .val (.ref s.heap.size)] [.ref s.heap.size, .ref a])) := (c12.trans (st13 _ (Steps.refl _))).trans (by
    refine XS.aloadN X13.here hexec rfl (hb hbytes d51) rfl rfl ?_
    refine XS.aload X13.here hexec rfl (hb hbytes d52) rfl rfl ?_
    exact Steps.refl _)
  obtain ⟨T15, X15, p15, bl15, sl15, st15⟩ := X13.finit hexec hown (wk W (.fieldLink "java/lang/String" 9 "java/lang/String" "value" "[B")) (Or.inr ⟨_, (wk W (.laysFinal "java/lang/String" "java/lang/String" "value" "[B"))⟩) (Or.inl ⟨rfl, hnm⟩) f1 (Or.inl rfl) bl13 (t := (.array .byte)) (by decide +kernel) rfl (g := (mkF m 54 #[.val (.ref a), .val (.ref b), .val (.int (Int32.ofNat o)), .val (.int (Int32.ofNat len)), .val .null, .val (.ref s.heap.size)] [.ref s.heap.size, .ref a])) rfl (rest := []) rfl (hb hbytes d54)
  have c16 : Steps p.tables e below (s₁.setTop (entryFrame m #[.ref a, .ref b, .int (Int32.ofNat o), .int (Int32.ofNat len), .null] 6)) (T15.setTop (mkF m 57 #[.val (.ref a), .val (.ref b), .val (.int (Int32.ofNat o)), .val (.int (Int32.ofNat len)), .val .null, .val (.ref s.heap.size)] [])) := c14.trans (st15 _ (Steps.refl _))
  have ap := apart (Or.inr ⟨_, (wk W (.laysFinal "java/lang/String" "java/lang/String" "value" "[B"))⟩) (Or.inr ⟨_, (wk W (.laysFinal "java/lang/String" "java/lang/String" "coder" "B"))⟩) f1 f2 (t₁ := .array .byte) (t₂ := .byte) (by decide +kernel) (by decide +kernel) (by decide)
  have al := X8.warmed.alike.symm.trans X15.warmed.alike
  have n7 : T11.heap[s.heap.size]? = some N := by rw [q11]; exact n1.1
  exact ⟨T15, none, _, _, _, X15, by simp, rfl, by omega, (fun _ => rfl), ⟨rfl, _, N, bl15, ((Same.refl D _).set _ (by simp)).set _ (by simp), sl15, (Cell.slots_setSlot_ne _ ap).trans sl13, n1.keep al (p15.other hne (p13.other hne n7)), n2, by rw [al.findClass]; exact n3, n4, n5, fun y c h1 h2 => p15.other h1 (p13.other h1 (by rw [q11]; exact n6 y c h2)), by rw [p15.2.2, p13.2.2, q11]; exact z8⟩, fun fs hl => c16.trans (X15.returnOut hexec hret (hb hbytes d57) hl)⟩
end New4
namespace New1
def yN : MethodName := ⟨"java/lang/String", "<init>", "([C)V"⟩
abbrev yB : ByteArray := jdk_42_method_3_code
theorem d0 : decode yB 0 = .ok (.aload_n 0, 1) := by decide +kernel
theorem d1 : decode yB 1 = .ok (.aload_n 1, 1) := by decide +kernel
theorem d2 : decode yB 2 = .ok (.iconst 0, 1) := by decide +kernel
theorem d3 : decode yB 3 = .ok (.aload_n 1, 1) := by decide +kernel
theorem d4 : decode yB 4 = .ok (.arraylength, 1) := by decide +kernel
theorem d5 : decode yB 5 = .ok (.aconst_null, 1) := by decide +kernel
theorem d6 : decode yB 6 = .ok (.invokespecial 27, 3) := by decide +kernel
theorem d9 : decode yB 9 = .ok (.return_, 1) := by decide +kernel
def site : List Cond := [New4.tab] ++ initW "java/lang/String" 27 New4.yN
def tab : Cond := tabOf yN yB 2 none site
def P (a : Addr) (D : Cell) (fV fC : Field) (b : Addr) (A : Cell) (z : Int32) (args : Array Value) (s : State) : Prop := args = #[.ref a, .ref b] ∧ Blank "java/lang/String" a D s ∧ Found "java/lang/String" "value" "[B" fV s ∧ Found "java/lang/String" "coder" "B" fC s ∧ Ch b A s ∧ StaticIs s "java/lang/String" "COMPACT_STRINGS" "Z" (.int z) ∧ ¬ z = 0 ∧ 0 < A.slots.size ∧ A.slots.size ≤ 536870912 ∧ ∀ i, i < A.slots.size → ¬ 255 < cv A i
def E (a : Addr) (D : Cell) (fV fC : Field) (A : Cell) (r : Option Value) (s u : State) : Prop := Got a D fV fC A 0 A.slots.size r s u
/-- new String(chars), not empty, no char above 255: a Latin-1 String of their low bytes -/
theorem law (l : Launch) (a : Addr) (D : Cell) (fV fC : Field) (b : Addr) (A : Cell) (z : Int32) : Law l yN 2 1 3 52 yB 2 none site (P a D fV fC b A z) (E a D fV fC A) [⟨a, fC.slot⟩, ⟨a, fV.slot⟩] 1 A.slots.size := by
  refine Law.of_walk (plainFor_of_name (by decide +kernel)) (by decide +kernel) (by decide +kernel) (by decide) (fun _ _ h => by rw [h.1]; rfl) (fun _ U U' hal hh h => ⟨h.1, h.2.1.mv hal hh, h.2.2.1.al hal, h.2.2.2.1.al hal, h.2.2.2.2.1.mv hal hh, h.2.2.2.2.2.1.there hal hh, h.2.2.2.2.2.2⟩) (fun r U U' V V' h1 hal h2 h => Got.mv r U U' V V' h1 hal h2 h) ?_
  intro p e s m args below meth c s₁ X0 hexec hbytes hml hret hlk hnm hown hh0 W hP
  obtain ⟨rfl, hB, f1, f2, hA, s1, hz, l0, l2, hp⟩ := hP
  have c1 : Steps p.tables e below (s₁.setTop (entryFrame m #[.ref a, .ref b] 2)) (s₁.setTop (mkF m 0 #[.val (.ref a), .val (.ref b)] [])) := entry rfl
  have c2 : Steps p.tables e below (s₁.setTop (entryFrame m #[.ref a, .ref b] 2)) (s₁.setTop (mkF m 6 #[.val (.ref a), .val (.ref b)] [.null, .int (Int32.ofNat A.slots.size), .int 0, .ref b, .ref a])) := c1.trans (by
    refine XS.aloadN X0.here hexec rfl (hb hbytes d0) rfl rfl ?_
    refine XS.aloadN X0.here hexec rfl (hb hbytes d1) rfl rfl ?_
    refine iconstV X0.here hexec rfl 0 (hb hbytes d2) (by decide) ?_
    refine XS.aloadN X0.here hexec rfl (hb hbytes d3) rfl rfl ?_
    refine X0.alen hexec (hA.1.mv X0.warmed.alike hh0) rfl rfl (hb hbytes d4) ?_
    refine XS.aconstNull X0.here hexec rfl (hb hbytes d5) ?_
    exact Steps.refl _)
  obtain ⟨v3, T3, X3, E3, g3⟩ := X0.callN hexec (New4.law l a D fV fC b A z 0 A.slots.size) rfl hown (wks W (initW "java/lang/String" 27 New4.yN)) (W New4.tab (by simp only [site, List.mem_cons, List.mem_append, true_or, or_true])) (W := 0) (Nat.le_of_ble_eq_true rfl) (Nat.le_of_ble_eq_true rfl) (Nat.le_refl _) (by show 0 + A.slots.size ≤ A.slots.size; omega) (g := (mkF m 6 #[.val (.ref a), .val (.ref b)] [.null, .int (Int32.ofNat A.slots.size), .int (Int32.ofNat 0), .ref b, .ref a])) rfl (by rw [hml]; rfl) c2 (argsL := [.ref b, .int (Int32.ofNat 0), .int (Int32.ofNat A.slots.size), .null]) (rest := []) rfl rfl (by show 2 * 0 + 0 ≤ _; decide) (hb hbytes d6) (⟨rfl, hB.mv X0.warmed.alike hh0, f1.al X0.warmed.alike, f2.al X0.warmed.alike, hA.mv X0.warmed.alike hh0, s1.there X0.warmed.alike hh0, hz, l0, by omega, l2, fun i hi => by rw [Nat.zero_add]; exact hp i hi⟩)
  have e0 := Got.mv _ s₁ s _ _ hh0.symm (Vm.Alike.refl _) rfl E3
  obtain rfl := e0.1
  have c4 : Steps p.tables e below (s₁.setTop (entryFrame m #[.ref a, .ref b] 2)) (T3.setTop (mkF m 9 #[.val (.ref a), .val (.ref b)] [])) := g3
  exact ⟨T3, none, _, _, _, X3, by simp, rfl, by omega, (fun _ => rfl), e0, fun fs hl => c4.trans (X3.returnOut hexec hret (hb hbytes d9) hl)⟩
theorem pays {l : Launch} {R : Room} {p : Program} {e : Env} {below : List Frame} {s : State} {sargs : Array Value} {len W : Nat} (a : Addr) (D : Cell) (fV fC : Field) (b : Addr) (A : Cell) (z : Int32) (htab : tab.before sargs s = true) (hfr : 4 ≤ R.frames) (hlo : W + 65 ≤ R.locals) :
    Back l R p e below s sargs yN len W (fun A₁ a₁ => A₁.cells + 1 ≤ R.cells ∧ A₁.slots + A.slots.size ≤ R.slots ∧ P a D fV fC b A z a₁ A₁.U) (fun A₁ _ v₁ B₁ => E a D fV fC A v₁ A₁.U B₁.U ∧ B₁.locs = A₁.locs ++ [⟨a, fC.slot⟩, ⟨a, fV.slot⟩] ∧ B₁.cells = A₁.cells + 1 ∧ B₁.slots = A₁.slots + A.slots.size) :=
  (law l a D fV fC b A z).pays htab hfr (by omega)
end New1
/-- the byte, read back as charAt reads it, is the char -/
theorem lo8_mask {x : Int32} (h0 : ¬ x < 0) (h1 : ¬ 255 < x) : lo8 x &&& 255 = x := by
  have t : ∀ k : Fin 256, lo8 (Int32.ofNat k.val) &&& 255 = Int32.ofNat k.val := by decide +kernel
  rw [Int32.lt_iff_toInt_lt] at h0 h1
  have e0 : (0 : Int32).toInt = 0 := rfl
  have e1 : (255 : Int32).toInt = 255 := rfl
  obtain ⟨k, hk⟩ : ∃ k : Nat, x.toInt = k := ⟨x.toInt.toNat, by omega⟩
  have hx : x = Int32.ofNat k := Int32.toInt_inj.mp (by rw [hk, Int32.toInt_ofNat_small (by omega)])
  rw [hx]
  exact t ⟨k, by omega⟩
end StrChars
namespace StrChars.Road
open Jvm Sem ClassFile Op Lib Jvm.Stand Jvm.Free Jvm.Free.XT
open Jvm.Lib.Cold (StaticIs)
abbrev ST : String := "java/lang/String"
/-- every table word that New1's law asks, flat -/
abbrev words : List Jvm.Cond := [.code New1.yN New1.yB 2 none, .initialized ST, .methodLink ST 27 New4.yN, .instanceMethod New4.yN,
  .code New4.yN New4.yB 6 none, .fieldLink ST 38 ST "COMPACT_STRINGS" "Z", .laysFinal ST ST "value" "[B", .fieldLink ST 9 ST "value" "[B", .laysFinal ST ST "coder" "B", .fieldLink ST 15 ST "coder" "B",
  .methodLink ST 1 Lib.objectInit, .instanceMethod Lib.objectInit, .code Lib.objectInit ⟨#[0xb1]⟩ 1 none, .methodLink ST 177 Cmp3.yN, .static Cmp3.yN, .methodLink ST 47 CodL.yN, .static CodL.yN,
  .code Cmp3.yN Cmp3.yB 6 (some (.array .byte)), .initialized U16, .arrayClass .byte, .methodLink U16 115 Cmp5.yN, .static Cmp5.yN, .code Cmp5.yN Cmp5.yB 7 (some .int), .code CodL.yN CodL.yB 2 (some .byte)]
theorem tab_of {a : Array Value} {s : State} (h : ∀ w ∈ words, w.before a s = true) : New1.tab.before a s = true := by
  have h5 : Cmp5.tab.before a s = true := unparts (wk h (.code Cmp5.yN Cmp5.yB 7 (some .int))) (wks h (.initialized Cmp5.yN.cls :: Cmp5.site))
  have hc : CodL.tab.before a s = true := unparts (wk h (.code CodL.yN CodL.yB 2 (some .byte))) (wks h (.initialized CodL.yN.cls :: CodL.site))
  have q5 : ∀ w ∈ Cmp5.tab :: words, w.before a s = true := fun w hw => (List.mem_cons.mp hw).elim (fun e => e ▸ h5) (h w)
  have h3 : Cmp3.tab.before a s = true := unparts (wk q5 (.code Cmp3.yN Cmp3.yB 6 (some (.array .byte)))) (wks q5 (.initialized Cmp3.yN.cls :: Cmp3.site))
  have q3 : ∀ w ∈ Cmp3.tab :: CodL.tab :: words, w.before a s = true := fun w hw => (List.mem_cons.mp hw).elim (fun e => e ▸ h3) fun hw => (List.mem_cons.mp hw).elim (fun e => e ▸ hc) (h w)
  have h4 : New4.tab.before a s = true := unparts (wk q3 (.code New4.yN New4.yB 6 none)) (wks q3 (.initialized New4.yN.cls :: New4.site))
  have q4 : ∀ w ∈ New4.tab :: words, w.before a s = true := fun w hw => (List.mem_cons.mp hw).elim (fun e => e ▸ h4) (h w)
  exact unparts (wk q4 (.code New1.yN New1.yB 2 none)) (wks q4 (.initialized New1.yN.cls :: New1.site))
/-- the words ride from the start Z to the walk's own state -/
theorem moved {Z s : State} {a0 args : Array Value} (hZ : Z.Warmed39 s.vm) (hw : ∀ d ∈ words, d.before a0 Z = true) : ∀ d ∈ words, d.before args s = true := fun d hd => by
  have q := hw d hd
  have t : ∀ d ∈ words, d = .arrayClass .byte ∨ (d.onTables && d.keepsFace) = true := by decide +kernel
  rcases t d hd with rfl | t
  · exact RoadKit.mvA hZ q
  · exact RoadKit.mv hZ q t
/-- WHAT COMES BACK, over the tables of the start Z: h the heap at the call, h' behind it -/
def Q (Z : State) (x : Addr) (A : Cell) (h : Heap) (v : Option Value) (h' : Heap) (L : List Loc) : Prop := v = none ∧ (∀ y ∈ L, y.base = x) ∧ RoadKit.Keep h h' [x] ∧ h'.size = h.size + 1 ∧ RoadKit.Exa Z h' x ST ∧ RoadKit.Fld Z h' x ST "value" "[B" (.ref h.size) ∧ RoadKit.Fld Z h' x ST "coder" "B" (.int 0) ∧
  (∃ V : Cell, RoadKit.Arr Z h' h.size V .byte ∧ V.vm = .none ∧ Z.vm.findClass "[B" = some V.cls ∧ V.slots.size = A.slots.size ∧ ∀ j, j < A.slots.size → V.slots[j]? = some (.int (lo8 (cv A j)))) ∧
  ∀ (O n d : String) (w : Value), RoadKit.Fld Z h x O n d w → RoadKit.slotOf Z O n d ≠ RoadKit.slotOf Z ST "value" "[B" → RoadKit.slotOf Z O n d ≠ RoadKit.slotOf Z ST "coder" "B" → RoadKit.Fld Z h' x O n d w
/-- **new String(chars) AT A CALL, IN THE ROAD'S FORM**: for specialBack behind newO: x the fresh String, b the char[] with the cell A -/
theorem back {p : Program} {l : Launch} {e : Env} {R : Room} {s : State} {args : Array Value} {below : List Frame} {len W : Nat} {Z : State} {a0 : Array Value} {h : Heap} (hZ : Z.Warmed39 s.vm) (hw : ∀ d ∈ words, d.before a0 Z = true) {kI : Nat} (wi : (Jvm.Cond.instantiable ST kI).before a0 Z = true)
    {x b : Addr} {A : Cell} {z : Int32} {v0 c0 : Value} (E : RoadKit.Exa Z h x ST) (V : RoadKit.Fld Z h x ST "value" "[B" v0) (C : RoadKit.Fld Z h x ST "coder" "B" c0) (K : RoadKit.Arr Z h b A .char) (hty : Typed .char A) (S : RoadKit.Sta Z h ST "COMPACT_STRINGS" "Z" (.int z)) (hz : ¬ z = 0)
    (l0 : 0 < A.slots.size) (l2 : A.slots.size ≤ 536870912) (hp : ∀ i, i < A.slots.size → ¬ 255 < cv A i) (hfr : 4 ≤ R.frames) (hlo : W + 65 ≤ R.locals) :
    Back l R p e below s args New1.yN len W (fun P a => a = #[.ref x, .ref b] ∧ P.U.heap = h ∧ P.cells + 1 ≤ R.cells ∧ P.slots + A.slots.size ≤ R.slots)
      (fun P _ v B => ∃ L, Q Z x A h v B.U.heap L ∧ B.locs = P.locs ++ L ∧ B.cells = P.cells + 1 ∧ B.slots = P.slots + A.slots.size) := by
  intro m meth c P g ig mk a X hg hsize hdg hW hn hp'
  obtain ⟨rfl, rfl, r1, r2⟩ := hp'
  have al : Z.vm.Alike P.U.vm := hZ.alike.trans X.warmed.alike
  obtain ⟨D, cfV, kV, iV, fV, hD, gV, stV, knV, obV, asV, slV⟩ := id V
  obtain ⟨D', cfC, kC, iC, fC, hD', gC, stC, -, -, asC, slC⟩ := id C
  cases hD.symm.trans hD'
  obtain ⟨D2, kD, e1, e2, e3, e4, e5⟩ := id E
  cases hD.symm.trans e1
  obtain ⟨c2, k2, i1, i2, i3, -⟩ := Cond.instantiable_spec wi
  cases e2.symm.trans i1
  cases e3.symm.trans i2
  obtain ⟨kU, u1, u2⟩ := al.2.2 _ _ e3
  have hB : Blank ST x D P.U := ⟨hD, ⟨knV, fun q hq => by rw [hq] at obV; cases obV⟩, by rw [al.findClass]; exact e2, kU, u1, by rw [u2]; exact i3, by rw [u2]; exact e5 i3⟩
  have F1 : Found ST "value" "[B" fV P.U := ⟨SBG.found_only al ⟨cfV, kV, iV, gV⟩, stV⟩
  have F2 : Found ST "coder" "B" fC P.U := ⟨SBG.found_only al ⟨cfC, kC, iC, gC⟩, stC⟩
  have hA : Ch b A P.U := ⟨⟨K.1, State.isArrayOf_alike al K.2.1, K.2.2, by omega⟩, hty⟩
  have hS : StaticIs P.U ST "COMPACT_STRINGS" "Z" (.int z) := by
    obtain ⟨cfS, iS, kS, fS, st, cS, t1, t2, t3, t4, t5, t6, t7⟩ := S
    exact StaticIs.there (s := { Z with heap := P.U.heap }) ⟨cfS, iS, kS, fS, st, cS, t1, t2, t3, t4, t5, (fun q => by rw [q] at t6; cases t6), t7⟩ al rfl
  obtain ⟨v, B, X', ⟨⟨hv, E', V', q1, q2, q3, q4, q5, q6, q7, q8, q9, q10, q11⟩, hl, hc, hs⟩, st⟩ := New1.pays x D fV fC b A z (tab_of (moved hZ hw)) hfr hlo m meth c P g ig mk _ X hg hsize hdg hW hn ⟨r1, r2, rfl, hB, F1, F2, hA, hS, hz, l0, l2, hp⟩
  have al' : Z.vm.Alike B.U.vm := hZ.alike.trans X'.warmed.alike
  have hsz : E'.slots.size = D.slots.size := by
    obtain ⟨-, -, -, kB, w1, w2, w3⟩ := q1
    obtain ⟨kB', y1, y2⟩ := al'.2.2 _ _ e3
    rw [q2.2.1] at w1
    cases w1.symm.trans y1
    rw [w3, e5 i3, y2]
  refine ⟨v, B, X', ⟨_, ⟨hv, ?_, ⟨by omega, fun y cy hy hn' => q10 y cy (by simpa using hn') hy, fun y cy hy => ?_⟩, q11, ⟨E', _, q1.1, by rw [q2.2.1]; exact e2, by rw [q2.2.1]; exact e3, by rw [q2.1]; exact obV, fun _ => by rw [hsz]; exact e5 i3⟩,
    ⟨E', cfV, kV, iV, fV, q1.1, gV, stV, by rw [q2.1]; exact knV, by rw [q2.1]; exact obV, by rw [q2.2.1]; exact asV, q3⟩, ⟨E', cfC, kC, iC, fC, q1.1, gC, stC, by rw [q2.1]; exact knV, by rw [q2.1]; exact obV, by rw [q2.2.1]; exact asC, q4⟩,
    ⟨V', ⟨q5.1, State.isArrayOf_alike al'.symm q5.2.1, q5.2.2.1⟩, q6, by rw [← al'.findClass]; exact q7, q8, fun j hj => by have := q9 j hj; rwa [Nat.zero_add] at this⟩, fun O n d w F n1 n2 => ?_⟩, hl, hc, hs⟩, st⟩
  · intro y hy
    simp only [List.mem_cons, List.not_mem_nil, or_false] at hy
    rcases hy with rfl | rfl <;> rfl
  · by_cases q : y = x
    · subst q
      cases hD.symm.trans hy
      exact ⟨E', q1.1, q2.2.1, q2.1, hsz⟩
    · exact ⟨cy, q10 y cy q hy, rfl, rfl, rfl⟩
  · obtain ⟨D3, cf, k, i, f, g1, g2, g3, g4, g5, g6, g7⟩ := F
    cases hD.symm.trans g1
    simp only [RoadKit.slotOf, g2, gV, gC, Option.map_some, Option.getD_some] at n1 n2
    exact ⟨E', cf, k, i, f, q1.1, g2, g3, by rw [q2.1]; exact g4, by rw [q2.1]; exact g5, by rw [q2.2.1]; exact g6, by rw [q2.2.2 f.slot (by simp [n1, n2])]; exact g7⟩
end StrChars.Road
namespace StrChars.Road
open Jvm Sem ClassFile Op Lib Jvm.Stand Jvm.Free Jvm.Free.XT
/-- WHAT COMES BACK, the byte[] as a list of values -/
def QA (Z : State) (x : Addr) (zn : Int32) (cs : List Int32) (h : Heap) (v : Option Value) (h' : Heap) (L : List Loc) : Prop := v = none ∧ (∀ y ∈ L, y.base = x) ∧ RoadKit.Keep h h' [x] ∧ h'.size = h.size + 1 ∧ RoadKit.Exa Z h' x ST ∧ RoadKit.Fld Z h' x ST "value" "[B" (.ref h.size) ∧ RoadKit.Fld Z h' x ST "coder" "B" (.int 0) ∧
  (∃ kb, Z.vm.findClass "[B" = some kb ∧ RoadKit.Arv Z h' h.size kb .byte zn (cs.map fun c => .int (lo8 c)) (.int 0)) ∧
  ∀ (O n d : String) (w : Value), RoadKit.Fld Z h x O n d w → RoadKit.slotOf Z O n d ≠ RoadKit.slotOf Z ST "value" "[B" → RoadKit.slotOf Z O n d ≠ RoadKit.slotOf Z ST "coder" "B" → RoadKit.Fld Z h' x O n d w
/-- **new String(chars) AT A CALL, THE ARRAYS AS LISTS**: the char[] at b holds cs, not empty, no char above 255 -/
theorem backArv {p : Program} {l : Launch} {e : Env} {R : Room} {s : State} {args : Array Value} {below : List Frame} {len W : Nat} {Z : State} {a0 : Array Value} {h : Heap} (hZ : Z.Warmed39 s.vm) (hw : ∀ d ∈ words, d.before a0 Z = true) {kI : Nat} (wi : (Jvm.Cond.instantiable ST kI).before a0 Z = true)
    {x b : Addr} {k : ClassId} {zn z : Int32} {cs : List Int32} {dv v0 c0 : Value} (E : RoadKit.Exa Z h x ST) (V : RoadKit.Fld Z h x ST "value" "[B" v0) (C : RoadKit.Fld Z h x ST "coder" "B" c0) (K : RoadKit.Arv Z h b k .char zn (cs.map Value.int) dv) (S : RoadKit.Sta Z h ST "COMPACT_STRINGS" "Z" (.int z)) (hz : ¬ z = 0)
    (hlen : zn.toNatClampNeg = cs.length) (h0 : 0 < cs.length) (hbig : cs.length ≤ 536870912) (hall : ∀ c ∈ cs, ¬ 255 < c) (hfr : 4 ≤ R.frames) (hlo : W + 65 ≤ R.locals) :
    Back l R p e below s args New1.yN len W (fun P a => a = #[.ref x, .ref b] ∧ P.U.heap = h ∧ P.cells + 1 ≤ R.cells ∧ P.slots + cs.length ≤ R.slots)
      (fun P _ v B => ∃ L, QA Z x zn cs h v B.U.heap L ∧ B.locs = P.locs ++ L ∧ B.cells = P.cells + 1 ∧ B.slots = P.slots + cs.length) := by
  obtain ⟨A, K1, K2, K3, K4, K5, K6⟩ := K
  have e : A.slots.size = cs.length := K3.trans hlen
  have hat : ∀ (i : Nat) (hi : i < cs.length), A.slots[i]? = some (.int cs[i]) := fun i hi => by rw [K5 i (by omega)]; simp [List.getD_eq_getElem?_getD, hi]
  have hcv : ∀ (i : Nat) (hi : i < cs.length), cv A i = cs[i] := fun i hi => by unfold cv; rw [hat i hi]
  have hty : Typed .char A := fun i v hv => by
    have hi : i < A.slots.size := (Array.getElem?_eq_some_iff.mp hv).1
    have q := K5 i hi
    rw [hv] at q
    rw [Option.some.inj q]
    exact K6 i hi
  refine Back.mono (back hZ hw wi E V C K1 hty S hz (by omega) (by omega) (fun i hi => by rw [hcv i (by omega)]; exact hall _ (List.getElem_mem _)) hfr hlo) (fun P a hp => ⟨hp.1, hp.2.1, hp.2.2.1, by rw [e]; exact hp.2.2.2⟩) (fun P a v B hp hq => ?_)
  obtain ⟨L, ⟨q1, q2, q3, q4, q5, q6, q7, ⟨V', v1, v2, v3, v4, v5⟩, q9⟩, hl, hc, hs⟩ := hq
  refine ⟨L, ⟨q1, q2, q3, q4, q5, q6, q7, ⟨V'.cls, v3, V', v1, rfl, by rw [v4, e, hlen], K4, fun i hi => ?_, fun i hi => ?_⟩, q9⟩, hl, hc, by rw [hs, e]⟩
  · have hi' : i < cs.length := by omega
    rw [v5 i (by omega), hcv i hi']; simp [List.getD_eq_getElem?_getD, hi']
  · have hi' : i < cs.length := by omega
    simp only [List.getD_eq_getElem?_getD, List.getElem?_map, List.getElem?_eq_getElem hi', Option.map_some, Option.getD_some]
    exact fits_lo8 _
end StrChars.Road
namespace StrChars.Road
open Jvm Sem ClassFile Op Lib Jvm.Stand Jvm.Free Jvm.Free.XT
/-- WHAT COMES BACK, in the writer's own shape -/
def QV (Z : State) (x : Addr) (N : Int32) (bs : List Int32) (h : Heap) (n0 : Nat) (v : Option Value) (h' : Heap) (L : List Loc) : Prop := v = none ∧ RoadKit.Fr n0 L ∧ RoadKit.Keep h h' [x] ∧ RoadKit.Exa Z h' x ST ∧ RoadKit.Fld Z h' x ST "coder" "B" (.int 0) ∧
  ∃ (t : Addr) (kb : ClassId), n0 ≤ t ∧ h.size ≤ t ∧ ¬ t = x ∧ RoadKit.Fld Z h' x ST "value" "[B" (.ref t) ∧ RoadKit.Arv Z h' t kb .byte N (bs.map Value.int) (.int 0)
/-- **new String(chars) AT A CALL, FOR THE WRITER**: a char[] of n known ints, each 0 to 255 -/
theorem backV {p : Program} {l : Launch} {e : Env} {R : Room} {s : State} {args : Array Value} {below : List Frame} {len W : Nat} {Z : State} {a0 : Array Value} {h : Heap} (hZ : Z.Warmed39 s.vm) (hw : ∀ d ∈ words, d.before a0 Z = true) {kI : Nat} (wi : (Jvm.Cond.instantiable ST kI).before a0 Z = true)
    {x b : Addr} {kC : ClassId} {cs bs : List Int32} {d v0 c0 : Value} {z N : Int32} {n n0 : Nat} (hx0 : n0 ≤ x) (hh0 : n0 ≤ h.size) (E : RoadKit.Exa Z h x ST) (V : RoadKit.Fld Z h x ST "value" "[B" v0) (C : RoadKit.Fld Z h x ST "coder" "B" c0) (K : RoadKit.Arv Z h b kC .char N (cs.map Value.int) d) (S : RoadKit.Sta Z h ST "COMPACT_STRINGS" "Z" (.int z)) (hz : ¬ z = 0)
    (hn : cs.length = n) (hN : N = Int32.ofNat n) (l0 : 0 < n) (l2 : n ≤ 4000) (hp : ∀ c ∈ cs, ¬ c < 0 ∧ ¬ (255 : Int32) < c) (hb : bs = cs.map (fun c => c.toInt8.toInt32)) (hfr : 4 ≤ R.frames) (hlo : W + 65 ≤ R.locals) :
    Back l R p e below s args (⟨"java/lang/String", "<init>", "([C)V"⟩ : MethodName) len W (fun P a => a = #[.ref x, .ref b] ∧ P.U.heap = h ∧ P.cells + 1 ≤ R.cells ∧ P.slots + n ≤ R.slots)
      (fun P _ v B => ∃ L, QV Z x N bs h n0 v B.U.heap L ∧ B.locs = P.locs ++ L ∧ B.cells = P.cells + 1 ∧ B.slots = P.slots + n) := by
  subst hn hN hb
  refine Back.mono (backArv hZ hw wi E V C K S hz (n32 (by omega)) l0 (by omega) (fun c hc => (hp c hc).2) hfr hlo) (fun P a hp => hp) (fun P a v B hp hq => ?_)
  obtain ⟨L, ⟨q1, q2, q3, q4, q5, q6, q7, ⟨kb, v1, v2⟩, q9⟩, hl, hc, hs⟩ := hq
  exact ⟨L, ⟨q1, fun y hy => by rw [q2 y hy]; exact hx0, q3, q5, q7, h.size, kb, hh0, Nat.le_refl _, Nat.ne_of_gt E.lt, q6, by rw [List.map_map]; exact v2⟩, hl, hc, hs⟩
end StrChars.Road
namespace StrChars
open Jvm Sem ClassFile Op Lib Jvm.Stand Jvm.Free.XT Jvm.Free.ALB Jvm.Free.JM Jvm.Free
open Jvm.Lib.Cold (StaticIs)
def hi8 (x : Int32) : Int32 := lo8 (x >>> ((8 : Int32) &&& 31))
/-- what StringUTF16.getChar makes of two bytes -/
def pairCh (u v : Int32) : Int32 := (((u &&& 255) <<< ((0 : Int32) &&& 31)) ||| ((v &&& 255) <<< ((8 : Int32) &&& 31))).toUInt32.toUInt16.toUInt32.toInt32
theorem lo8_and (x : Int32) : (lo8 x &&& 255).toBitVec.toNat = x.toBitVec.toNat % 256 := by
  have h : (lo8 x).toBitVec = (x.toBitVec.signExtend 8).signExtend 32 := by rw [lo8, Int8.toBitVec_toInt32, Int32.toBitVec_toInt8]
  rw [Int32.toBitVec_and, BitVec.toNat_and, h]
  have e : ((x.toBitVec.signExtend 8).signExtend 32).toNat % 256 = x.toBitVec.toNat % 256 := by
    rw [BitVec.toNat_signExtend]
    have hlt := x.toBitVec.isLt
    simp only [BitVec.toNat_setWidth, BitVec.toNat_signExtend]
    split <;> split <;> omega
  rw [← e]
  exact Nat.and_two_pow_sub_one_eq_mod _ 8
theorem pair_says {c : Int32} (h0 : ¬ c < 0) (h1 : ¬ 65535 < c) : pairCh (lo8 c) (hi8 c) = c := by
  rw [Int32.lt_iff_toInt_lt] at h0 h1
  have e0 : (0 : Int32).toInt = 0 := rfl
  have e1 : (65535 : Int32).toInt = 65535 := rfl
  have hc : c.toInt = c.toBitVec.toNat := by
    have := c.toBitVec.isLt
    have e : c.toInt = c.toBitVec.toInt := rfl
    rw [e] at h0 h1
    rw [e]
    rw [BitVec.toInt_eq_toNat_cond] at h0 h1 ⊢
    split at h0 <;> split <;> omega
  have hn : c.toBitVec.toNat < 65536 := by omega
  have a1 := lo8_and c
  have a2 : (hi8 c &&& 255).toBitVec.toNat = c.toBitVec.toNat / 256 := by
    rw [hi8, lo8_and]
    have e : ((8 : Int32) &&& 31) = 8 := by decide
    rw [e, Int32.toBitVec_shiftRight]
    have e2 : ((8 : Int32).toBitVec.smod 32) = 8#32 := by decide
    rw [e2, BitVec.sshiftRight_eq', BitVec.toNat_sshiftRight_of_msb_false (by rw [BitVec.msb_eq_false_iff_two_mul_lt]; omega)]
    show c.toBitVec.toNat >>> 8 % 256 = _
    rw [Nat.shiftRight_eq_div_pow]
    omega
  unfold pairCh
  apply Int32.toBitVec_inj.mp
  apply BitVec.eq_of_toNat_eq
  have f0 : ((0 : Int32) &&& 31) = 0 := by decide
  have f8 : ((8 : Int32) &&& 31) = 8 := by decide
  rw [f0, f8]
  have g : (((lo8 c &&& 255) <<< (0 : Int32)) ||| ((hi8 c &&& 255) <<< (8 : Int32))).toBitVec.toNat = c.toBitVec.toNat := by
    rw [Int32.toBitVec_or, Int32.toBitVec_shiftLeft, Int32.toBitVec_shiftLeft]
    have s0 : ((0 : Int32).toBitVec.smod 32) = 0#32 := by decide
    have s8 : ((8 : Int32).toBitVec.smod 32) = 8#32 := by decide
    rw [s0, s8, BitVec.toNat_or]
    simp only [BitVec.shiftLeft_eq', BitVec.toNat_shiftLeft, a1, a2]
    show (c.toBitVec.toNat % 256) <<< 0 % 2 ^ 32 ||| (c.toBitVec.toNat / 256) <<< 8 % 2 ^ 32 = _
    rw [Nat.shiftLeft_zero, Nat.mod_eq_of_lt (show c.toBitVec.toNat % 256 < 2 ^ 32 by omega), Nat.mod_eq_of_lt (show (c.toBitVec.toNat / 256) <<< 8 < 2 ^ 32 by rw [Nat.shiftLeft_eq]; omega), Nat.or_comm, ← Nat.shiftLeft_add_eq_or_of_lt (by omega), Nat.shiftLeft_eq]
    omega
  show BitVec.toNat (((((lo8 c &&& 255) <<< (0 : Int32)) ||| ((hi8 c &&& 255) <<< (8 : Int32))).toBitVec.setWidth 16).setWidth 32) = _
  rw [BitVec.toNat_setWidth, BitVec.toNat_setWidth, g]
  omega
end StrChars
namespace StrChars
open Jvm Sem ClassFile Op Lib Jvm.Stand Jvm.Free.XT Jvm.Free.ALB Jvm.Free.JM Jvm.Free
open Jvm.Lib.Cold (StaticIs)
/-- the array's cell V codes the n chars f 0 .. f (n - 1) by the coder cd, as the JDK does: coder 1 just where some char is above 255 -/
def Cod (cd : Int32) (n : Nat) (f : Nat → Int32) (V : Cell) : Prop := (cd = 0 ∧ V.slots.size = n ∧ ∀ j, j < n → V.slots[j]? = some (.int (lo8 (f j))) ∧ ¬ 255 < f j) ∨ (cd = 1 ∧ V.slots.size = 2 * n ∧ (∀ j, j < n → V.slots[2 * j]? = some (.int (lo8 (f j))) ∧ V.slots[2 * j + 1]? = some (.int (hi8 (f j)))) ∧ ∃ j, j < n ∧ 255 < f j)
/-- **x is a String of the n chars f 0 .. f (n - 1)**, Latin-1 or UTF-16; its array at t has the cell V -/
def Txt (x t : Addr) (V : Cell) (cd : Int32) (n : Nat) (f : Nat → Int32) (U : State) : Prop := Exact "java/lang/String" x U ∧ Has x "java/lang/String" "value" "[B" (.ref t) U ∧ Has x "java/lang/String" "coder" "B" (.int cd) U ∧ XT.Arr .byte t V U ∧ Cod cd n f V ∧ ∀ j, j < n → ¬ f j < 0 ∧ ¬ 65535 < f j
theorem Txt.mv {x t : Addr} {V : Cell} {cd : Int32} {n : Nat} {f : Nat → Int32} {U U' : State} (h : Txt x t V cd n f U) (hal : U.vm.Alike U'.vm) (hh : U'.heap = U.heap) : Txt x t V cd n f U' := ⟨h.1.mv hal hh, h.2.1.mv hal hh, h.2.2.1.mv hal hh, h.2.2.2.1.mv hal hh, h.2.2.2.2⟩
end StrChars
namespace StrChars.Road
open Jvm Sem ClassFile Op Lib Jvm.Stand Jvm.Free Jvm.Free.XT
open Jvm.Lib.Cold (StaticIs)
theorem consq {a : Array Value} {s : State} {c : Jvm.Cond} {L : List Jvm.Cond} (h0 : c.before a s = true) (h : ∀ w ∈ L, w.before a s = true) : ∀ w ∈ c :: L, w.before a s = true := fun w hw => (List.mem_cons.mp hw).elim (fun e => e ▸ h0) (h w)
/-- the bytes of the chars cs, low before high -/
def wideBytes : List Int32 → List Value
  | [] => []
  | c :: cs => .int (lo8 c) :: .int (hi8 c) :: wideBytes cs
theorem wide_lo (d : Value) : ∀ (cs : List Int32) (j : Nat), j < cs.length → (wideBytes cs).getD (2 * j) d = .int (lo8 (cs.getD j 0))
  | [], j, h => absurd h (Nat.not_lt_zero j)
  | c :: cs, 0, _ => rfl
  | c :: cs, j + 1, h => by
    have q := wide_lo d cs j (by simpa using h)
    rw [show 2 * (j + 1) = 2 * j + 1 + 1 from by omega]
    simpa [wideBytes] using q
theorem wide_hi (d : Value) : ∀ (cs : List Int32) (j : Nat), j < cs.length → (wideBytes cs).getD (2 * j + 1) d = .int (hi8 (cs.getD j 0))
  | [], j, h => absurd h (Nat.not_lt_zero j)
  | c :: cs, 0, _ => rfl
  | c :: cs, j + 1, h => by
    have q := wide_hi d cs j (by simpa using h)
    rw [show 2 * (j + 1) + 1 = 2 * j + 1 + 1 + 1 from by omega]
    simpa [wideBytes] using q
theorem low_at (d : Value) (cs : List Int32) (j : Nat) (h : j < cs.length) : (cs.map fun c => Value.int (lo8 c)).getD j d = .int (lo8 (cs.getD j 0)) := by
  simp [List.getD_eq_getElem?_getD, h]
/-- an array of N2 bytes vs codes the chars cs by the coder cd -/
def CodA (cs : List Int32) (cd N2 : Int32) (vs : List Value) : Prop := (cd = 0 ∧ N2 = Int32.ofNat cs.length ∧ vs = (cs.map fun c => Value.int (lo8 c)) ∧ ∀ c ∈ cs, ¬ 255 < c) ∨ (cd = 1 ∧ N2 = Int32.ofNat (2 * cs.length) ∧ vs = wideBytes cs ∧ ∃ c ∈ cs, 255 < c)
theorem CodA.cod {cs : List Int32} {cd N2 : Int32} {vs : List Value} {V : Cell} (h : CodA cs cd N2 vs) (hn : 2 * cs.length < 2 ^ 31) (hs : V.slots.size = N2.toNatClampNeg) (hv : RoadKit.Has V vs (.int 0)) : Cod cd cs.length (fun j => cs.getD j 0) V := by
  rcases h with ⟨rfl, rfl, rfl, h⟩ | ⟨rfl, rfl, rfl, c, hc, hw⟩
  · rw [n32 (by omega)] at hs
    exact Or.inl ⟨rfl, hs, fun j hj => ⟨by rw [hv j (by omega), low_at _ _ _ hj], by
      have e : cs.getD j 0 = cs[j] := by simp [List.getD_eq_getElem?_getD, hj]
      show ¬ 255 < cs.getD j 0
      rw [e]; exact h _ (List.getElem_mem _)⟩⟩
  · rw [n32 (by omega)] at hs
    obtain ⟨j, hj, rfl⟩ := List.getElem_of_mem hc
    exact Or.inr ⟨rfl, hs, fun j hj => ⟨by rw [hv _ (by omega), wide_lo _ _ _ hj], by rw [hv _ (by omega), wide_hi _ _ _ hj]⟩, j, hj, by
      have e : cs.getD j 0 = cs[j] := by simp [List.getD_eq_getElem?_getD, hj]
      show 255 < cs.getD j 0
      rw [e]; exact hw⟩
/-- an object of exactly java/lang/String, its two fields found: as the laws ask it -/
theorem strObj {Z U : State} {a0 : Array Value} {kI : Nat} (wi : (Jvm.Cond.instantiable ST kI).before a0 Z = true) (al : Z.vm.Alike U.vm) {x : Addr} {v0 c0 : Value} (E : RoadKit.Exa Z U.heap x ST) (V : RoadKit.Fld Z U.heap x ST "value" "[B" v0) (C : RoadKit.Fld Z U.heap x ST "coder" "B" c0) :
    ∃ (D : Cell) (fV fC : Field), Blank ST x D U ∧ Found ST "value" "[B" fV U ∧ Found ST "coder" "B" fC U ∧ D.slots[fV.slot]? = some v0 ∧ D.slots[fC.slot]? = some c0 ∧ RoadKit.slotOf Z ST "value" "[B" = fV.slot ∧ RoadKit.slotOf Z ST "coder" "B" = fC.slot := by
  obtain ⟨D, cfV, kV, iV, fV, hD, gV, stV, knV, obV, asV, slV⟩ := V
  obtain ⟨D', cfC, kC, iC, fC, hD', gC, stC, -, -, asC, slC⟩ := C
  cases hD.symm.trans hD'
  obtain ⟨D2, kD, e1, e2, e3, e4, e5⟩ := E
  cases hD.symm.trans e1
  obtain ⟨c2, k2, i1, i2, i3, -⟩ := Cond.instantiable_spec wi
  cases e2.symm.trans i1
  cases e3.symm.trans i2
  obtain ⟨kU, u1, u2⟩ := al.2.2 _ _ e3
  exact ⟨D, fV, fC, ⟨hD, ⟨knV, fun q hq => by rw [hq] at obV; cases obV⟩, by rw [al.findClass]; exact e2, kU, u1, by rw [u2]; exact i3, by rw [u2]; exact e5 i3⟩, ⟨SBG.found_only al ⟨cfV, kV, iV, gV⟩, stV⟩, ⟨SBG.found_only al ⟨cfC, kC, iC, gC⟩, stC⟩, slV, slC, by simp [RoadKit.slotOf, gV], by simp [RoadKit.slotOf, gC]⟩
theorem sta_is {Z U : State} (al : Z.vm.Alike U.vm) {C n d : String} {v : Value} (S : RoadKit.Sta Z U.heap C n d v) : StaticIs U C n d v := by
  obtain ⟨cfS, iS, kS, fS, st, cS, t1, t2, t3, t4, t5, t6, t7⟩ := S
  exact StaticIs.there (s := { Z with heap := U.heap }) ⟨cfS, iS, kS, fS, st, cS, t1, t2, t3, t4, t5, (fun q => by rw [q] at t6; cases t6), t7⟩ al rfl
end StrChars.Road
namespace StrChars
open Jvm Sem ClassFile Op Lib Jvm.Stand Jvm.Free.XT Jvm.Free.ALB Jvm.Free.JM Jvm.Free
open Jvm.Lib.Cold (StaticIs)
/-- what place i of a byte[]'s cell holds -/
def yv (A : Cell) (i : Nat) : Int32 := match A.slots[i]? with | some (.int x) => x | _ => 0
theorem yv_get {a : Addr} {A : Cell} {U : State} (h : XT.Arr .byte a A U) (ht : Typed .byte A) {i : Nat} (hi : i < A.slots.size) : A.slots[i]? = some (.int (yv A i)) := by
  have e := Array.getElem?_eq_getElem hi
  have f := ht i _ e
  unfold yv; rw [e]
  generalize A.slots[i] = v at f
  cases v <;> simp [fits] at f ⊢
/-- the two arrays are equal, place for place -/
def EqC (A B : Cell) : Prop := A.slots.size = B.slots.size ∧ ∀ i, i < A.slots.size → yv A i = yv B i
/-- a boolean that says whether p -/
def Says01 (q : Prop) (r : Option Value) (s u : State) : Prop := ∃ v : Int32, r = some (.int v) ∧ u.heap = s.heap ∧ ((v = 1 ∧ q) ∨ (v = 0 ∧ ¬ q))
theorem Says01.mv {q : Prop} : ∀ r (U U' V V' : State), U'.heap = U.heap → V.vm.Alike V'.vm → V'.heap = V.heap → Says01 q r U V → Says01 q r U' V' :=
  fun r U U' V V' h1 _ h2 ⟨v, a, b, c⟩ => ⟨v, a, by rw [h1, h2]; exact b, c⟩
namespace LEq
def yN : MethodName := ⟨"java/lang/StringLatin1", "equals", "([B[B)Z"⟩
abbrev yB : ByteArray := jdk_43_method_13_code
theorem d0 : decode yB 0 = .ok (.aload_n 0, 1) := by decide +kernel
theorem d1 : decode yB 1 = .ok (.arraylength, 1) := by decide +kernel
theorem d2 : decode yB 2 = .ok (.aload_n 1, 1) := by decide +kernel
theorem d3 : decode yB 3 = .ok (.arraylength, 1) := by decide +kernel
theorem d4 : decode yB 4 = .ok (.if_icmp (.ne) 30, 3) := by decide +kernel
theorem d7 : decode yB 7 = .ok (.iconst 0, 1) := by decide +kernel
theorem d8 : decode yB 8 = .ok (.istore_n 2, 1) := by decide +kernel
theorem d9 : decode yB 9 = .ok (.iload_n 2, 1) := by decide +kernel
theorem d10 : decode yB 10 = .ok (.aload_n 0, 1) := by decide +kernel
theorem d11 : decode yB 11 = .ok (.arraylength, 1) := by decide +kernel
theorem d12 : decode yB 12 = .ok (.if_icmp (.ge) 20, 3) := by decide +kernel
theorem d15 : decode yB 15 = .ok (.aload_n 0, 1) := by decide +kernel
theorem d16 : decode yB 16 = .ok (.iload_n 2, 1) := by decide +kernel
theorem d17 : decode yB 17 = .ok (.baload, 1) := by decide +kernel
theorem d18 : decode yB 18 = .ok (.aload_n 1, 1) := by decide +kernel
theorem d19 : decode yB 19 = .ok (.iload_n 2, 1) := by decide +kernel
theorem d20 : decode yB 20 = .ok (.baload, 1) := by decide +kernel
theorem d21 : decode yB 21 = .ok (.if_icmp (.eq) 5, 3) := by decide +kernel
theorem d24 : decode yB 24 = .ok (.iconst 0, 1) := by decide +kernel
theorem d25 : decode yB 25 = .ok (.ireturn, 1) := by decide +kernel
theorem d26 : decode yB 26 = .ok (.iinc 2 1, 3) := by decide +kernel
theorem d29 : decode yB 29 = .ok (.goto (-20), 3) := by decide +kernel
theorem d32 : decode yB 32 = .ok (.iconst 1, 1) := by decide +kernel
theorem d33 : decode yB 33 = .ok (.ireturn, 1) := by decide +kernel
theorem d34 : decode yB 34 = .ok (.iconst 0, 1) := by decide +kernel
theorem d35 : decode yB 35 = .ok (.ireturn, 1) := by decide +kernel
def site : List Cond := []
def tab : Cond := tabOf yN yB 3 (some .boolean) site
def P (a : Addr) (A : Cell) (b : Addr) (B : Cell) (args : Array Value) (s : State) : Prop := args = #[.ref a, .ref b] ∧ XT.Arr .byte a A s ∧ Typed .byte A ∧ XT.Arr .byte b B s ∧ Typed .byte B
/-- whether two byte[] are equal, place for place -/
theorem law (l : Launch) (a : Addr) (A : Cell) (b : Addr) (B : Cell) : Law l yN 2 2 0 0 yB 3 (some .boolean) site (P a A b B) (Says01 (EqC A B)) [] 0 0 := by
  refine Law.of_walk (plainFor_of_name (by decide +kernel)) (by decide +kernel) (by decide +kernel) (by decide) (fun _ _ h => by rw [h.1]; rfl) (fun _ U U' hal hh h => ⟨h.1, h.2.1.mv hal hh, h.2.2.1, h.2.2.2.1.mv hal hh, h.2.2.2.2⟩) (fun r U U' V V' h1 hal h2 h => Says01.mv r U U' V V' h1 hal h2 h) ?_
  intro p e s m args below meth c s₁ X0 hexec hbytes hml hret hlk hnm hown hh0 W hP
  obtain ⟨rfl, hA, tA, hB, tB⟩ := hP
  have a31 := hA.2.2.2
  have b31 := hB.2.2.2
  have hA0 := hA.mv X0.warmed.alike hh0
  have hB0 := hB.mv X0.warmed.alike hh0
  have c1 : Steps p.tables e below (s₁.setTop (entryFrame m #[.ref a, .ref b] 3)) (s₁.setTop (mkF m 0 #[.val (.ref a), .val (.ref b), .unset] [])) := entry rfl
  have c2 : Steps p.tables e below (s₁.setTop (entryFrame m #[.ref a, .ref b] 3)) (s₁.setTop (mkF m 4 #[.val (.ref a), .val (.ref b), .unset] [.int (Int32.ofNat B.slots.size), .int (Int32.ofNat A.slots.size)])) := c1.trans (by
    refine XS.aloadN X0.here hexec rfl (hb hbytes d0) rfl rfl ?_
    refine X0.alen hexec hA0 rfl rfl (hb hbytes d1) ?_
    refine XS.aloadN X0.here hexec rfl (hb hbytes d2) rfl rfl ?_
    refine X0.alen hexec hB0 rfl rfl (hb hbytes d3) ?_
    exact Steps.refl _)
  by_cases hs : A.slots.size = B.slots.size
  · have c3 : Steps p.tables e below (s₁.setTop (entryFrame m #[.ref a, .ref b] 3)) (s₁.setTop (mkF m 9 #[.val (.ref a), .val (.ref b), .val (.int 0)] [])) := c2.trans (by
      refine XS.icmpNo X0.here hexec rfl (hb hbytes d4) rfl (ii_ne_f (by rw [hs])) ?_
      refine iconstV X0.here hexec rfl 0 (hb hbytes d7) (by decide) ?_
      refine XS.istoreN X0.here hexec rfl (hb hbytes d8) rfl rfl ?_
      exact Steps.refl _)
    have loop : ∀ (r i : Nat), i + r = A.slots.size → (∀ j, j < i → yv A j = yv B j) → Steps p.tables e below (s₁.setTop (entryFrame m #[.ref a, .ref b] 3)) (s₁.setTop (mkF m 9 #[.val (.ref a), .val (.ref b), .val (.int (Int32.ofNat i))] [])) → ∃ (pc : Nat) (Ls : Array Slot) (v : Int32), (pc = 25 ∨ pc = 33) ∧ ((v = 1 ∧ EqC A B) ∨ (v = 0 ∧ ¬ EqC A B)) ∧ Steps p.tables e below (s₁.setTop (entryFrame m #[.ref a, .ref b] 3)) (s₁.setTop (mkF m pc Ls [.int v])) := by
      intro r
      induction r with
      | zero =>
        intro i hi he cl
        exact ⟨33, _, 1, Or.inr rfl, Or.inl ⟨rfl, hs, fun j hj => he j (by omega)⟩, cl.trans (by
          refine XS.iloadN X0.here hexec rfl (hb hbytes d9) rfl ?_
          refine XS.aloadN X0.here hexec rfl (hb hbytes d10) rfl rfl ?_
          refine X0.alen hexec hA0 rfl rfl (hb hbytes d11) ?_
          refine XS.icmpYes X0.here hexec rfl (pc0 := 12) rfl (hb hbytes d12) rfl (ii_ge_t (nlt32 (by omega) (by omega))) (by decide) rfl ?_
          refine iconstV X0.here hexec rfl 1 (hb hbytes d32) (by decide) ?_
          exact Steps.refl _)⟩
      | succ r ih =>
        intro i hi he cl
        have c4 : Steps p.tables e below (s₁.setTop (entryFrame m #[.ref a, .ref b] 3)) (s₁.setTop (mkF m 21 #[.val (.ref a), .val (.ref b), .val (.int (Int32.ofNat i))] [.int (yv B i), .int (yv A i)])) := cl.trans (by
          refine XS.iloadN X0.here hexec rfl (hb hbytes d9) rfl ?_
          refine XS.aloadN X0.here hexec rfl (hb hbytes d10) rfl rfl ?_
          refine X0.alen hexec hA0 rfl rfl (hb hbytes d11) ?_
          refine XS.icmpNo X0.here hexec rfl (hb hbytes d12) rfl (ii_ge_f (lt32 (by omega) (by omega))) ?_
          refine XS.aloadN X0.here hexec rfl (hb hbytes d15) rfl rfl ?_
          refine XS.iloadN X0.here hexec rfl (hb hbytes d16) rfl ?_
          refine X0.aget hexec hA0 rfl (yv_get hA tA (i := i) (by omega)) rfl rfl (hb hbytes d17) ?_
          refine XS.aloadN X0.here hexec rfl (hb hbytes d18) rfl rfl ?_
          refine XS.iloadN X0.here hexec rfl (hb hbytes d19) rfl ?_
          refine X0.aget hexec hB0 rfl (yv_get hB tB (i := i) (by omega)) rfl rfl (hb hbytes d20) ?_
          exact Steps.refl _)
        by_cases hv : yv A i = yv B i
        · have c5 : Steps p.tables e below (s₁.setTop (entryFrame m #[.ref a, .ref b] 3)) (s₁.setTop (mkF m 9 #[.val (.ref a), .val (.ref b), .val (.int (Int32.ofNat i + 1))] [])) := c4.trans (by
            refine XS.icmpYes X0.here hexec rfl (pc0 := 21) rfl (hb hbytes d21) rfl (ii_eq_t hv) (by decide) rfl ?_
            refine iincV X0.here hexec rfl 1 (hb hbytes d26) (by decide) rfl rfl ?_
            refine XS.goto X0.here hexec rfl (pc0 := 29) rfl (hb hbytes d29) (by decide) rfl ?_
            exact Steps.refl _)
          rw [succ32] at c5
          exact ih (i + 1) (by omega) (fun j hj => by
            by_cases e : j = i
            · rw [e]; exact hv
            · exact he j (by omega)) c5
        · exact ⟨25, _, 0, Or.inl rfl, Or.inr ⟨rfl, fun q => hv (q.2 i (by omega))⟩, c4.trans (by
            refine XS.icmpNo X0.here hexec rfl (hb hbytes d21) rfl (ii_eq_f hv) ?_
            refine iconstV X0.here hexec rfl 0 (hb hbytes d24) (by decide) ?_
            exact Steps.refl _)⟩
    obtain ⟨pc, Ls, v, hpc, hv, cz⟩ := loop A.slots.size 0 (by omega) (fun j hj => absurd hj (Nat.not_lt_zero j)) c3
    have nv : narrow .boolean (.int v) = .int v := by rcases hv with ⟨rfl, -⟩ | ⟨rfl, -⟩ <;> rfl
    rcases hpc with rfl | rfl
    · exact ⟨s₁, some (.int v), _, _, _, X0, rfl, rfl, rfl, (fun h => by cases h), ⟨v, rfl, hh0, hv⟩, fun fs hl => cz.trans (X0.ireturnOut hexec hret nv (Or.inr (Or.inl rfl)) (hb hbytes d25) hl)⟩
    · exact ⟨s₁, some (.int v), _, _, _, X0, rfl, rfl, rfl, (fun h => by cases h), ⟨v, rfl, hh0, hv⟩, fun fs hl => cz.trans (X0.ireturnOut hexec hret nv (Or.inr (Or.inl rfl)) (hb hbytes d33) hl)⟩
  · have c3 : Steps p.tables e below (s₁.setTop (entryFrame m #[.ref a, .ref b] 3)) (s₁.setTop (mkF m 35 #[.val (.ref a), .val (.ref b), .unset] [.int 0])) := c2.trans (by
      refine XS.icmpYes X0.here hexec rfl (pc0 := 4) rfl (hb hbytes d4) rfl (ii_ne_t (ne32 a31 b31 hs)) (by decide) rfl ?_
      refine iconstV X0.here hexec rfl 0 (hb hbytes d34) (by decide) ?_
      exact Steps.refl _)
    exact ⟨s₁, some (.int 0), _, _, _, X0, rfl, rfl, rfl, (fun h => by cases h), ⟨0, rfl, hh0, Or.inr ⟨rfl, fun q => hs q.1⟩⟩, fun fs hl => c3.trans (X0.ireturnOut hexec hret rfl (Or.inr (Or.inl rfl)) (hb hbytes d35) hl)⟩
end LEq
theorem Cod.ty {cd : Int32} {n : Nat} {f : Nat → Int32} {V : Cell} (h : Cod cd n f V) : Typed .byte V := fun i v hv => by
  have hi : i < V.slots.size := (Array.getElem?_eq_some_iff.mp hv).1
  rcases h with ⟨-, k1, k2⟩ | ⟨-, k1, k2, -⟩
  · rw [(k2 i (by omega)).1] at hv; cases hv; exact fits_lo8 _
  · rcases Nat.mod_two_eq_zero_or_one i with e | e
    · obtain ⟨j, rfl⟩ : ∃ j, i = 2 * j := ⟨i / 2, by omega⟩
      rw [(k2 j (by omega)).1] at hv; cases hv; exact fits_lo8 _
    · obtain ⟨j, rfl⟩ : ∃ j, i = 2 * j + 1 := ⟨i / 2, by omega⟩
      rw [(k2 j (by omega)).2] at hv; cases hv; exact fits_lo8 _
/-- the same text -/
def SameT (n : Nat) (f : Nat → Int32) (k : Nat) (g : Nat → Int32) : Prop := n = k ∧ ∀ j, j < n → f j = g j
theorem lo8_inj {x y : Int32} (h0 : ¬ x < 0) (h1 : ¬ 255 < x) (k0 : ¬ y < 0) (k1 : ¬ 255 < y) (h : lo8 x = lo8 y) : x = y := by
  rw [← lo8_mask h0 h1, ← lo8_mask k0 k1, h]
/-- arrays coded by one coder are equal just where the texts are -/
theorem Cod.eqv {cd : Int32} {n k : Nat} {f g : Nat → Int32} {V V' : Cell} (h : Cod cd n f V) (h' : Cod cd k g V') (hf : ∀ j, j < n → ¬ f j < 0 ∧ ¬ 65535 < f j) (hg : ∀ j, j < k → ¬ g j < 0 ∧ ¬ 65535 < g j) : EqC V V' ↔ SameT n f k g := by
  have yvv : ∀ {W : Cell} {i : Nat} {x : Int32}, W.slots[i]? = some (.int x) → yv W i = x := fun q => by unfold yv; rw [q]
  rcases h with ⟨rfl, k1, k2⟩ | ⟨rfl, k1, k2, -⟩
  · rcases h' with ⟨-, m1, m2⟩ | ⟨e, -⟩
    · constructor
      · rintro ⟨e1, e2⟩
        refine ⟨by omega, fun j hj => ?_⟩
        have q := e2 j (by omega)
        rw [yvv (k2 j hj).1, yvv (m2 j (by omega)).1] at q
        exact lo8_inj (hf j hj).1 (k2 j hj).2 (hg j (by omega)).1 (m2 j (by omega)).2 q
      · rintro ⟨rfl, e2⟩
        refine ⟨by omega, fun j hj => ?_⟩
        rw [yvv (k2 j (by omega)).1, yvv (m2 j (by omega)).1, e2 j (by omega)]
    · exact absurd e (by decide)
  · rcases h' with ⟨e, -⟩ | ⟨-, m1, m2, -⟩
    · exact absurd e (by decide)
    · constructor
      · rintro ⟨e1, e2⟩
        refine ⟨by omega, fun j hj => ?_⟩
        have q1 := e2 (2 * j) (by omega)
        have q2 := e2 (2 * j + 1) (by omega)
        rw [yvv (k2 j hj).1, yvv (m2 j (by omega)).1] at q1
        rw [yvv (k2 j hj).2, yvv (m2 j (by omega)).2] at q2
        rw [← pair_says (hf j hj).1 (hf j hj).2, ← pair_says (hg j (by omega)).1 (hg j (by omega)).2, q1, q2]
      · rintro ⟨rfl, e2⟩
        refine ⟨by omega, fun i hi => ?_⟩
        rcases Nat.mod_two_eq_zero_or_one i with e | e
        · obtain ⟨j, rfl⟩ : ∃ j, i = 2 * j := ⟨i / 2, by omega⟩
          rw [yvv (k2 j (by omega)).1, yvv (m2 j (by omega)).1, e2 j (by omega)]
        · obtain ⟨j, rfl⟩ : ∃ j, i = 2 * j + 1 := ⟨i / 2, by omega⟩
          rw [yvv (k2 j (by omega)).2, yvv (m2 j (by omega)).2, e2 j (by omega)]
/-- two codings differ: so do the texts -/
theorem Cod.dif {cd cd' : Int32} {n k : Nat} {f g : Nat → Int32} {V V' : Cell} (h : Cod cd n f V) (h' : Cod cd' k g V') (hne : ¬ cd = cd') : ¬ SameT n f k g := by
  rintro ⟨rfl, e⟩
  rcases h with ⟨rfl, -, k2⟩ | ⟨rfl, -, -, j, hj, hw⟩
  · rcases h' with ⟨rfl, -⟩ | ⟨-, -, -, j, hj, hw⟩
    · exact hne rfl
    · exact (k2 j hj).2 (by rw [e j hj]; exact hw)
  · rcases h' with ⟨-, -, m2⟩ | ⟨rfl, -⟩
    · exact (m2 j hj).2 (by rw [← e j hj]; exact hw)
    · exact hne rfl
/-- an object of exactly C is an instance of C -/
theorem cinst {p : Program} {l : Launch} {e : Env} {R : Room} {s : State} {m : MethodId} {args : Array Value} {below : List Frame} {meth : Method} {c : Code} {T : State} {locs : List Loc} {cells slots : Nat} (X : Stand p l e R s m args below meth c T locs cells slots) (hexec : p.tables.exec = Jvm.exec) {own C : String} {index : Nat} (hown : s.vm.findClass own = some m.cls) (hlink : (Cond.classLink own index C).before args s = true) {a : Addr} (hE : Exact C a T)
    {g : JFrame} (hg : g.method = m) {rest : List Value} (hstack : g.stack = .ref a :: rest) (hdg : decode c.code g.pc = .ok (.instanceof index, 3)) :
    ∃ T', Stand p l e R s m args below meth c T' locs cells slots ∧ T'.heap = T.heap ∧ ∀ target, Steps p.tables e below (T'.setTop { g with pc := g.pc + 3, stack := .int 1 :: rest }) target → Steps p.tables e below (T.setTop g) target := by
  obtain ⟨cB, h1, D, h2, h3, h4⟩ := hE
  have h1' : s.vm.findClass C = some cB := by rw [← X.warmed.alike.findClass]; exact h1
  obtain ⟨vm', X', st⟩ := X.instanceofYes hexec hown hlink h2 h4 h1' (by rw [h3]; exact Jvm.Free.SB.assignable_self _ _) hg hstack hdg
  exact ⟨_, X', rfl, st⟩
theorem cself {p : Program} {l : Launch} {e : Env} {R : Room} {s : State} {m : MethodId} {args : Array Value} {below : List Frame} {meth : Method} {c : Code} {T : State} {locs : List Loc} {cells slots : Nat} (X : Stand p l e R s m args below meth c T locs cells slots) (hexec : p.tables.exec = Jvm.exec) {own C : String} {index : Nat} (hown : s.vm.findClass own = some m.cls) (hlink : (Cond.classLink own index C).before args s = true) {a : Addr} (hE : Exact C a T)
    {g : JFrame} (hg : g.method = m) {rest : List Value} (hstack : g.stack = .ref a :: rest) (hdg : decode c.code g.pc = .ok (.checkcast index, 3)) :
    ∃ T', Stand p l e R s m args below meth c T' locs cells slots ∧ T'.heap = T.heap ∧ ∀ target, Steps p.tables e below (T'.setTop { g with pc := g.pc + 3, stack := .ref a :: rest }) target → Steps p.tables e below (T.setTop g) target := by
  obtain ⟨cB, h1, D, h2, h3, h4⟩ := hE
  have h1' : s.vm.findClass C = some cB := by rw [← X.warmed.alike.findClass]; exact h1
  obtain ⟨vm', X', st⟩ := X.checkcastYes hexec hown hlink h2 h4 h1' (by rw [h3]; exact Jvm.Free.SB.assignable_self _ _) hg hstack hdg
  exact ⟨_, X', rfl, fun t h => st t (by rw [← hstack] at h; exact h)⟩
namespace SEq
def yN : MethodName := ⟨"java/lang/String", "equals", "(Ljava/lang/Object;)Z"⟩
abbrev yB : ByteArray := jdk_42_method_66_code
theorem d0 : decode yB 0 = .ok (.aload_n 0, 1) := by decide +kernel
theorem d1 : decode yB 1 = .ok (.aload_n 1, 1) := by decide +kernel
theorem d2 : decode yB 2 = .ok (.if_acmp (.ne) 5, 3) := by decide +kernel
theorem d5 : decode yB 5 = .ok (.iconst 1, 1) := by decide +kernel
theorem d6 : decode yB 6 = .ok (.ireturn, 1) := by decide +kernel
theorem d7 : decode yB 7 = .ok (.aload_n 1, 1) := by decide +kernel
theorem d8 : decode yB 8 = .ok (.instanceof 10, 3) := by decide +kernel
theorem d11 : decode yB 11 = .ok (.ifCond (.eq) 43, 3) := by decide +kernel
theorem d14 : decode yB 14 = .ok (.aload_n 1, 1) := by decide +kernel
theorem d15 : decode yB 15 = .ok (.checkcast 10, 3) := by decide +kernel
theorem d18 : decode yB 18 = .ok (.astore_n 2, 1) := by decide +kernel
theorem d19 : decode yB 19 = .ok (.getstatic 38, 3) := by decide +kernel
theorem d22 : decode yB 22 = .ok (.ifCond (.eq) 14, 3) := by decide +kernel
theorem d25 : decode yB 25 = .ok (.aload_n 0, 1) := by decide +kernel
theorem d26 : decode yB 26 = .ok (.getfield 15, 3) := by decide +kernel
theorem d29 : decode yB 29 = .ok (.aload_n 2, 1) := by decide +kernel
theorem d30 : decode yB 30 = .ok (.getfield 15, 3) := by decide +kernel
theorem d33 : decode yB 33 = .ok (.if_icmp (.ne) 21, 3) := by decide +kernel
theorem d36 : decode yB 36 = .ok (.aload_n 0, 1) := by decide +kernel
theorem d37 : decode yB 37 = .ok (.getfield 9, 3) := by decide +kernel
theorem d40 : decode yB 40 = .ok (.aload_n 2, 1) := by decide +kernel
theorem d41 : decode yB 41 = .ok (.getfield 9, 3) := by decide +kernel
theorem d44 : decode yB 44 = .ok (.invokestatic 541, 3) := by decide +kernel
theorem d47 : decode yB 47 = .ok (.ifCond (.eq) 7, 3) := by decide +kernel
theorem d50 : decode yB 50 = .ok (.iconst 1, 1) := by decide +kernel
theorem d51 : decode yB 51 = .ok (.goto 4, 3) := by decide +kernel
theorem d54 : decode yB 54 = .ok (.iconst 0, 1) := by decide +kernel
theorem d55 : decode yB 55 = .ok (.ireturn, 1) := by decide +kernel
def site : List Cond := [.classLink "java/lang/String" 10 "java/lang/String", .fieldLink "java/lang/String" 38 "java/lang/String" "COMPACT_STRINGS" "Z", .fieldLink "java/lang/String" 15 "java/lang/String" "coder" "B", .fieldLink "java/lang/String" 9 "java/lang/String" "value" "[B", LEq.tab] ++ staticW "java/lang/String" 541 LEq.yN
def tab : Cond := tabOf yN yB 3 (some .boolean) site
def P (x t : Addr) (V : Cell) (cd : Int32) (n : Nat) (f : Nat → Int32) (y t' : Addr) (V' : Cell) (cd' : Int32) (k : Nat) (g : Nat → Int32) (z : Int32) (args : Array Value) (s : State) : Prop := args = #[.ref x, .ref y] ∧ Txt x t V cd n f s ∧ Txt y t' V' cd' k g s ∧ StaticIs s "java/lang/String" "COMPACT_STRINGS" "Z" (.int z) ∧ ¬ z = 0
/-- equals(Object) of two Strings: whether the texts are the same -/
theorem law (l : Launch) (x t : Addr) (V : Cell) (cd : Int32) (n : Nat) (f : Nat → Int32) (y t' : Addr) (V' : Cell) (cd' : Int32) (k : Nat) (g : Nat → Int32) (z : Int32) : Law l yN 2 1 1 14 yB 3 (some .boolean) site (P x t V cd n f y t' V' cd' k g z) (Says01 (SameT n f k g)) [] 0 0 := by
  refine Law.of_walk (plainFor_of_name (by decide +kernel)) (by decide +kernel) (by decide +kernel) (by decide) (fun _ _ h => by rw [h.1]; rfl) (fun _ U U' hal hh h => ⟨h.1, h.2.1.mv hal hh, h.2.2.1.mv hal hh, h.2.2.2.1.there hal hh, h.2.2.2.2⟩) (fun r U U' V V' h1 hal h2 h => Says01.mv r U U' V V' h1 hal h2 h) ?_
  intro p e s m args below meth c s₁ X0 hexec hbytes hml hret hlk hnm hown hh0 W hP
  obtain ⟨rfl, hx, hy, s1, hz⟩ := hP
  have c1 : Steps p.tables e below (s₁.setTop (entryFrame m #[.ref x, .ref y] 3)) (s₁.setTop (mkF m 2 #[.val (.ref x), .val (.ref y), .unset] [.ref y, .ref x])) := Steps.trans (entry rfl) (by
    show Steps p.tables e below (s₁.setTop (mkF m 0 #[.val (.ref x), .val (.ref y), .unset] [])) _
    refine XS.aloadN X0.here hexec rfl (hb hbytes d0) rfl rfl ?_
    refine XS.aloadN X0.here hexec rfl (hb hbytes d1) rfl rfl ?_
    exact Steps.refl _)
  by_cases hxy : x = y
  · have c2 : Steps p.tables e below (s₁.setTop (entryFrame m #[.ref x, .ref y] 3)) (s₁.setTop (mkF m 6 #[.val (.ref x), .val (.ref y), .unset] [.int 1])) := c1.trans (by
      refine acmpNo X0.here hexec rfl (hb hbytes d2) rfl rfl rfl (by simp [acmp, hxy]) ?_
      refine iconstV X0.here hexec rfl 1 (hb hbytes d5) (by decide) ?_
      exact Steps.refl _)
    subst hxy
    have ec : cd = cd' := by
      obtain ⟨D, fd, a1, a2, a3⟩ := hx.2.2.1
      obtain ⟨D', fd', b1, b2, b3⟩ := hy.2.2.1
      cases a1.symm.trans b1
      obtain ⟨q1, q2, q3, q4⟩ := a2.1
      obtain ⟨r1, r2, r3, r4⟩ := b2.1
      cases q4.symm.trans r4
      cases a3.symm.trans b3; rfl
    have et : t = t' := by
      obtain ⟨D, fd, a1, a2, a3⟩ := hx.2.1
      obtain ⟨D', fd', b1, b2, b3⟩ := hy.2.1
      cases a1.symm.trans b1
      obtain ⟨q1, q2, q3, q4⟩ := a2.1
      obtain ⟨r1, r2, r3, r4⟩ := b2.1
      cases q4.symm.trans r4
      cases a3.symm.trans b3; rfl
    subst ec et
    have ev : V = V' := by cases hx.2.2.2.1.1.symm.trans hy.2.2.2.1.1; rfl
    subst ev
    have hs : SameT n f k g := (Cod.eqv hx.2.2.2.2.1 hy.2.2.2.2.1 hx.2.2.2.2.2 hy.2.2.2.2.2).mp ⟨rfl, fun _ _ => rfl⟩
    exact ⟨s₁, some (.int 1), _, _, _, X0, rfl, rfl, rfl, (fun h => by cases h), ⟨1, rfl, hh0, Or.inl ⟨rfl, hs⟩⟩, fun fs hl => c2.trans (X0.ireturnOut hexec hret rfl (Or.inr (Or.inl rfl)) (hb hbytes d6) hl)⟩
  · have c2 : Steps p.tables e below (s₁.setTop (entryFrame m #[.ref x, .ref y] 3)) (s₁.setTop (mkF m 8 #[.val (.ref x), .val (.ref y), .unset] [.ref y])) := c1.trans (by
      refine acmpYes X0.here hexec rfl (pc0 := 2) rfl (hb hbytes d2) rfl rfl rfl (by simp [acmp, hxy]) (by decide) rfl ?_
      refine XS.aloadN X0.here hexec rfl (hb hbytes d7) rfl rfl ?_
      exact Steps.refl _)
    obtain ⟨T3, X3, q3, st3⟩ := cinst X0 hexec hown (wk W (.classLink "java/lang/String" 10 "java/lang/String")) (hy.mv X0.warmed.alike hh0).1 (g := (mkF m 8 #[.val (.ref x), .val (.ref y), .unset] [.ref y])) rfl (rest := []) rfl (hb hbytes d8)
    have hh3 := q3.trans hh0
    have c4 : Steps p.tables e below (s₁.setTop (entryFrame m #[.ref x, .ref y] 3)) (T3.setTop (mkF m 15 #[.val (.ref x), .val (.ref y), .unset] [.ref y])) := (c2.trans (st3 _ (Steps.refl _))).trans (by
      refine XS.ifNo X3.here hexec rfl (hb hbytes d11) rfl (i0_eq_f (by decide)) ?_
      refine XS.aloadN X3.here hexec rfl (hb hbytes d14) rfl rfl ?_
      exact Steps.refl _)
    obtain ⟨T5, X5, q5, st5⟩ := cself X3 hexec hown (wk W (.classLink "java/lang/String" 10 "java/lang/String")) (hy.mv X3.warmed.alike hh3).1 (g := (mkF m 15 #[.val (.ref x), .val (.ref y), .unset] [.ref y])) rfl (rest := []) rfl (hb hbytes d15)
    have hh5 := q5.trans hh3
    have c6 : Steps p.tables e below (s₁.setTop (entryFrame m #[.ref x, .ref y] 3)) (T5.setTop (mkF m 19 #[.val (.ref x), .val (.ref y), .val (.ref y)] [])) := (c4.trans (st5 _ (Steps.refl _))).trans (by
      refine XS.astoreN X5.here hexec rfl (hb hbytes d18) rfl rfl rfl ?_
      exact Steps.refl _)
    obtain ⟨T7, X7, q7, st7⟩ := X5.sget hexec hown (wk W (.fieldLink "java/lang/String" 38 "java/lang/String" "COMPACT_STRINGS" "Z")) s1 (fun _ _ h => by rw [hh5]; exact h) (g := (mkF m 19 #[.val (.ref x), .val (.ref y), .val (.ref y)] [])) rfl (hb hbytes d19)
    have hh7 := q7.trans hh5
    have c8 : Steps p.tables e below (s₁.setTop (entryFrame m #[.ref x, .ref y] 3)) (T7.setTop (mkF m 26 #[.val (.ref x), .val (.ref y), .val (.ref y)] [.ref x])) := (c6.trans (st7 _ (Steps.refl _))).trans (by
      refine XS.ifNo X7.here hexec rfl (hb hbytes d22) rfl (i0_eq_f hz) ?_
      refine XS.aloadN X7.here hexec rfl (hb hbytes d25) rfl rfl ?_
      exact Steps.refl _)
    obtain ⟨T9, X9, q9, st9⟩ := X7.hget hexec hown (wk W (.fieldLink "java/lang/String" 15 "java/lang/String" "coder" "B")) (hx.mv X7.warmed.alike hh7).2.2.1 (g := (mkF m 26 #[.val (.ref x), .val (.ref y), .val (.ref y)] [.ref x])) rfl (rest := []) rfl (hb hbytes d26)
    have hh9 := q9.trans hh7
    have c10 : Steps p.tables e below (s₁.setTop (entryFrame m #[.ref x, .ref y] 3)) (T9.setTop (mkF m 30 #[.val (.ref x), .val (.ref y), .val (.ref y)] [.ref y, .int cd])) := (c8.trans (st9 _ (Steps.refl _))).trans (by
      refine XS.aloadN X9.here hexec rfl (hb hbytes d29) rfl rfl ?_
      exact Steps.refl _)
    obtain ⟨T11, X11, q11, st11⟩ := X9.hget hexec hown (wk W (.fieldLink "java/lang/String" 15 "java/lang/String" "coder" "B")) (hy.mv X9.warmed.alike hh9).2.2.1 (g := (mkF m 30 #[.val (.ref x), .val (.ref y), .val (.ref y)] [.ref y, .int cd])) rfl (rest := [.int cd]) rfl (hb hbytes d30)
    have hh11 := q11.trans hh9
    have c12 : Steps p.tables e below (s₁.setTop (entryFrame m #[.ref x, .ref y] 3)) (T11.setTop (mkF m 33 #[.val (.ref x), .val (.ref y), .val (.ref y)] [.int cd', .int cd])) := c10.trans (st11 _ (Steps.refl _))
    by_cases hcd : cd = cd'
    · subst hcd
      have c13 : Steps p.tables e below (s₁.setTop (entryFrame m #[.ref x, .ref y] 3)) (T11.setTop (mkF m 37 #[.val (.ref x), .val (.ref y), .val (.ref y)] [.ref x])) := c12.trans (by
        refine XS.icmpNo X11.here hexec rfl (hb hbytes d33) rfl (ii_ne_f rfl) ?_
        refine XS.aloadN X11.here hexec rfl (hb hbytes d36) rfl rfl ?_
        exact Steps.refl _)
      obtain ⟨T14, X14, q14, st14⟩ := X11.hget hexec hown (wk W (.fieldLink "java/lang/String" 9 "java/lang/String" "value" "[B")) (hx.mv X11.warmed.alike hh11).2.1 (g := (mkF m 37 #[.val (.ref x), .val (.ref y), .val (.ref y)] [.ref x])) rfl (rest := []) rfl (hb hbytes d37)
      have hh14 := q14.trans hh11
      have c15 : Steps p.tables e below (s₁.setTop (entryFrame m #[.ref x, .ref y] 3)) (T14.setTop (mkF m 41 #[.val (.ref x), .val (.ref y), .val (.ref y)] [.ref y, .ref t])) := (c13.trans (st14 _ (Steps.refl _))).trans (by
        refine XS.aloadN X14.here hexec rfl (hb hbytes d40) rfl rfl ?_
        exact Steps.refl _)
      obtain ⟨T16, X16, q16, st16⟩ := X14.hget hexec hown (wk W (.fieldLink "java/lang/String" 9 "java/lang/String" "value" "[B")) (hy.mv X14.warmed.alike hh14).2.1 (g := (mkF m 41 #[.val (.ref x), .val (.ref y), .val (.ref y)] [.ref y, .ref t])) rfl (rest := [.ref t]) rfl (hb hbytes d41)
      have hh16 := q16.trans hh14
      have c17 : Steps p.tables e below (s₁.setTop (entryFrame m #[.ref x, .ref y] 3)) (T16.setTop (mkF m 44 #[.val (.ref x), .val (.ref y), .val (.ref y)] [.ref t', .ref t])) := c15.trans (st16 _ (Steps.refl _))
      obtain ⟨v18, T18, X18, E18, g18⟩ := X16.callS hexec (LEq.law l t V t' V') hown (wks W (staticW "java/lang/String" 541 LEq.yN)) (wk W LEq.tab) (W := 0) (Nat.le_of_ble_eq_true rfl) (Nat.le_of_ble_eq_true rfl) (Nat.le_refl _) (Nat.le_refl _) (g := (mkF m 44 #[.val (.ref x), .val (.ref y), .val (.ref y)] [.ref t', .ref t])) rfl (by rw [hml]; rfl) c17 (argsL := [.ref t, .ref t']) (rest := []) rfl rfl (by show 2 * 0 + 0 ≤ _; decide) (hb hbytes d44) (⟨rfl, hx.2.2.2.1.mv X16.warmed.alike hh16, hx.2.2.2.2.1.ty, hy.2.2.2.1.mv X16.warmed.alike hh16, hy.2.2.2.2.1.ty⟩)
      obtain ⟨v, rfl, q18, hv⟩ := E18
      have iff := Cod.eqv hx.2.2.2.2.1 hy.2.2.2.2.1 hx.2.2.2.2.2 hy.2.2.2.2.2
      rcases hv with ⟨rfl, he⟩ | ⟨rfl, he⟩
      · have c19 : Steps p.tables e below (s₁.setTop (entryFrame m #[.ref x, .ref y] 3)) (T18.setTop (mkF m 55 #[.val (.ref x), .val (.ref y), .val (.ref y)] [.int 1])) := Steps.trans g18 (by
          refine XS.ifNo X18.here hexec rfl (hb hbytes d47) rfl (i0_eq_f (by decide)) ?_
          refine iconstV X18.here hexec rfl 1 (hb hbytes d50) (by decide) ?_
          refine XS.goto X18.here hexec rfl (pc0 := 51) rfl (hb hbytes d51) (by decide) rfl ?_
          exact Steps.refl _)
        exact ⟨T18, some (.int 1), _, _, _, X18, rfl, rfl, rfl, (fun h => by cases h), ⟨1, rfl, q18.trans hh16, Or.inl ⟨rfl, iff.mp he⟩⟩, fun fs hl => c19.trans (X18.ireturnOut hexec hret rfl (Or.inr (Or.inl rfl)) (hb hbytes d55) hl)⟩
      · have c19 : Steps p.tables e below (s₁.setTop (entryFrame m #[.ref x, .ref y] 3)) (T18.setTop (mkF m 55 #[.val (.ref x), .val (.ref y), .val (.ref y)] [.int 0])) := Steps.trans g18 (by
          refine XS.ifYes X18.here hexec rfl (pc0 := 47) rfl (hb hbytes d47) rfl (i0_eq_t rfl) (by decide) rfl ?_
          refine iconstV X18.here hexec rfl 0 (hb hbytes d54) (by decide) ?_
          exact Steps.refl _)
        exact ⟨T18, some (.int 0), _, _, _, X18, rfl, rfl, rfl, (fun h => by cases h), ⟨0, rfl, q18.trans hh16, Or.inr ⟨rfl, fun q => he (iff.mpr q)⟩⟩, fun fs hl => c19.trans (X18.ireturnOut hexec hret rfl (Or.inr (Or.inl rfl)) (hb hbytes d55) hl)⟩
    · have c13 : Steps p.tables e below (s₁.setTop (entryFrame m #[.ref x, .ref y] 3)) (T11.setTop (mkF m 55 #[.val (.ref x), .val (.ref y), .val (.ref y)] [.int 0])) := c12.trans (by
        refine XS.icmpYes X11.here hexec rfl (pc0 := 33) rfl (hb hbytes d33) rfl (ii_ne_t hcd) (by decide) rfl ?_
        refine iconstV X11.here hexec rfl 0 (hb hbytes d54) (by decide) ?_
        exact Steps.refl _)
      exact ⟨T11, some (.int 0), _, _, _, X11, rfl, rfl, rfl, (fun h => by cases h), ⟨0, rfl, hh11, Or.inr ⟨rfl, Cod.dif hx.2.2.2.2.1 hy.2.2.2.2.1 hcd⟩⟩, fun fs hl => c13.trans (X11.ireturnOut hexec hret rfl (Or.inr (Or.inl rfl)) (hb hbytes d55) hl)⟩
theorem pays {l : Launch} {R : Room} {p : Program} {e : Env} {below : List Frame} {s : State} {sargs : Array Value} {len W : Nat} (x t : Addr) (V : Cell) (cd : Int32) (n : Nat) (f : Nat → Int32) (y t' : Addr) (V' : Cell) (cd' : Int32) (k : Nat) (g : Nat → Int32) (z : Int32) (htab : tab.before sargs s = true) (hfr : 2 ≤ R.frames) (hlo : W + 28 ≤ R.locals) :
    Back l R p e below s sargs yN len W (fun A₁ a₁ => A₁.cells + 0 ≤ R.cells ∧ A₁.slots + 0 ≤ R.slots ∧ P x t V cd n f y t' V' cd' k g z a₁ A₁.U) (fun A₁ _ v₁ B₁ => Says01 (SameT n f k g) v₁ A₁.U B₁.U ∧ B₁.locs = A₁.locs ++ [] ∧ B₁.cells = A₁.cells + 0 ∧ B₁.slots = A₁.slots + 0) :=
  (law l x t V cd n f y t' V' cd' k g z).pays htab hfr (by omega)
end SEq
end StrChars
namespace StrChars.Road
open Jvm Sem ClassFile Op Lib Jvm.Stand Jvm.Free Jvm.Free.XT
open Jvm.Lib.Cold (StaticIs)
/-- the words of String.equals(Object) -/
abbrev wordsEq : List Jvm.Cond := [.code SEq.yN SEq.yB 3 (some .boolean), .initialized ST, .classLink ST 10 ST, .fieldLink ST 38 ST "COMPACT_STRINGS" "Z", .fieldLink ST 15 ST "coder" "B", .fieldLink ST 9 ST "value" "[B", .methodLink ST 541 LEq.yN, .static LEq.yN, .code LEq.yN LEq.yB 3 (some .boolean), .initialized "java/lang/StringLatin1"]
theorem tabEq_of {a : Array Value} {s : State} (h : ∀ w ∈ wordsEq, w.before a s = true) : SEq.tab.before a s = true := by
  have hl : LEq.tab.before a s = true := unparts (wk h (.code LEq.yN LEq.yB 3 (some .boolean))) (wks h (.initialized LEq.yN.cls :: LEq.site))
  have q := consq hl h
  exact unparts (wk q (.code SEq.yN SEq.yB 3 (some .boolean))) (wks q (.initialized SEq.yN.cls :: SEq.site))
theorem movedEq {Z s : State} {a0 args : Array Value} (hZ : Z.Warmed39 s.vm) (hw : ∀ d ∈ wordsEq, d.before a0 Z = true) : ∀ d ∈ wordsEq, d.before args s = true := fun d hd => by
  have t : ∀ d ∈ wordsEq, (d.onTables && d.keepsFace) = true := by decide +kernel
  exact RoadKit.mv hZ (hw d hd) (t d hd)
/-- the road's facts of a String, as the laws ask it -/
theorem txt_of {Z U : State} {a0 : Array Value} {kI : Nat} (wi : (Jvm.Cond.instantiable ST kI).before a0 Z = true) (al : Z.vm.Alike U.vm) {x t : Addr} {kb : ClassId} {cs : List Int32} {cd N2 : Int32} {vs : List Value} (E : RoadKit.Exa Z U.heap x ST) (V : RoadKit.Fld Z U.heap x ST "value" "[B" (.ref t)) (C : RoadKit.Fld Z U.heap x ST "coder" "B" (.int cd)) (K : RoadKit.Arv Z U.heap t kb .byte N2 vs (.int 0)) (hc : CodA cs cd N2 vs) (hb : ∀ c ∈ cs, ¬ c < 0 ∧ ¬ (65535 : Int32) < c) (l2 : cs.length ≤ 4000) :
    ∃ A, Txt x t A cd cs.length (fun j => cs.getD j 0) U := by
  obtain ⟨A, K1, K2, K3, K4, K5, K6⟩ := K
  have hcod := hc.cod (by omega) K3 K5
  obtain ⟨D, fV, fC, hB, F1, F2, g1, g2, -, -⟩ := strObj wi al E V C
  exact ⟨A, ⟨_, hB.2.2.1, D, hB.1, rfl, by cases q : D.vm <;> first | rfl | exact absurd q (hB.2.1.2 _)⟩, Has.of hB F1 g1, Has.of hB F2 g2, ⟨K1.1, State.isArrayOf_alike al K1.2.1, K1.2.2, by rcases hcod with ⟨-, q, -⟩ | ⟨-, q, -⟩ <;> omega⟩, hcod, fun j hj => by
    have e : cs.getD j 0 = cs[j] := by simp [List.getD_eq_getElem?_getD, hj]
    show ¬ cs.getD j 0 < 0 ∧ ¬ 65535 < cs.getD j 0
    rw [e]; exact hb _ (List.getElem_mem _)⟩
theorem same_list (cs ds : List Int32) : SameT cs.length (fun j => cs.getD j 0) ds.length (fun j => ds.getD j 0) ↔ cs = ds := by
  constructor
  · rintro ⟨e, q⟩
    refine List.ext_getElem e fun j h1 h2 => ?_
    have := q j h1
    simpa [List.getD_eq_getElem?_getD, h1, h2] using this
  · rintro rfl
    exact ⟨rfl, fun _ _ => rfl⟩
/-- **equals(Object) OF TWO SUCH STRINGS**: 1 just where the chars are the same -/
theorem eqW {p : Program} {l : Launch} {e : Env} {R : Room} {s : State} {args : Array Value} {below : List Frame} {len W : Nat} {Z : State} {a0 : Array Value} {h : Heap} (hZ : Z.Warmed39 s.vm) (hw : ∀ d ∈ wordsEq, d.before a0 Z = true) {kI : Nat} (wi : (Jvm.Cond.instantiable ST kI).before a0 Z = true)
    {x t : Addr} {kb : ClassId} {cs : List Int32} {cd N2 : Int32} {vs : List Value} (E : RoadKit.Exa Z h x ST) (V : RoadKit.Fld Z h x ST "value" "[B" (.ref t)) (C : RoadKit.Fld Z h x ST "coder" "B" (.int cd)) (K : RoadKit.Arv Z h t kb .byte N2 vs (.int 0)) (hc : CodA cs cd N2 vs) (hb : ∀ c ∈ cs, ¬ c < 0 ∧ ¬ (65535 : Int32) < c) (l2 : cs.length ≤ 4000)
    {y t' : Addr} {kb' : ClassId} {ds : List Int32} {cd' N2' : Int32} {vs' : List Value} (E' : RoadKit.Exa Z h y ST) (V' : RoadKit.Fld Z h y ST "value" "[B" (.ref t')) (C' : RoadKit.Fld Z h y ST "coder" "B" (.int cd')) (K' : RoadKit.Arv Z h t' kb' .byte N2' vs' (.int 0)) (hc' : CodA ds cd' N2' vs') (hb' : ∀ c ∈ ds, ¬ c < 0 ∧ ¬ (65535 : Int32) < c) (l2' : ds.length ≤ 4000)
    {z : Int32} (S : RoadKit.Sta Z h ST "COMPACT_STRINGS" "Z" (.int z)) (hz : ¬ z = 0) (hfr : 2 ≤ R.frames) (hlo : W + 28 ≤ R.locals) :
    Back l R p e below s args (⟨"java/lang/String", "equals", "(Ljava/lang/Object;)Z"⟩ : MethodName) len W (fun P a => a = #[.ref x, .ref y] ∧ P.U.heap = h ∧ P.cells + 0 ≤ R.cells ∧ P.slots + 0 ≤ R.slots)
      (fun P _ v B => ∃ L, (((v = some (.int 1) ∧ cs = ds) ∨ (v = some (.int 0) ∧ ¬ cs = ds)) ∧ L = [] ∧ B.U.heap = h) ∧ B.locs = P.locs ++ L ∧ B.cells = P.cells + 0 ∧ B.slots = P.slots + 0) := by
  intro m meth c P g ig mk a X hg hsize hdg hW hn hp'
  obtain ⟨rfl, rfl, r1, r2⟩ := hp'
  have al : Z.vm.Alike P.U.vm := hZ.alike.trans X.warmed.alike
  obtain ⟨A, hx⟩ := txt_of wi al E V C K hc hb l2
  obtain ⟨A', hy⟩ := txt_of wi al E' V' C' K' hc' hb' l2'
  obtain ⟨v, B, X', ⟨⟨w, hv, hh, hq⟩, hl, hk, hs⟩, st⟩ := SEq.pays x t A cd cs.length (fun j => cs.getD j 0) y t' A' cd' ds.length (fun j => ds.getD j 0) z (tabEq_of (movedEq hZ hw)) hfr hlo m meth c P g ig mk _ X hg hsize hdg hW hn ⟨r1, r2, rfl, hx, hy, sta_is al S, hz⟩
  refine ⟨v, B, X', ⟨[], ⟨?_, rfl, hh⟩, hl, hk, hs⟩, st⟩
  rcases hq with ⟨rfl, q⟩ | ⟨rfl, q⟩
  · exact Or.inl ⟨hv, (same_list cs ds).mp q⟩
  · exact Or.inr ⟨hv, fun e => q ((same_list cs ds).mpr e)⟩
end StrChars.Road
end Jvm.Pilot.@@N@@

namespace Jvm.Pilot.@@N@@
open Jvm Jvm.ClassFile Sem Op Lib Jvm.Free Jvm.Stand Jvm.LawKit Jvm.RoadKit Bundle Jvm.Pilot.@@N@@.Jvm.D
/-- the run from U comes to a return whose value, heap and written places Q takes; it has made at most kc cells of ks slots -/
def own_Go (p : Program) (e : Env) (below : List Frame) (s : State) (Q : Option Value → Heap → List Loc → Prop) (kc ks : Nat) (U : State) : Prop :=
  ∃ t o, Steps p.tables e below U t ∧ t.status = .running ∧ Ended t below o ∧ ∃ v L, o = .returned v ∧ Q v t.heap L ∧ FrameEnd s o t L kc ks
section OwnKit
variable {p : Program} {l : Launch} {e : Env} {R : Room} {s : State} {m : MethodId} {args : Array Value} {below : List Frame} {meth : Method} {c : Code} {T : State} {locs : List Loc} {cells slots kc ks : Nat} {Z : State} {a0 : Array Value} {h : Heap} {Q : Option Value → Heap → List Loc → Prop}
theorem own_go {U U' : State} (f : ∀ t, Steps p.tables e below U' t → Steps p.tables e below U t) (g : own_Go p e below s Q kc ks U') : own_Go p e below s Q kc ks U := by
  obtain ⟨t, o, a, r⟩ := g
  exact ⟨t, o, f t a, r⟩
theorem own_end (X : Stand p l e R s m args below meth c T locs cells slots) (hlk : meth.locks = false) (eT : T.heap = h) {v : Option Value} (hv : meth.sig.returnType = none → v = none) (hc : cells ≤ kc) (hs : slots ≤ ks) (hq : Q v h locs) {U : State}
    (hst : ∀ fs, (∀ (f : JFrame) (acts : List Action), f.method = m → f.locked = none → f.entered = [] → (doReturn e (T.setTop f) acts v).1 = T.setFrames fs) → Steps p.tables e below U (T.setFrames fs)) : own_Go p e below s Q kc ks U := by
  obtain ⟨fs, hr, hrun, hended, hW, hsame⟩ := X.leave (v := v) hv hlk
  refine ⟨_, _, hst fs hr, hrun, hended, v, locs, rfl, ?_, ⟨v, rfl⟩, hW, hsame.mono hc hs⟩
  show Q v T.heap locs
  rw [eT]; exact hq
theorem own_retN (X : Stand p l e R s m args below meth c T locs cells slots) (hx : p.tables.exec = Jvm.exec) (hlk : meth.locks = false) (eT : T.heap = h) {pc : Nat} {Ls : Array Slot} {z : Int32} {t : FieldType} {rest : List Value} (hret : meth.sig.returnType = some t) (ht : t = .boolean ∨ t = .byte ∨ t = .char ∨ t = .short)
    (hd : decode c.code pc = .ok (.ireturn, 1)) (hc : cells ≤ kc) (hs : slots ≤ ks) (hq : Q (some (.int (nar t z))) h locs) : own_Go p e below s Q kc ks (T.setTop (mkF m pc Ls (.int z :: rest))) :=
  own_end X hlk eT (fun q => by rw [hret] at q; cases q) hc hs hq fun fs hr => retN X hx hret ht hd hr
theorem own_retI (X : Stand p l e R s m args below meth c T locs cells slots) (hx : p.tables.exec = Jvm.exec) (hlk : meth.locks = false) (eT : T.heap = h) {pc : Nat} {Ls : Array Slot} {z : Int32} {rest : List Value} (hret : meth.sig.returnType = some .int)
    (hd : decode c.code pc = .ok (.ireturn, 1)) (hc : cells ≤ kc) (hs : slots ≤ ks) (hq : Q (some (.int z)) h locs) : own_Go p e below s Q kc ks (T.setTop (mkF m pc Ls (.int z :: rest))) :=
  own_end X hlk eT (fun q => by rw [hret] at q; cases q) hc hs hq fun fs hr => retOut X hx hret rfl (Or.inl ⟨rfl, Or.inl rfl, z, rfl⟩) hd hr
theorem own_retJ (X : Stand p l e R s m args below meth c T locs cells slots) (hx : p.tables.exec = Jvm.exec) (hlk : meth.locks = false) (eT : T.heap = h) {pc : Nat} {Ls : Array Slot} {z : Int64} {rest : List Value} (hret : meth.sig.returnType = some .long)
    (hd : decode c.code pc = .ok (.lreturn, 1)) (hc : cells ≤ kc) (hs : slots ≤ ks) (hq : Q (some (.long z)) h locs) : own_Go p e below s Q kc ks (T.setTop (mkF m pc Ls (.long z :: rest))) :=
  own_end X hlk eT (fun q => by rw [hret] at q; cases q) hc hs hq fun fs hr => retOut X hx hret rfl (Or.inr (Or.inl ⟨rfl, rfl, z, rfl⟩)) hd hr
theorem own_retA (X : Stand p l e R s m args below meth c T locs cells slots) (hx : p.tables.exec = Jvm.exec) (hlk : meth.locks = false) (eT : T.heap = h) {pc : Nat} {Ls : Array Slot} {v : Value} {t : FieldType} {rest : List Value} (hret : meth.sig.returnType = some t) (ht : t.isReference = true) (hv : v.isRef = true)
    (hd : decode c.code pc = .ok (.areturn, 1)) (hc : cells ≤ kc) (hs : slots ≤ ks) (hq : Q (some v) h locs) : own_Go p e below s Q kc ks (T.setTop (mkF m pc Ls (v :: rest))) :=
  own_end X hlk eT (fun q => by rw [hret] at q; cases q) hc hs hq fun fs hr => retOut X hx hret (by cases t <;> first | (cases ht; done) | (rcases ref_cases hv with rfl | ⟨_, rfl⟩ <;> rfl)) (Or.inr (Or.inr (Or.inr (Or.inr ⟨rfl, ht, hv⟩)))) hd hr
theorem own_retV (X : Stand p l e R s m args below meth c T locs cells slots) (hx : p.tables.exec = Jvm.exec) (hlk : meth.locks = false) (eT : T.heap = h) {pc : Nat} {Ls : Array Slot} (hret : meth.sig.returnType = none)
    (hd : decode c.code pc = .ok (.return_, 1)) (hc : cells ≤ kc) (hs : slots ≤ ks) (hq : Q none h locs) : own_Go p e below s Q kc ks (T.setTop (mkF m pc Ls [])) :=
  own_end X hlk eT (fun _ => rfl) hc hs hq fun fs hr => X.returnOut hx hret hd hr
/-- a body's contract out of its walk -/
theorem own_met {y : MethodName} {bytes : ByteArray} {maxL : Nat} {ret : Option FieldType} {ws : List Jvm.Cond} {rm : Room} {as' : Array Value} (kc ks : Nat) (hpl : plainFor y = true)
    (body : ∀ (p : Program) (e : Env) (s : State) (m : MethodId) (below : List Frame) (meth : Method) (c : Code) (T : State), Stand p l e rm s m as' below meth c T [] 0 0 → p.tables.exec = Jvm.exec → c.code = bytes → c.maxLocals = maxL → meth.sig.returnType = ret → meth.locks = false → Z.Warmed39 s.vm → s.vm.findClass y.cls = some m.cls → meth.name = y.name → T.heap = h →
      own_Go p e below s Q kc ks (T.setTop (entryFrame m as' maxL))) :
    MetFree l y (head1 (Jvm.Cond.code y bytes maxL ret :: ws) rm) (fun a U => a = as' ∧ Z.Warmed39 U.vm ∧ U.heap = h) (fun _ _ _ _ _ => True) (fun _ U o U' => ∃ v L, o = .returned v ∧ Q v U'.heap L ∧ FrameEnd U o U' L kc ks) := by
  refine MetFree.of_bodySF hpl hisR ?_
  intro p e s m args below meth c s₁ Bd hml hP hK
  obtain ⟨rfl, hZ, hh⟩ := hP
  obtain ⟨t, o, h1, h2, h3, h4⟩ := body p e s m below meth c s₁ (Stand.of_body Bd) Bd.exec Bd.bytes hml Bd.returns Bd.notSynchronized hZ (findClass_of_methodNamed Bd.named) (name_of_methodNamed Bd.named Bd.method).1 (by rw [← hh, Bd.state]; rfl)
  exact ⟨t, o, h1, h2, h3, h4⟩
abbrev own_Met (l : Launch) (Z : State) (h : Heap) (y : MethodName) (bytes : ByteArray) (maxL : Nat) (ret : Option FieldType) (rm : Room) (as' : Array Value) (Q : Option Value → Heap → List Loc → Prop) : Prop :=
  MetFree l y (head1 [Jvm.Cond.code y bytes maxL ret] rm) (fun a U => a = as' ∧ Z.Warmed39 U.vm ∧ U.heap = h) (fun _ _ _ _ _ => True) (fun _ U o U' => ∃ v L, o = .returned v ∧ Q v U'.heap L ∧ FrameEnd U o U' L rm.cells rm.slots)
abbrev own_MF (l : Launch) (Z : State) (h : Heap) (y : MethodName) (bytes : ByteArray) (maxL : Nat) (ret : Option FieldType) (rm : Room) (as' : Array Value) (Q : Option Value → Heap → List Loc → Prop) (ws : List Jvm.Cond) : Prop :=
  MetFree l y (head1 (Jvm.Cond.code y bytes maxL ret :: ws) rm) (fun a U => a = as' ∧ Z.Warmed39 U.vm ∧ U.heap = h) (fun _ _ _ _ _ => True) (fun _ U o U' => ∃ v L, o = .returned v ∧ Q v U'.heap L ∧ FrameEnd U o U' L rm.cells rm.slots)
theorem own_callS {y : MethodName} {bytes : ByteArray} {maxL : Nat} {ret : Option FieldType} {rm : Room} {as' : Array Value} {own : String} {index : Nat} (X : Stand p l e R s m args below meth c T locs cells slots) (hx : p.tables.exec = Jvm.exec) (hZ : Z.Warmed39 s.vm) (hown : s.vm.findClass own = some m.cls)
    (w1 : (Jvm.Cond.methodLink own index y).before a0 Z = true) (w2 : (Jvm.Cond.static y).before a0 Z = true) (w3 : (Jvm.Cond.initialized y.cls).before a0 Z = true) (w4 : (Jvm.Cond.code y bytes maxL ret).before a0 Z = true) (hM : own_Met l Z h y bytes maxL ret rm as' Q) (W : Nat) (nc ns : Nat) 
    (hc : cells + nc ≤ R.cells) (hs : slots + ns ≤ R.slots) (eT : T.heap = h) {g : JFrame} (hg : g.method = m) (hsize : g.locals.size = c.maxLocals)
    (argsL rest : List Value) (hlen : ∀ sig, parseMethodDescriptor y.desc = some sig → argsL.length = sig.parameters.length) (hstack : g.stack = argsL.reverse ++ rest) (has : argsL.toArray = as') (hdg : decode c.code g.pc = .ok (.invokestatic index, 3))
    (hy : y.cls ≠ "java/lang/invoke/MethodHandle" ∧ y.cls ≠ "java/lang/invoke/VarHandle" := by decide) (hf : rm.frames + 1 ≤ R.frames := by decide) (hl : W + (maxL + 11) + rm.locals ≤ R.locals := by decide) (hW : 2 * g.monitorRoom + (rest.map fun v => v.category).sum ≤ W := by exact Nat.le_of_eq rfl) (hnc : rm.cells = nc := by rfl) (hns : rm.slots = ns := by rfl) :
    ∃ v T' L, Stand p l e R s m args below meth c T' (locs ++ L) (cells + nc) (slots + ns) ∧ Q v T'.heap L ∧ ∀ target, Steps p.tables e below (T'.setTop { g with pc := g.pc + 3, stack := v.toList ++ rest }) target → Steps p.tables e below (T.setTop g) target := by
  subst hnc hns
  obtain ⟨v, _, ⟨T', L', k', n'⟩, -, X', ⟨L, hQ, h1, h2, h3⟩, st⟩ := Jvm.LawKit.callS X hx hown (mvT hZ w1) (mvT hZ w2) (mvT hZ w3) (mvT hZ w4) hy (backOf (W := W) hM hZ w4 w3 hf hl) hg hsize hlen hstack hW hdg (fun _ _ => ⟨has, eT, hc, hs⟩)
  dsimp only [Pt.U, Pt.locs, Pt.cells, Pt.slots] at X' hQ h1 h2 h3 st
  subst h1 h2 h3
  exact ⟨v, T', L, X', hQ, st⟩
theorem own_callI {y : MethodName} {bytes : ByteArray} {maxL : Nat} {rm : Room} {as' : Array Value} {own : String} {index : Nat} (X : Stand p l e R s m args below meth c T locs cells slots) (hx : p.tables.exec = Jvm.exec) (hZ : Z.Warmed39 s.vm) (hown : s.vm.findClass own = some m.cls)
    (w1 : (Jvm.Cond.methodLink own index y).before a0 Z = true) (w2 : (Jvm.Cond.instanceMethod y).before a0 Z = true) (w3 : (Jvm.Cond.initialized y.cls).before a0 Z = true) (w4 : (Jvm.Cond.code y bytes maxL none).before a0 Z = true) (hM : own_Met l Z h y bytes maxL none rm as' Q) (W : Nat) (nc ns : Nat) (hy1 : y.name = "<init>")
    (hc : cells + nc ≤ R.cells) (hs : slots + ns ≤ R.slots) (eT : T.heap = h) {g : JFrame} (hg : g.method = m) (hsize : g.locals.size = c.maxLocals)
    (a : Addr) (argsL rest : List Value) (hlen : ∀ sig, parseMethodDescriptor y.desc = some sig → argsL.length = sig.parameters.length) (hstack : g.stack = argsL.reverse ++ .ref a :: rest) (has : (Value.ref a :: argsL).toArray = as') (hdg : decode c.code g.pc = .ok (.invokespecial index, 3))
    (hy : y.cls ≠ "java/lang/invoke/MethodHandle" ∧ y.cls ≠ "java/lang/invoke/VarHandle" := by decide) (hf : rm.frames + 1 ≤ R.frames := by decide) (hl : W + (maxL + 11) + rm.locals ≤ R.locals := by decide) (hW : 2 * g.monitorRoom + (rest.map fun v => v.category).sum ≤ W := by exact Nat.le_of_eq rfl) (hnc : rm.cells = nc := by rfl) (hns : rm.slots = ns := by rfl) :
    ∃ v T' L, Stand p l e R s m args below meth c T' (locs ++ L) (cells + nc) (slots + ns) ∧ Q v T'.heap L ∧ ∀ target, Steps p.tables e below (T'.setTop { g with pc := g.pc + 3, stack := v.toList ++ rest }) target → Steps p.tables e below (T.setTop g) target := by
  subst hnc hns
  obtain ⟨v, _, ⟨T', L', k', n'⟩, -, X', ⟨L, hQ, h1, h2, h3⟩, st⟩ := X.specialBack hx hy1 hown (mvT hZ w1) (mvT hZ w2) (mvT hZ w4) hy (backOf (W := W) hM hZ w4 w3 hf hl) hg hsize (Steps.refl _) (a := a) (argsL := argsL) (rest := rest) hlen hstack hW hdg (fun _ _ => ⟨has, eT, hc, hs⟩)
  dsimp only [Pt.U, Pt.locs, Pt.cells, Pt.slots] at X' hQ h1 h2 h3 st
  subst h1 h2 h3
  exact ⟨v, T', L, X', hQ, fun _ k => st.trans k⟩
theorem own_callV {y z : MethodName} {bytes : ByteArray} {maxL : Nat} {ret : Option FieldType} {rm : Room} {as' : Array Value} {own C : String} {index : Nat} (X : Stand p l e R s m args below meth c T locs cells slots) (hx : p.tables.exec = Jvm.exec) (hZ : Z.Warmed39 s.vm) (hown : s.vm.findClass own = some m.cls)
    (w1 : (Jvm.Cond.methodLink own index y).before a0 Z = true) (wd : (Jvm.Cond.declares y).before a0 Z = true) (nf : NotFace s y) (wsel : (Jvm.Cond.selects C y z).before a0 Z = true) (w2 : (Jvm.Cond.instanceMethod z).before a0 Z = true) (w3 : (Jvm.Cond.initialized z.cls).before a0 Z = true) (w4 : (Jvm.Cond.code z bytes maxL ret).before a0 Z = true) (hM : own_Met l Z h z bytes maxL ret rm as' Q) (W : Nat) (nc ns : Nat) 
    (hc : cells + nc ≤ R.cells) (hs : slots + ns ≤ R.slots) (eT : T.heap = h) {a : Addr} (E : Exa Z h a C) {g : JFrame} (hg : g.method = m) (hsize : g.locals.size = c.maxLocals)
    (argsL rest : List Value) (hlen : ∀ sig, parseMethodDescriptor y.desc = some sig → argsL.length = sig.parameters.length) (hstack : g.stack = argsL.reverse ++ .ref a :: rest) (has : (Value.ref a :: argsL).toArray = as') (hdg : decode c.code g.pc = .ok (.invokevirtual index, 3))
    (hy : y.cls ≠ "java/lang/invoke/MethodHandle" ∧ y.cls ≠ "java/lang/invoke/VarHandle" := by decide) (hf : rm.frames + 1 ≤ R.frames := by decide) (hl : W + (maxL + 11) + rm.locals ≤ R.locals := by decide) (hW : 2 * g.monitorRoom + (rest.map fun v => v.category).sum ≤ W := by exact Nat.le_of_eq rfl) (hnc : rm.cells = nc := by rfl) (hns : rm.slots = ns := by rfl) :
    ∃ v T' L, Stand p l e R s m args below meth c T' (locs ++ L) (cells + nc) (slots + ns) ∧ Q v T'.heap L ∧ ∀ target, Steps p.tables e below (T'.setTop { g with pc := g.pc + 3, stack := v.toList ++ rest }) target → Steps p.tables e below (T.setTop g) target := by
  subst hnc hns
  obtain ⟨cq, kq, qa, qb, qc⟩ := isOf hZ eT E
  obtain ⟨v, _, ⟨T', L', k', n'⟩, -, X', ⟨L, hQ, h1, h2, h3⟩, st⟩ := X.virtualBack hx hown (mvT hZ w1) (mvT hZ wd) nf (mvT hZ wsel) (mvT hZ w2) hy (backOf (W := W) hM hZ w4 w3 hf hl) qa qc hg hsize (Steps.refl _) (argsL := argsL) (rest := rest) hlen hstack hW hdg (fun _ _ => ⟨has, eT, hc, hs⟩)
  dsimp only [Pt.U, Pt.locs, Pt.cells, Pt.slots] at X' hQ h1 h2 h3 st
  subst h1 h2 h3
  exact ⟨v, T', L, X', hQ, fun _ k => st.trans k⟩
theorem own_callP {y : MethodName} {bytes : ByteArray} {maxL : Nat} {ret : Option FieldType} {rm : Room} {as' : Array Value} {own C : String} {index : Nat} (X : Stand p l e R s m args below meth c T locs cells slots) (hx : p.tables.exec = Jvm.exec) (hZ : Z.Warmed39 s.vm) (hown : s.vm.findClass own = some m.cls)
    (w1 : (Jvm.Cond.methodLink own index y).before a0 Z = true) (w2 : (Jvm.Cond.instanceMethod y).before a0 Z = true) (wsel : (Jvm.Cond.selects y.cls y y).before a0 Z = true) (wp : (Jvm.Cond.privateMethod y).before a0 Z = true) (w3 : (Jvm.Cond.initialized y.cls).before a0 Z = true) (w4 : (Jvm.Cond.code y bytes maxL ret).before a0 Z = true) (hM : own_Met l Z h y bytes maxL ret rm as' Q) (W : Nat) (nc ns : Nat) 
    (hc : cells + nc ≤ R.cells) (hs : slots + ns ≤ R.slots) (eT : T.heap = h) {a : Addr} (E : Exa Z h a C) {g : JFrame} (hg : g.method = m) (hsize : g.locals.size = c.maxLocals)
    (argsL rest : List Value) (hlen : ∀ sig, parseMethodDescriptor y.desc = some sig → argsL.length = sig.parameters.length) (hstack : g.stack = argsL.reverse ++ .ref a :: rest) (has : (Value.ref a :: argsL).toArray = as') (hdg : decode c.code g.pc = .ok (.invokevirtual index, 3))
    (hy : y.cls ≠ "java/lang/invoke/MethodHandle" ∧ y.cls ≠ "java/lang/invoke/VarHandle" := by decide) (hf : rm.frames + 1 ≤ R.frames := by decide) (hl : W + (maxL + 11) + rm.locals ≤ R.locals := by decide) (hW : 2 * g.monitorRoom + (rest.map fun v => v.category).sum ≤ W := by exact Nat.le_of_eq rfl) (hnc : rm.cells = nc := by rfl) (hns : rm.slots = ns := by rfl) :
    ∃ v T' L, Stand p l e R s m args below meth c T' (locs ++ L) (cells + nc) (slots + ns) ∧ Q v T'.heap L ∧ ∀ target, Steps p.tables e below (T'.setTop { g with pc := g.pc + 3, stack := v.toList ++ rest }) target → Steps p.tables e below (T.setTop g) target := by
  subst hnc hns
  obtain ⟨cq, q1, q2⟩ := E.cell
  obtain ⟨v, _, ⟨T', L', k', n'⟩, -, X', ⟨L, hQ, h1, h2, h3⟩, st⟩ := X.privateBack hx hown (mvT hZ w1) (mvT hZ w2) (mvT hZ wsel) (Cond.privateMethod_at (mvP hZ wp (args := #[]))) (mvT hZ w4) hy (backOf (W := W) hM hZ w4 w3 hf hl) hg hsize (Steps.refl _) (a := a) (by rw [eT]; exact q1) q2 (argsL := argsL) (rest := rest) hlen hstack hW hdg (fun _ _ => ⟨has, eT, hc, hs⟩)
  dsimp only [Pt.U, Pt.locs, Pt.cells, Pt.slots] at X' hQ h1 h2 h3 st
  subst h1 h2 h3
  exact ⟨v, T', L, X', hQ, fun _ k => st.trans k⟩
theorem own_callF {xi y : MethodName} {bytes : ByteArray} {maxL : Nat} {ret : Option FieldType} {rm : Room} {as' : Array Value} {own C : String} {index count : Nat} (X : Stand p l e R s m args below meth c T locs cells slots) (hx : p.tables.exec = Jvm.exec) (hZ : Z.Warmed39 s.vm) (hown : s.vm.findClass own = some m.cls)
    (w1 : (Jvm.Cond.methodLink own index xi).before a0 Z = true) (wd : (Jvm.Cond.declares xi).before a0 Z = true) (wfa : (Jvm.Cond.interfaceMethod xi.cls xi.cls xi.name xi.desc).before a0 Z = true) (wsel : (Jvm.Cond.selects C xi y).before a0 Z = true) (w2 : (Jvm.Cond.instanceMethod y).before a0 Z = true) (wp : (Jvm.Cond.publicMethod y).before a0 Z = true) (wu : (Jvm.Cond.unhidden C xi.name xi.desc).before a0 Z = true) (wk : (Jvm.Cond.castable C xi.cls).before a0 Z = true) (w3 : (Jvm.Cond.initialized y.cls).before a0 Z = true) (w4 : (Jvm.Cond.code y bytes maxL ret).before a0 Z = true) (hfk : ((Jvm.Cond.interfaceMethod xi.cls xi.cls xi.name xi.desc).onTables && (Jvm.Cond.interfaceMethod xi.cls xi.cls xi.name xi.desc).keepsFace) = true) (hM : own_Met l Z h y bytes maxL ret rm as' Q) (W : Nat) (nc ns : Nat) 
    (hc : cells + nc ≤ R.cells) (hs : slots + ns ≤ R.slots) (eT : T.heap = h) {a : Addr} (E : Exa Z h a C) {g : JFrame} (hg : g.method = m) (hsize : g.locals.size = c.maxLocals)
    (argsL rest : List Value) (hlen : ∀ sig, parseMethodDescriptor xi.desc = some sig → argsL.length = sig.parameters.length) (hstack : g.stack = argsL.reverse ++ .ref a :: rest) (has : (Value.ref a :: argsL).toArray = as') (hdg : decode c.code g.pc = .ok (.invokeinterface index count, 5))
    (hy : xi.cls ≠ "java/lang/invoke/MethodHandle" ∧ xi.cls ≠ "java/lang/invoke/VarHandle" := by decide) (hf : rm.frames + 1 ≤ R.frames := by decide) (hl : W + (maxL + 11) + rm.locals ≤ R.locals := by decide) (hW : 2 * g.monitorRoom + (rest.map fun v => v.category).sum ≤ W := by exact Nat.le_of_eq rfl) (hnc : rm.cells = nc := by rfl) (hns : rm.slots = ns := by rfl) :
    ∃ v T' L, Stand p l e R s m args below meth c T' (locs ++ L) (cells + nc) (slots + ns) ∧ Q v T'.heap L ∧ ∀ target, Steps p.tables e below (T'.setTop { g with pc := g.pc + 5, stack := v.toList ++ rest }) target → Steps p.tables e below (T.setTop g) target := by
  subst hnc hns
  obtain ⟨cq, kq, qa, qb, qc⟩ := isOf hZ eT E
  obtain ⟨v, _, ⟨T', L', k', n'⟩, -, X', ⟨L, hQ, h1, h2, h3⟩, st⟩ := X.interfaceBack hx hown (mvT hZ w1) (mvT hZ wd) (mvT hZ wfa hfk) (mvT hZ wsel) (mvT hZ w2) (mvT hZ wp) (mvT hZ wu) (mvT hZ wk) hy (backOf (W := W) hM hZ w4 w3 hf hl) qa qb qc hg hsize (Steps.refl _) (argsL := argsL) (rest := rest) hlen hstack hW hdg (fun _ _ => ⟨has, eT, hc, hs⟩)
  dsimp only [Pt.U, Pt.locs, Pt.cells, Pt.slots] at X' hQ h1 h2 h3 st
  subst h1 h2 h3
  exact ⟨v, T', L, X', hQ, fun _ k => st.trans k⟩
theorem own_callU {y z : MethodName} {bytes : ByteArray} {maxL : Nat} {ret : Option FieldType} {rm : Room} {as' : Array Value} {own owner C : String} {index : Nat} (X : Stand p l e R s m args below meth c T locs cells slots) (hx : p.tables.exec = Jvm.exec) (hZ : Z.Warmed39 s.vm) (hown : s.vm.findClass own = some m.cls)
    (w1 : (Jvm.Cond.methodLink own index y).before a0 Z = true) (wsm : (Jvm.Cond.sameMethod y.cls owner y.name y.desc).before a0 Z = true) (wd : (Jvm.Cond.declares ⟨owner, y.name, y.desc⟩).before a0 Z = true) (wsel : (Jvm.Cond.selects C y z).before a0 Z = true) (w2 : (Jvm.Cond.instanceMethod z).before a0 Z = true) (w3 : (Jvm.Cond.initialized z.cls).before a0 Z = true) (w4 : (Jvm.Cond.code z bytes maxL ret).before a0 Z = true) (hM : own_Met l Z h z bytes maxL ret rm as' Q) (W : Nat) (nc ns : Nat) 
    (hc : cells + nc ≤ R.cells) (hs : slots + ns ≤ R.slots) (eT : T.heap = h) {a : Addr} (E : Exa Z h a C) {g : JFrame} (hg : g.method = m) (hsize : g.locals.size = c.maxLocals)
    (argsL rest : List Value) (hlen : ∀ sig, parseMethodDescriptor y.desc = some sig → argsL.length = sig.parameters.length) (hstack : g.stack = argsL.reverse ++ .ref a :: rest) (has : (Value.ref a :: argsL).toArray = as') (hdg : decode c.code g.pc = .ok (.invokevirtual index, 3))
    (howner : owner ≠ "java/lang/invoke/MethodHandle" ∧ owner ≠ "java/lang/invoke/VarHandle" := by decide) (hf : rm.frames + 1 ≤ R.frames := by decide) (hl : W + (maxL + 11) + rm.locals ≤ R.locals := by decide) (hW : 2 * g.monitorRoom + (rest.map fun v => v.category).sum ≤ W := by exact Nat.le_of_eq rfl) (hnc : rm.cells = nc := by rfl) (hns : rm.slots = ns := by rfl) :
    ∃ v T' L, Stand p l e R s m args below meth c T' (locs ++ L) (cells + nc) (slots + ns) ∧ Q v T'.heap L ∧ ∀ target, Steps p.tables e below (T'.setTop { g with pc := g.pc + 3, stack := v.toList ++ rest }) target → Steps p.tables e below (T.setTop g) target := by
  subst hnc hns
  obtain ⟨cq, kq, qa, qb, qc⟩ := isOf hZ eT E
  obtain ⟨v, _, ⟨T', L', k', n'⟩, -, X', ⟨L, hQ, h1, h2, h3⟩, st⟩ := X.virtualBackUp hx hown (mvT hZ w1) (mvT hZ wsm) (mvT hZ wd) howner (mvT hZ wsel) (mvT hZ w2) (backOf (W := W) hM hZ w4 w3 hf hl) qa qc hg hsize (Steps.refl _) (argsL := argsL) (rest := rest) hlen hstack hW hdg (fun _ _ => ⟨has, eT, hc, hs⟩)
  dsimp only [Pt.U, Pt.locs, Pt.cells, Pt.slots] at X' hQ h1 h2 h3 st
  subst h1 h2 h3
  exact ⟨v, T', L, X', hQ, fun _ k => st.trans k⟩
theorem own_callIB {y : MethodName} {bytes : ByteArray} {maxL : Nat} {as' : Array Value} {own : String} {index : Nat} (X : Stand p l e R s m args below meth c T locs cells slots) (hx : p.tables.exec = Jvm.exec) (hZ : Z.Warmed39 s.vm) (hown : s.vm.findClass own = some m.cls)
    (w1 : (Jvm.Cond.methodLink own index y).before a0 Z = true) (w2 : (Jvm.Cond.instanceMethod y).before a0 Z = true) (w3 : (Jvm.Cond.initialized y.cls).before a0 Z = true) (w4 : (Jvm.Cond.code y bytes maxL none).before a0 Z = true) (W nc ns : Nat) (hB : Back l R p e below s args y 3 W (fun A a => a = as' ∧ A.U.heap = h ∧ A.cells + nc ≤ R.cells ∧ A.slots + ns ≤ R.slots) (fun A _ v B => ∃ L, Q v B.U.heap L ∧ B.locs = A.locs ++ L ∧ B.cells = A.cells + nc ∧ B.slots = A.slots + ns)) (hy1 : y.name = "<init>")
    (hc : cells + nc ≤ R.cells) (hs : slots + ns ≤ R.slots) (eT : T.heap = h) {g : JFrame} (hg : g.method = m) (hsize : g.locals.size = c.maxLocals)
    (a : Addr) (argsL rest : List Value) (hlen : ∀ sig, parseMethodDescriptor y.desc = some sig → argsL.length = sig.parameters.length) (hstack : g.stack = argsL.reverse ++ .ref a :: rest) (has : (Value.ref a :: argsL).toArray = as') (hdg : decode c.code g.pc = .ok (.invokespecial index, 3))
    (hy : y.cls ≠ "java/lang/invoke/MethodHandle" ∧ y.cls ≠ "java/lang/invoke/VarHandle" := by decide) (hW : 2 * g.monitorRoom + (rest.map fun v => v.category).sum ≤ W := by exact Nat.le_of_eq rfl) :
    ∃ v T' L, Stand p l e R s m args below meth c T' (locs ++ L) (cells + nc) (slots + ns) ∧ Q v T'.heap L ∧ ∀ target, Steps p.tables e below (T'.setTop { g with pc := g.pc + 3, stack := v.toList ++ rest }) target → Steps p.tables e below (T.setTop g) target := by
  obtain ⟨v, _, ⟨T', L', k', n'⟩, -, X', ⟨L, hQ, h1, h2, h3⟩, st⟩ := X.specialBack hx hy1 hown (mvT hZ w1) (mvT hZ w2) (mvT hZ w4) hy hB hg hsize (Steps.refl _) (a := a) (argsL := argsL) (rest := rest) hlen hstack hW hdg (fun _ _ => ⟨has, eT, hc, hs⟩)
  dsimp only [Pt.U, Pt.locs, Pt.cells, Pt.slots] at X' hQ h1 h2 h3 st
  subst h1 h2 h3
  exact ⟨v, T', L, X', hQ, fun _ k => st.trans k⟩
theorem own_callVB {y z : MethodName} {bytes : ByteArray} {maxL : Nat} {ret : Option FieldType} {as' : Array Value} {own C : String} {index : Nat} (X : Stand p l e R s m args below meth c T locs cells slots) (hx : p.tables.exec = Jvm.exec) (hZ : Z.Warmed39 s.vm) (hown : s.vm.findClass own = some m.cls)
    (w1 : (Jvm.Cond.methodLink own index y).before a0 Z = true) (wd : (Jvm.Cond.declares y).before a0 Z = true) (nf : NotFace s y) (wsel : (Jvm.Cond.selects C y z).before a0 Z = true) (w2 : (Jvm.Cond.instanceMethod z).before a0 Z = true) (w3 : (Jvm.Cond.initialized z.cls).before a0 Z = true) (w4 : (Jvm.Cond.code z bytes maxL ret).before a0 Z = true) (W nc ns : Nat) (hB : Back l R p e below s args z 3 W (fun A a => a = as' ∧ A.U.heap = h ∧ A.cells + nc ≤ R.cells ∧ A.slots + ns ≤ R.slots) (fun A _ v B => ∃ L, Q v B.U.heap L ∧ B.locs = A.locs ++ L ∧ B.cells = A.cells + nc ∧ B.slots = A.slots + ns)) 
    (hc : cells + nc ≤ R.cells) (hs : slots + ns ≤ R.slots) (eT : T.heap = h) {a : Addr} (E : Exa Z h a C) {g : JFrame} (hg : g.method = m) (hsize : g.locals.size = c.maxLocals)
    (argsL rest : List Value) (hlen : ∀ sig, parseMethodDescriptor y.desc = some sig → argsL.length = sig.parameters.length) (hstack : g.stack = argsL.reverse ++ .ref a :: rest) (has : (Value.ref a :: argsL).toArray = as') (hdg : decode c.code g.pc = .ok (.invokevirtual index, 3))
    (hy : y.cls ≠ "java/lang/invoke/MethodHandle" ∧ y.cls ≠ "java/lang/invoke/VarHandle" := by decide) (hW : 2 * g.monitorRoom + (rest.map fun v => v.category).sum ≤ W := by exact Nat.le_of_eq rfl) :
    ∃ v T' L, Stand p l e R s m args below meth c T' (locs ++ L) (cells + nc) (slots + ns) ∧ Q v T'.heap L ∧ ∀ target, Steps p.tables e below (T'.setTop { g with pc := g.pc + 3, stack := v.toList ++ rest }) target → Steps p.tables e below (T.setTop g) target := by
  obtain ⟨cq, kq, qa, qb, qc⟩ := isOf hZ eT E
  obtain ⟨v, _, ⟨T', L', k', n'⟩, -, X', ⟨L, hQ, h1, h2, h3⟩, st⟩ := X.virtualBack hx hown (mvT hZ w1) (mvT hZ wd) nf (mvT hZ wsel) (mvT hZ w2) hy hB qa qc hg hsize (Steps.refl _) (argsL := argsL) (rest := rest) hlen hstack hW hdg (fun _ _ => ⟨has, eT, hc, hs⟩)
  dsimp only [Pt.U, Pt.locs, Pt.cells, Pt.slots] at X' hQ h1 h2 h3 st
  subst h1 h2 h3
  exact ⟨v, T', L, X', hQ, fun _ k => st.trans k⟩
/-- the start's heap stands in h unchanged -/
theorem own_oldExt {h' : Heap} (O : Ext Z.heap h) (E : Ext h h') : Ext Z.heap h' := ⟨Nat.le_trans O.1 E.1, fun x c q => E.2 x c (O.2 x c q)⟩
theorem own_oldKeep {h' : Heap} {ws : List Addr} (O : Ext Z.heap h) (K : Keep h h' ws) (q : ∀ x ∈ ws, Z.heap.size ≤ x) : Ext Z.heap h' :=
  ⟨Nat.le_trans O.1 K.1, fun x c r => K.2.1 x c (O.2 x c r) fun z => absurd (Array.getElem?_eq_some_iff.mp r).1 (Nat.not_lt.mpr (q x z))⟩
theorem own_oldWr {h' : Heap} {a : Addr} {sl : Nat} {v : Value} (O : Ext Z.heap h) (W : Wr h h' a sl v) (q : Z.heap.size ≤ a) : Ext Z.heap h' := own_oldKeep O (Keep.of_wr W) (allS q all0)
theorem own_keepTrans {h0 h' : Heap} {ws : List Addr} (K : Keep h0 h ws) (K' : Keep h h' []) : Keep h0 h' ws := K.trans K' fun x q => nomatch q
theorem own_insKeep {h' : Heap} {ws : List Addr} {a : Addr} {C : String} {b : Bool} (F : Ins Z h a C b) (K : Keep h h' ws) : Ins Z h' a C b := by
  obtain ⟨cell, cT, h1, h2, h3⟩ := F
  obtain ⟨c', q1, q2, q3, -⟩ := K.2.2 a cell h1
  exact ⟨c', cT, q1, h2, by rw [q2, q3]; exact h3⟩
theorem own_cat1 {v : Value} (r : v.isRef = true) : v.category = 1 := by cases v <;> simp [Value.isRef, Value.category] at r ⊢
theorem own_fitsRef {v : Value} (t : FieldType) (r : v.isRef = true) (ht : t.isReference = true) : fits t v = true := by
  cases t <;> first | (cases ht; done) | (rcases ref_cases r with rfl | ⟨_, rfl⟩ <;> rfl)
theorem own_narRef {v : Value} (t : FieldType) (r : v.isRef = true) (ht : t.isReference = true) : narrow t v = v := by
  cases t <;> first | (cases ht; done) | (rcases ref_cases r with rfl | ⟨_, rfl⟩ <;> rfl)
theorem own_keepSub {h0 : Heap} {ws ws' : List Addr} (K : Keep h0 h ws) (q : ∀ x ∈ ws, x ∈ ws') : Keep h0 h ws' := ⟨K.1, fun x c r z => K.2.1 x c r fun u => z (q x u), K.2.2⟩
theorem own_neTy {a b : Addr} {k k' : ClassId} {ty ty' : FieldType} {z z' : Int32} {vs vs' : List Value} {d d' : Value} (F : Arv Z h a k ty z vs d) (G : Arv Z h b k' ty' z' vs' d') (hn : ty ≠ ty') : a ≠ b := by
  rintro rfl
  obtain ⟨c, A, -⟩ := F
  obtain ⟨c', A', -⟩ := G
  cases A.1.symm.trans A'.1
  obtain ⟨-, k1, q1, cm1, r1⟩ := A.2.1
  obtain ⟨-, k2, q2, cm2, r2⟩ := A'.2.1
  cases q1.symm.trans q2
  rw [r1] at r2
  cases r2
  exact hn rfl
theorem own_catR (a : Addr) : (Value.ref a).category = 1 := rfl
theorem own_catN : Value.null.category = 1 := rfl
theorem own_catI (a : Int32) : (Value.int a).category = 1 := rfl
theorem own_catJ (a : Int64) : (Value.long a).category = 2 := rfl
end OwnKit
/-- the state with these tables and this heap -/
abbrev own_at (Z : State) (vm : Vm) (h : Heap) : State := { Z with vm := vm, heap := h }
theorem own_byteV (u : UInt8) : byteValue u = .int u.toInt8.toInt32 := rfl
theorem own_slFacts {Z : State} {vm : Vm} {h : Heap} {a : Addr} {units : Array UInt16} (hW : Z.Warmed39 vm) (H : SlOf (own_at Z vm h) a units) (hlat : units.all (· < 256) = true) :
    ∃ (b : Addr) (k : ClassId), Exa Z h a "java/lang/String" ∧ Fld Z h a "java/lang/String" "coder" "B" (.int 0) ∧ Fld Z h a "java/lang/String" "value" "[B" (.ref b) ∧ Arv Z h b k .byte (Int32.ofNat units.size) (units.toList.map fun u => Value.int u.toUInt8.toInt8.toInt32) (.int 0) := by
  have hal : Z.vm.Alike (own_at Z vm h).vm := hW.alike
  obtain ⟨q, cS, rfl, ⟨⟨s1, s2, s3, ⟨cv, kv, iv', s4, s4'⟩, ⟨cc, kc, ic, s5, s5'⟩, s6, s7, s8, s9, s10, s11, s12, s13, s14, s15, s16⟩, hfS, hcS⟩, ⟨kS, k1, k2, k3⟩, hB, hby⟩ := H
  obtain ⟨kv', z4⟩ := ff_back hal s4
  obtain ⟨kc', z5⟩ := ff_back hal s5
  have hf : Z.vm.findClass "java/lang/String" = some q.sC.cls := by rw [hcS, ← hal.findClass]; exact hfS
  obtain ⟨kz, hkz, -⟩ := Vm.findClass_spec hf
  obtain ⟨kz', hkz', ekz⟩ := hal.2.2 _ _ hkz
  rw [hcS] at hkz'
  cases hkz'.symm.trans k1
  have hBZ : Z.vm.findClass "[B" = some q.SA.cls := by rw [← hal.findClass]; exact hB
  obtain ⟨kb, hkb, -⟩ := Vm.findClass_spec hBZ
  obtain ⟨kb', hkb', ekb⟩ := hal.2.2 _ _ hkb
  obtain ⟨hst, k9, hk9, comp, hkind⟩ := s11
  cases hk9.symm.trans hkb'
  have hsl : q.SA.slots = units.map fun u => byteValue u.toUInt8 := by rw [hby, SBG.stringBytes_lat hlat]
  have hsz : q.SA.slots.size = units.size := by rw [hsl, Array.size_map]
  have hlt : units.size < 2 ^ 31 := by omega
  have hn : (Int32.ofNat units.size).toNatClampNeg = units.size ∧ ¬ (Int32.ofNat units.size) < 0 := by
    have e : (Int32.ofNat units.size).toInt = units.size := by
      exact len_toInt hlt
    refine ⟨by simp [Int32.toNatClampNeg, e], ?_⟩
    rw [Int32.lt_iff_toInt_lt, e]; show ¬ ((units.size : Int) < 0); omega
  have H' : Has q.SA (units.toList.map fun u => Value.int u.toUInt8.toInt8.toInt32) (.int 0) := fun j hj => by
    have hj' : j < units.size := by omega
    rw [hsl]; simp [hj', own_byteV]
  refine ⟨q.sd, q.SA.cls, ⟨q.sC, kz, s1, hf, hkz, s3, fun _ => by rw [k3, ekz]⟩, ⟨q.sC, cc, kc', ic, q.fSC, s1, z5, s7, s2, s3, by rw [← hal.assignable]; exact s5', s9⟩, ⟨q.sC, cv, kv', iv', q.fSV, s1, z4, s6, s2, s3, by rw [← hal.assignable]; exact s4', s8⟩, q.SA, ⟨s10, ⟨hst, kb, hkb, comp, by rw [ekb] at hkind; exact hkind⟩, s12⟩, rfl, by rw [hsz, hn.1], hn.2, H', fun j hj => ?_⟩
  have e1 := s16 j hj
  rw [SBG.getD_of (H' j hj)] at e1
  exact e1
def own_L (Z : State) (a0 : Array Value) : Prop := ∀ e ∈ consts_1, ∃ text, (Jvm.Cond.stringLink e.1 e.2 text).before a0 Z = true
/-- whichever String the JVM holds for a constant of the list, she bears its text -/
def own_J (Z : State) (vm : Vm) (h : Heap) : Prop := ∀ e ∈ consts_1, ConstHeldL (own_at Z vm h) e.1 e.2
theorem own_Jstep {Z : State} {vm vm' : Vm} {h h' : Heap} {a0 : Array Value} (L : own_L Z a0) (hZ : Z.Warmed39 vm) (hJ : own_J Z vm h) (hW : (own_at Z vm h).Warmed39 vm')
    (hmv : ∀ a units, SlOf (own_at Z vm h) a units → SlOf (own_at Z vm' h') a units)
    (hfind : ∀ units a, vm'.interned.find? (fun p => p.1 == units) = some (units, a) → vm.interned.find? (fun p => p.1 == units) = some (units, a) ∨ SlOf (own_at Z vm' h') a units) : own_J Z vm' h' := by
  intro e he c k' cf i units a hc' hk' hcf' hp hu hor
  have hal : vm.Alike vm' := hW.alike
  have hc : vm.findClass e.1 = some c := by rw [← hal.findClass]; exact hc'
  obtain ⟨text, ht⟩ := L e he
  have ht' : (Jvm.Cond.stringLink e.1 e.2 text).before a0 (own_at Z vm h) = true := mvS (s := { Z with heap := h }) hZ ht
  obtain ⟨k, cf0, i0, units0, hk, hcf, hp0, hu0, hnm, -, -⟩ := Cond.stringLink_spec (s := own_at Z vm h) hc ht'
  obtain ⟨k2, hk2, hke, -, ee, -⟩ := hW.2.2.2 c k hk
  cases (show vm'.classes[c]? = some k' from hk').symm.trans hk2
  have hcfe : k'.cf = k.cf := by rw [hke]
  cases (hcfe ▸ hcf').symm.trans hcf
  cases hp.symm.trans hp0
  cases hu.symm.trans hu0
  have H := hJ e he c k cf i units
  rcases ee e.2 with e0 | ⟨hop, r, e1, hr | ⟨a3, t3, si, us, rfl, -, q3, q4, q5⟩⟩
  · rcases hor with h0 | ⟨h0, hf⟩
    · exact hmv _ _ (H a hc hk hcf hp hu (Or.inl (e0 ▸ h0)))
    · rcases hfind units a hf with hf | hs
      · exact hmv _ _ (H a hc hk hcf hp hu (Or.inr ⟨e0 ▸ h0, hf⟩))
      · exact hs
  · exfalso
    cases r <;> simp [State.rightAt, hk, hcf, hnm] at hr
  · have e3 : si = i := by
      rw [hcf] at q3
      have q := q3.symm.trans hp
      simpa using q
    subst e3
    have e4 : us = units := by
      rw [hcf] at q4
      simpa [ConstantPool.utf8?, hu] using q4.symm
    subst e4
    have ea : a3 = a := by
      rcases hor with h0 | ⟨h0, -⟩
      · have q := e1.symm.trans h0; simpa using q
      · have q := e1.symm.trans h0; simp at q
    subst ea
    rcases hfind us a3 q5 with hf | hs
    · exact hmv _ _ (H a3 hc hk hcf hp hu (Or.inr ⟨hop, hf⟩))
    · exact hs
theorem own_Jwarm {Z s : State} {vm vm' : Vm} {h : Heap} {a0 : Array Value} (L : own_L Z a0) (hZ : Z.Warmed39 vm) (hJ : own_J Z vm h) (hW : (s.setVm vm).WarmedH vm') : own_J Z vm' h := by
  have hW1 : (own_at Z vm h).WarmedH vm' := hW
  refine own_Jstep L hZ hJ hW1.wide (fun a u H => H.moved hW1.alike fun _ _ q => q) fun units a hf => Or.inl ?_
  have e : vm'.interned = vm.interned := hW1.interned_eq
  rw [← e]; exact hf
theorem own_Jext {Z : State} {vm : Vm} {h h' : Heap} (hJ : own_J Z vm h) (E : Ext h h') : own_J Z vm h' := fun e he c k cf i units a h1 h2 h3 h4 h5 h6 =>
  (hJ e he c k cf i units a h1 h2 h3 h4 h5 h6).moved (Vm.Alike.refl _) fun b c q => E.2 b c q
/-- the cell at w is no String and no byte[] -/
def own_Far (Z : State) (h : Heap) (w : Addr) : Prop := ∀ cell : Cell, h[w]? = some cell → ¬ Z.vm.findClass "java/lang/String" = some cell.cls ∧ ¬ Z.isArrayOf cell .byte
theorem own_farN {Z : State} {h : Heap} {w : Addr} (q : h.size ≤ w) : own_Far Z h w := fun cell hc => absurd (Array.getElem?_eq_some_iff.mp hc).1 (Nat.not_lt.mpr q)
theorem own_farE {Z : State} {h : Heap} {w : Addr} {C : String} {n : Nat} {a0 : Array Value} (E : Exa Z h w C) (hC : C ≠ "java/lang/String") (wi : (Jvm.Cond.instantiable C n).before a0 Z = true) : own_Far Z h w := fun cell hc => by
  obtain ⟨c1, k, e1, e2, e3, -, -⟩ := E
  cases hc.symm.trans e1
  refine ⟨fun q => ids_ne e2 q hC rfl, fun q => ?_⟩
  obtain ⟨c2, k2, i1, i2, i3, -⟩ := Cond.instantiable_spec wi
  cases e2.symm.trans i1
  cases e3.symm.trans i2
  obtain ⟨-, k3, j1, cm, j2⟩ := q
  cases e3.symm.trans j1
  rw [i3] at j2; cases j2
theorem own_farV {Z : State} {h : Heap} {w : Addr} {k : ClassId} {ty : FieldType} {z : Int32} {vs : List Value} {d : Value} {n : Nat} {a0 : Array Value} (V : Arv Z h w k ty z vs d) (hty : ty ≠ .byte) (wi : (Jvm.Cond.instantiable "java/lang/String" n).before a0 Z = true) : own_Far Z h w := fun cell hc => by
  obtain ⟨c1, A, -⟩ := V
  cases hc.symm.trans A.1
  obtain ⟨-, k3, j1, cm, j2⟩ := A.2.1
  refine ⟨fun q => ?_, fun q => ?_⟩
  · obtain ⟨c2, k2, i1, i2, i3, -⟩ := Cond.instantiable_spec wi
    cases q.symm.trans i1
    cases j1.symm.trans i2
    rw [i3] at j2; cases j2
  · obtain ⟨-, k4, r1, cm', r2⟩ := q
    cases j1.symm.trans r1
    rw [j2] at r2; cases r2
    exact hty rfl
theorem own_slKeep {Z : State} {vm : Vm} {h h' : Heap} {ws : List Addr} {a : Addr} {units : Array UInt16} (hZ : Z.Warmed39 vm) (H : SlOf (own_at Z vm h) a units) (K : Keep h h' ws) (far : ∀ w ∈ ws, own_Far Z h w) : SlOf (own_at Z vm h') a units := by
  obtain ⟨q, cS, h1, h2, h3, h4, h5⟩ := H
  have hal : Z.vm.Alike vm := hZ.alike
  obtain ⟨⟨s1, s2, s3, s4, s5, s6, s7, s8, s9, s10, s11, s12⟩, hfS, hcS⟩ := id h2
  have n1 : q.sa ∉ ws := fun m => (far _ m _ s1).1 (by rw [hcS, ← hal.findClass]; exact hfS)
  have n2 : q.sd ∉ ws := fun m => (far _ m _ s10).2 (by
    obtain ⟨t1, k, t2, cm, t3⟩ := s11
    obtain ⟨kb, hkb⟩ : ∃ kb, Z.vm.classes[q.SA.cls]? = some kb := by
      obtain ⟨kb, hkb, -⟩ := Vm.findClass_spec (show Z.vm.findClass "[B" = some q.SA.cls by rw [← hal.findClass]; exact h4)
      exact ⟨kb, hkb⟩
    obtain ⟨kb', hkb', ekb⟩ := hal.2.2 _ _ hkb
    cases t2.symm.trans hkb'
    exact ⟨t1, kb, hkb, cm, by rw [ekb] at t3; exact t3⟩)
  exact ⟨q, cS, h1, SBG.Sl.carry (U := own_at Z vm h) (U' := own_at Z vm h') (Vm.Alike.refl vm) (K.2.1 _ _ s1 n1) (K.2.1 _ _ s10 n2) h2, h3, h4, h5⟩
theorem own_Jkeep {Z : State} {vm : Vm} {h h' : Heap} {ws : List Addr} (hZ : Z.Warmed39 vm) (hJ : own_J Z vm h) (K : Keep h h' ws) (far : ∀ w ∈ ws, own_Far Z h w) : own_J Z vm h' := fun e he c k cf i units a h1 h2 h3 h4 h5 h6 =>
  own_slKeep hZ (hJ e he c k cf i units a h1 h2 h3 h4 h5 h6) K far
theorem own_Jwr {Z : State} {vm : Vm} {h h' : Heap} {w : Addr} {sl : Nat} {v : Value} (hZ : Z.Warmed39 vm) (hJ : own_J Z vm h) (W : Wr h h' w sl v) (far : own_Far Z h w) : own_J Z vm h' := own_Jkeep hZ hJ (Keep.of_wr W) (allS far all0)
theorem own_unitsEq {u v : Array UInt16} {text : String} (hu : utf16ToString? u = some text) (hv : utf16ToString? v = some text) (ht : ∀ c ∈ text.toList, c.toNat < 256) : u = v :=
  Array.toList_inj.mp ((Jvm.ClassFile.units_of_text hu ht).trans (Jvm.ClassFile.units_of_text hv ht).symm)
theorem own_slIn {lo hi : Nat} {W : State} {a : Addr} {units : Array UInt16} (H : SlIn lo hi W a units) : SlOf W a units := by
  obtain ⟨q, cS, h1, h2, h3, h4, h5, -⟩ := H
  exact ⟨q, cS, h1, h2, h3, h4, h5⟩
theorem own_slState {W W' : State} {a : Addr} {units : Array UInt16} (H : SlOf W a units) (hv : W.vm = W'.vm) (hh : W.heap = W'.heap) : SlOf W' a units :=
  H.moved (by rw [hv]; exact Vm.Alike.refl _) fun b c q => by rw [← hh]; exact q
section OwnLdc
variable {p : Program} {l : Launch} {e : Env} {R : Room} {s : State} {vm0 : Vm} {m : MethodId} {args : Array Value} {below : List Frame} {meth : Method} {c : Code} {T : State} {locs : List Loc} {cells slots : Nat} {Z : State} {a0 : Array Value} {h : Heap}
theorem own_reb (X : Stand p l e R s m args below meth c T locs cells slots) (hc : cells ≤ R.cells) (hl : slots ≤ R.slots) :
    Stand p l e { R with cells := R.cells - cells, slots := R.slots - slots } { s with heap := T.heap, slotsUsed := T.slotsUsed } m args below meth c T [] 0 0 := by
  have hroom : State.hasRoom { s with heap := T.heap, slotsUsed := T.slotsUsed } e.platform { R with cells := R.cells - cells, slots := R.slots - slots } = true := by
    have h := X.room
    have u1 := X.heapSize
    have u2 := X.used
    have u3 := X.book
    simp only [State.hasRoom, Bool.and_eq_true, decide_eq_true_eq] at h ⊢
    obtain ⟨⟨⟨⟨h1, h2⟩, h3⟩, h4⟩, h5⟩ := h
    exact ⟨⟨⟨⟨h1, h2⟩, by omega⟩, by omega⟩, u3⟩
  refine ⟨X.admits, X.cas, X.clock, X.frames, hroom, X.hears, X.method, X.code, X.here, X.tail, X.warmed, X.limits, X.bytes, X.same.1, Nat.le_refl _, Nat.le_refl _, ?_, ?_, fun a c h => ⟨c, h, rfl, rfl, fun _ _ => rfl⟩⟩
  · show T.slotsUsed = T.slotsUsed + ((T.heap.toList.drop T.heap.size).map (·.slots.size)).sum
    rw [List.drop_of_length_le (by simp)]; rfl
  · show ((T.heap.toList.drop T.heap.size).map (·.slots.size)).sum ≤ 0
    rw [List.drop_of_length_le (by simp)]; exact Nat.le_refl _
theorem own_rebBack (X : Stand p l e R s m args below meth c T locs cells slots) {R' : Room} {vm1 : Vm} {T2 : State} {k n : Nat} (hW : s.Warmed39 vm1)
    (X2 : Stand p l e R' (({ s with heap := T.heap, slotsUsed := T.slotsUsed } : State).setVm vm1) m args below meth c T2 [] k n) : Stand p l e R (s.setVm vm1) m args below meth c T2 locs (cells + k) (slots + n) := by
  have Y := X.retabled hW
  have h2 : State.sameButNew (T.setVm vm1) (T2.setVm vm1) [] k n := by
    obtain ⟨q1, q2, q3, q4, q5, q6⟩ := X2.same
    refine ⟨?_, q2, q3, q4, q5, q6⟩
    have e1 : T.setVm vm1 = { (s.setVm vm1).setFrames T.frames with heap := T.heap, slotsUsed := T.slotsUsed } := Y.same.1
    have key : ∀ (F G : List Frame) (A H : Heap) (B U : Nat), ({ ({ (s.setVm vm1).setFrames F with heap := A, slotsUsed := B } : State).setFrames G with heap := H, slotsUsed := U } : State) = { (s.setVm vm1).setFrames G with heap := H, slotsUsed := U } := fun F G A H B U => by
      have e2 : ({ ({ (s.setVm vm1).setFrames F with heap := A, slotsUsed := B } : State).setFrames G with heap := H, slotsUsed := U } : State) = { ((s.setVm vm1).setFrames F).setFrames G with heap := H, slotsUsed := U } := rfl
      rw [e2, State.setFrames_setFrames]
    have e3 : (({ (T.setVm vm1).setFrames T2.frames with heap := T2.heap, slotsUsed := T2.slotsUsed } : State)) = { (s.setVm vm1).setFrames T2.frames with heap := T2.heap, slotsUsed := T2.slotsUsed } := by
      rw [e1]; exact key _ _ _ _ _ _
    exact q1.trans e3.symm
  have h3 := Y.same.trans h2
  rw [List.append_nil] at h3
  exact ⟨X.admits, X.cas, X.clock, X.frames, Y.room, Y.hears, Y.method, X.code, X2.here, X2.tail, X2.warmed, X2.limits, X2.bytes, h3⟩
/-- a load of a literal anywhere: the walk re-based on the state in which it stands -/
theorem own_ldcK (X : Stand p l e R (s.setVm vm0) m args below meth c T locs cells slots) (hS : s.Since vm0 h.size) (hx : p.tables.exec = Jvm.exec) (hZ : Z.Warmed39 (s.setVm vm0).vm) {own text : String} {index : Nat} (hown : (s.setVm vm0).vm.findClass own = some m.cls)
    (L : own_L Z a0) (hmem : (own, index) ∈ consts_1) (w : (Jvm.Cond.stringLink own index text).before a0 Z = true) (wS : ∀ a ∈ Bundle.stringAtoms, a.before a0 Z = true) (eT : T.heap = h)
    (hJ : own_J Z vm0 h) (ht : ∀ c ∈ text.toList, c.toNat < 256)
    {g : JFrame} (hg : g.method = m) (hd : decode c.code g.pc = .ok (.ldc index, 2)) {n : Nat} (hn : 4 * text.toList.length ≤ n) (hbig : n ≤ 536870912) (hc : cells + 2 ≤ R.cells) (hl : slots + (n + 4) ≤ R.slots) :
    ∃ (a : Addr) (T' : State) (h' : Heap) (vm1 : Vm) (units : Array UInt16), Stand p l e R (s.setVm vm1) m args below meth c T' locs (cells + 2) (slots + (n + 4)) ∧ T'.heap = h' ∧ Ext h h' ∧ s.Since vm1 h'.size ∧ Z.Warmed39 (s.setVm vm1).vm ∧ (s.setVm vm1).vm.findClass own = some m.cls ∧ own_J Z vm1 h' ∧
      Lit (s.setVm vm1) own index a ∧ utf16ToString? units = some text ∧ SlOf (own_at Z vm1 h') a units ∧ ∀ target, Steps p.tables e below (T'.setTop { g with pc := g.pc + 2, stack := .ref a :: g.stack }) target → Steps p.tables e below (T.setTop g) target := by
  have w0 : (Jvm.Cond.stringLink own index text).before args (s.setVm vm0) = true := mvS hZ w
  obtain ⟨k, cf, i, units, hk, hcf, hp, hu, hnm, htext, hres⟩ := Cond.stringLink_spec (s := s.setVm vm0) hown w0
  rcases hres with hop | ⟨a, hra⟩
  · subst eT
    have hH : ConstHeldL ({ (s.setVm vm0) with heap := T.heap, slotsUsed := T.slotsUsed } : State) own index := fun c' k' cf' i' u' a' q1 q2 q3 q4 q5 q6 => own_slState (hJ _ hmem c' k' cf' i' u' a' q1 q2 q3 q4 q5 q6) rfl rfl
    have w0' : (Jvm.Cond.stringLink own index text).before args ({ (s.setVm vm0) with heap := T.heap, slotsUsed := T.slotsUsed } : State) = true := mvS (s := { (s.setVm vm0) with heap := T.heap, slotsUsed := T.slotsUsed }) hZ w
    have hZ' : Z.Warmed39 ({ (s.setVm vm0) with heap := T.heap, slotsUsed := T.slotsUsed } : State).vm := hZ
    obtain ⟨a, T2, X2', hS2', ⟨k2, hk2, hr2⟩, hb, -, hint, ⟨u2, ht2, hin⟩, st⟩ := (own_reb X (by omega) (by omega)).ldcColdF (fun _ _ q => q) hx (own := own) hown w0' (fun d hd => by
      have q := wS d hd
      simp only [Bundle.stringAtoms, List.mem_cons, List.not_mem_nil, or_false] at hd
      rcases hd with rfl | rfl | rfl | rfl | rfl | rfl | rfl
      · exact mv hZ' q
      · exact mv hZ' q
      · exact mvA hZ' q
      · exact mv hZ' q
      · exact mv hZ' q
      · exact mv hZ' q
      · exact mv hZ' q) hH (fun u hu => Jvm.ClassFile.lat_of_text hu ht) hg hd hn hbig (by show 0 + 2 ≤ R.cells - cells; omega) (by show 0 + (n + 4) ≤ R.slots - slots; omega)
    have E := ext_of hb
    have hW2 : (s.setVm vm0).Warmed39 T2.vm := hS2'.1
    have hS2 : (s.setVm vm0).Since T2.vm T2.heap.size := ⟨hW2, fun j pr hj hp => ⟨Nat.le_trans X.same.2.1 (hS2'.2 j pr hj hp).1, (hS2'.2 j pr hj hp).2⟩⟩
    have X2 : Stand p l e R ((s.setVm vm0).setVm T2.vm) m args below meth c T2 locs (cells + (0 + 2)) (slots + (0 + (n + 4))) := own_rebBack X hW2 X2'
    rw [Nat.zero_add, Nat.zero_add] at X2
    have hTi : T.vm.interned = vm0.interned := X.warmed.interned_eq
    rw [hTi] at hint
    have hsl : SlOf (own_at Z T2.vm T2.heap) a u2 := own_slState (own_slIn hin) rfl rfl
    have hu2 : u2 = units := own_unitsEq ht2 htext ht
    subst hu2
    have hq5 : T2.vm.interned.find? (fun p => p.1 == u2) = some (u2, a) := by
      obtain ⟨k3, hk3, hke, -, ee, -⟩ := hW2.2.2.2 m.cls k hk
      cases hk3.symm.trans hk2
      rcases ee index with e0 | ⟨-, r, e1, hr | ⟨a3, t3, si, us, rfl, -, q3, q4, q5⟩⟩
      · rw [hr2, hop] at e0; cases e0
      · exfalso
        have hk0 : vm0.classes[m.cls]? = some k := hk
        cases r <;> simp [State.rightAt, hk0, hcf, hnm] at hr
      · rw [hcf] at q3 q4
        have e3 : si = i := by have q := q3.symm.trans hp; simpa using q
        subst e3
        have e4 : us = u2 := by simpa [ConstantPool.utf8?, hu] using q4.symm
        subst e4
        have ea : a3 = a := by have q := e1.symm.trans hr2; simpa using q
        subst ea
        exact q5
    have hZ2 : Z.Warmed39 T2.vm := State.Warmed39.trans (t := s.setVm vm0) hZ hW2
    refine ⟨a, T2, T2.heap, T2.vm, u2, X2, rfl, E, hS.trans hS2 E.1, hZ2, by rw [show (s.setVm T2.vm).vm = T2.vm from rfl, hW2.alike.findClass]; exact hown, ?_, ?_, ht2, hsl, st⟩
    · refine own_Jstep L hZ hJ hW2 (fun a' u' H => H.moved hW2.alike fun b c q => E.2 b c q) fun u' a' hf => ?_
      rcases hint with q | ⟨u3, a3, hu3, q⟩
      · rw [q] at hf; exact Or.inl hf
      · rw [q, Array.find?_push] at hf
        cases hold : vm0.interned.find? (fun p => p.1 == u') with
        | some pr => rw [hold] at hf; simp at hf; exact Or.inl (hold.trans (by rw [hf]))
        | none =>
          rw [hold] at hf
          simp only [Option.none_or] at hf
          split at hf
          · cases hf
            have e5 : u' = u2 := own_unitsEq hu3 ht2 ht
            subst e5
            have e6 : a' = a := by
              rw [q, Array.find?_push, hold] at hq5
              simpa using hq5
            subst e6
            exact Or.inr hsl
          · cases hf
    · have hf : T2.vm.findClass own = some m.cls := by rw [hW2.alike.findClass]; exact hown
      simp [Lit, State.resolvedAt?, hf, hk2, hr2]
  · have hLit : Lit (s.setVm vm0) own index a := by
      have hf : vm0.findClass own = some m.cls := hown
      have hk' : vm0.classes[m.cls]? = some k := hk
      simp [Lit, State.resolvedAt?, hf, hk', hra]
    have hsl : SlOf (own_at Z vm0 h) a units := hJ _ hmem m.cls k cf i units a hown hk hcf hp hu (Or.inl hra)
    refine ⟨a, T, h, vm0, units, X.more (by omega) (by omega), eT, ⟨Nat.le_refl _, fun _ _ q => q⟩, hS, hZ, hown, hJ, hLit, htext, hsl, ldcAgain X hx hZ hown w hLit hg hd⟩
end OwnLdc
/-- no String that the JVM holds for a constant of the list is x -/
def own_Apart (vm : Vm) (x : Addr) : Prop := ∀ e ∈ consts_1, ∀ (c : ClassId) (k : Class) (cf : ClassFile) (i : Nat) (units : Array UInt16) (a : Addr), vm.findClass e.1 = some c → vm.classes[c]? = some k → k.cf = some cf →
    cf.constantPool[e.2]? = some (.string i) → cf.constantPool[i]? = some (.utf8 units) → (k.resolved[e.2]? = some (some (.string a)) ∨ (k.resolved[e.2]? = some none ∧ vm.interned.find? (fun p => p.1 == units) = some (units, a))) → a ≠ x
theorem own_slValue {Z : State} {vm : Vm} {h : Heap} {a : Addr} {units : Array UInt16} (hZ : Z.Warmed39 vm) (H : SlOf (own_at Z vm h) a units) : ∃ b, Fld Z h a "java/lang/String" "value" "[B" (.ref b) := by
  have hal : Z.vm.Alike (own_at Z vm h).vm := hZ.alike
  obtain ⟨q, cS, rfl, ⟨⟨s1, s2, s3, ⟨cv, kv, iv', s4, s4'⟩, -, s6, -, s8, -⟩, -, -⟩, -⟩ := H
  obtain ⟨kv', z4⟩ := ff_back hal s4
  exact ⟨q.sd, q.sC, cv, kv', iv', q.fSV, s1, z4, s6, s2, s3, by rw [← hal.assignable]; exact s4', s8⟩
theorem own_apart {Z : State} {vm : Vm} {h : Heap} {x : Addr} (hZ : Z.Warmed39 vm) (hJ : own_J Z vm h) (F : Fld Z h x "java/lang/String" "value" "[B" .null) : own_Apart vm x := fun e he c k cf i units a h1 h2 h3 h4 h5 h6 => by
  obtain ⟨b, G⟩ := own_slValue hZ (hJ e he c k cf i units a h1 h2 h3 h4 h5 h6)
  exact Fld.ne G F (fun q => nomatch q)
theorem own_JkeepS {Z : State} {vm : Vm} {h h' : Heap} {x : Addr} {n : Nat} {a0 : Array Value} (hZ : Z.Warmed39 vm) (hJ : own_J Z vm h) (K : Keep h h' [x]) (hA : own_Apart vm x) (E : Exa Z h x "java/lang/String") (wi : (Jvm.Cond.instantiable "java/lang/String" n).before a0 Z = true) : own_J Z vm h' := fun e he c k cf i units a h1 h2 h3 h4 h5 h6 => by
  have ha : a ≠ x := hA e he c k cf i units a h1 h2 h3 h4 h5 h6
  obtain ⟨q, cS, e1, g2, g3, g4, g5⟩ := hJ e he c k cf i units a h1 h2 h3 h4 h5 h6
  have hal : Z.vm.Alike vm := hZ.alike
  obtain ⟨⟨s1, s2, s3, s4, s5, s6, s7, s8, s9, s10, s11, s12⟩, hfS, hcS⟩ := id g2
  have n2 : q.sd ≠ x := fun m => by
    obtain ⟨t1, k', t2, cm, t3⟩ := s11
    obtain ⟨kb, hkb, -⟩ := Vm.findClass_spec (show Z.vm.findClass "[B" = some q.SA.cls by rw [← hal.findClass]; exact g4)
    obtain ⟨kb', hkb', ekb⟩ := hal.2.2 _ _ hkb
    cases t2.symm.trans hkb'
    obtain ⟨c1, kx, x1, x2, x3, -, -⟩ := E
    cases (m ▸ s10).symm.trans x1
    obtain ⟨c2, k2, i1, i2, i3, -⟩ := Cond.instantiable_spec wi
    cases x2.symm.trans i1
    cases hkb.symm.trans i2
    rw [ekb] at t3
    rw [i3] at t3; cases t3
  exact ⟨q, cS, e1, SBG.Sl.carry (U := own_at Z vm h) (U' := own_at Z vm h') (Vm.Alike.refl vm) (K.2.1 _ _ s1 (by rw [e1]; simpa using ha)) (K.2.1 _ _ s10 (by simpa using n2)) g2, g3, g4, g5⟩
theorem own_JwrS {Z : State} {vm : Vm} {h h' : Heap} {x : Addr} {n sl : Nat} {v : Value} {a0 : Array Value} (hZ : Z.Warmed39 vm) (hJ : own_J Z vm h) (W : Wr h h' x sl v) (hA : own_Apart vm x) (E : Exa Z h x "java/lang/String") (wi : (Jvm.Cond.instantiable "java/lang/String" n).before a0 Z = true) : own_J Z vm h' := own_JkeepS hZ hJ (Keep.of_wr W) hA E wi
theorem own_litFacts {Z : State} {vm : Vm} {h : Heap} {a : Addr} {units : Array UInt16} {text : String} (hW : Z.Warmed39 vm) (H : SlOf (own_at Z vm h) a units) (hu : utf16ToString? units = some text) (ht : ∀ c ∈ text.toList, c.toNat < 256) :
    ∃ (b : Addr) (k : ClassId), Exa Z h a "java/lang/String" ∧ Fld Z h a "java/lang/String" "coder" "B" (.int 0) ∧ Fld Z h a "java/lang/String" "value" "[B" (.ref b) ∧ Arv Z h b k .byte (Int32.ofNat text.toList.length) (text.toList.map fun c => Value.int c.toNat.toUInt16.toUInt8.toInt8.toInt32) (.int 0) := by
  have e := Jvm.ClassFile.units_of_text hu ht
  obtain ⟨b, k, h1, h2, h3, h4⟩ := own_slFacts hW H (Jvm.ClassFile.lat_of_text hu ht)
  refine ⟨b, k, h1, h2, h3, ?_⟩
  have e2 : units.size = text.toList.length := by rw [← Array.length_toList, e, List.length_map]
  rw [e, List.map_map, e2] at h4
  exact h4
/-- the run from U comes to a return whose value, heap and written places Q takes; it has made at most kc cells of ks slots; String constants may have been resolved on the way -/
def own_GoW (p : Program) (e : Env) (below : List Frame) (s Z : State) (Q : Option Value → Heap → List Loc → Prop) (kc ks : Nat) (U : State) : Prop :=
  ∃ t o, Steps p.tables e below U t ∧ t.status = .running ∧ Ended t below o ∧ ∃ v L, o = .returned v ∧ (Q v t.heap L ∧ own_J Z t.vm t.heap) ∧ ReturnedEndW s o t L kc ks
section OwnKitW
variable {p : Program} {l : Launch} {e : Env} {R : Room} {s : State} {vm0 : Vm} {m : MethodId} {args : Array Value} {below : List Frame} {meth : Method} {c : Code} {T : State} {locs : List Loc} {cells slots kc ks : Nat} {Z : State} {a0 : Array Value} {h : Heap} {Q : Option Value → Heap → List Loc → Prop}
theorem own_since {vm : Vm} {k k' : Nat} (hS : s.Since vm k) (q : k ≤ k') : s.Since vm k' := ⟨hS.1, fun j p hj hp => ⟨(hS.2 j p hj hp).1, Nat.lt_of_lt_of_le (hS.2 j p hj hp).2 q⟩⟩
theorem own_goW {U U' : State} (f : ∀ t, Steps p.tables e below U' t → Steps p.tables e below U t) (g : own_GoW p e below s Z Q kc ks U') : own_GoW p e below s Z Q kc ks U := by
  obtain ⟨t, o, a, r⟩ := g
  exact ⟨t, o, f t a, r⟩
theorem own_sameMono {L : List Loc} {k n : Nat} {t : State} (hq : s.sameButNew t L k n) (hc : k ≤ kc) (hs : n ≤ ks) : s.sameButNew t L kc ks := hq.mono hc hs
theorem own_endW (X : Stand p l e R (s.setVm vm0) m args below meth c T locs cells slots) (hS : s.Since vm0 h.size) (hL : own_L Z a0) (hZ : Z.Warmed39 (s.setVm vm0).vm) (hJ : own_J Z vm0 h) (hlk : meth.locks = false) (eT : T.heap = h) {v : Option Value} (hv : meth.sig.returnType = none → v = none) (hc : cells ≤ kc) (hs : slots ≤ ks) (hq : Q v h locs) {U : State}
    (hst : ∀ fs, (∀ (f : JFrame) (acts : List Action), f.method = m → f.locked = none → f.entered = [] → (doReturn e (T.setTop f) acts v).1 = T.setFrames fs) → Steps p.tables e below U (T.setFrames fs)) : own_GoW p e below s Z Q kc ks U := by
  obtain ⟨fs, hr, hrun, hended, h1, h2, h3, h4⟩ := X.leaveW hS (by rw [eT]; exact Nat.le_refl _) (v := v) hv hlk
  refine ⟨_, _, hst fs hr, hrun, hended, v, locs, rfl, ⟨?_, ?_⟩, h1, h2, h3, own_sameMono h4 hc hs⟩
  · show Q v T.heap locs
    rw [eT]; exact hq
  · show own_J Z T.vm T.heap
    rw [eT]; exact own_Jwarm hL hZ hJ X.warmed
theorem own_retNW (X : Stand p l e R (s.setVm vm0) m args below meth c T locs cells slots) (hS : s.Since vm0 h.size) (hL : own_L Z a0) (hZ : Z.Warmed39 (s.setVm vm0).vm) (hJ : own_J Z vm0 h) (hx : p.tables.exec = Jvm.exec) (hlk : meth.locks = false) (eT : T.heap = h) {pc : Nat} {Ls : Array Slot} {z : Int32} {t : FieldType} {rest : List Value} (hret : meth.sig.returnType = some t) (ht : t = .boolean ∨ t = .byte ∨ t = .char ∨ t = .short)
    (hd : decode c.code pc = .ok (.ireturn, 1)) (hc : cells ≤ kc) (hs : slots ≤ ks) (hq : Q (some (.int (nar t z))) h locs) : own_GoW p e below s Z Q kc ks (T.setTop (mkF m pc Ls (.int z :: rest))) :=
  own_endW X hS hL hZ hJ hlk eT (fun q => by rw [hret] at q; cases q) hc hs hq fun fs hr => retN X hx hret ht hd hr
theorem own_retIW (X : Stand p l e R (s.setVm vm0) m args below meth c T locs cells slots) (hS : s.Since vm0 h.size) (hL : own_L Z a0) (hZ : Z.Warmed39 (s.setVm vm0).vm) (hJ : own_J Z vm0 h) (hx : p.tables.exec = Jvm.exec) (hlk : meth.locks = false) (eT : T.heap = h) {pc : Nat} {Ls : Array Slot} {z : Int32} {rest : List Value} (hret : meth.sig.returnType = some .int)
    (hd : decode c.code pc = .ok (.ireturn, 1)) (hc : cells ≤ kc) (hs : slots ≤ ks) (hq : Q (some (.int z)) h locs) : own_GoW p e below s Z Q kc ks (T.setTop (mkF m pc Ls (.int z :: rest))) :=
  own_endW X hS hL hZ hJ hlk eT (fun q => by rw [hret] at q; cases q) hc hs hq fun fs hr => retOut X hx hret rfl (Or.inl ⟨rfl, Or.inl rfl, z, rfl⟩) hd hr
theorem own_retJW (X : Stand p l e R (s.setVm vm0) m args below meth c T locs cells slots) (hS : s.Since vm0 h.size) (hL : own_L Z a0) (hZ : Z.Warmed39 (s.setVm vm0).vm) (hJ : own_J Z vm0 h) (hx : p.tables.exec = Jvm.exec) (hlk : meth.locks = false) (eT : T.heap = h) {pc : Nat} {Ls : Array Slot} {z : Int64} {rest : List Value} (hret : meth.sig.returnType = some .long)
    (hd : decode c.code pc = .ok (.lreturn, 1)) (hc : cells ≤ kc) (hs : slots ≤ ks) (hq : Q (some (.long z)) h locs) : own_GoW p e below s Z Q kc ks (T.setTop (mkF m pc Ls (.long z :: rest))) :=
  own_endW X hS hL hZ hJ hlk eT (fun q => by rw [hret] at q; cases q) hc hs hq fun fs hr => retOut X hx hret rfl (Or.inr (Or.inl ⟨rfl, rfl, z, rfl⟩)) hd hr
theorem own_retAW (X : Stand p l e R (s.setVm vm0) m args below meth c T locs cells slots) (hS : s.Since vm0 h.size) (hL : own_L Z a0) (hZ : Z.Warmed39 (s.setVm vm0).vm) (hJ : own_J Z vm0 h) (hx : p.tables.exec = Jvm.exec) (hlk : meth.locks = false) (eT : T.heap = h) {pc : Nat} {Ls : Array Slot} {v : Value} {t : FieldType} {rest : List Value} (hret : meth.sig.returnType = some t) (ht : t.isReference = true) (hv : v.isRef = true)
    (hd : decode c.code pc = .ok (.areturn, 1)) (hc : cells ≤ kc) (hs : slots ≤ ks) (hq : Q (some v) h locs) : own_GoW p e below s Z Q kc ks (T.setTop (mkF m pc Ls (v :: rest))) :=
  own_endW X hS hL hZ hJ hlk eT (fun q => by rw [hret] at q; cases q) hc hs hq fun fs hr => retOut X hx hret (by cases t <;> first | (cases ht; done) | (rcases ref_cases hv with rfl | ⟨_, rfl⟩ <;> rfl)) (Or.inr (Or.inr (Or.inr (Or.inr ⟨rfl, ht, hv⟩)))) hd hr
theorem own_retVW (X : Stand p l e R (s.setVm vm0) m args below meth c T locs cells slots) (hS : s.Since vm0 h.size) (hL : own_L Z a0) (hZ : Z.Warmed39 (s.setVm vm0).vm) (hJ : own_J Z vm0 h) (hx : p.tables.exec = Jvm.exec) (hlk : meth.locks = false) (eT : T.heap = h) {pc : Nat} {Ls : Array Slot} (hret : meth.sig.returnType = none)
    (hd : decode c.code pc = .ok (.return_, 1)) (hc : cells ≤ kc) (hs : slots ≤ ks) (hq : Q none h locs) : own_GoW p e below s Z Q kc ks (T.setTop (mkF m pc Ls [])) :=
  own_endW X hS hL hZ hJ hlk eT (fun _ => rfl) hc hs hq fun fs hr => X.returnOut hx hret hd hr
theorem own_metW {y : MethodName} {bytes : ByteArray} {maxL : Nat} {ret : Option FieldType} {ws : List Jvm.Cond} {rm : Room} {as' : Array Value} (kc ks : Nat) (hpl : plainFor y = true)
    (body : ∀ (p : Program) (e : Env) (s : State) (vm0 : Vm) (m : MethodId) (below : List Frame) (meth : Method) (c : Code) (T : State), Stand p l e rm (s.setVm vm0) m as' below meth c T [] 0 0 → s.Since vm0 h.size → own_J Z vm0 h → own_J Z s.vm s.heap → Z.Warmed39 s.vm → IB s vm0 [] → s.heap = h → p.tables.exec = Jvm.exec → c.code = bytes → c.maxLocals = maxL → meth.sig.returnType = ret → meth.locks = false → Z.Warmed39 (s.setVm vm0).vm → (s.setVm vm0).vm.findClass y.cls = some m.cls → meth.name = y.name → T.heap = h →
      own_GoW p e below s Z Q kc ks (T.setTop (entryFrame m as' maxL))) :
    MetFree l y (head1 (Jvm.Cond.code y bytes maxL ret :: ws) rm) (fun a U => a = as' ∧ Z.Warmed39 U.vm ∧ U.heap = h ∧ own_J Z U.vm U.heap) (fun _ _ _ _ _ => True) (fun _ U o U' => ∃ v L, o = .returned v ∧ (Q v U'.heap L ∧ own_J Z U'.vm U'.heap) ∧ ReturnedEndW U o U' L kc ks) := by
  refine MetFree.of_bodySF hpl hisR ?_
  intro p e s m args below meth c s₁ Bd hml hP hK
  obtain ⟨rfl, hZ, hh, hJ⟩ := hP
  obtain ⟨t, o, h1, h2, h3, h4⟩ := body p e s s.vm m below meth c s₁ (Stand.of_body Bd) ((State.WarmedH.refl s).since _) (by rw [← hh]; exact hJ) hJ hZ IB.start hh Bd.exec Bd.bytes hml Bd.returns Bd.notSynchronized hZ (findClass_of_methodNamed Bd.named) (name_of_methodNamed Bd.named Bd.method).1 (by rw [← hh, Bd.state]; rfl)
  exact ⟨t, o, h1, h2, h3, h4⟩
abbrev own_MetW (l : Launch) (Z : State) (h : Heap) (y : MethodName) (bytes : ByteArray) (maxL : Nat) (ret : Option FieldType) (rm : Room) (as' : Array Value) (Q : Option Value → Heap → List Loc → Prop) : Prop :=
  MetFree l y (head1 [Jvm.Cond.code y bytes maxL ret] rm) (fun a U => a = as' ∧ Z.Warmed39 U.vm ∧ U.heap = h ∧ own_J Z U.vm U.heap) (fun _ _ _ _ _ => True) (fun _ U o U' => ∃ v L, o = .returned v ∧ (Q v U'.heap L ∧ own_J Z U'.vm U'.heap) ∧ ReturnedEndW U o U' L rm.cells rm.slots)
end OwnKitW
section OwnBackJ
variable {p : Program} {l : Launch} {e : Env} {R : Room} {s : State} {vm0 : Vm} {m : MethodId} {args : Array Value} {below : List Frame} {meth : Method} {c : Code} {T : State} {locs : List Loc} {cells slots kc ks : Nat} {Z : State} {a0 : Array Value} {h : Heap} {Q : Option Value → Heap → List Loc → Prop}
theorem own_backJ {y : MethodName} {bytes : ByteArray} {maxL : Nat} {ret : Option FieldType} {rm : Room} {len W : Nat} {as' : Array Value} (hM : own_MetW l Z h y bytes maxL ret rm as' Q) (L : own_L Z a0)
    (hZ : Z.Warmed39 s.vm) (hJ : own_J Z s.vm h) (wc : (Jvm.Cond.code y bytes maxL ret).before a0 Z = true) (wz : (Jvm.Cond.initialized y.cls).before a0 Z = true) (hf : rm.frames + 1 ≤ R.frames) (hl : W + (maxL + 11) + rm.locals ≤ R.locals) :
    BackS l R p e below s args y len W (fun A a => a = as' ∧ A.U.heap = h ∧ A.cells + rm.cells ≤ R.cells ∧ A.slots + rm.slots ≤ R.slots)
      (fun A _ v B => ∃ L, (Q v B.U.heap L ∧ own_J Z B.U.vm B.U.heap) ∧ B.locs = A.locs ++ L ∧ B.cells = A.cells + rm.cells ∧ B.slots = A.slots + rm.slots) :=
  BackS.of_freeW (bytes := bytes) (maxL := maxL) (ret := ret) (E := fun _ _ o t L k n => k = rm.cells ∧ n = rm.slots ∧ ∃ v, o = .returned v ∧ (Q v t.heap L ∧ own_J Z t.vm t.heap)) hM hf hl
    (fun m meth c A a Y hp => have hU : Z.Warmed39 A.U.vm := wtrans hZ Y.warmed
      ⟨by show (Jvm.Cond.and _ .tt).before a A.U = true; rw [Cond.before_and, mv hU wc]; rfl, mv hU wc, mv hU wz, hp.2.2.1, hp.2.2.2⟩)
    (fun m meth c A a g mk Y hp => ⟨hp.1, wtrans hZ Y.warmed, hp.2.1, by
      have q : own_J Z A.U.vm h := own_Jwarm (s := s) L hZ hJ Y.warmed
      rw [← hp.2.1] at q; exact q⟩) (fun _ _ _ _ _ _ _ _ _ => trivial)
    (fun _ _ _ _ ⟨v, L, h1, h2, h3⟩ => ⟨L, _, _, h3, rfl, rfl, v, h1, h2⟩)
    (fun m meth c A a g mk v t L k n Y hp _ _ ⟨e1, e2, v', e3, e4⟩ => by cases e3; subst e1 e2; exact ⟨L, e4, rfl, rfl, rfl⟩)
end OwnBackJ
section OwnKitW2
variable {p : Program} {l : Launch} {e : Env} {R : Room} {s : State} {vm0 : Vm} {m : MethodId} {args : Array Value} {below : List Frame} {meth : Method} {c : Code} {T : State} {locs : List Loc} {cells slots kc ks : Nat} {Z : State} {a0 : Array Value} {h : Heap} {Q : Option Value → Heap → List Loc → Prop}
theorem own_callSW {y : MethodName} {bytes : ByteArray} {maxL : Nat} {ret : Option FieldType} {rm : Room} {as' : Array Value} {own : String} {index : Nat} (X : Stand p l e R (s.setVm vm0) m args below meth c T locs cells slots) (hS : s.Since vm0 h.size) (hL : own_L Z a0) (hJ : own_J Z vm0 h) (hx : p.tables.exec = Jvm.exec) (hZ : Z.Warmed39 (s.setVm vm0).vm) (hown : (s.setVm vm0).vm.findClass own = some m.cls)
    (w1 : (Jvm.Cond.methodLink own index y).before a0 Z = true) (w2 : (Jvm.Cond.static y).before a0 Z = true) (w3 : (Jvm.Cond.initialized y.cls).before a0 Z = true) (w4 : (Jvm.Cond.code y bytes maxL ret).before a0 Z = true) (hM : own_MetW l Z h y bytes maxL ret rm as' Q) (W : Nat) (nc ns : Nat) 
    (hc : cells + nc ≤ R.cells) (hs : slots + ns ≤ R.slots) (eT : T.heap = h) {g : JFrame} (hg : g.method = m) (hsize : g.locals.size = c.maxLocals)
    (argsL rest : List Value) (hlen : ∀ sig, parseMethodDescriptor y.desc = some sig → argsL.length = sig.parameters.length) (hstack : g.stack = argsL.reverse ++ rest) (has : argsL.toArray = as') (hdg : decode c.code g.pc = .ok (.invokestatic index, 3))
    (hy : y.cls ≠ "java/lang/invoke/MethodHandle" ∧ y.cls ≠ "java/lang/invoke/VarHandle" := by decide) (hf : rm.frames + 1 ≤ R.frames := by decide) (hl : W + (maxL + 11) + rm.locals ≤ R.locals := by decide) (hW : 2 * g.monitorRoom + (rest.map fun v => v.category).sum ≤ W := by exact Nat.le_of_eq rfl) (hnc : rm.cells = nc := by rfl) (hns : rm.slots = ns := by rfl) :
    ∃ v T' L, Stand p l e R (s.setVm T'.vm) m args below meth c T' (locs ++ L) (cells + nc) (slots + ns) ∧ s.Since T'.vm T'.heap.size ∧ Z.Warmed39 (s.setVm T'.vm).vm ∧ (s.setVm T'.vm).vm.findClass own = some m.cls ∧ Q v T'.heap L ∧ own_J Z T'.vm T'.heap ∧ ∀ target, Steps p.tables e below (T'.setTop { g with pc := g.pc + 3, stack := v.toList ++ rest }) target → Steps p.tables e below (T.setTop g) target := by
  subst hnc hns
  obtain ⟨v, _, ⟨T', L', k', n'⟩, -, X', hS', hgr, ⟨L, ⟨hQ, hJ'⟩, h1, h2, h3⟩, st⟩ := callSS X hx hown (mvT hZ w1) (mvT hZ w2) (mvT hZ w3) (mvT hZ w4) hy (own_backJ (W := W) hM hL hZ hJ w4 w3 hf hl) hg hsize hlen hstack hW hdg (fun _ _ => ⟨has, eT, hc, hs⟩)
  dsimp only [Pt.U, Pt.locs, Pt.cells, Pt.slots] at X' hS' hgr hQ hJ' h1 h2 h3 st
  subst h1 h2 h3
  have hS2 : s.Since T'.vm T'.heap.size := hS.trans hS' (by rw [← eT]; exact hgr)
  exact ⟨v, T', L, X', hS2, State.Warmed39.trans (t := s.setVm vm0) hZ hS'.1, by rw [show (s.setVm T'.vm).vm = T'.vm from rfl, hS'.1.alike.findClass]; exact hown, hQ, hJ', fun _ k => st.trans k⟩
theorem own_callIW {y : MethodName} {bytes : ByteArray} {maxL : Nat} {rm : Room} {as' : Array Value} {own : String} {index : Nat} (X : Stand p l e R (s.setVm vm0) m args below meth c T locs cells slots) (hS : s.Since vm0 h.size) (hL : own_L Z a0) (hJ : own_J Z vm0 h) (hx : p.tables.exec = Jvm.exec) (hZ : Z.Warmed39 (s.setVm vm0).vm) (hown : (s.setVm vm0).vm.findClass own = some m.cls)
    (w1 : (Jvm.Cond.methodLink own index y).before a0 Z = true) (w2 : (Jvm.Cond.instanceMethod y).before a0 Z = true) (w3 : (Jvm.Cond.initialized y.cls).before a0 Z = true) (w4 : (Jvm.Cond.code y bytes maxL none).before a0 Z = true) (hM : own_MetW l Z h y bytes maxL none rm as' Q) (W : Nat) (nc ns : Nat) (hy1 : y.name = "<init>")
    (hc : cells + nc ≤ R.cells) (hs : slots + ns ≤ R.slots) (eT : T.heap = h) {g : JFrame} (hg : g.method = m) (hsize : g.locals.size = c.maxLocals)
    (a : Addr) (argsL rest : List Value) (hlen : ∀ sig, parseMethodDescriptor y.desc = some sig → argsL.length = sig.parameters.length) (hstack : g.stack = argsL.reverse ++ .ref a :: rest) (has : (Value.ref a :: argsL).toArray = as') (hdg : decode c.code g.pc = .ok (.invokespecial index, 3))
    (hy : y.cls ≠ "java/lang/invoke/MethodHandle" ∧ y.cls ≠ "java/lang/invoke/VarHandle" := by decide) (hf : rm.frames + 1 ≤ R.frames := by decide) (hl : W + (maxL + 11) + rm.locals ≤ R.locals := by decide) (hW : 2 * g.monitorRoom + (rest.map fun v => v.category).sum ≤ W := by exact Nat.le_of_eq rfl) (hnc : rm.cells = nc := by rfl) (hns : rm.slots = ns := by rfl) :
    ∃ v T' L, Stand p l e R (s.setVm T'.vm) m args below meth c T' (locs ++ L) (cells + nc) (slots + ns) ∧ s.Since T'.vm T'.heap.size ∧ Z.Warmed39 (s.setVm T'.vm).vm ∧ (s.setVm T'.vm).vm.findClass own = some m.cls ∧ Q v T'.heap L ∧ own_J Z T'.vm T'.heap ∧ ∀ target, Steps p.tables e below (T'.setTop { g with pc := g.pc + 3, stack := v.toList ++ rest }) target → Steps p.tables e below (T.setTop g) target := by
  subst hnc hns
  obtain ⟨v, _, ⟨T', L', k', n'⟩, -, X', hS', hgr, ⟨L, ⟨hQ, hJ'⟩, h1, h2, h3⟩, st⟩ := X.specialBackS hx hy1 hown (mvT hZ w1) (mvT hZ w2) (mvT hZ w4) hy (own_backJ (W := W) hM hL hZ hJ w4 w3 hf hl) hg hsize (Steps.refl _) (a := a) (argsL := argsL) (rest := rest) hlen hstack hW hdg (fun _ _ => ⟨has, eT, hc, hs⟩)
  dsimp only [Pt.U, Pt.locs, Pt.cells, Pt.slots] at X' hS' hgr hQ hJ' h1 h2 h3 st
  subst h1 h2 h3
  have hS2 : s.Since T'.vm T'.heap.size := hS.trans hS' (by rw [← eT]; exact hgr)
  exact ⟨v, T', L, X', hS2, State.Warmed39.trans (t := s.setVm vm0) hZ hS'.1, by rw [show (s.setVm T'.vm).vm = T'.vm from rfl, hS'.1.alike.findClass]; exact hown, hQ, hJ', fun _ k => st.trans k⟩
theorem own_callVW {y z : MethodName} {bytes : ByteArray} {maxL : Nat} {ret : Option FieldType} {rm : Room} {as' : Array Value} {own C : String} {index : Nat} (X : Stand p l e R (s.setVm vm0) m args below meth c T locs cells slots) (hS : s.Since vm0 h.size) (hL : own_L Z a0) (hJ : own_J Z vm0 h) (hx : p.tables.exec = Jvm.exec) (hZ : Z.Warmed39 (s.setVm vm0).vm) (hown : (s.setVm vm0).vm.findClass own = some m.cls)
    (w1 : (Jvm.Cond.methodLink own index y).before a0 Z = true) (wd : (Jvm.Cond.declares y).before a0 Z = true) (nf : NotFace (s.setVm vm0) y) (wsel : (Jvm.Cond.selects C y z).before a0 Z = true) (w2 : (Jvm.Cond.instanceMethod z).before a0 Z = true) (w3 : (Jvm.Cond.initialized z.cls).before a0 Z = true) (w4 : (Jvm.Cond.code z bytes maxL ret).before a0 Z = true) (hM : own_MetW l Z h z bytes maxL ret rm as' Q) (W : Nat) (nc ns : Nat) 
    (hc : cells + nc ≤ R.cells) (hs : slots + ns ≤ R.slots) (eT : T.heap = h) {a : Addr} (E : Exa Z h a C) {g : JFrame} (hg : g.method = m) (hsize : g.locals.size = c.maxLocals)
    (argsL rest : List Value) (hlen : ∀ sig, parseMethodDescriptor y.desc = some sig → argsL.length = sig.parameters.length) (hstack : g.stack = argsL.reverse ++ .ref a :: rest) (has : (Value.ref a :: argsL).toArray = as') (hdg : decode c.code g.pc = .ok (.invokevirtual index, 3))
    (hy : y.cls ≠ "java/lang/invoke/MethodHandle" ∧ y.cls ≠ "java/lang/invoke/VarHandle" := by decide) (hf : rm.frames + 1 ≤ R.frames := by decide) (hl : W + (maxL + 11) + rm.locals ≤ R.locals := by decide) (hW : 2 * g.monitorRoom + (rest.map fun v => v.category).sum ≤ W := by exact Nat.le_of_eq rfl) (hnc : rm.cells = nc := by rfl) (hns : rm.slots = ns := by rfl) :
    ∃ v T' L, Stand p l e R (s.setVm T'.vm) m args below meth c T' (locs ++ L) (cells + nc) (slots + ns) ∧ s.Since T'.vm T'.heap.size ∧ Z.Warmed39 (s.setVm T'.vm).vm ∧ (s.setVm T'.vm).vm.findClass own = some m.cls ∧ Q v T'.heap L ∧ own_J Z T'.vm T'.heap ∧ ∀ target, Steps p.tables e below (T'.setTop { g with pc := g.pc + 3, stack := v.toList ++ rest }) target → Steps p.tables e below (T.setTop g) target := by
  subst hnc hns
  obtain ⟨cq, kq, qa, qb, qc⟩ := isOf hZ eT E
  obtain ⟨v, _, ⟨T', L', k', n'⟩, -, X', hS', hgr, ⟨L, ⟨hQ, hJ'⟩, h1, h2, h3⟩, st⟩ := X.virtualBackS hx hown (mvT hZ w1) (mvT hZ wd) nf (mvT hZ wsel) (mvT hZ w2) hy (own_backJ (W := W) hM hL hZ hJ w4 w3 hf hl) qa qc hg hsize (Steps.refl _) (argsL := argsL) (rest := rest) hlen hstack hW hdg (fun _ _ => ⟨has, eT, hc, hs⟩)
  dsimp only [Pt.U, Pt.locs, Pt.cells, Pt.slots] at X' hS' hgr hQ hJ' h1 h2 h3 st
  subst h1 h2 h3
  have hS2 : s.Since T'.vm T'.heap.size := hS.trans hS' (by rw [← eT]; exact hgr)
  exact ⟨v, T', L, X', hS2, State.Warmed39.trans (t := s.setVm vm0) hZ hS'.1, by rw [show (s.setVm T'.vm).vm = T'.vm from rfl, hS'.1.alike.findClass]; exact hown, hQ, hJ', fun _ k => st.trans k⟩
theorem own_callPW {y : MethodName} {bytes : ByteArray} {maxL : Nat} {ret : Option FieldType} {rm : Room} {as' : Array Value} {own C : String} {index : Nat} (X : Stand p l e R (s.setVm vm0) m args below meth c T locs cells slots) (hS : s.Since vm0 h.size) (hL : own_L Z a0) (hJ : own_J Z vm0 h) (hx : p.tables.exec = Jvm.exec) (hZ : Z.Warmed39 (s.setVm vm0).vm) (hown : (s.setVm vm0).vm.findClass own = some m.cls)
    (w1 : (Jvm.Cond.methodLink own index y).before a0 Z = true) (w2 : (Jvm.Cond.instanceMethod y).before a0 Z = true) (wsel : (Jvm.Cond.selects y.cls y y).before a0 Z = true) (wp : (Jvm.Cond.privateMethod y).before a0 Z = true) (w3 : (Jvm.Cond.initialized y.cls).before a0 Z = true) (w4 : (Jvm.Cond.code y bytes maxL ret).before a0 Z = true) (hM : own_MetW l Z h y bytes maxL ret rm as' Q) (W : Nat) (nc ns : Nat) 
    (hc : cells + nc ≤ R.cells) (hs : slots + ns ≤ R.slots) (eT : T.heap = h) {a : Addr} (E : Exa Z h a C) {g : JFrame} (hg : g.method = m) (hsize : g.locals.size = c.maxLocals)
    (argsL rest : List Value) (hlen : ∀ sig, parseMethodDescriptor y.desc = some sig → argsL.length = sig.parameters.length) (hstack : g.stack = argsL.reverse ++ .ref a :: rest) (has : (Value.ref a :: argsL).toArray = as') (hdg : decode c.code g.pc = .ok (.invokevirtual index, 3))
    (hy : y.cls ≠ "java/lang/invoke/MethodHandle" ∧ y.cls ≠ "java/lang/invoke/VarHandle" := by decide) (hf : rm.frames + 1 ≤ R.frames := by decide) (hl : W + (maxL + 11) + rm.locals ≤ R.locals := by decide) (hW : 2 * g.monitorRoom + (rest.map fun v => v.category).sum ≤ W := by exact Nat.le_of_eq rfl) (hnc : rm.cells = nc := by rfl) (hns : rm.slots = ns := by rfl) :
    ∃ v T' L, Stand p l e R (s.setVm T'.vm) m args below meth c T' (locs ++ L) (cells + nc) (slots + ns) ∧ s.Since T'.vm T'.heap.size ∧ Z.Warmed39 (s.setVm T'.vm).vm ∧ (s.setVm T'.vm).vm.findClass own = some m.cls ∧ Q v T'.heap L ∧ own_J Z T'.vm T'.heap ∧ ∀ target, Steps p.tables e below (T'.setTop { g with pc := g.pc + 3, stack := v.toList ++ rest }) target → Steps p.tables e below (T.setTop g) target := by
  subst hnc hns
  obtain ⟨cq, q1, q2⟩ := E.cell
  obtain ⟨v, _, ⟨T', L', k', n'⟩, -, X', hS', hgr, ⟨L, ⟨hQ, hJ'⟩, h1, h2, h3⟩, st⟩ := X.privateBackS hx hown (mvT hZ w1) (mvT hZ w2) (mvT hZ wsel) (Cond.privateMethod_at (mvP hZ wp (args := #[]))) (mvT hZ w4) hy (own_backJ (W := W) hM hL hZ hJ w4 w3 hf hl) hg hsize (Steps.refl _) (a := a) (by rw [eT]; exact q1) q2 (argsL := argsL) (rest := rest) hlen hstack hW hdg (fun _ _ => ⟨has, eT, hc, hs⟩)
  dsimp only [Pt.U, Pt.locs, Pt.cells, Pt.slots] at X' hS' hgr hQ hJ' h1 h2 h3 st
  subst h1 h2 h3
  have hS2 : s.Since T'.vm T'.heap.size := hS.trans hS' (by rw [← eT]; exact hgr)
  exact ⟨v, T', L, X', hS2, State.Warmed39.trans (t := s.setVm vm0) hZ hS'.1, by rw [show (s.setVm T'.vm).vm = T'.vm from rfl, hS'.1.alike.findClass]; exact hown, hQ, hJ', fun _ k => st.trans k⟩
theorem own_callFW {xi y : MethodName} {bytes : ByteArray} {maxL : Nat} {ret : Option FieldType} {rm : Room} {as' : Array Value} {own C : String} {index count : Nat} (X : Stand p l e R (s.setVm vm0) m args below meth c T locs cells slots) (hS : s.Since vm0 h.size) (hL : own_L Z a0) (hJ : own_J Z vm0 h) (hx : p.tables.exec = Jvm.exec) (hZ : Z.Warmed39 (s.setVm vm0).vm) (hown : (s.setVm vm0).vm.findClass own = some m.cls)
    (w1 : (Jvm.Cond.methodLink own index xi).before a0 Z = true) (wd : (Jvm.Cond.declares xi).before a0 Z = true) (wfa : (Jvm.Cond.interfaceMethod xi.cls xi.cls xi.name xi.desc).before a0 Z = true) (wsel : (Jvm.Cond.selects C xi y).before a0 Z = true) (w2 : (Jvm.Cond.instanceMethod y).before a0 Z = true) (wp : (Jvm.Cond.publicMethod y).before a0 Z = true) (wu : (Jvm.Cond.unhidden C xi.name xi.desc).before a0 Z = true) (wk : (Jvm.Cond.castable C xi.cls).before a0 Z = true) (w3 : (Jvm.Cond.initialized y.cls).before a0 Z = true) (w4 : (Jvm.Cond.code y bytes maxL ret).before a0 Z = true) (hfk : ((Jvm.Cond.interfaceMethod xi.cls xi.cls xi.name xi.desc).onTables && (Jvm.Cond.interfaceMethod xi.cls xi.cls xi.name xi.desc).keepsFace) = true) (hM : own_MetW l Z h y bytes maxL ret rm as' Q) (W : Nat) (nc ns : Nat) 
    (hc : cells + nc ≤ R.cells) (hs : slots + ns ≤ R.slots) (eT : T.heap = h) {a : Addr} (E : Exa Z h a C) {g : JFrame} (hg : g.method = m) (hsize : g.locals.size = c.maxLocals)
    (argsL rest : List Value) (hlen : ∀ sig, parseMethodDescriptor xi.desc = some sig → argsL.length = sig.parameters.length) (hstack : g.stack = argsL.reverse ++ .ref a :: rest) (has : (Value.ref a :: argsL).toArray = as') (hdg : decode c.code g.pc = .ok (.invokeinterface index count, 5))
    (hy : xi.cls ≠ "java/lang/invoke/MethodHandle" ∧ xi.cls ≠ "java/lang/invoke/VarHandle" := by decide) (hf : rm.frames + 1 ≤ R.frames := by decide) (hl : W + (maxL + 11) + rm.locals ≤ R.locals := by decide) (hW : 2 * g.monitorRoom + (rest.map fun v => v.category).sum ≤ W := by exact Nat.le_of_eq rfl) (hnc : rm.cells = nc := by rfl) (hns : rm.slots = ns := by rfl) :
    ∃ v T' L, Stand p l e R (s.setVm T'.vm) m args below meth c T' (locs ++ L) (cells + nc) (slots + ns) ∧ s.Since T'.vm T'.heap.size ∧ Z.Warmed39 (s.setVm T'.vm).vm ∧ (s.setVm T'.vm).vm.findClass own = some m.cls ∧ Q v T'.heap L ∧ own_J Z T'.vm T'.heap ∧ ∀ target, Steps p.tables e below (T'.setTop { g with pc := g.pc + 5, stack := v.toList ++ rest }) target → Steps p.tables e below (T.setTop g) target := by
  subst hnc hns
  obtain ⟨cq, kq, qa, qb, qc⟩ := isOf hZ eT E
  obtain ⟨v, _, ⟨T', L', k', n'⟩, -, X', hS', hgr, ⟨L, ⟨hQ, hJ'⟩, h1, h2, h3⟩, st⟩ := X.interfaceBackS hx hown (mvT hZ w1) (mvT hZ wd) (mvT hZ wfa hfk) (mvT hZ wsel) (mvT hZ w2) (mvT hZ wp) (mvT hZ wu) (mvT hZ wk) hy (own_backJ (W := W) hM hL hZ hJ w4 w3 hf hl) qa qb qc hg hsize (Steps.refl _) (argsL := argsL) (rest := rest) hlen hstack hW hdg (fun _ _ => ⟨has, eT, hc, hs⟩)
  dsimp only [Pt.U, Pt.locs, Pt.cells, Pt.slots] at X' hS' hgr hQ hJ' h1 h2 h3 st
  subst h1 h2 h3
  have hS2 : s.Since T'.vm T'.heap.size := hS.trans hS' (by rw [← eT]; exact hgr)
  exact ⟨v, T', L, X', hS2, State.Warmed39.trans (t := s.setVm vm0) hZ hS'.1, by rw [show (s.setVm T'.vm).vm = T'.vm from rfl, hS'.1.alike.findClass]; exact hown, hQ, hJ', fun _ k => st.trans k⟩
theorem own_callUW {y z : MethodName} {bytes : ByteArray} {maxL : Nat} {ret : Option FieldType} {rm : Room} {as' : Array Value} {own owner C : String} {index : Nat} (X : Stand p l e R (s.setVm vm0) m args below meth c T locs cells slots) (hS : s.Since vm0 h.size) (hL : own_L Z a0) (hJ : own_J Z vm0 h) (hx : p.tables.exec = Jvm.exec) (hZ : Z.Warmed39 (s.setVm vm0).vm) (hown : (s.setVm vm0).vm.findClass own = some m.cls)
    (w1 : (Jvm.Cond.methodLink own index y).before a0 Z = true) (wsm : (Jvm.Cond.sameMethod y.cls owner y.name y.desc).before a0 Z = true) (wd : (Jvm.Cond.declares ⟨owner, y.name, y.desc⟩).before a0 Z = true) (wsel : (Jvm.Cond.selects C y z).before a0 Z = true) (w2 : (Jvm.Cond.instanceMethod z).before a0 Z = true) (w3 : (Jvm.Cond.initialized z.cls).before a0 Z = true) (w4 : (Jvm.Cond.code z bytes maxL ret).before a0 Z = true) (hM : own_MetW l Z h z bytes maxL ret rm as' Q) (W : Nat) (nc ns : Nat) 
    (hc : cells + nc ≤ R.cells) (hs : slots + ns ≤ R.slots) (eT : T.heap = h) {a : Addr} (E : Exa Z h a C) {g : JFrame} (hg : g.method = m) (hsize : g.locals.size = c.maxLocals)
    (argsL rest : List Value) (hlen : ∀ sig, parseMethodDescriptor y.desc = some sig → argsL.length = sig.parameters.length) (hstack : g.stack = argsL.reverse ++ .ref a :: rest) (has : (Value.ref a :: argsL).toArray = as') (hdg : decode c.code g.pc = .ok (.invokevirtual index, 3))
    (howner : owner ≠ "java/lang/invoke/MethodHandle" ∧ owner ≠ "java/lang/invoke/VarHandle" := by decide) (hf : rm.frames + 1 ≤ R.frames := by decide) (hl : W + (maxL + 11) + rm.locals ≤ R.locals := by decide) (hW : 2 * g.monitorRoom + (rest.map fun v => v.category).sum ≤ W := by exact Nat.le_of_eq rfl) (hnc : rm.cells = nc := by rfl) (hns : rm.slots = ns := by rfl) :
    ∃ v T' L, Stand p l e R (s.setVm T'.vm) m args below meth c T' (locs ++ L) (cells + nc) (slots + ns) ∧ s.Since T'.vm T'.heap.size ∧ Z.Warmed39 (s.setVm T'.vm).vm ∧ (s.setVm T'.vm).vm.findClass own = some m.cls ∧ Q v T'.heap L ∧ own_J Z T'.vm T'.heap ∧ ∀ target, Steps p.tables e below (T'.setTop { g with pc := g.pc + 3, stack := v.toList ++ rest }) target → Steps p.tables e below (T.setTop g) target := by
  subst hnc hns
  obtain ⟨cq, kq, qa, qb, qc⟩ := isOf hZ eT E
  obtain ⟨v, _, ⟨T', L', k', n'⟩, -, X', hS', hgr, ⟨L, ⟨hQ, hJ'⟩, h1, h2, h3⟩, st⟩ := X.virtualBackUpS hx hown (mvT hZ w1) (mvT hZ wsm) (mvT hZ wd) howner (mvT hZ wsel) (mvT hZ w2) (own_backJ (W := W) hM hL hZ hJ w4 w3 hf hl) qa qc hg hsize (Steps.refl _) (argsL := argsL) (rest := rest) hlen hstack hW hdg (fun _ _ => ⟨has, eT, hc, hs⟩)
  dsimp only [Pt.U, Pt.locs, Pt.cells, Pt.slots] at X' hS' hgr hQ hJ' h1 h2 h3 st
  subst h1 h2 h3
  have hS2 : s.Since T'.vm T'.heap.size := hS.trans hS' (by rw [← eT]; exact hgr)
  exact ⟨v, T', L, X', hS2, State.Warmed39.trans (t := s.setVm vm0) hZ hS'.1, by rw [show (s.setVm T'.vm).vm = T'.vm from rfl, hS'.1.alike.findClass]; exact hown, hQ, hJ', fun _ k => st.trans k⟩
end OwnKitW2
theorem own_fd0 : parseFieldDescriptor "[B" = some (.array .byte) := by decide +kernel
theorem own_fd1 : parseFieldDescriptor "B" = some .byte := by decide +kernel
theorem own_fd2 : parseFieldDescriptor "Ljava/lang/String;" = some (.object "java/lang/String") := by decide +kernel
abbrev own_W (Z : State) (a0 : Array Value) : Prop := ∀ d ∈ tables_1, d.before a0 Z = true
abbrev own_y0 : MethodName := ⟨"java/lang/String", "<init>", "([CIILjava/lang/Void;)V"⟩
abbrev own_y1 : MethodName := ⟨"java/lang/String", "<init>", "([C)V"⟩
abbrev own_y2 : MethodName := ⟨"com/example/ratification/ratification/model/TripleEqualsPinLaw", "mk", "(I)Ljava/lang/String;"⟩
abbrev own_y3 : MethodName := ⟨"com/example/ratification/ratification/model/TripleEqualsPinLaw", "same", "(II)Z"⟩
abbrev own_y4 : MethodName := ⟨"java/util/Objects", "requireNonNull", "(Ljava/lang/Object;Ljava/lang/String;)Ljava/lang/Object;"⟩
abbrev own_y5 : MethodName := ⟨"com/example/ratification/ratification/model/Triple", "<init>", "(Ljava/lang/String;Ljava/lang/String;Ljava/lang/String;)V"⟩
abbrev own_y6 : MethodName := ⟨"java/lang/String", "equals", "(Ljava/lang/Object;)Z"⟩
abbrev own_y7 : MethodName := ⟨"com/example/ratification/ratification/model/Triple", "equals", "(Ljava/lang/Object;)Z"⟩
abbrev own_y8 : MethodName := ⟨"java/lang/Object", "<init>", "()V"⟩
theorem ow0 {Z : State} {a0 : Array Value} (hw : own_W Z a0) : (Cond.classLink "com/example/ratification/ratification/model/TripleEqualsPinLaw" (12 : Nat) "com/example/ratification/ratification/model/Triple").before a0 Z = true := hw _ (List.mem_of_getElem? (i := 0) rfl)
theorem ow1 {Z : State} {a0 : Array Value} (hw : own_W Z a0) : (Cond.instantiable "com/example/ratification/ratification/model/Triple" (3 : Nat)).before a0 Z = true := hw _ (List.mem_of_getElem? (i := 1) rfl)
theorem ow2 {Z : State} {a0 : Array Value} (hw : own_W Z a0) : (Cond.initialized "com/example/ratification/ratification/model/Triple").before a0 Z = true := hw _ (List.mem_of_getElem? (i := 2) rfl)
theorem ow3 {Z : State} {a0 : Array Value} (hw : own_W Z a0) : (Cond.methodLink "com/example/ratification/ratification/model/TripleEqualsPinLaw" (14 : Nat) own_y2).before a0 Z = true := hw _ (List.mem_of_getElem? (i := 3) rfl)
theorem ow4 {Z : State} {a0 : Array Value} (hw : own_W Z a0) : (Cond.static own_y2).before a0 Z = true := hw _ (List.mem_of_getElem? (i := 4) rfl)
theorem ow5 {Z : State} {a0 : Array Value} (hw : own_W Z a0) : (Cond.initialized "com/example/ratification/ratification/model/TripleEqualsPinLaw").before a0 Z = true := hw _ (List.mem_of_getElem? (i := 5) rfl)
theorem ow6 {Z : State} {a0 : Array Value} (hw : own_W Z a0) : (Cond.code own_y2 method_2_code (6 : Nat) (Option.some (Jvm.ClassFile.FieldType.object "java/lang/String"))).before a0 Z = true := hw _ (List.mem_of_getElem? (i := 6) rfl)
theorem ow7 {Z : State} {a0 : Array Value} (hw : own_W Z a0) : (Cond.classLink "com/example/ratification/ratification/model/TripleEqualsPinLaw" (7 : Nat) "java/lang/String").before a0 Z = true := hw _ (List.mem_of_getElem? (i := 7) rfl)
theorem ow8 {Z : State} {a0 : Array Value} (hw : own_W Z a0) : (Cond.instantiable "java/lang/String" (4 : Nat)).before a0 Z = true := hw _ (List.mem_of_getElem? (i := 8) rfl)
theorem ow9 {Z : State} {a0 : Array Value} (hw : own_W Z a0) : (Cond.initialized "java/lang/String").before a0 Z = true := hw _ (List.mem_of_getElem? (i := 9) rfl)
theorem ow10 {Z : State} {a0 : Array Value} (hw : own_W Z a0) : (Cond.arrayClass Jvm.ClassFile.FieldType.char).before a0 Z = true := hw _ (List.mem_of_getElem? (i := 10) rfl)
theorem ow11 {Z : State} {a0 : Array Value} (hw : own_W Z a0) : (Cond.methodLink "com/example/ratification/ratification/model/TripleEqualsPinLaw" (9 : Nat) own_y1).before a0 Z = true := hw _ (List.mem_of_getElem? (i := 11) rfl)
theorem ow12 {Z : State} {a0 : Array Value} (hw : own_W Z a0) : (Cond.instanceMethod own_y1).before a0 Z = true := hw _ (List.mem_of_getElem? (i := 12) rfl)
theorem ow13 {Z : State} {a0 : Array Value} (hw : own_W Z a0) : (Cond.code own_y1 jdk_42_method_3_code (2 : Nat) (Option.none : Option Jvm.ClassFile.FieldType)).before a0 Z = true := hw _ (List.mem_of_getElem? (i := 13) rfl)
theorem ow14 {Z : State} {a0 : Array Value} (hw : own_W Z a0) : (Cond.methodLink "java/lang/String" (27 : Nat) own_y0).before a0 Z = true := hw _ (List.mem_of_getElem? (i := 14) rfl)
theorem ow15 {Z : State} {a0 : Array Value} (hw : own_W Z a0) : (Cond.instanceMethod own_y0).before a0 Z = true := hw _ (List.mem_of_getElem? (i := 15) rfl)
theorem ow17 {Z : State} {a0 : Array Value} (hw : own_W Z a0) : (Cond.code own_y0 jdk_42_method_149_code (6 : Nat) (Option.none : Option Jvm.ClassFile.FieldType)).before a0 Z = true := hw _ (List.mem_of_getElem? (i := 17) rfl)
theorem ow18 {Z : State} {a0 : Array Value} (hw : own_W Z a0) : (Cond.methodLink "java/lang/String" (1 : Nat) own_y8).before a0 Z = true := hw _ (List.mem_of_getElem? (i := 18) rfl)
theorem ow19 {Z : State} {a0 : Array Value} (hw : own_W Z a0) : (Cond.instanceMethod own_y8).before a0 Z = true := hw _ (List.mem_of_getElem? (i := 19) rfl)
theorem ow20 {Z : State} {a0 : Array Value} (hw : own_W Z a0) : (Cond.code own_y8 object_method_1_code (1 : Nat) (Option.none : Option Jvm.ClassFile.FieldType)).before a0 Z = true := hw _ (List.mem_of_getElem? (i := 20) rfl)
theorem ow21 {Z : State} {a0 : Array Value} (hw : own_W Z a0) : (Cond.stringLink "java/lang/String" (7 : Nat) "").before a0 Z = true := hw _ (List.mem_of_getElem? (i := 21) rfl)
theorem ow22 {Z : State} {a0 : Array Value} (hw : own_W Z a0) : (Cond.arrayClass Jvm.ClassFile.FieldType.byte).before a0 Z = true := hw _ (List.mem_of_getElem? (i := 22) rfl)
theorem ow23 {Z : State} {a0 : Array Value} (hw : own_W Z a0) : (Cond.laysFinal "java/lang/String" "java/lang/String" "value" "[B").before a0 Z = true := hw _ (List.mem_of_getElem? (i := 23) rfl)
theorem ow24 {Z : State} {a0 : Array Value} (hw : own_W Z a0) : (Cond.laysFinal "java/lang/String" "java/lang/String" "coder" "B").before a0 Z = true := hw _ (List.mem_of_getElem? (i := 24) rfl)
theorem ow25 {Z : State} {a0 : Array Value} (hw : own_W Z a0) : (Cond.soleField "java/lang/String" "value").before a0 Z = true := hw _ (List.mem_of_getElem? (i := 25) rfl)
theorem ow26 {Z : State} {a0 : Array Value} (hw : own_W Z a0) : (Cond.soleField "java/lang/String" "coder").before a0 Z = true := hw _ (List.mem_of_getElem? (i := 26) rfl)
theorem ow27 {Z : State} {a0 : Array Value} (hw : own_W Z a0) : (Cond.fieldLink "java/lang/String" (9 : Nat) "java/lang/String" "value" "[B").before a0 Z = true := hw _ (List.mem_of_getElem? (i := 27) rfl)
theorem ow28 {Z : State} {a0 : Array Value} (hw : own_W Z a0) : (Cond.fieldLink "java/lang/String" (15 : Nat) "java/lang/String" "coder" "B").before a0 Z = true := hw _ (List.mem_of_getElem? (i := 28) rfl)
theorem ow40 {Z : State} {a0 : Array Value} (hw : own_W Z a0) : (Cond.methodLink "com/example/ratification/ratification/model/TripleEqualsPinLaw" (20 : Nat) own_y5).before a0 Z = true := hw _ (List.mem_of_getElem? (i := 40) rfl)
theorem ow41 {Z : State} {a0 : Array Value} (hw : own_W Z a0) : (Cond.instanceMethod own_y5).before a0 Z = true := hw _ (List.mem_of_getElem? (i := 41) rfl)
theorem ow42 {Z : State} {a0 : Array Value} (hw : own_W Z a0) : (Cond.code own_y5 prog_68_method_1_code (4 : Nat) (Option.none : Option Jvm.ClassFile.FieldType)).before a0 Z = true := hw _ (List.mem_of_getElem? (i := 42) rfl)
theorem ow43 {Z : State} {a0 : Array Value} (hw : own_W Z a0) : (Cond.methodLink "com/example/ratification/ratification/model/Triple" (1 : Nat) own_y8).before a0 Z = true := hw _ (List.mem_of_getElem? (i := 43) rfl)
theorem ow44 {Z : State} {a0 : Array Value} (hw : own_W Z a0) : (Cond.stringLink "com/example/ratification/ratification/model/Triple" (7 : Nat) "subject").before a0 Z = true := hw _ (List.mem_of_getElem? (i := 44) rfl)
theorem ow45 {Z : State} {a0 : Array Value} (hw : own_W Z a0) : (Cond.methodLink "com/example/ratification/ratification/model/Triple" (9 : Nat) own_y4).before a0 Z = true := hw _ (List.mem_of_getElem? (i := 45) rfl)
theorem ow46 {Z : State} {a0 : Array Value} (hw : own_W Z a0) : (Cond.static own_y4).before a0 Z = true := hw _ (List.mem_of_getElem? (i := 46) rfl)
theorem ow47 {Z : State} {a0 : Array Value} (hw : own_W Z a0) : (Cond.initialized "java/util/Objects").before a0 Z = true := hw _ (List.mem_of_getElem? (i := 47) rfl)
theorem ow48 {Z : State} {a0 : Array Value} (hw : own_W Z a0) : (Cond.code own_y4 jdk_31_method_11_code (2 : Nat) (Option.some (Jvm.ClassFile.FieldType.object "java/lang/Object"))).before a0 Z = true := hw _ (List.mem_of_getElem? (i := 48) rfl)
theorem ow49 {Z : State} {a0 : Array Value} (hw : own_W Z a0) : (Cond.classLink "com/example/ratification/ratification/model/Triple" (15 : Nat) "java/lang/String").before a0 Z = true := hw _ (List.mem_of_getElem? (i := 49) rfl)
theorem ow50 {Z : State} {a0 : Array Value} (hw : own_W Z a0) : (Cond.fieldLink "com/example/ratification/ratification/model/Triple" (17 : Nat) "com/example/ratification/ratification/model/Triple" "subject" "Ljava/lang/String;").before a0 Z = true := hw _ (List.mem_of_getElem? (i := 50) rfl)
theorem ow51 {Z : State} {a0 : Array Value} (hw : own_W Z a0) : (Cond.laysFinal "com/example/ratification/ratification/model/Triple" "com/example/ratification/ratification/model/Triple" "subject" "Ljava/lang/String;").before a0 Z = true := hw _ (List.mem_of_getElem? (i := 51) rfl)
theorem ow52 {Z : State} {a0 : Array Value} (hw : own_W Z a0) : (Cond.stringLink "com/example/ratification/ratification/model/Triple" (22 : Nat) "object").before a0 Z = true := hw _ (List.mem_of_getElem? (i := 52) rfl)
theorem ow53 {Z : State} {a0 : Array Value} (hw : own_W Z a0) : (Cond.fieldLink "com/example/ratification/ratification/model/Triple" (24 : Nat) "com/example/ratification/ratification/model/Triple" "object" "Ljava/lang/String;").before a0 Z = true := hw _ (List.mem_of_getElem? (i := 53) rfl)
theorem ow54 {Z : State} {a0 : Array Value} (hw : own_W Z a0) : (Cond.laysFinal "com/example/ratification/ratification/model/Triple" "com/example/ratification/ratification/model/Triple" "object" "Ljava/lang/String;").before a0 Z = true := hw _ (List.mem_of_getElem? (i := 54) rfl)
theorem ow55 {Z : State} {a0 : Array Value} (hw : own_W Z a0) : (Cond.stringLink "com/example/ratification/ratification/model/Triple" (26 : Nat) "right").before a0 Z = true := hw _ (List.mem_of_getElem? (i := 55) rfl)
theorem ow56 {Z : State} {a0 : Array Value} (hw : own_W Z a0) : (Cond.fieldLink "com/example/ratification/ratification/model/Triple" (28 : Nat) "com/example/ratification/ratification/model/Triple" "right" "Ljava/lang/String;").before a0 Z = true := hw _ (List.mem_of_getElem? (i := 56) rfl)
theorem ow57 {Z : State} {a0 : Array Value} (hw : own_W Z a0) : (Cond.laysFinal "com/example/ratification/ratification/model/Triple" "com/example/ratification/ratification/model/Triple" "right" "Ljava/lang/String;").before a0 Z = true := hw _ (List.mem_of_getElem? (i := 57) rfl)
theorem ow58 {Z : State} {a0 : Array Value} (hw : own_W Z a0) : (Cond.methodLink "com/example/ratification/ratification/model/TripleEqualsPinLaw" (27 : Nat) own_y3).before a0 Z = true := hw _ (List.mem_of_getElem? (i := 58) rfl)
theorem ow59 {Z : State} {a0 : Array Value} (hw : own_W Z a0) : (Cond.static own_y3).before a0 Z = true := hw _ (List.mem_of_getElem? (i := 59) rfl)
theorem ow60 {Z : State} {a0 : Array Value} (hw : own_W Z a0) : (Cond.code own_y3 method_3_code (3 : Nat) (Option.some Jvm.ClassFile.FieldType.boolean)).before a0 Z = true := hw _ (List.mem_of_getElem? (i := 60) rfl)
theorem ow61 {Z : State} {a0 : Array Value} (hw : own_W Z a0) : (Cond.methodLink "com/example/ratification/ratification/model/TripleEqualsPinLaw" (23 : Nat) own_y7).before a0 Z = true := hw _ (List.mem_of_getElem? (i := 61) rfl)
theorem ow62 {Z : State} {a0 : Array Value} (hw : own_W Z a0) : (Cond.declares own_y7).before a0 Z = true := hw _ (List.mem_of_getElem? (i := 62) rfl)
theorem ow63 {Z : State} {a0 : Array Value} (hw : own_W Z a0) : (Cond.instanceMethod own_y7).before a0 Z = true := hw _ (List.mem_of_getElem? (i := 63) rfl)
theorem ow64 {Z : State} {a0 : Array Value} (hw : own_W Z a0) : (Cond.selects "com/example/ratification/ratification/model/Triple" own_y7 own_y7).before a0 Z = true := hw _ (List.mem_of_getElem? (i := 64) rfl)
theorem ow65 {Z : State} {a0 : Array Value} (hw : own_W Z a0) : (Cond.code own_y7 prog_68_method_5_code (2 : Nat) (Option.some Jvm.ClassFile.FieldType.boolean)).before a0 Z = true := hw _ (List.mem_of_getElem? (i := 65) rfl)
theorem ow66 {Z : State} {a0 : Array Value} (hw : own_W Z a0) : (Cond.classLink "com/example/ratification/ratification/model/Triple" (18 : Nat) "com/example/ratification/ratification/model/Triple").before a0 Z = true := hw _ (List.mem_of_getElem? (i := 66) rfl)
theorem ow68 {Z : State} {a0 : Array Value} (hw : own_W Z a0) : (Cond.methodLink "com/example/ratification/ratification/model/Triple" (30 : Nat) own_y6).before a0 Z = true := hw _ (List.mem_of_getElem? (i := 68) rfl)
theorem ow69 {Z : State} {a0 : Array Value} (hw : own_W Z a0) : (Cond.declares own_y6).before a0 Z = true := hw _ (List.mem_of_getElem? (i := 69) rfl)
theorem ow70 {Z : State} {a0 : Array Value} (hw : own_W Z a0) : (Cond.instanceMethod own_y6).before a0 Z = true := hw _ (List.mem_of_getElem? (i := 70) rfl)
theorem ow71 {Z : State} {a0 : Array Value} (hw : own_W Z a0) : (Cond.selects "java/lang/String" own_y6 own_y6).before a0 Z = true := hw _ (List.mem_of_getElem? (i := 71) rfl)
theorem ow72 {Z : State} {a0 : Array Value} (hw : own_W Z a0) : (Cond.code own_y6 jdk_42_method_66_code (3 : Nat) (Option.some Jvm.ClassFile.FieldType.boolean)).before a0 Z = true := hw _ (List.mem_of_getElem? (i := 72) rfl)
theorem ow78 {Z : State} {a0 : Array Value} (hw : own_W Z a0) : (Cond.superclass "java/lang/String" "java/lang/Object").before a0 Z = true := hw _ (List.mem_of_getElem? (i := 78) rfl)
theorem ow79 {Z : State} {a0 : Array Value} (hw : own_W Z a0) : (Cond.noSuperclass "java/lang/Object").before a0 Z = true := hw _ (List.mem_of_getElem? (i := 79) rfl)
theorem own_sn0 {Z : State} {a0 : Array Value} (hw : own_W Z a0) : Jvm.RoadKit.slotOf Z "java/lang/String" "coder" "B" ≠ Jvm.RoadKit.slotOf Z "java/lang/String" "value" "[B" := slot_ne (Or.inr (ow24 hw)) (Or.inr (ow23 hw)) (by decide +kernel) (t := .byte) (t' := (.array .byte)) own_fd1 own_fd0
theorem own_sn1 {Z : State} {a0 : Array Value} (hw : own_W Z a0) : Jvm.RoadKit.slotOf Z "com/example/ratification/ratification/model/Triple" "object" "Ljava/lang/String;" ≠ Jvm.RoadKit.slotOf Z "com/example/ratification/ratification/model/Triple" "subject" "Ljava/lang/String;" := slot_ne (Or.inr (ow54 hw)) (Or.inr (ow51 hw)) (by decide +kernel) (t := (.object "java/lang/String")) (t' := (.object "java/lang/String")) own_fd2 own_fd2
theorem own_sn2 {Z : State} {a0 : Array Value} (hw : own_W Z a0) : Jvm.RoadKit.slotOf Z "com/example/ratification/ratification/model/Triple" "right" "Ljava/lang/String;" ≠ Jvm.RoadKit.slotOf Z "com/example/ratification/ratification/model/Triple" "subject" "Ljava/lang/String;" := slot_ne (Or.inr (ow57 hw)) (Or.inr (ow51 hw)) (by decide +kernel) (t := (.object "java/lang/String")) (t' := (.object "java/lang/String")) own_fd2 own_fd2
theorem own_sn3 {Z : State} {a0 : Array Value} (hw : own_W Z a0) : Jvm.RoadKit.slotOf Z "com/example/ratification/ratification/model/Triple" "right" "Ljava/lang/String;" ≠ Jvm.RoadKit.slotOf Z "com/example/ratification/ratification/model/Triple" "object" "Ljava/lang/String;" := slot_ne (Or.inr (ow57 hw)) (Or.inr (ow54 hw)) (by decide +kernel) (t := (.object "java/lang/String")) (t' := (.object "java/lang/String")) own_fd2 own_fd2
theorem own_Lhw {Z : State} {a0 : Array Value} (hw : own_W Z a0) : own_L Z a0 := by
  intro e he
  simp only [consts_1, List.mem_cons, List.not_mem_nil, or_false] at he
  rcases he with rfl | rfl | rfl | rfl
  · exact ⟨_, hw _ (List.mem_of_getElem? (i := 44) rfl)⟩
  · exact ⟨_, hw _ (List.mem_of_getElem? (i := 52) rfl)⟩
  · exact ⟨_, hw _ (List.mem_of_getElem? (i := 55) rfl)⟩
  · exact ⟨_, hw _ (List.mem_of_getElem? (i := 21) rfl)⟩
theorem own_Jstart {s : State} {a0 args : Array Value} {tb : Tables} {e : Env} (hw : ∀ d ∈ tables_1, d.before a0 s = true) (hcw : (Jvm.Cond.not (Jvm.Cond.eq (Jvm.Term.static "java/lang/String" "COMPACT_STRINGS" "Z") (Jvm.Term.int (0 : Int32)))).before a0 s = true) (hc : Calls_1 tb e args s) : own_J s s.vm s.heap := by
  intro e he
  have hh := hc.1 e he
  simp only [consts_1, List.mem_cons, List.not_mem_nil, or_false] at he
  rcases he with rfl | rfl | rfl | rfl
  · exact heldStart hh (hw _ (List.mem_of_getElem? (i := 44) rfl)) (by decide) hcw (hw _ (List.mem_of_getElem? (i := 22) rfl)) (hw _ (List.mem_of_getElem? (i := 8) rfl))
  · exact heldStart hh (hw _ (List.mem_of_getElem? (i := 52) rfl)) (by decide) hcw (hw _ (List.mem_of_getElem? (i := 22) rfl)) (hw _ (List.mem_of_getElem? (i := 8) rfl))
  · exact heldStart hh (hw _ (List.mem_of_getElem? (i := 55) rfl)) (by decide) hcw (hw _ (List.mem_of_getElem? (i := 22) rfl)) (hw _ (List.mem_of_getElem? (i := 8) rfl))
  · exact heldStart hh (hw _ (List.mem_of_getElem? (i := 21) rfl)) (by decide) hcw (hw _ (List.mem_of_getElem? (i := 22) rfl)) (hw _ (List.mem_of_getElem? (i := 8) rfl))
theorem own_pd_0 : parseMethodDescriptor "([CIILjava/lang/Void;)V" = some ⟨[(.array .char), .int, .int, (.object "java/lang/Void")], none⟩ := by decide +kernel
theorem own_pd_1 : parseMethodDescriptor "([C)V" = some ⟨[(.array .char)], none⟩ := by decide +kernel
theorem own_pd_2 : parseMethodDescriptor "(Ljava/lang/Object;Ljava/lang/String;)Ljava/lang/Object;" = some ⟨[(.object "java/lang/Object"), (.object "java/lang/String")], some (.object "java/lang/Object")⟩ := by decide +kernel
theorem own_pd_3 : parseMethodDescriptor "(Ljava/lang/Object;)Z" = some ⟨[(.object "java/lang/Object")], some .boolean⟩ := by decide +kernel
theorem own_pd_4 : parseMethodDescriptor "(I)Ljava/lang/String;" = some ⟨[.int], some (.object "java/lang/String")⟩ := by decide +kernel
theorem own_pd_5 : parseMethodDescriptor "(Ljava/lang/String;Ljava/lang/String;Ljava/lang/String;)V" = some ⟨[(.object "java/lang/String"), (.object "java/lang/String"), (.object "java/lang/String")], none⟩ := by decide +kernel
theorem own_pd_6 : parseMethodDescriptor "(II)Z" = some ⟨[.int, .int], some .boolean⟩ := by decide +kernel
theorem own_pn_0 : plainName "java/lang/String" = true := by first | (simp [plainName, overriddenIn]; done) | decide +kernel
theorem own_pn_1 : plainName "com/example/ratification/ratification/model/TripleEqualsPinLaw" = true := by first | (simp [plainName, overriddenIn]; done) | decide +kernel
theorem own_pn_2 : plainName "java/util/Objects" = true := by first | (simp [plainName, overriddenIn]; done) | decide +kernel
theorem own_pn_3 : plainName "com/example/ratification/ratification/model/Triple" = true := by first | (simp [plainName, overriddenIn]; done) | decide +kernel
theorem own_wS {Z : State} {a0 : Array Value} (hw : ∀ d ∈ tables_1, d.before a0 Z = true) : ∀ a ∈ Bundle.stringAtoms, a.before a0 Z = true := by
  intro d hd
  simp only [Bundle.stringAtoms, List.mem_cons, List.not_mem_nil, or_false] at hd
  rcases hd with rfl | rfl | rfl | rfl | rfl | rfl | rfl
  · exact (ow9 hw)
  · exact (ow8 hw)
  · exact (ow22 hw)
  · exact (ow23 hw)
  · exact (ow24 hw)
  · exact (ow25 hw)
  · exact (ow26 hw)
def own_C8 (c : Int32) : Prop := ¬ c < 0 ∧ ¬ (255 : Int32) < c
theorem own_c8m (x : Int32) : own_C8 (x &&& (255 : Int32)) := by
  have a1 := c_and x 255 (by decide)
  have a2 : (255 : Int32).toInt = 255 := by decide
  have a3 : (0 : Int32).toInt = 0 := by decide
  exact ⟨by rw [Int32.lt_iff_toInt_lt]; omega, by rw [Int32.lt_iff_toInt_lt]; omega⟩
theorem own_narM (x : Int32) : nar .char (x &&& (255 : Int32)) = (x &&& (255 : Int32)) := i2c_mask x
theorem own_nar8 {c : Int32} (h : own_C8 c) : nar .char c = c := by
  have a1 := c_i2c c
  have a2 : (255 : Int32).toInt = 255 := by decide
  have a3 : (0 : Int32).toInt = 0 := by decide
  have a4 := mt Int32.lt_iff_toInt_lt.mpr h.1
  have a5 := mt Int32.lt_iff_toInt_lt.mpr h.2
  exact Int32.toInt_inj.mp (by show c.toUInt32.toUInt16.toUInt32.toInt32.toInt = c.toInt; omega)
theorem own_shr0 (x : Int32) : x >>> ((0 : Int32) &&& 31) = x := by
  have a := c_ishr x 0 0 (by decide)
  exact Int32.toInt_inj.mp (by rw [a]; simp)
theorem own_shl0 (x : Int32) : x <<< ((0 : Int32) &&& 31) = x := by
  have a := c_ishl x 0 0 (by decide)
  have b := rng32 x
  have c := rng32 (x <<< ((0 : Int32) &&& 31))
  have e : ((2 ^ 0 : Nat) : Int) = 1 := rfl
  rw [e, Int.mul_one] at a
  exact Int32.toInt_inj.mp (by omega)
theorem own_narB (x : Int32) : nar .byte x.toInt8.toInt32 = x.toInt8.toInt32 := by
  have a1 := c_i2b x
  have a2 := c_i2b x.toInt8.toInt32
  exact Int32.toInt_inj.mp (by show x.toInt8.toInt32.toInt8.toInt32.toInt = x.toInt8.toInt32.toInt; omega)
theorem own_c8n {c : Int32} (h : own_C8 c) : own_C8 (nar .char c) := by rw [own_nar8 h]; exact h
theorem own_c8l (x : Int64) : own_C8 (((x &&& (255 : Int64)).toInt32).toUInt32.toUInt16.toUInt32.toInt32) := by
  have a1 := c_i2c ((x &&& (255 : Int64)).toInt32)
  have a2 : (255 : Int32).toInt = 255 := by decide
  have a3 : (0 : Int32).toInt = 0 := by decide
  have a4 := c_maskL x 255 8 (by decide) (by decide)
  have a5 := c_l2i (x &&& (255 : Int64))
  have a6 := rng32 ((x &&& (255 : Int64)).toInt32)
  exact ⟨by rw [Int32.lt_iff_toInt_lt]; omega, by rw [Int32.lt_iff_toInt_lt]; omega⟩
theorem own_b8 {c k : Int32} (h : own_C8 c) (k0 : 0 ≤ k.toInt) (k1 : k.toInt < 128) : c.toInt8.toInt32 = k ↔ c = k := by
  have a1 := c_i2b c
  have a2 : (255 : Int32).toInt = 255 := by decide
  have a3 : (0 : Int32).toInt = 0 := by decide
  have a4 := mt Int32.lt_iff_toInt_lt.mpr h.1
  have a5 := mt Int32.lt_iff_toInt_lt.mpr h.2
  constructor
  · intro q; have q' := congrArg Int32.toInt q; exact Int32.toInt_inj.mp (by omega)
  · intro q; have q' := congrArg Int32.toInt q; exact Int32.toInt_inj.mp (by omega)
theorem own_cN : ∀ c ∈ ([] : List Int32), own_C8 c := fun _ q => nomatch q
theorem own_cC {a : Int32} {l : List Int32} (h : own_C8 a) (t : ∀ c ∈ l, own_C8 c) : ∀ c ∈ a :: l, own_C8 c := fun c q => (List.mem_cons.mp q).elim (fun e => e ▸ h) (t c)
theorem own_sw1 {Z : State} {a0 : Array Value} (hw : ∀ d ∈ tables_1, d.before a0 Z = true) : ∀ d ∈ StrChars.Road.words, d.before a0 Z = true := fun d hd => hw d ((by decide +kernel : ∀ d ∈ StrChars.Road.words, d ∈ tables_1) d hd)
def own_Afar (Z : State) (h : Heap) (w : Addr) : Prop := (∀ a, Exa Z h a "java/lang/String" → a ≠ w) ∧ (∀ t k n vs d, Arv Z h t k .byte n vs d → t ≠ w)
theorem own_afE {Z : State} {h : Heap} {w : Addr} {C : String} {n : Nat} {a0 : Array Value} (E : Exa Z h w C) (hC : C ≠ "java/lang/String") (wi : (Jvm.Cond.instantiable C n).before a0 Z = true) : own_Afar Z h w := ⟨fun a F => ne_exa F E hC.symm, fun t k n vs d V => (Exa.neArv E V wi).symm⟩
theorem own_afV {Z : State} {h : Heap} {w : Addr} {k : ClassId} {ty : FieldType} {z : Int32} {vs : List Value} {d : Value} {n : Nat} {a0 : Array Value} (V : Arv Z h w k ty z vs d) (hty : ty ≠ .byte) (wi : (Jvm.Cond.instantiable "java/lang/String" n).before a0 Z = true) : own_Afar Z h w := ⟨fun a F => Exa.neArv F V wi, fun t k n vs d W => own_neTy W V hty.symm⟩
def own_Sl (Z : State) (h : Heap) (a : Addr) (cs : List Int32) : Prop := Exa Z h a "java/lang/String" ∧ Fld Z h a "java/lang/String" "coder" "B" (.int (0 : Int32)) ∧ ∃ (t : Addr) (k : ClassId), Fld Z h a "java/lang/String" "value" "[B" (.ref t) ∧ Arv Z h t k .byte (Int32.ofNat cs.length) (cs.map fun c => Value.int c.toInt8.toInt32) (.int (0 : Int32)) ∧ (∀ c ∈ cs, own_C8 c) ∧ cs.length ≤ 4000
theorem own_SlExt {Z : State} {h h' : Heap} {a : Addr} {cs : List Int32} (N : own_Sl Z h a cs) (X : Ext h h') : own_Sl Z h' a cs := by
  obtain ⟨g1, g2, t, k, g3, g4, g5⟩ := N
  exact ⟨g1.ext X, g2.ext X, t, k, g3.ext X, g4.ext X, g5⟩
theorem own_SlKeep {Z : State} {h h' : Heap} {a : Addr} {cs : List Int32} {ws : List Addr} (N : own_Sl Z h a cs) (K : Keep h h' ws) (q : ∀ w ∈ ws, own_Afar Z h w) : own_Sl Z h' a cs := by
  obtain ⟨g1, g2, t, k, g3, g4, g5⟩ := N
  have qa : a ∉ ws := fun hm => (q a hm).1 a g1 rfl
  exact ⟨g1.keep K, g2.keep K qa, t, k, g3.keep K qa, g4.keep K (fun hm => (q t hm).2 _ _ _ _ _ g4 rfl), g5⟩
theorem own_mkSl {Z : State} {h : Heap} {a t : Addr} {k : ClassId} {N : Int32} {vs : List Value} {cs : List Int32} (g1 : Exa Z h a "java/lang/String") (g2 : Fld Z h a "java/lang/String" "coder" "B" (.int (0 : Int32))) (g3 : Fld Z h a "java/lang/String" "value" "[B" (.ref t)) (g4 : Arv Z h t k .byte N vs (.int (0 : Int32)))
    (hN : N = Int32.ofNat cs.length) (hv : vs = cs.map fun c => Value.int c.toInt8.toInt32) (h8 : ∀ c ∈ cs, own_C8 c) (hl : cs.length ≤ 4000) : own_Sl Z h a cs := ⟨g1, g2, t, k, g3, hN ▸ hv ▸ g4, h8, hl⟩
def own_Qeq (cs ds : List Int32) (h : Heap) (v : Option Value) (h' : Heap) (L : List Loc) : Prop := ((v = some (.int 1) ∧ cs = ds) ∨ (v = some (.int 0) ∧ ¬ cs = ds)) ∧ L = [] ∧ h' = h
theorem own_c64 {cs : List Int32} (h : ∀ c ∈ cs, own_C8 c) : ∀ c ∈ cs, ¬ c < 0 ∧ ¬ (65535 : Int32) < c := fun c q => by
  have a := h c q
  have a1 := mt Int32.lt_iff_toInt_lt.mpr a.2
  have a2 : (255 : Int32).toInt = 255 := by decide
  have a3 : (65535 : Int32).toInt = 65535 := by decide
  exact ⟨a.1, by rw [Int32.lt_iff_toInt_lt]; omega⟩
theorem own_eqB {p : Program} {l : Launch} {e : Env} {R : Room} {s : State} {args : Array Value} {below : List Frame} {len W : Nat} {Z : State} {a0 : Array Value} {h : Heap} (hZ : Z.Warmed39 s.vm) (hw : ∀ d ∈ StrChars.Road.wordsEq, d.before a0 Z = true) {kI : Nat} (wi : (Jvm.Cond.instantiable "java/lang/String" kI).before a0 Z = true)
    {x y : Addr} {cs ds : List Int32} (H : own_Sl Z h x cs) (H' : own_Sl Z h y ds) {z : Int32} (S : Sta Z h "java/lang/String" "COMPACT_STRINGS" "Z" (.int z)) (hz : ¬ z = 0) (hfr : 2 ≤ R.frames) (hlo : W + 28 ≤ R.locals) :
    Back l R p e below s args (⟨"java/lang/String", "equals", "(Ljava/lang/Object;)Z"⟩ : MethodName) len W (fun P a => a = #[.ref x, .ref y] ∧ P.U.heap = h ∧ P.cells + 0 ≤ R.cells ∧ P.slots + 0 ≤ R.slots)
      (fun P _ v B => ∃ L, own_Qeq cs ds h v B.U.heap L ∧ B.locs = P.locs ++ L ∧ B.cells = P.cells + 0 ∧ B.slots = P.slots + 0) := by
  obtain ⟨g1, g2, t, k, g3, g4, g5, g6⟩ := H
  obtain ⟨f1, f2, u, k', f3, f4, f5, f6⟩ := H'
  exact StrChars.Road.eqW hZ hw wi g1 g3 g2 g4 (Or.inl ⟨rfl, rfl, rfl, fun c q => (g5 c q).2⟩) (own_c64 g5) g6 f1 f3 f2 f4 (Or.inl ⟨rfl, rfl, rfl, fun c q => (f5 c q).2⟩) (own_c64 f5) f6 S hz hfr hlo
theorem own_sw2 {Z : State} {a0 : Array Value} (hw : ∀ d ∈ tables_1, d.before a0 Z = true) : ∀ d ∈ StrChars.Road.wordsEq, d.before a0 Z = true := fun d hd => hw d ((by decide +kernel : ∀ d ∈ StrChars.Road.wordsEq, d ∈ tables_1) d hd)
theorem own_rootI {Z : State} {a0 : Array Value} {O K : String} {n : Nat} (w : (Jvm.Cond.noSuperclass O).before a0 Z = true) (wk : (Jvm.Cond.instantiable K n).before a0 Z = true) (hn : O ≠ K) : NS Z O K := by
  obtain ⟨c, k, h1, h2, h3, -, -⟩ := Cond.noSuperclass_spec w
  obtain ⟨t, kt, g1, -⟩ := Cond.instantiable_spec wk
  have ne := ids_ne h1 g1 hn
  refine ⟨c, t, h1, g1, fun fuel => ?_⟩
  cases fuel with
  | zero => rfl
  | succ f => simp [Vm.isSubclassAux, ne, h2, h3]
theorem own_noI {Z : State} {a0 : Array Value} {C S K : String} {m : Nat} (w : (Jvm.Cond.superclass C S).before a0 Z = true) (wk : (Jvm.Cond.instantiable K m).before a0 Z = true) (n : NS Z C K) (hn : C ≠ K) : ∃ c t, Z.vm.findClass C = some c ∧ Z.vm.findClass K = some t ∧ Z.vm.assignable c t = false := by
  obtain ⟨c, t, h0, g0, n3⟩ := n
  obtain ⟨p, k, kp, h1, h2, h3, h4, h5, -, h7⟩ := Cond.superclass_spec h0 w
  obtain ⟨t', k', g1, g2, g5, g7, -⟩ := Cond.instantiable_spec wk
  cases g0.symm.trans g1
  have ne := ids_ne h0 g0 hn
  have g8 : k'.isInterface = false := by
    cases q : k'.isInterface with
    | false => rfl
    | true => rw [q] at g7; simp at g7
  refine ⟨c, t, h0, g0, ?_⟩
  show Z.vm.assignableAux (255 + 1) c t = false
  simp [Vm.assignableAux, ne, h2, g2, h5, g5, g8, Vm.isSubclass, n3]
def own_B (v : Int32) (P : Prop) : Prop := (v = (1 : Int32) ∧ P) ∨ (v = (0 : Int32) ∧ ¬ P)
theorem own_B1 {v : Int32} {P : Prop} (h : own_B v P) (q : P) : v = (1 : Int32) := h.elim (fun z => z.1) (fun z => absurd q z.2)
theorem own_B0 {v : Int32} {P : Prop} (h : own_B v P) (q : ¬ P) : v = (0 : Int32) := h.elim (fun z => absurd z.2 q) (fun z => z.1)
theorem own_ltT {j k x : Int32} (h : x < j) (hjk : j.toInt < k.toInt) : x < k := by
  have a2 := Int32.lt_iff_toInt_lt.mp h
  rw [Int32.lt_iff_toInt_lt]
  omega
def own_ca (x : Int32) : Int32 := (((x.toUInt32 >>> ((2 : Int32) &&& 31).toUInt32).toInt32) &&& (255 : Int32))
def own_cb (x : Int32) : Int32 := (((x.toUInt32 >>> ((10 : Int32) &&& 31).toUInt32).toInt32) &&& (255 : Int32))
def own_cc (x : Int32) : Int32 := (((x.toUInt32 >>> ((18 : Int32) &&& 31).toUInt32).toInt32) &&& (255 : Int32))
def own_cs (x : Int32) : List Int32 := if (x &&& (3 : Int32)) = (0 : Int32) then [] else if (x &&& (3 : Int32)) = (1 : Int32) then [own_ca x] else if (x &&& (3 : Int32)) = (2 : Int32) then [own_ca x, own_cb x] else [own_ca x, own_cb x, own_cc x]
theorem own_cs_0 {x : Int32} (h : (x &&& (3 : Int32)) = (0 : Int32)) : own_cs x = [] := by unfold own_cs; rw [if_pos h]
theorem own_cs_1 {x : Int32} (h : (x &&& (3 : Int32)) = (1 : Int32)) : own_cs x = [own_ca x] := by unfold own_cs; rw [if_neg (by rw [h]; decide), if_pos h]
theorem own_cs_2 {x : Int32} (h : (x &&& (3 : Int32)) = (2 : Int32)) : own_cs x = [own_ca x, own_cb x] := by unfold own_cs; rw [if_neg (by rw [h]; decide), if_neg (by rw [h]; decide), if_pos h]
theorem own_cs_3 {x : Int32} (h0 : ¬ (x &&& (3 : Int32)) = (0 : Int32)) (h1 : ¬ (x &&& (3 : Int32)) = (1 : Int32)) (h2 : ¬ (x &&& (3 : Int32)) = (2 : Int32)) : own_cs x = [own_ca x, own_cb x, own_cc x] := by unfold own_cs; rw [if_neg h0, if_neg h1, if_neg h2]
theorem own_csL (x : Int32) : (own_cs x).length = (x &&& (3 : Int32)).toInt.toNat := by
  have a1 := c_mask x 3 2 (by decide) (by decide)
  have e0 : (0 : Int32).toInt = 0 := by decide
  have e1 : (1 : Int32).toInt = 1 := by decide
  have e2 : (2 : Int32).toInt = 2 := by decide
  by_cases h0 : (x &&& (3 : Int32)) = (0 : Int32)
  · rw [own_cs_0 h0, h0]; rfl
  by_cases h1 : (x &&& (3 : Int32)) = (1 : Int32)
  · rw [own_cs_1 h1, h1]; rfl
  by_cases h2 : (x &&& (3 : Int32)) = (2 : Int32)
  · rw [own_cs_2 h2, h2]; rfl
  rw [own_cs_3 h0 h1 h2]
  have b0 := mt Int32.toInt_inj.mp h0
  have b1 := mt Int32.toInt_inj.mp h1
  have b2 := mt Int32.toInt_inj.mp h2
  show 3 = _
  omega
theorem own_n3 {x y : Int32} (h : (own_cs x).length = (own_cs y).length) : (x &&& (3 : Int32)) = (y &&& (3 : Int32)) := by
  rw [own_csL, own_csL] at h
  have a1 := c_mask x 3 2 (by decide) (by decide)
  have a2 := c_mask y 3 2 (by decide) (by decide)
  exact Int32.toInt_inj.mp (by omega)
theorem own_smL {x y : Int32} (h : ¬ (x &&& (3 : Int32)) = (y &&& (3 : Int32))) : ¬ own_cs x = own_cs y := fun q => h (own_n3 (congrArg List.length q))
theorem own_eq3 {x k : Int32} (h : ¬ x < k) (h' : x < k + 1) (hk : k.toInt + 1 = (k + 1).toInt) : x = k := by
  have a1 := mt Int32.lt_iff_toInt_lt.mpr h
  have a2 := Int32.lt_iff_toInt_lt.mp h'
  exact Int32.toInt_inj.mp (by omega)
theorem own_sm0 {x y : Int32} (hn : (x &&& (3 : Int32)) = (y &&& (3 : Int32))) (h1 : (x &&& (3 : Int32)) < (1 : Int32)) : own_cs x = own_cs y := by
  have a1 := c_mask x 3 2 (by decide) (by decide)
  have a2 := Int32.lt_iff_toInt_lt.mp h1
  have e0 : (0 : Int32).toInt = 0 := by decide
  have e1 : (1 : Int32).toInt = 1 := by decide
  have q : (x &&& (3 : Int32)) = (0 : Int32) := Int32.toInt_inj.mp (by omega)
  rw [own_cs_0 q, own_cs_0 (hn ▸ q)]
theorem own_sm1 {x y : Int32} (hn : (x &&& (3 : Int32)) = (y &&& (3 : Int32))) (h2 : (x &&& (3 : Int32)) < (2 : Int32)) (h1 : ¬ (x &&& (3 : Int32)) < (1 : Int32)) (hc : own_ca x = own_ca y) : own_cs x = own_cs y := by
  have q : (x &&& (3 : Int32)) = (1 : Int32) := own_eq3 h1 h2 (by decide)
  rw [own_cs_1 q, own_cs_1 (hn ▸ q), hc]
theorem own_sm2 {x y : Int32} (hn : (x &&& (3 : Int32)) = (y &&& (3 : Int32))) (h3 : (x &&& (3 : Int32)) < (3 : Int32)) (_ : ¬ (x &&& (3 : Int32)) < (1 : Int32)) (h2 : ¬ (x &&& (3 : Int32)) < (2 : Int32)) (hc : own_ca x = own_ca y) (hd : own_cb x = own_cb y) : own_cs x = own_cs y := by
  have q : (x &&& (3 : Int32)) = (2 : Int32) := own_eq3 h2 h3 (by decide)
  rw [own_cs_2 q, own_cs_2 (hn ▸ q), hc, hd]
theorem own_no3 {x : Int32} (h3 : ¬ (x &&& (3 : Int32)) < (3 : Int32)) : own_cs x = [own_ca x, own_cb x, own_cc x] := own_cs_3 (fun q => h3 (by rw [q]; decide)) (fun q => h3 (by rw [q]; decide)) (fun q => h3 (by rw [q]; decide))
theorem own_sm3 {x y : Int32} (hn : (x &&& (3 : Int32)) = (y &&& (3 : Int32))) (h3 : ¬ (x &&& (3 : Int32)) < (3 : Int32)) (hc : own_ca x = own_ca y) (hd : own_cb x = own_cb y) (he : own_cc x = own_cc y) : own_cs x = own_cs y := by
  rw [own_no3 h3, own_no3 (hn ▸ h3), hc, hd, he]
theorem own_hd (x : Int32) : (own_cs x).getD 0 0 = if (x &&& (3 : Int32)) = (0 : Int32) then 0 else own_ca x := by
  unfold own_cs; split; rfl; split; rfl; split <;> rfl
theorem own_hd1 (x : Int32) : (own_cs x).getD 1 0 = if (x &&& (3 : Int32)) = (0 : Int32) then 0 else if (x &&& (3 : Int32)) = (1 : Int32) then 0 else own_cb x := by
  unfold own_cs; split; rfl; split; rfl; split <;> rfl
theorem own_smA {x y : Int32} (hn : (x &&& (3 : Int32)) = (y &&& (3 : Int32))) (h1 : ¬ (x &&& (3 : Int32)) < (1 : Int32)) (hc : ¬ own_ca x = own_ca y) : ¬ own_cs x = own_cs y := fun h => by
  have q := congrArg (fun l => l.getD 0 0) h
  have n0 : ¬ (x &&& (3 : Int32)) = (0 : Int32) := fun q => h1 (by rw [q]; decide)
  simp only [own_hd] at q
  rw [if_neg n0, if_neg (hn ▸ n0)] at q
  exact hc q
theorem own_smB {x y : Int32} (hn : (x &&& (3 : Int32)) = (y &&& (3 : Int32))) (h1 : ¬ (x &&& (3 : Int32)) < (2 : Int32)) (hc : ¬ own_cb x = own_cb y) : ¬ own_cs x = own_cs y := fun h => by
  have q := congrArg (fun l => l.getD 1 0) h
  have n0 : ¬ (x &&& (3 : Int32)) = (0 : Int32) := fun q => h1 (by rw [q]; decide)
  have n1 : ¬ (x &&& (3 : Int32)) = (1 : Int32) := fun q => h1 (by rw [q]; decide)
  simp only [own_hd1] at q
  rw [if_neg n0, if_neg n1, if_neg (hn ▸ n0), if_neg (hn ▸ n1)] at q
  exact hc q
theorem own_smC {x y : Int32} (hn : (x &&& (3 : Int32)) = (y &&& (3 : Int32))) (h3 : ¬ (x &&& (3 : Int32)) < (3 : Int32)) (hc : ¬ own_cc x = own_cc y) : ¬ own_cs x = own_cs y := fun h => by
  rw [own_no3 h3, own_no3 (hn ▸ h3)] at h
  have q := congrArg (fun l => l.getD 2 0) h
  exact hc q
def own_Olds (Z : State) (zc : Int32) : Prop := Sta Z Z.heap "java/lang/String" "COMPACT_STRINGS" "Z" (.int zc) ∧ ¬ zc = (0 : Int32)
theorem d3_0 : decode jdk_42_method_149_code 0 = .ok (.aload_n 0, 1) := by decide +kernel
theorem d3_1 : decode jdk_42_method_149_code 1 = .ok (.invokespecial 1, 3) := by decide +kernel
theorem d3_4 : decode jdk_42_method_149_code 4 = .ok (.iload_n 3, 1) := by decide +kernel
theorem d3_5 : decode jdk_42_method_149_code 5 = .ok (.ifCond .ne 22, 3) := by decide +kernel
theorem d3_8 : decode jdk_42_method_149_code 8 = .ok (.aload_n 0, 1) := by decide +kernel
theorem d3_9 : decode jdk_42_method_149_code 9 = .ok (.ldc 7, 2) := by decide +kernel
theorem d3_11 : decode jdk_42_method_149_code 11 = .ok (.getfield 9, 3) := by decide +kernel
theorem d3_14 : decode jdk_42_method_149_code 14 = .ok (.putfield 9, 3) := by decide +kernel
theorem d3_17 : decode jdk_42_method_149_code 17 = .ok (.aload_n 0, 1) := by decide +kernel
theorem d3_18 : decode jdk_42_method_149_code 18 = .ok (.ldc 7, 2) := by decide +kernel
theorem d3_20 : decode jdk_42_method_149_code 20 = .ok (.getfield 15, 3) := by decide +kernel
theorem d3_23 : decode jdk_42_method_149_code 23 = .ok (.putfield 15, 3) := by decide +kernel
theorem d3_26 : decode jdk_42_method_149_code 26 = .ok (.return_, 1) := by decide +kernel
def Q_st2E (Z : State) (zc : Int32) (a1 : Addr) (a2 : Addr) (k : ClassId) (h0 : Heap) (v : Option Value) (h : Heap) (L : List Loc) : Prop := (∃ t : Addr, ∃ kt : ClassId, v = none ∧ Fr Z.heap.size L ∧ Keep h0 h [a1] ∧ Exa Z h a1 "java/lang/String" ∧ Fld Z h a1 "java/lang/String" "coder" "B" (.int (0 : Int32)) ∧ Fld Z h a1 "java/lang/String" "value" "[B" (.ref t) ∧ Arv Z h t kt .byte (0 : Int32) [] (.int (0 : Int32)))
theorem ef_st2E (m : MethodId) (x0 : Addr) (x1 : Addr) : entryFrame m #[(.ref x0), (.ref x1), (.int (0 : Int32)), (.int (0 : Int32)), .null] 6 = mkF m 0 #[rv x0, rv x1, iv (0 : Int32), iv (0 : Int32), .val .null, .unset] [] := by first | (simp [entryFrame, mkF, argsToLocals, Value.category]; done) | rfl
set_option maxRecDepth 65536 in
set_option maxHeartbeats 40000000 in
theorem rm_st2E (l : Launch) (Z : State) (a0 : Array Value) (hw : own_W Z a0) {zc : Int32} (hO : own_Olds Z zc) (ws : List Jvm.Cond) (a1 : Addr) (a2 : Addr) (k : ClassId) (h0 : Heap) (O0 : Ext Z.heap h0) (fp0 : Exa Z h0 a1 "java/lang/String") (fp1 : Fld Z h0 a1 "java/lang/String" "value" "[B" .null) (fp2 : Fld Z h0 a1 "java/lang/String" "coder" "B" (.int (0 : Int32))) (fp3 : Arv Z h0 a2 k .char (0 : Int32) [] (.int (0 : Int32))) (big_a1 : Z.heap.size ≤ a1) :
    MetFree l own_y0 (head1 (Jvm.Cond.code own_y0 jdk_42_method_149_code 6 none :: ws) ({ frames := 1, cells := 2, slots := 4, locals := 12 } : Room)) (fun a U => a = #[(.ref a1), (.ref a2), (.int (0 : Int32)), (.int (0 : Int32)), .null] ∧ Z.Warmed39 U.vm ∧ U.heap = h0 ∧ own_J Z U.vm U.heap) (fun _ _ _ _ _ => True) (fun _ U o U' => ∃ v L, o = .returned v ∧ ((Q_st2E Z zc a1 a2 k h0) v U'.heap L ∧ own_J Z U'.vm U'.heap) ∧ ReturnedEndW U o U' L ({ frames := 1, cells := 2, slots := 4, locals := 12 } : Room).cells ({ frames := 1, cells := 2, slots := 4, locals := 12 } : Room).slots) := by
  refine own_metW (Q := (Q_st2E Z zc a1 a2 k h0)) _ _ (plainFor_of_name own_pn_0) ?_
  intro p e s vm0 m below meth c T X0 hS hJ hJ0 hZ0 hI hs0 hx hby hml hret hlk hZ hown hnm e0
  replace hown : (s.setVm vm0).vm.findClass "java/lang/String" = some m.cls := hown
  replace hnm : meth.name = "<init>" := hnm
  have hml : c.maxLocals = 6 := hml
  obtain ⟨oCS, oCz⟩ := id hO
  have N0 := Fr.nil Z.heap.size
  have hL := own_Lhw hw
  have K0 := Keep.refl h0 [a1]
  refine own_goW (fun _ k => castTop (ef_st2E m a1 a2) k) ?_
  have ne1 : a2 ≠ a1 := (Ne.symm (Exa.neArv fp0 fp3 (ow8 hw)))
  show own_GoW p e below s _ _ _ _ (T.setTop (mkF m 0 #[rv a1, rv a2, iv (0 : Int32), iv (0 : Int32), .val .null, .unset] []))
  refine own_goW (fun _ k => XS.aloadN X0.here hx rfl (hb hby d3_0) rfl rfl k) ?_
  obtain ⟨T2, X2, e2, st2⟩ := initO X0 hx hZ hown (ow18 hw) (ow19 hw) (ow20 hw) e0 (g := (mkF m 1 #[rv a1, rv a2, iv (0 : Int32), iv (0 : Int32), .val .null, .unset] [(.ref a1)])) rfl (by rw [hml]; rfl) rfl (hb hby d3_1) (by decide) (W := 0) (by show 2 * 0 + _ ≤ _; exact Nat.le_of_eq rfl) (by decide)
  refine own_goW st2 ?_
  clear st2 X0 e0
  refine own_goW (fun _ k => XS.iloadN X2.here hx rfl (hb hby d3_4) rfl (XS.ifNo X2.here hx rfl (hb hby d3_5) rfl ((if0 _ _).trans (teq (by decide : (0 : Int32) = (0 : Int32))).2) k)) ?_
  show own_GoW p e below s _ _ _ _ (T2.setTop (mkF m 8 #[rv a1, rv a2, iv (0 : Int32), iv (0 : Int32), .val .null, .unset] []))
  refine own_goW (fun _ k => XS.aloadN X2.here hx rfl (hb hby d3_8) rfl rfl k) ?_
  obtain ⟨b3, T3, h3, vm3, u3, X3, e3, E3, hSn, hZn, hownn, hJn, li3, tx3, sl3, st3⟩ := own_ldcK X2 hS hx hZ hown hL (List.mem_of_getElem? (i := 3) rfl) (ow21 hw) (own_wS hw) e2 hJ (by decide) (g := (mkF m 9 #[rv a1, rv a2, iv (0 : Int32), iv (0 : Int32), .val .null, .unset] [(.ref a1)])) rfl (hb hby d3_9) (n := 0) (by decide) (by decide) (by show _ ≤ 2; omega) (by show _ ≤ 4; omega)
  refine own_goW st3 ?_
  clear st3 X2 e2
  replace hS := hSn
  replace hZ := hZn
  replace hown := hownn
  replace hJ := hJn
  clear hSn hZn hownn hJn
  replace fp0 := fp0.ext E3
  replace fp1 := fp1.ext E3
  replace fp2 := fp2.ext E3
  replace O0 := own_oldExt O0 E3
  replace K0 := K0.ext E3
  clear E3
  obtain ⟨t3, kt3, g13, g23, g33, g43⟩ := own_litFacts hZ sl3 tx3 (by decide)
  clear sl3 tx3
  replace g43 : Arv Z h3 t3 kt3 .byte (0 : Int32) [] (.int (0 : Int32)) := g43
  obtain ⟨T4, X4, e4, st4⟩ := getF X3 hx hZ hown (host := "") (Or.inl (ow27 hw)) Via.refl e3 g33 (g := (mkF m 11 #[rv a1, rv a2, iv (0 : Int32), iv (0 : Int32), .val .null, .unset] [(.ref b3), (.ref a1)])) rfl rfl (hb hby d3_11)
  refine own_goW st4 ?_
  clear st4 X3 e3
  obtain ⟨T5, h5, X5, e5, W5, st5⟩ := putF X4 hx hZ hown (host := "") (Or.inl (ow27 hw)) Via.refl e4 fp1 fp0 (Or.inr ⟨(ow23 hw), rfl, hnm⟩) (ow8 hw) (ty := (.array .byte)) own_fd0 rfl rfl (g := (mkF m 14 #[rv a1, rv a2, iv (0 : Int32), iv (0 : Int32), .val .null, .unset] [(.ref t3), (.ref a1)])) rfl rfl (hb hby d3_14)
  refine own_goW st5 ?_
  clear st5 X4 e4
  replace N0 := Fr.snoc X5 N0 big_a1
  have hAp_a1 := own_apart hZ hJ fp1
  replace hJ := own_JwrS hZ hJ W5 hAp_a1 fp0 (ow8 hw)
  have ne6 : b3 ≠ a1 := (Fld.ne g33 fp1 (fun q => nomatch q))
  have ne7 : t3 ≠ a1 := (Ne.symm (Exa.neArv fp0 g43 (ow8 hw)))
  replace fp0 := fp0.wr W5
  replace fp1 := fp1.same W5
  replace fp2 := fp2.other W5 (.inr (own_sn0 hw))
  replace g13 := g13.wr W5
  replace g23 := g23.other W5 (Or.inl ne6)
  replace g33 := g33.other W5 (Or.inl ne6)
  replace g43 := g43.other W5 ne7
  replace O0 := own_oldWr O0 W5 big_a1
  replace K0 := K0.wr W5 (Or.inl (List.mem_of_getElem? (i := 0) rfl))
  replace hS := own_since hS (Nat.le_of_eq W5.size.symm)
  clear W5
  show own_GoW p e below s _ _ _ _ (T5.setTop (mkF m 17 #[rv a1, rv a2, iv (0 : Int32), iv (0 : Int32), .val .null, .unset] []))
  refine own_goW (fun _ k => XS.aloadN X5.here hx rfl (hb hby d3_17) rfl rfl k) ?_
  refine own_goW (ldcAgain X5 hx hZ hown (ow21 hw) li3 (g := (mkF m 18 #[rv a1, rv a2, iv (0 : Int32), iv (0 : Int32), .val .null, .unset] [(.ref a1)])) rfl (hb hby d3_18)) ?_
  obtain ⟨T9, X9, e9, st9⟩ := getF X5 hx hZ hown (host := "") (Or.inl (ow28 hw)) Via.refl e5 g23 (g := (mkF m 20 #[rv a1, rv a2, iv (0 : Int32), iv (0 : Int32), .val .null, .unset] [(.ref b3), (.ref a1)])) rfl rfl (hb hby d3_20)
  refine own_goW st9 ?_
  clear st9 X5 e5
  obtain ⟨T10, h10, X10, e10, W10, st10⟩ := putFN X9 hx hZ hown (ow28 hw) Via.refl e9 fp2 fp0 (Or.inr ⟨(ow24 hw), rfl, hnm⟩) (ow8 hw) (ty := .byte) (v' := (.int (0 : Int32))) own_fd1 rfl (by decide) (g := (mkF m 23 #[rv a1, rv a2, iv (0 : Int32), iv (0 : Int32), .val .null, .unset] [(.int (0 : Int32)), (.ref a1)])) rfl rfl (hb hby d3_23)
  refine own_goW st10 ?_
  clear st10 X9 e9
  replace N0 := Fr.snoc X10 N0 big_a1
  replace hJ := own_JwrS hZ hJ W10 hAp_a1 fp0 (ow8 hw)
  replace fp0 := fp0.wr W10
  replace fp1 := fp1.other W10 (.inr (own_sn0 hw).symm)
  replace fp2 := fp2.same W10
  replace g13 := g13.wr W10
  replace g23 := g23.other W10 (Or.inl ne6)
  replace g33 := g33.other W10 (Or.inl ne6)
  replace g43 := g43.other W10 ne7
  replace O0 := own_oldWr O0 W10 big_a1
  replace K0 := K0.wr W10 (Or.inl (List.mem_of_getElem? (i := 0) rfl))
  replace hS := own_since hS (Nat.le_of_eq W10.size.symm)
  clear W10
  show own_GoW p e below s _ _ _ _ (T10.setTop (mkF m 26 #[rv a1, rv a2, iv (0 : Int32), iv (0 : Int32), .val .null, .unset] []))
  refine own_retVW X10 hS hL hZ hJ hx hlk e10 hret (hb hby d3_26) (by show _ ≤ 2; omega) (by show _ ≤ 4; omega) ?_
  exact ⟨t3, kt3, rfl, N0, K0, fp0, fp2, fp1, g43⟩
theorem d2_0 : decode jdk_42_method_3_code 0 = .ok (.aload_n 0, 1) := by decide +kernel
theorem d2_1 : decode jdk_42_method_3_code 1 = .ok (.aload_n 1, 1) := by decide +kernel
theorem d2_2 : decode jdk_42_method_3_code 2 = .ok (.iconst 0, 1) := by decide +kernel
theorem d2_3 : decode jdk_42_method_3_code 3 = .ok (.aload_n 1, 1) := by decide +kernel
theorem d2_4 : decode jdk_42_method_3_code 4 = .ok (.arraylength, 1) := by decide +kernel
theorem d2_5 : decode jdk_42_method_3_code 5 = .ok (.aconst_null, 1) := by decide +kernel
theorem d2_6 : decode jdk_42_method_3_code 6 = .ok (.invokespecial 27, 3) := by decide +kernel
theorem d2_9 : decode jdk_42_method_3_code 9 = .ok (.return_, 1) := by decide +kernel
def Q_st1E (Z : State) (zc : Int32) (a1 : Addr) (a2 : Addr) (k : ClassId) (h0 : Heap) (v : Option Value) (h : Heap) (L : List Loc) : Prop := (∃ t : Addr, ∃ kt : ClassId, v = none ∧ Fr Z.heap.size L ∧ Keep h0 h [a1] ∧ Exa Z h a1 "java/lang/String" ∧ Fld Z h a1 "java/lang/String" "coder" "B" (.int (0 : Int32)) ∧ Fld Z h a1 "java/lang/String" "value" "[B" (.ref t) ∧ Arv Z h t kt .byte (0 : Int32) [] (.int (0 : Int32)))
theorem ef_st1E (m : MethodId) (x0 : Addr) (x1 : Addr) : entryFrame m #[(.ref x0), (.ref x1)] 2 = mkF m 0 #[rv x0, rv x1] [] := by first | (simp [entryFrame, mkF, argsToLocals, Value.category]; done) | rfl
set_option maxRecDepth 65536 in
set_option maxHeartbeats 40000000 in
theorem rm_st1E (l : Launch) (Z : State) (a0 : Array Value) (hw : own_W Z a0) {zc : Int32} (hO : own_Olds Z zc) (ws : List Jvm.Cond) (a1 : Addr) (a2 : Addr) (k : ClassId) (h0 : Heap) (O0 : Ext Z.heap h0) (fp0 : Exa Z h0 a1 "java/lang/String") (fp1 : Fld Z h0 a1 "java/lang/String" "value" "[B" .null) (fp2 : Fld Z h0 a1 "java/lang/String" "coder" "B" (.int (0 : Int32))) (fp3 : Arv Z h0 a2 k .char (0 : Int32) [] (.int (0 : Int32))) (big_a1 : Z.heap.size ≤ a1) :
    MetFree l own_y1 (head1 (Jvm.Cond.code own_y1 jdk_42_method_3_code 2 none :: ws) ({ frames := 2, cells := 2, slots := 4, locals := 29 } : Room)) (fun a U => a = #[(.ref a1), (.ref a2)] ∧ Z.Warmed39 U.vm ∧ U.heap = h0 ∧ own_J Z U.vm U.heap) (fun _ _ _ _ _ => True) (fun _ U o U' => ∃ v L, o = .returned v ∧ ((Q_st1E Z zc a1 a2 k h0) v U'.heap L ∧ own_J Z U'.vm U'.heap) ∧ ReturnedEndW U o U' L ({ frames := 2, cells := 2, slots := 4, locals := 29 } : Room).cells ({ frames := 2, cells := 2, slots := 4, locals := 29 } : Room).slots) := by
  refine own_metW (Q := (Q_st1E Z zc a1 a2 k h0)) _ _ (plainFor_of_name own_pn_0) ?_
  intro p e s vm0 m below meth c T X0 hS hJ hJ0 hZ0 hI hs0 hx hby hml hret hlk hZ hown hnm e0
  replace hown : (s.setVm vm0).vm.findClass "java/lang/String" = some m.cls := hown
  replace hnm : meth.name = "<init>" := hnm
  have hml : c.maxLocals = 2 := hml
  obtain ⟨oCS, oCz⟩ := id hO
  have N0 := Fr.nil Z.heap.size
  have hL := own_Lhw hw
  have K0 := Keep.refl h0 [a1]
  refine own_goW (fun _ k => castTop (ef_st1E m a1 a2) k) ?_
  have ne1 : a2 ≠ a1 := (Ne.symm (Exa.neArv fp0 fp3 (ow8 hw)))
  show own_GoW p e below s _ _ _ _ (T.setTop (mkF m 0 #[rv a1, rv a2] []))
  refine own_goW (fun _ k => XS.aloadN X0.here hx rfl (hb hby d2_0) rfl rfl (XS.aloadN X0.here hx rfl (hb hby d2_1) rfl rfl (XS.iconst X0.here hx rfl (hb hby d2_2) (XS.aloadN X0.here hx rfl (hb hby d2_3) rfl rfl k)))) ?_
  show own_GoW p e below s _ _ _ _ (T.setTop (mkF m 4 #[rv a1, rv a2] [(.ref a2), (.int (0 : Int32)), (.ref a2), (.ref a1)]))
  obtain ⟨cl2, Ar2, -, S2, M2, -, -⟩ := id (fp3.keep K0 (ninS ne1 nin0))
  refine own_goW (X0.arraylength hx (by rw [e0]; exact Ar2.1) (State.isArrayOf_alike hZ.alike Ar2.2.1) (g := (mkF m 4 #[rv a1, rv a2] [(.ref a2), (.int (0 : Int32)), (.ref a2), (.ref a1)])) rfl rfl (hb hby d2_4)) ?_
  rw [len_of S2 M2]
  refine own_goW (fun _ k => XS.aconstNull X0.here hx rfl (hb hby d2_5) k) ?_
  obtain ⟨v3, T3, L3, X3, hSn, hZn, hownn, hQ3, hJn, st3⟩ := own_callIW (y := own_y0) X0 hS hL hJ hx hZ hown (ow14 hw) (ow15 hw) (ow9 hw) (ow17 hw) (rm_st2E l Z a0 hw hO [] a1 a2 k h0 O0 fp0 fp1 fp2 (fp3.keep K0 (ninS ne1 nin0)) big_a1) 0 2 4 rfl (by show _ ≤ 2; omega) (by show _ ≤ 4; omega) e0 (g := (mkF m 6 #[rv a1, rv a2] [.null, (.int (0 : Int32)), (.int (0 : Int32)), (.ref a2), (.ref a1)])) rfl (by rw [hml]; rfl) a1 [(.ref a2), (.int (0 : Int32)), (.int (0 : Int32)), .null] [] (lenOf own_pd_0 rfl) rfl rfl (hb hby d2_6)
  replace hS := hSn
  replace hZ := hZn
  replace hown := hownn
  replace hJ := hJn
  clear hSn hZn hownn hJn
  obtain ⟨w4, w5, rfl, Nc11, Kc10, f6, f7, f8, f9⟩ := hQ3
  refine own_goW st3 ?_
  clear st3 X0 e0
  replace N0 := Fr.app N0 Nc11
  clear Nc11
  replace fp0 := fp0.keep Kc10
  clear fp1
  clear fp2
  replace O0 := own_oldKeep O0 Kc10 (allS big_a1 all0)
  replace K0 := K0.trans Kc10 (allS (Or.inl (List.mem_of_getElem? (i := 0) rfl)) all0)
  clear Kc10
  show own_GoW p e below s _ _ _ _ (T3.setTop (mkF m 9 #[rv a1, rv a2] []))
  refine own_retVW X3 hS hL hZ hJ hx hlk (rfl : T3.heap = T3.heap) hret (hb hby d2_9) (by show _ ≤ 2; omega) (by show _ ≤ 4; omega) ?_
  exact ⟨w4, w5, rfl, N0, K0, f6, f7, f8, f9⟩
theorem d1_0 : decode method_2_code 0 = .ok (.iload_n 0, 1) := by decide +kernel
theorem d1_1 : decode method_2_code 1 = .ok (.iconst 3, 1) := by decide +kernel
theorem d1_2 : decode method_2_code 2 = .ok (.iand, 1) := by decide +kernel
theorem d1_3 : decode method_2_code 3 = .ok (.istore_n 1, 1) := by decide +kernel
theorem d1_4 : decode method_2_code 4 = .ok (.iload_n 0, 1) := by decide +kernel
theorem d1_5 : decode method_2_code 5 = .ok (.iconst 2, 1) := by decide +kernel
theorem d1_6 : decode method_2_code 6 = .ok (.iushr, 1) := by decide +kernel
theorem d1_7 : decode method_2_code 7 = .ok (.sipush 255, 3) := by decide +kernel
theorem d1_10 : decode method_2_code 10 = .ok (.iand, 1) := by decide +kernel
theorem d1_11 : decode method_2_code 11 = .ok (.i2c, 1) := by decide +kernel
theorem d1_12 : decode method_2_code 12 = .ok (.istore_n 2, 1) := by decide +kernel
theorem d1_13 : decode method_2_code 13 = .ok (.iload_n 0, 1) := by decide +kernel
theorem d1_14 : decode method_2_code 14 = .ok (.bipush 10, 2) := by decide +kernel
theorem d1_16 : decode method_2_code 16 = .ok (.iushr, 1) := by decide +kernel
theorem d1_17 : decode method_2_code 17 = .ok (.sipush 255, 3) := by decide +kernel
theorem d1_20 : decode method_2_code 20 = .ok (.iand, 1) := by decide +kernel
theorem d1_21 : decode method_2_code 21 = .ok (.i2c, 1) := by decide +kernel
theorem d1_22 : decode method_2_code 22 = .ok (.istore_n 3, 1) := by decide +kernel
theorem d1_23 : decode method_2_code 23 = .ok (.iload_n 0, 1) := by decide +kernel
theorem d1_24 : decode method_2_code 24 = .ok (.bipush 18, 2) := by decide +kernel
theorem d1_26 : decode method_2_code 26 = .ok (.iushr, 1) := by decide +kernel
theorem d1_27 : decode method_2_code 27 = .ok (.sipush 255, 3) := by decide +kernel
theorem d1_30 : decode method_2_code 30 = .ok (.iand, 1) := by decide +kernel
theorem d1_31 : decode method_2_code 31 = .ok (.i2c, 1) := by decide +kernel
theorem d1_32 : decode method_2_code 32 = .ok (.istore 4, 2) := by decide +kernel
theorem d1_34 : decode method_2_code 34 = .ok (.iload_n 1, 1) := by decide +kernel
theorem d1_35 : decode method_2_code 35 = .ok (.ifCond .ne 14, 3) := by decide +kernel
theorem d1_38 : decode method_2_code 38 = .ok (.new 7, 3) := by decide +kernel
theorem d1_41 : decode method_2_code 41 = .ok (.dup, 1) := by decide +kernel
theorem d1_42 : decode method_2_code 42 = .ok (.iconst 0, 1) := by decide +kernel
theorem d1_43 : decode method_2_code 43 = .ok (.newarray .char, 2) := by decide +kernel
theorem d1_45 : decode method_2_code 45 = .ok (.invokespecial 9, 3) := by decide +kernel
theorem d1_48 : decode method_2_code 48 = .ok (.areturn, 1) := by decide +kernel
theorem d1_49 : decode method_2_code 49 = .ok (.iload_n 1, 1) := by decide +kernel
theorem d1_50 : decode method_2_code 50 = .ok (.iconst 1, 1) := by decide +kernel
theorem d1_51 : decode method_2_code 51 = .ok (.if_icmp .ne 23, 3) := by decide +kernel
theorem d1_54 : decode method_2_code 54 = .ok (.iconst 1, 1) := by decide +kernel
theorem d1_55 : decode method_2_code 55 = .ok (.newarray .char, 2) := by decide +kernel
theorem d1_57 : decode method_2_code 57 = .ok (.astore 5, 2) := by decide +kernel
theorem d1_59 : decode method_2_code 59 = .ok (.aload 5, 2) := by decide +kernel
theorem d1_61 : decode method_2_code 61 = .ok (.iconst 0, 1) := by decide +kernel
theorem d1_62 : decode method_2_code 62 = .ok (.iload_n 2, 1) := by decide +kernel
theorem d1_63 : decode method_2_code 63 = .ok (.castore, 1) := by decide +kernel
theorem d1_64 : decode method_2_code 64 = .ok (.new 7, 3) := by decide +kernel
theorem d1_67 : decode method_2_code 67 = .ok (.dup, 1) := by decide +kernel
theorem d1_68 : decode method_2_code 68 = .ok (.aload 5, 2) := by decide +kernel
theorem d1_70 : decode method_2_code 70 = .ok (.invokespecial 9, 3) := by decide +kernel
theorem d1_73 : decode method_2_code 73 = .ok (.areturn, 1) := by decide +kernel
theorem d1_74 : decode method_2_code 74 = .ok (.iload_n 1, 1) := by decide +kernel
theorem d1_75 : decode method_2_code 75 = .ok (.iconst 2, 1) := by decide +kernel
theorem d1_76 : decode method_2_code 76 = .ok (.if_icmp .ne 28, 3) := by decide +kernel
theorem d1_79 : decode method_2_code 79 = .ok (.iconst 2, 1) := by decide +kernel
theorem d1_80 : decode method_2_code 80 = .ok (.newarray .char, 2) := by decide +kernel
theorem d1_82 : decode method_2_code 82 = .ok (.astore 5, 2) := by decide +kernel
theorem d1_84 : decode method_2_code 84 = .ok (.aload 5, 2) := by decide +kernel
theorem d1_86 : decode method_2_code 86 = .ok (.iconst 0, 1) := by decide +kernel
theorem d1_87 : decode method_2_code 87 = .ok (.iload_n 2, 1) := by decide +kernel
theorem d1_88 : decode method_2_code 88 = .ok (.castore, 1) := by decide +kernel
theorem d1_89 : decode method_2_code 89 = .ok (.aload 5, 2) := by decide +kernel
theorem d1_91 : decode method_2_code 91 = .ok (.iconst 1, 1) := by decide +kernel
theorem d1_92 : decode method_2_code 92 = .ok (.iload_n 3, 1) := by decide +kernel
theorem d1_93 : decode method_2_code 93 = .ok (.castore, 1) := by decide +kernel
theorem d1_94 : decode method_2_code 94 = .ok (.new 7, 3) := by decide +kernel
theorem d1_97 : decode method_2_code 97 = .ok (.dup, 1) := by decide +kernel
theorem d1_98 : decode method_2_code 98 = .ok (.aload 5, 2) := by decide +kernel
theorem d1_100 : decode method_2_code 100 = .ok (.invokespecial 9, 3) := by decide +kernel
theorem d1_103 : decode method_2_code 103 = .ok (.areturn, 1) := by decide +kernel
theorem d1_104 : decode method_2_code 104 = .ok (.iconst 3, 1) := by decide +kernel
theorem d1_105 : decode method_2_code 105 = .ok (.newarray .char, 2) := by decide +kernel
theorem d1_107 : decode method_2_code 107 = .ok (.astore 5, 2) := by decide +kernel
theorem d1_109 : decode method_2_code 109 = .ok (.aload 5, 2) := by decide +kernel
theorem d1_111 : decode method_2_code 111 = .ok (.iconst 0, 1) := by decide +kernel
theorem d1_112 : decode method_2_code 112 = .ok (.iload_n 2, 1) := by decide +kernel
theorem d1_113 : decode method_2_code 113 = .ok (.castore, 1) := by decide +kernel
theorem d1_114 : decode method_2_code 114 = .ok (.aload 5, 2) := by decide +kernel
theorem d1_116 : decode method_2_code 116 = .ok (.iconst 1, 1) := by decide +kernel
theorem d1_117 : decode method_2_code 117 = .ok (.iload_n 3, 1) := by decide +kernel
theorem d1_118 : decode method_2_code 118 = .ok (.castore, 1) := by decide +kernel
theorem d1_119 : decode method_2_code 119 = .ok (.aload 5, 2) := by decide +kernel
theorem d1_121 : decode method_2_code 121 = .ok (.iconst 2, 1) := by decide +kernel
theorem d1_122 : decode method_2_code 122 = .ok (.iload 4, 2) := by decide +kernel
theorem d1_124 : decode method_2_code 124 = .ok (.castore, 1) := by decide +kernel
theorem d1_125 : decode method_2_code 125 = .ok (.new 7, 3) := by decide +kernel
theorem d1_128 : decode method_2_code 128 = .ok (.dup, 1) := by decide +kernel
theorem d1_129 : decode method_2_code 129 = .ok (.aload 5, 2) := by decide +kernel
theorem d1_131 : decode method_2_code 131 = .ok (.invokespecial 9, 3) := by decide +kernel
theorem d1_134 : decode method_2_code 134 = .ok (.areturn, 1) := by decide +kernel
def Q_mk (Z : State) (zc : Int32) (p1 : Int32) (h0 : Heap) (v : Option Value) (h : Heap) (L : List Loc) : Prop := (∃ b : Addr, v = some (.ref b) ∧ Fr Z.heap.size L ∧ Keep h0 h [] ∧ h0.size ≤ b ∧ Exa Z h b "java/lang/String" ∧ own_Sl Z h b (own_cs p1))
theorem ef_mk (m : MethodId) (x0 : Int32) : entryFrame m #[(.int x0)] 6 = mkF m 0 #[iv x0, .unset, .unset, .unset, .unset, .unset] [] := by first | (simp [entryFrame, mkF, argsToLocals, Value.category]; done) | rfl
set_option maxRecDepth 65536 in
set_option maxHeartbeats 40000000 in
theorem rm_mk (l : Launch) (Z : State) (a0 : Array Value) (hw : own_W Z a0) {zc : Int32} (hO : own_Olds Z zc) (ws : List Jvm.Cond) (p1 : Int32) (h0 : Heap) (O0 : Ext Z.heap h0) :
    MetFree l own_y2 (head1 (Jvm.Cond.code own_y2 method_2_code 6 (some (.object "java/lang/String")) :: ws) ({ frames := 4, cells := 4, slots := 10, locals := 66 } : Room)) (fun a U => a = #[(.int p1)] ∧ Z.Warmed39 U.vm ∧ U.heap = h0 ∧ own_J Z U.vm U.heap) (fun _ _ _ _ _ => True) (fun _ U o U' => ∃ v L, o = .returned v ∧ ((Q_mk Z zc p1 h0) v U'.heap L ∧ own_J Z U'.vm U'.heap) ∧ ReturnedEndW U o U' L ({ frames := 4, cells := 4, slots := 10, locals := 66 } : Room).cells ({ frames := 4, cells := 4, slots := 10, locals := 66 } : Room).slots) := by
  refine own_metW (Q := (Q_mk Z zc p1 h0)) _ _ (plainFor_of_name own_pn_1) ?_
  intro p e s vm0 m below meth c T X0 hS hJ hJ0 hZ0 hI hs0 hx hby hml hret hlk hZ hown hnm e0
  replace hown : (s.setVm vm0).vm.findClass "com/example/ratification/ratification/model/TripleEqualsPinLaw" = some m.cls := hown
  replace hnm : meth.name = "mk" := hnm
  have hml : c.maxLocals = 6 := hml
  obtain ⟨oCS, oCz⟩ := id hO
  have N0 := Fr.nil Z.heap.size
  have hL := own_Lhw hw
  have K0 := Keep.refl h0 []
  refine own_goW (fun _ k => castTop (ef_mk m p1) k) ?_
  show own_GoW p e below s _ _ _ _ (T.setTop (mkF m 0 #[iv p1, .unset, .unset, .unset, .unset, .unset] []))
  refine own_goW (fun _ k => XS.iloadN X0.here hx rfl (hb hby d1_0) rfl (XS.iconst X0.here hx rfl (hb hby d1_1) (XS.iand X0.here hx rfl (hb hby d1_2) rfl (XS.istoreN X0.here hx rfl (hb hby d1_3) rfl (l' := #[iv p1, iv (p1 &&& (3 : Int32)), .unset, .unset, .unset, .unset]) rfl k)))) ?_
  show own_GoW p e below s _ _ _ _ (T.setTop (mkF m 4 #[iv p1, iv (p1 &&& (3 : Int32)), .unset, .unset, .unset, .unset] []))
  refine own_goW (fun _ k => XS.iloadN X0.here hx rfl (hb hby d1_4) rfl (XS.iconst X0.here hx rfl (hb hby d1_5) (XS.iushr X0.here hx rfl (hb hby d1_6) rfl (XS.sipush X0.here hx rfl (hb hby d1_7) k)))) ?_
  show own_GoW p e below s _ _ _ _ (T.setTop (mkF m 10 #[iv p1, iv (p1 &&& (3 : Int32)), .unset, .unset, .unset, .unset] [(.int (255 : Int32)), (.int ((p1.toUInt32 >>> ((2 : Int32) &&& 31).toUInt32).toInt32))]))
  refine own_goW (fun _ k => XS.iand X0.here hx rfl (hb hby d1_10) rfl (XS.i2c X0.here hx rfl (hb hby d1_11) rfl k)) ?_
  show own_GoW p e below s _ _ _ _ (T.setTop (mkF m 12 #[iv p1, iv (p1 &&& (3 : Int32)), .unset, .unset, .unset, .unset] [(.int ((((p1.toUInt32 >>> ((2 : Int32) &&& 31).toUInt32).toInt32) &&& (255 : Int32)).toUInt32.toUInt16.toUInt32.toInt32))]))
  rw [i2c_mask ((p1.toUInt32 >>> ((2 : Int32) &&& 31).toUInt32).toInt32)]
  refine own_goW (fun _ k => XS.istoreN X0.here hx rfl (hb hby d1_12) rfl (l' := #[iv p1, iv (p1 &&& (3 : Int32)), iv (((p1.toUInt32 >>> ((2 : Int32) &&& 31).toUInt32).toInt32) &&& (255 : Int32)), .unset, .unset, .unset]) rfl (XS.iloadN X0.here hx rfl (hb hby d1_13) rfl k)) ?_
  show own_GoW p e below s _ _ _ _ (T.setTop (mkF m 14 #[iv p1, iv (p1 &&& (3 : Int32)), iv (((p1.toUInt32 >>> ((2 : Int32) &&& 31).toUInt32).toInt32) &&& (255 : Int32)), .unset, .unset, .unset] [(.int p1)]))
  refine own_goW (fun _ k => XS.bipush X0.here hx rfl (hb hby d1_14) (XS.iushr X0.here hx rfl (hb hby d1_16) rfl (XS.sipush X0.here hx rfl (hb hby d1_17) (XS.iand X0.here hx rfl (hb hby d1_20) rfl k)))) ?_
  show own_GoW p e below s _ _ _ _ (T.setTop (mkF m 21 #[iv p1, iv (p1 &&& (3 : Int32)), iv (((p1.toUInt32 >>> ((2 : Int32) &&& 31).toUInt32).toInt32) &&& (255 : Int32)), .unset, .unset, .unset] [(.int (((p1.toUInt32 >>> ((10 : Int32) &&& 31).toUInt32).toInt32) &&& (255 : Int32)))]))
  refine own_goW (fun _ k => XS.i2c X0.here hx rfl (hb hby d1_21) rfl k) ?_
  show own_GoW p e below s _ _ _ _ (T.setTop (mkF m 22 #[iv p1, iv (p1 &&& (3 : Int32)), iv (((p1.toUInt32 >>> ((2 : Int32) &&& 31).toUInt32).toInt32) &&& (255 : Int32)), .unset, .unset, .unset] [(.int ((((p1.toUInt32 >>> ((10 : Int32) &&& 31).toUInt32).toInt32) &&& (255 : Int32)).toUInt32.toUInt16.toUInt32.toInt32))]))
  rw [i2c_mask ((p1.toUInt32 >>> ((10 : Int32) &&& 31).toUInt32).toInt32)]
  refine own_goW (fun _ k => XS.istoreN X0.here hx rfl (hb hby d1_22) rfl (l' := #[iv p1, iv (p1 &&& (3 : Int32)), iv (((p1.toUInt32 >>> ((2 : Int32) &&& 31).toUInt32).toInt32) &&& (255 : Int32)), iv (((p1.toUInt32 >>> ((10 : Int32) &&& 31).toUInt32).toInt32) &&& (255 : Int32)), .unset, .unset]) rfl (XS.iloadN X0.here hx rfl (hb hby d1_23) rfl (XS.bipush X0.here hx rfl (hb hby d1_24) k))) ?_
  show own_GoW p e below s _ _ _ _ (T.setTop (mkF m 26 #[iv p1, iv (p1 &&& (3 : Int32)), iv (((p1.toUInt32 >>> ((2 : Int32) &&& 31).toUInt32).toInt32) &&& (255 : Int32)), iv (((p1.toUInt32 >>> ((10 : Int32) &&& 31).toUInt32).toInt32) &&& (255 : Int32)), .unset, .unset] [(.int (18 : Int32)), (.int p1)]))
  refine own_goW (fun _ k => XS.iushr X0.here hx rfl (hb hby d1_26) rfl (XS.sipush X0.here hx rfl (hb hby d1_27) (XS.iand X0.here hx rfl (hb hby d1_30) rfl (XS.i2c X0.here hx rfl (hb hby d1_31) rfl k)))) ?_
  show own_GoW p e below s _ _ _ _ (T.setTop (mkF m 32 #[iv p1, iv (p1 &&& (3 : Int32)), iv (((p1.toUInt32 >>> ((2 : Int32) &&& 31).toUInt32).toInt32) &&& (255 : Int32)), iv (((p1.toUInt32 >>> ((10 : Int32) &&& 31).toUInt32).toInt32) &&& (255 : Int32)), .unset, .unset] [(.int ((((p1.toUInt32 >>> ((18 : Int32) &&& 31).toUInt32).toInt32) &&& (255 : Int32)).toUInt32.toUInt16.toUInt32.toInt32))]))
  rw [i2c_mask ((p1.toUInt32 >>> ((18 : Int32) &&& 31).toUInt32).toInt32)]
  show own_GoW p e below s _ _ _ _ (T.setTop (mkF m 32 #[iv p1, iv (p1 &&& (3 : Int32)), iv (((p1.toUInt32 >>> ((2 : Int32) &&& 31).toUInt32).toInt32) &&& (255 : Int32)), iv (((p1.toUInt32 >>> ((10 : Int32) &&& 31).toUInt32).toInt32) &&& (255 : Int32)), .unset, .unset] [(.int (((p1.toUInt32 >>> ((18 : Int32) &&& 31).toUInt32).toInt32) &&& (255 : Int32)))]))
  refine own_goW (fun _ k => XS.istore X0.here hx rfl (hb hby d1_32) rfl (l' := #[iv p1, iv (p1 &&& (3 : Int32)), iv (((p1.toUInt32 >>> ((2 : Int32) &&& 31).toUInt32).toInt32) &&& (255 : Int32)), iv (((p1.toUInt32 >>> ((10 : Int32) &&& 31).toUInt32).toInt32) &&& (255 : Int32)), iv (((p1.toUInt32 >>> ((18 : Int32) &&& 31).toUInt32).toInt32) &&& (255 : Int32)), .unset]) rfl (XS.iloadN X0.here hx rfl (hb hby d1_34) rfl k)) ?_
  by_cases hc1 : (p1 &&& (3 : Int32)) = (0 : Int32)
  · refine own_goW (fun _ k => XS.ifNo X0.here hx rfl (hb hby d1_35) rfl ((if0 _ _).trans (teq hc1).2) k) ?_
    show own_GoW p e below s _ _ _ _ (T.setTop (mkF m 38 #[iv p1, iv (p1 &&& (3 : Int32)), iv (((p1.toUInt32 >>> ((2 : Int32) &&& 31).toUInt32).toInt32) &&& (255 : Int32)), iv (((p1.toUInt32 >>> ((10 : Int32) &&& 31).toUInt32).toInt32) &&& (255 : Int32)), iv (((p1.toUInt32 >>> ((18 : Int32) &&& 31).toUInt32).toInt32) &&& (255 : Int32)), .unset] []))
    obtain ⟨T2, h2, X2, e2, E2, A2, D2, -, st2⟩ := newO X0 hx hZ hown (ow7 hw) (ow8 hw) (ow9 hw) e0 (g := (mkF m 38 #[iv p1, iv (p1 &&& (3 : Int32)), iv (((p1.toUInt32 >>> ((2 : Int32) &&& 31).toUInt32).toInt32) &&& (255 : Int32)), iv (((p1.toUInt32 >>> ((10 : Int32) &&& 31).toUInt32).toInt32) &&& (255 : Int32)), iv (((p1.toUInt32 >>> ((18 : Int32) &&& 31).toUInt32).toInt32) &&& (255 : Int32)), .unset] [])) rfl (hb hby d1_38) (by show _ ≤ 4; omega) (by show _ ≤ 10; omega)
    obtain ⟨b2, g2⟩ : ∃ z, z = h0.size := ⟨_, rfl⟩
    rw [← g2] at A2 D2 st2
    refine own_goW st2 ?_
    clear st2 X0 e0
    have ge2 := Nat.le_of_eq g2.symm
    have big3 : Z.heap.size ≤ b2 := Nat.le_trans O0.1 ge2
    have sz4 : h0.size ≤ b2 := Nat.le_trans K0.1 ge2
    replace O0 := own_oldExt O0 E2
    replace K0 := K0.ext E2
    replace hS := own_since hS E2.1
    replace hJ := own_Jext hJ E2
    clear E2
    have f5 : Fld Z h2 b2 "java/lang/String" "value" "[B" .null := D2 (Or.inr (ow23 hw)) (ty := (.array .byte)) own_fd0
    have f6 : Fld Z h2 b2 "java/lang/String" "coder" "B" (.int (0 : Int32)) := D2 (Or.inr (ow24 hw)) (ty := .byte) own_fd1
    refine own_goW (fun _ k => XS.dup X2.here hx rfl (hb hby d1_41) rfl rfl (XS.iconst X2.here hx rfl (hb hby d1_42) k)) ?_
    obtain ⟨T7, h7, k7, X7, e7, E7, A7, st7⟩ := newP (aty := .char) X2 hx hZ (ow10 hw) e2 (g := (mkF m 43 #[iv p1, iv (p1 &&& (3 : Int32)), iv (((p1.toUInt32 >>> ((2 : Int32) &&& 31).toUInt32).toInt32) &&& (255 : Int32)), iv (((p1.toUInt32 >>> ((10 : Int32) &&& 31).toUInt32).toInt32) &&& (255 : Int32)), iv (((p1.toUInt32 >>> ((18 : Int32) &&& 31).toUInt32).toInt32) &&& (255 : Int32)), .unset] [(.int (0 : Int32)), (.ref b2), (.ref b2)])) rfl (hb hby d1_43) rfl (by decide) (cap := 0) (by decide) (by decide) (by show _ ≤ 4; omega) (by show _ ≤ 10; omega)
    obtain ⟨b7, g7⟩ : ∃ z, z = h2.size := ⟨_, rfl⟩
    rw [← g7] at A7 st7
    refine own_goW st7 ?_
    clear st7 X2 e2
    have ge7 := Nat.le_of_eq g7.symm
    have ne8 : b2 ≠ b7 := Nat.ne_of_lt (Nat.lt_of_lt_of_le A2.lt ge7)
    have big9 : Z.heap.size ≤ b7 := Nat.le_trans O0.1 ge7
    have sz10 : h0.size ≤ b7 := Nat.le_trans K0.1 ge7
    replace A2 := A2.ext E7
    replace f5 := f5.ext E7
    replace f6 := f6.ext E7
    replace O0 := own_oldExt O0 E7
    replace K0 := K0.ext E7
    replace hS := own_since hS E7.1
    replace hJ := own_Jext hJ E7
    clear E7
    have f11 : Arv Z h7 b7 k7 .char (0 : Int32) [] (.int (0 : Int32)) := (Arv.new A7 (by decide)).pad (pad_rep [] (.int (0 : Int32)) 0)
    show own_GoW p e below s _ _ _ _ (T7.setTop (mkF m 45 #[iv p1, iv (p1 &&& (3 : Int32)), iv (((p1.toUInt32 >>> ((2 : Int32) &&& 31).toUInt32).toInt32) &&& (255 : Int32)), iv (((p1.toUInt32 >>> ((10 : Int32) &&& 31).toUInt32).toInt32) &&& (255 : Int32)), iv (((p1.toUInt32 >>> ((18 : Int32) &&& 31).toUInt32).toInt32) &&& (255 : Int32)), .unset] [(.ref b7), (.ref b2), (.ref b2)]))
    obtain ⟨v12, T12, L12, X12, hSn, hZn, hownn, hQ12, hJn, st12⟩ := own_callIW (y := own_y1) X7 hS hL hJ hx hZ hown (ow11 hw) (ow12 hw) (ow9 hw) (ow13 hw) (rm_st1E l Z a0 hw hO [] b2 b7 k7 h7 O0 A2 f5 f6 f11 big3) 1 2 4 rfl (by show _ ≤ 4; omega) (by show _ ≤ 10; omega) e7 (g := (mkF m 45 #[iv p1, iv (p1 &&& (3 : Int32)), iv (((p1.toUInt32 >>> ((2 : Int32) &&& 31).toUInt32).toInt32) &&& (255 : Int32)), iv (((p1.toUInt32 >>> ((10 : Int32) &&& 31).toUInt32).toInt32) &&& (255 : Int32)), iv (((p1.toUInt32 >>> ((18 : Int32) &&& 31).toUInt32).toInt32) &&& (255 : Int32)), .unset] [(.ref b7), (.ref b2), (.ref b2)])) rfl (by rw [hml]; rfl) b2 [(.ref b7)] [(.ref b2)] (lenOf own_pd_1 rfl) rfl rfl (hb hby d1_45)
    replace hS := hSn
    replace hZ := hZn
    replace hown := hownn
    replace hJ := hJn
    clear hSn hZn hownn hJn
    obtain ⟨w13, w14, rfl, Nc20, Kc19, f15, f16, f17, f18⟩ := hQ12
    refine own_goW st12 ?_
    clear st12 X7 e7
    replace N0 := Fr.app N0 Nc20
    clear Nc20
    replace A2 := A2.keep Kc19
    clear f5
    clear f6
    replace f11 := f11.keep Kc19 (ninS ne8.symm nin0)
    replace O0 := own_oldKeep O0 Kc19 (allS big3 all0)
    replace K0 := K0.trans Kc19 (allS (Or.inr sz4) all0)
    clear Kc19
    show own_GoW p e below s _ _ _ _ (T12.setTop (mkF m 48 #[iv p1, iv (p1 &&& (3 : Int32)), iv (((p1.toUInt32 >>> ((2 : Int32) &&& 31).toUInt32).toInt32) &&& (255 : Int32)), iv (((p1.toUInt32 >>> ((10 : Int32) &&& 31).toUInt32).toInt32) &&& (255 : Int32)), iv (((p1.toUInt32 >>> ((18 : Int32) &&& 31).toUInt32).toInt32) &&& (255 : Int32)), .unset] [(.ref b2)]))
    have sl21 : own_Sl Z T12.heap b2 (own_cs p1) := by
      rw [own_cs_0 hc1]
      exact own_mkSl (cs := []) f15 f16 f17 f18 rfl rfl own_cN (Nat.le_of_ble_eq_true rfl)
    refine own_retAW X12 hS hL hZ hJ hx hlk (rfl : T12.heap = T12.heap) hret rfl rfl (hb hby d1_48) (by show _ ≤ 4; omega) (by show _ ≤ 10; omega) ?_
    exact ⟨b2, rfl, N0, K0, sz4, f15, sl21⟩
  · refine own_goW (fun _ k => XS.ifYes X0.here hx rfl (pc0 := 35) (pc' := 49) rfl (hb hby d1_35) rfl ((if0 _ _).trans (feq hc1).2) (by decide) (by decide) k) ?_
    show own_GoW p e below s _ _ _ _ (T.setTop (mkF m 49 #[iv p1, iv (p1 &&& (3 : Int32)), iv (((p1.toUInt32 >>> ((2 : Int32) &&& 31).toUInt32).toInt32) &&& (255 : Int32)), iv (((p1.toUInt32 >>> ((10 : Int32) &&& 31).toUInt32).toInt32) &&& (255 : Int32)), iv (((p1.toUInt32 >>> ((18 : Int32) &&& 31).toUInt32).toInt32) &&& (255 : Int32)), .unset] []))
    refine own_goW (fun _ k => XS.iloadN X0.here hx rfl (hb hby d1_49) rfl (XS.iconst X0.here hx rfl (hb hby d1_50) k)) ?_
    by_cases hc22 : (p1 &&& (3 : Int32)) = (1 : Int32)
    · refine own_goW (fun _ k => XS.icmpNo X0.here hx rfl (hb hby d1_51) rfl (teq hc22).2 k) ?_
      show own_GoW p e below s _ _ _ _ (T.setTop (mkF m 54 #[iv p1, iv (p1 &&& (3 : Int32)), iv (((p1.toUInt32 >>> ((2 : Int32) &&& 31).toUInt32).toInt32) &&& (255 : Int32)), iv (((p1.toUInt32 >>> ((10 : Int32) &&& 31).toUInt32).toInt32) &&& (255 : Int32)), iv (((p1.toUInt32 >>> ((18 : Int32) &&& 31).toUInt32).toInt32) &&& (255 : Int32)), .unset] []))
      refine own_goW (fun _ k => XS.iconst X0.here hx rfl (hb hby d1_54) k) ?_
      obtain ⟨T23, h23, k23, X23, e23, E23, A23, st23⟩ := newP (aty := .char) X0 hx hZ (ow10 hw) e0 (g := (mkF m 55 #[iv p1, iv (p1 &&& (3 : Int32)), iv (((p1.toUInt32 >>> ((2 : Int32) &&& 31).toUInt32).toInt32) &&& (255 : Int32)), iv (((p1.toUInt32 >>> ((10 : Int32) &&& 31).toUInt32).toInt32) &&& (255 : Int32)), iv (((p1.toUInt32 >>> ((18 : Int32) &&& 31).toUInt32).toInt32) &&& (255 : Int32)), .unset] [(.int (1 : Int32))])) rfl (hb hby d1_55) rfl (by decide) (cap := 1) (by decide) (by decide) (by show _ ≤ 4; omega) (by show _ ≤ 10; omega)
      obtain ⟨b23, g23⟩ : ∃ z, z = h0.size := ⟨_, rfl⟩
      rw [← g23] at A23 st23
      refine own_goW st23 ?_
      clear st23 X0 e0
      have ge23 := Nat.le_of_eq g23.symm
      have big24 : Z.heap.size ≤ b23 := Nat.le_trans O0.1 ge23
      have sz25 : h0.size ≤ b23 := Nat.le_trans K0.1 ge23
      replace O0 := own_oldExt O0 E23
      replace K0 := K0.ext E23
      replace hS := own_since hS E23.1
      replace hJ := own_Jext hJ E23
      clear E23
      have f26 : Arv Z h23 b23 k23 .char (1 : Int32) [(.int (0 : Int32))] (.int (0 : Int32)) := (Arv.new A23 (by decide)).pad (pad_rep [] (.int (0 : Int32)) 1)
      refine own_goW (fun _ k => XS.astore X23.here hx rfl (hb hby d1_57) rfl rfl (l' := #[iv p1, iv (p1 &&& (3 : Int32)), iv (((p1.toUInt32 >>> ((2 : Int32) &&& 31).toUInt32).toInt32) &&& (255 : Int32)), iv (((p1.toUInt32 >>> ((10 : Int32) &&& 31).toUInt32).toInt32) &&& (255 : Int32)), iv (((p1.toUInt32 >>> ((18 : Int32) &&& 31).toUInt32).toInt32) &&& (255 : Int32)), rv b23]) rfl (XS.aload X23.here hx rfl (hb hby d1_59) rfl rfl k)) ?_
      show own_GoW p e below s _ _ _ _ (T23.setTop (mkF m 61 #[iv p1, iv (p1 &&& (3 : Int32)), iv (((p1.toUInt32 >>> ((2 : Int32) &&& 31).toUInt32).toInt32) &&& (255 : Int32)), iv (((p1.toUInt32 >>> ((10 : Int32) &&& 31).toUInt32).toInt32) &&& (255 : Int32)), iv (((p1.toUInt32 >>> ((18 : Int32) &&& 31).toUInt32).toInt32) &&& (255 : Int32)), rv b23] [(.ref b23)]))
      refine own_goW (fun _ k => XS.iconst X23.here hx rfl (hb hby d1_61) (XS.iloadN X23.here hx rfl (hb hby d1_62) rfl k)) ?_
      obtain ⟨cl27, Ar27, q27, S27, M27, P27, G27⟩ := id f26
      have hin27 : ¬ ((0 : Int32) < 0 ∨ cl27.slots.size ≤ ((0 : Int32)).toNatClampNeg) := inb_of S27 ⟨by decide, by decide⟩
      obtain ⟨T28, h28, X28, e28, W28, st28⟩ := stC X23 hx hZ e23 Ar27 (j := (0 : Int32)) hin27 (g := (mkF m 63 #[iv p1, iv (p1 &&& (3 : Int32)), iv (((p1.toUInt32 >>> ((2 : Int32) &&& 31).toUInt32).toInt32) &&& (255 : Int32)), iv (((p1.toUInt32 >>> ((10 : Int32) &&& 31).toUInt32).toInt32) &&& (255 : Int32)), iv (((p1.toUInt32 >>> ((18 : Int32) &&& 31).toUInt32).toInt32) &&& (255 : Int32)), rv b23] [(.int (((p1.toUInt32 >>> ((2 : Int32) &&& 31).toUInt32).toInt32) &&& (255 : Int32))), (.int (0 : Int32)), (.ref b23)])) rfl rfl (hb hby d1_63)
      refine own_goW st28 ?_
      clear st28 X23 e23
      rw [own_narM ((p1.toUInt32 >>> ((2 : Int32) &&& 31).toUInt32).toInt32)] at W28
      have f29 : Arv Z h28 b23 k23 .char (1 : Int32) [(.int (((p1.toUInt32 >>> ((2 : Int32) &&& 31).toUInt32).toInt32) &&& (255 : Int32)))] (.int (0 : Int32)) := Arv.set Ar27 q27 S27 M27 P27 G27 (by have q := fits_nar_char (((p1.toUInt32 >>> ((2 : Int32) &&& 31).toUInt32).toInt32) &&& (255 : Int32)); rw [own_narM ((p1.toUInt32 >>> ((2 : Int32) &&& 31).toUInt32).toInt32)] at q; exact q) W28 0 rfl (Nat.le_of_ble_eq_true rfl)
      replace N0 := Fr.snoc X28 N0 big24
      replace hJ := own_Jwr hZ hJ W28 (own_farV f26 (by decide) (ow8 hw))
      clear f26
      replace O0 := own_oldWr O0 W28 big24
      replace K0 := K0.wr W28 (Or.inr sz25)
      replace hS := own_since hS (Nat.le_of_eq W28.size.symm)
      clear W28
      clear Ar27 q27 S27 M27 P27 G27 hin27
      obtain ⟨T30, h30, X30, e30, E30, A30, D30, -, st30⟩ := newO X28 hx hZ hown (ow7 hw) (ow8 hw) (ow9 hw) e28 (g := (mkF m 64 #[iv p1, iv (p1 &&& (3 : Int32)), iv (((p1.toUInt32 >>> ((2 : Int32) &&& 31).toUInt32).toInt32) &&& (255 : Int32)), iv (((p1.toUInt32 >>> ((10 : Int32) &&& 31).toUInt32).toInt32) &&& (255 : Int32)), iv (((p1.toUInt32 >>> ((18 : Int32) &&& 31).toUInt32).toInt32) &&& (255 : Int32)), rv b23] [])) rfl (hb hby d1_64) (by show _ ≤ 4; omega) (by show _ ≤ 10; omega)
      obtain ⟨b30, g30⟩ : ∃ z, z = h28.size := ⟨_, rfl⟩
      rw [← g30] at A30 D30 st30
      refine own_goW st30 ?_
      clear st30 X28 e28
      have ge30 := Nat.le_of_eq g30.symm
      have ne31 : b23 ≠ b30 := Nat.ne_of_lt (Nat.lt_of_lt_of_le f29.lt ge30)
      have big32 : Z.heap.size ≤ b30 := Nat.le_trans O0.1 ge30
      have sz33 : h0.size ≤ b30 := Nat.le_trans K0.1 ge30
      replace f29 := f29.ext E30
      replace O0 := own_oldExt O0 E30
      replace K0 := K0.ext E30
      replace hS := own_since hS E30.1
      replace hJ := own_Jext hJ E30
      clear E30
      have f34 : Fld Z h30 b30 "java/lang/String" "value" "[B" .null := D30 (Or.inr (ow23 hw)) (ty := (.array .byte)) own_fd0
      have f35 : Fld Z h30 b30 "java/lang/String" "coder" "B" (.int (0 : Int32)) := D30 (Or.inr (ow24 hw)) (ty := .byte) own_fd1
      show own_GoW p e below s _ _ _ _ (T30.setTop (mkF m 67 #[iv p1, iv (p1 &&& (3 : Int32)), iv (((p1.toUInt32 >>> ((2 : Int32) &&& 31).toUInt32).toInt32) &&& (255 : Int32)), iv (((p1.toUInt32 >>> ((10 : Int32) &&& 31).toUInt32).toInt32) &&& (255 : Int32)), iv (((p1.toUInt32 >>> ((18 : Int32) &&& 31).toUInt32).toInt32) &&& (255 : Int32)), rv b23] [(.ref b30)]))
      refine own_goW (fun _ k => XS.dup X30.here hx rfl (hb hby d1_67) rfl rfl (XS.aload X30.here hx rfl (hb hby d1_68) rfl rfl k)) ?_
      obtain ⟨v36, T36, L36, X36, hQ36, st36⟩ := own_callIB (y := own_y1) X30 hx hZ hown (ow11 hw) (ow12 hw) (ow9 hw) (ow13 hw) 1 1 1 (StrChars.Road.backV (W := 1) hZ (own_sw1 hw) (kI := 4) (ow8 hw) (cs := ([(((p1.toUInt32 >>> ((2 : Int32) &&& 31).toUInt32).toInt32) &&& (255 : Int32))] : List Int32)) (bs := ([(((p1.toUInt32 >>> ((2 : Int32) &&& 31).toUInt32).toInt32) &&& (255 : Int32))] : List Int32).map (fun c => c.toInt8.toInt32)) (n := 1) (n0 := Z.heap.size) big32 (Nat.le_trans O0.1 (Nat.le_refl _)) A30 f34 f35 f29 (oCS.ext O0) oCz rfl rfl (by decide) (by decide) (own_cC (own_c8m ((p1.toUInt32 >>> ((2 : Int32) &&& 31).toUInt32).toInt32)) own_cN) rfl (by decide) (by decide)) rfl (by show _ ≤ 4; omega) (by show _ ≤ 10; omega) e30 (g := (mkF m 70 #[iv p1, iv (p1 &&& (3 : Int32)), iv (((p1.toUInt32 >>> ((2 : Int32) &&& 31).toUInt32).toInt32) &&& (255 : Int32)), iv (((p1.toUInt32 >>> ((10 : Int32) &&& 31).toUInt32).toInt32) &&& (255 : Int32)), iv (((p1.toUInt32 >>> ((18 : Int32) &&& 31).toUInt32).toInt32) &&& (255 : Int32)), rv b23] [(.ref b23), (.ref b30), (.ref b30)])) rfl (by rw [hml]; rfl) b30 [(.ref b23)] [(.ref b30)] (lenOf own_pd_1 rfl) rfl rfl (hb hby d1_70)
      obtain ⟨rfl, Nc36, Kc36, f136, f236, t36, kb36, tb36, ts36, tn36, f336, f436⟩ := hQ36
      refine own_goW st36 ?_
      clear st36 X30 e30
      replace N0 := Fr.app N0 Nc36
      clear Nc36
      replace hS := own_since hS Kc36.1
      have ne37 : b23 ≠ t36 := Nat.ne_of_lt (Nat.lt_of_lt_of_le f29.lt ts36)
      have ne38 : b30 ≠ t36 := Nat.ne_of_lt (Nat.lt_of_lt_of_le A30.lt ts36)
      have big39 : Z.heap.size ≤ t36 := Nat.le_trans O0.1 ts36
      have sz40 : h0.size ≤ t36 := Nat.le_trans K0.1 ts36
      have hAp_b30 := own_apart hZ hJ f34
      replace hJ := own_JkeepS hZ hJ Kc36 hAp_b30 A30 (ow8 hw)
      replace f29 := f29.keep Kc36 (ninS ne31 nin0)
      replace A30 := A30.keep Kc36
      clear f34
      clear f35
      replace O0 := own_oldKeep O0 Kc36 (allS big32 all0)
      replace K0 := K0.trans Kc36 (allS (Or.inr sz33) all0)
      clear Kc36
      replace f436 : Arv Z T36.heap t36 kb36 .byte (1 : Int32) [(.int ((((p1.toUInt32 >>> ((2 : Int32) &&& 31).toUInt32).toInt32) &&& (255 : Int32)).toInt8.toInt32))] (.int (0 : Int32)) := f436
      show own_GoW p e below s _ _ _ _ (T36.setTop (mkF m 73 #[iv p1, iv (p1 &&& (3 : Int32)), iv (((p1.toUInt32 >>> ((2 : Int32) &&& 31).toUInt32).toInt32) &&& (255 : Int32)), iv (((p1.toUInt32 >>> ((10 : Int32) &&& 31).toUInt32).toInt32) &&& (255 : Int32)), iv (((p1.toUInt32 >>> ((18 : Int32) &&& 31).toUInt32).toInt32) &&& (255 : Int32)), rv b23] [(.ref b30)]))
      have sl41 : own_Sl Z T36.heap b30 (own_cs p1) := by
        rw [own_cs_1 hc22]
        exact own_mkSl (cs := [(((p1.toUInt32 >>> ((2 : Int32) &&& 31).toUInt32).toInt32) &&& (255 : Int32))]) f136 f236 f336 f436 rfl rfl (own_cC (own_c8m ((p1.toUInt32 >>> ((2 : Int32) &&& 31).toUInt32).toInt32)) own_cN) (Nat.le_of_ble_eq_true rfl)
      refine own_retAW X36 hS hL hZ hJ hx hlk (rfl : T36.heap = T36.heap) hret rfl rfl (hb hby d1_73) (by show _ ≤ 4; omega) (by show _ ≤ 10; omega) ?_
      exact ⟨b30, rfl, N0, K0, sz33, f136, sl41⟩
    · refine own_goW (fun _ k => XS.icmpYes X0.here hx rfl (pc0 := 51) (pc' := 74) rfl (hb hby d1_51) rfl (feq hc22).2 (by decide) (by decide) k) ?_
      show own_GoW p e below s _ _ _ _ (T.setTop (mkF m 74 #[iv p1, iv (p1 &&& (3 : Int32)), iv (((p1.toUInt32 >>> ((2 : Int32) &&& 31).toUInt32).toInt32) &&& (255 : Int32)), iv (((p1.toUInt32 >>> ((10 : Int32) &&& 31).toUInt32).toInt32) &&& (255 : Int32)), iv (((p1.toUInt32 >>> ((18 : Int32) &&& 31).toUInt32).toInt32) &&& (255 : Int32)), .unset] []))
      refine own_goW (fun _ k => XS.iloadN X0.here hx rfl (hb hby d1_74) rfl (XS.iconst X0.here hx rfl (hb hby d1_75) k)) ?_
      by_cases hc42 : (p1 &&& (3 : Int32)) = (2 : Int32)
      · refine own_goW (fun _ k => XS.icmpNo X0.here hx rfl (hb hby d1_76) rfl (teq hc42).2 k) ?_
        show own_GoW p e below s _ _ _ _ (T.setTop (mkF m 79 #[iv p1, iv (p1 &&& (3 : Int32)), iv (((p1.toUInt32 >>> ((2 : Int32) &&& 31).toUInt32).toInt32) &&& (255 : Int32)), iv (((p1.toUInt32 >>> ((10 : Int32) &&& 31).toUInt32).toInt32) &&& (255 : Int32)), iv (((p1.toUInt32 >>> ((18 : Int32) &&& 31).toUInt32).toInt32) &&& (255 : Int32)), .unset] []))
        refine own_goW (fun _ k => XS.iconst X0.here hx rfl (hb hby d1_79) k) ?_
        obtain ⟨T43, h43, k43, X43, e43, E43, A43, st43⟩ := newP (aty := .char) X0 hx hZ (ow10 hw) e0 (g := (mkF m 80 #[iv p1, iv (p1 &&& (3 : Int32)), iv (((p1.toUInt32 >>> ((2 : Int32) &&& 31).toUInt32).toInt32) &&& (255 : Int32)), iv (((p1.toUInt32 >>> ((10 : Int32) &&& 31).toUInt32).toInt32) &&& (255 : Int32)), iv (((p1.toUInt32 >>> ((18 : Int32) &&& 31).toUInt32).toInt32) &&& (255 : Int32)), .unset] [(.int (2 : Int32))])) rfl (hb hby d1_80) rfl (by decide) (cap := 2) (by decide) (by decide) (by show _ ≤ 4; omega) (by show _ ≤ 10; omega)
        obtain ⟨b43, g43⟩ : ∃ z, z = h0.size := ⟨_, rfl⟩
        rw [← g43] at A43 st43
        refine own_goW st43 ?_
        clear st43 X0 e0
        have ge43 := Nat.le_of_eq g43.symm
        have big44 : Z.heap.size ≤ b43 := Nat.le_trans O0.1 ge43
        have sz45 : h0.size ≤ b43 := Nat.le_trans K0.1 ge43
        replace O0 := own_oldExt O0 E43
        replace K0 := K0.ext E43
        replace hS := own_since hS E43.1
        replace hJ := own_Jext hJ E43
        clear E43
        have f46 : Arv Z h43 b43 k43 .char (2 : Int32) [(.int (0 : Int32)), (.int (0 : Int32))] (.int (0 : Int32)) := (Arv.new A43 (by decide)).pad (pad_rep [] (.int (0 : Int32)) 2)
        refine own_goW (fun _ k => XS.astore X43.here hx rfl (hb hby d1_82) rfl rfl (l' := #[iv p1, iv (p1 &&& (3 : Int32)), iv (((p1.toUInt32 >>> ((2 : Int32) &&& 31).toUInt32).toInt32) &&& (255 : Int32)), iv (((p1.toUInt32 >>> ((10 : Int32) &&& 31).toUInt32).toInt32) &&& (255 : Int32)), iv (((p1.toUInt32 >>> ((18 : Int32) &&& 31).toUInt32).toInt32) &&& (255 : Int32)), rv b43]) rfl (XS.aload X43.here hx rfl (hb hby d1_84) rfl rfl k)) ?_
        show own_GoW p e below s _ _ _ _ (T43.setTop (mkF m 86 #[iv p1, iv (p1 &&& (3 : Int32)), iv (((p1.toUInt32 >>> ((2 : Int32) &&& 31).toUInt32).toInt32) &&& (255 : Int32)), iv (((p1.toUInt32 >>> ((10 : Int32) &&& 31).toUInt32).toInt32) &&& (255 : Int32)), iv (((p1.toUInt32 >>> ((18 : Int32) &&& 31).toUInt32).toInt32) &&& (255 : Int32)), rv b43] [(.ref b43)]))
        refine own_goW (fun _ k => XS.iconst X43.here hx rfl (hb hby d1_86) (XS.iloadN X43.here hx rfl (hb hby d1_87) rfl k)) ?_
        obtain ⟨cl47, Ar47, q47, S47, M47, P47, G47⟩ := id f46
        have hin47 : ¬ ((0 : Int32) < 0 ∨ cl47.slots.size ≤ ((0 : Int32)).toNatClampNeg) := inb_of S47 ⟨by decide, by decide⟩
        obtain ⟨T48, h48, X48, e48, W48, st48⟩ := stC X43 hx hZ e43 Ar47 (j := (0 : Int32)) hin47 (g := (mkF m 88 #[iv p1, iv (p1 &&& (3 : Int32)), iv (((p1.toUInt32 >>> ((2 : Int32) &&& 31).toUInt32).toInt32) &&& (255 : Int32)), iv (((p1.toUInt32 >>> ((10 : Int32) &&& 31).toUInt32).toInt32) &&& (255 : Int32)), iv (((p1.toUInt32 >>> ((18 : Int32) &&& 31).toUInt32).toInt32) &&& (255 : Int32)), rv b43] [(.int (((p1.toUInt32 >>> ((2 : Int32) &&& 31).toUInt32).toInt32) &&& (255 : Int32))), (.int (0 : Int32)), (.ref b43)])) rfl rfl (hb hby d1_88)
        refine own_goW st48 ?_
        clear st48 X43 e43
        rw [own_narM ((p1.toUInt32 >>> ((2 : Int32) &&& 31).toUInt32).toInt32)] at W48
        have f49 : Arv Z h48 b43 k43 .char (2 : Int32) [(.int (((p1.toUInt32 >>> ((2 : Int32) &&& 31).toUInt32).toInt32) &&& (255 : Int32))), (.int (0 : Int32))] (.int (0 : Int32)) := Arv.set Ar47 q47 S47 M47 P47 G47 (by have q := fits_nar_char (((p1.toUInt32 >>> ((2 : Int32) &&& 31).toUInt32).toInt32) &&& (255 : Int32)); rw [own_narM ((p1.toUInt32 >>> ((2 : Int32) &&& 31).toUInt32).toInt32)] at q; exact q) W48 0 rfl (Nat.le_of_ble_eq_true rfl)
        replace N0 := Fr.snoc X48 N0 big44
        replace hJ := own_Jwr hZ hJ W48 (own_farV f46 (by decide) (ow8 hw))
        clear f46
        replace O0 := own_oldWr O0 W48 big44
        replace K0 := K0.wr W48 (Or.inr sz45)
        replace hS := own_since hS (Nat.le_of_eq W48.size.symm)
        clear W48
        clear Ar47 q47 S47 M47 P47 G47 hin47
        refine own_goW (fun _ k => XS.aload X48.here hx rfl (hb hby d1_89) rfl rfl k) ?_
        show own_GoW p e below s _ _ _ _ (T48.setTop (mkF m 91 #[iv p1, iv (p1 &&& (3 : Int32)), iv (((p1.toUInt32 >>> ((2 : Int32) &&& 31).toUInt32).toInt32) &&& (255 : Int32)), iv (((p1.toUInt32 >>> ((10 : Int32) &&& 31).toUInt32).toInt32) &&& (255 : Int32)), iv (((p1.toUInt32 >>> ((18 : Int32) &&& 31).toUInt32).toInt32) &&& (255 : Int32)), rv b43] [(.ref b43)]))
        refine own_goW (fun _ k => XS.iconst X48.here hx rfl (hb hby d1_91) (XS.iloadN X48.here hx rfl (hb hby d1_92) rfl k)) ?_
        obtain ⟨cl50, Ar50, q50, S50, M50, P50, G50⟩ := id f49
        have hin50 : ¬ ((1 : Int32) < 0 ∨ cl50.slots.size ≤ ((1 : Int32)).toNatClampNeg) := inb_of S50 ⟨by decide, by decide⟩
        obtain ⟨T51, h51, X51, e51, W51, st51⟩ := stC X48 hx hZ e48 Ar50 (j := (1 : Int32)) hin50 (g := (mkF m 93 #[iv p1, iv (p1 &&& (3 : Int32)), iv (((p1.toUInt32 >>> ((2 : Int32) &&& 31).toUInt32).toInt32) &&& (255 : Int32)), iv (((p1.toUInt32 >>> ((10 : Int32) &&& 31).toUInt32).toInt32) &&& (255 : Int32)), iv (((p1.toUInt32 >>> ((18 : Int32) &&& 31).toUInt32).toInt32) &&& (255 : Int32)), rv b43] [(.int (((p1.toUInt32 >>> ((10 : Int32) &&& 31).toUInt32).toInt32) &&& (255 : Int32))), (.int (1 : Int32)), (.ref b43)])) rfl rfl (hb hby d1_93)
        refine own_goW st51 ?_
        clear st51 X48 e48
        rw [own_narM ((p1.toUInt32 >>> ((10 : Int32) &&& 31).toUInt32).toInt32)] at W51
        have f52 : Arv Z h51 b43 k43 .char (2 : Int32) [(.int (((p1.toUInt32 >>> ((2 : Int32) &&& 31).toUInt32).toInt32) &&& (255 : Int32))), (.int (((p1.toUInt32 >>> ((10 : Int32) &&& 31).toUInt32).toInt32) &&& (255 : Int32)))] (.int (0 : Int32)) := Arv.set Ar50 q50 S50 M50 P50 G50 (by have q := fits_nar_char (((p1.toUInt32 >>> ((10 : Int32) &&& 31).toUInt32).toInt32) &&& (255 : Int32)); rw [own_narM ((p1.toUInt32 >>> ((10 : Int32) &&& 31).toUInt32).toInt32)] at q; exact q) W51 1 rfl (Nat.le_of_ble_eq_true rfl)
        replace N0 := Fr.snoc X51 N0 big44
        replace hJ := own_Jwr hZ hJ W51 (own_farV f49 (by decide) (ow8 hw))
        clear f49
        replace O0 := own_oldWr O0 W51 big44
        replace K0 := K0.wr W51 (Or.inr sz45)
        replace hS := own_since hS (Nat.le_of_eq W51.size.symm)
        clear W51
        clear Ar50 q50 S50 M50 P50 G50 hin50
        obtain ⟨T53, h53, X53, e53, E53, A53, D53, -, st53⟩ := newO X51 hx hZ hown (ow7 hw) (ow8 hw) (ow9 hw) e51 (g := (mkF m 94 #[iv p1, iv (p1 &&& (3 : Int32)), iv (((p1.toUInt32 >>> ((2 : Int32) &&& 31).toUInt32).toInt32) &&& (255 : Int32)), iv (((p1.toUInt32 >>> ((10 : Int32) &&& 31).toUInt32).toInt32) &&& (255 : Int32)), iv (((p1.toUInt32 >>> ((18 : Int32) &&& 31).toUInt32).toInt32) &&& (255 : Int32)), rv b43] [])) rfl (hb hby d1_94) (by show _ ≤ 4; omega) (by show _ ≤ 10; omega)
        obtain ⟨b53, g53⟩ : ∃ z, z = h51.size := ⟨_, rfl⟩
        rw [← g53] at A53 D53 st53
        refine own_goW st53 ?_
        clear st53 X51 e51
        have ge53 := Nat.le_of_eq g53.symm
        have ne54 : b43 ≠ b53 := Nat.ne_of_lt (Nat.lt_of_lt_of_le f52.lt ge53)
        have big55 : Z.heap.size ≤ b53 := Nat.le_trans O0.1 ge53
        have sz56 : h0.size ≤ b53 := Nat.le_trans K0.1 ge53
        replace f52 := f52.ext E53
        replace O0 := own_oldExt O0 E53
        replace K0 := K0.ext E53
        replace hS := own_since hS E53.1
        replace hJ := own_Jext hJ E53
        clear E53
        have f57 : Fld Z h53 b53 "java/lang/String" "value" "[B" .null := D53 (Or.inr (ow23 hw)) (ty := (.array .byte)) own_fd0
        have f58 : Fld Z h53 b53 "java/lang/String" "coder" "B" (.int (0 : Int32)) := D53 (Or.inr (ow24 hw)) (ty := .byte) own_fd1
        show own_GoW p e below s _ _ _ _ (T53.setTop (mkF m 97 #[iv p1, iv (p1 &&& (3 : Int32)), iv (((p1.toUInt32 >>> ((2 : Int32) &&& 31).toUInt32).toInt32) &&& (255 : Int32)), iv (((p1.toUInt32 >>> ((10 : Int32) &&& 31).toUInt32).toInt32) &&& (255 : Int32)), iv (((p1.toUInt32 >>> ((18 : Int32) &&& 31).toUInt32).toInt32) &&& (255 : Int32)), rv b43] [(.ref b53)]))
        refine own_goW (fun _ k => XS.dup X53.here hx rfl (hb hby d1_97) rfl rfl (XS.aload X53.here hx rfl (hb hby d1_98) rfl rfl k)) ?_
        obtain ⟨v59, T59, L59, X59, hQ59, st59⟩ := own_callIB (y := own_y1) X53 hx hZ hown (ow11 hw) (ow12 hw) (ow9 hw) (ow13 hw) 1 1 2 (StrChars.Road.backV (W := 1) hZ (own_sw1 hw) (kI := 4) (ow8 hw) (cs := ([(((p1.toUInt32 >>> ((2 : Int32) &&& 31).toUInt32).toInt32) &&& (255 : Int32)), (((p1.toUInt32 >>> ((10 : Int32) &&& 31).toUInt32).toInt32) &&& (255 : Int32))] : List Int32)) (bs := ([(((p1.toUInt32 >>> ((2 : Int32) &&& 31).toUInt32).toInt32) &&& (255 : Int32)), (((p1.toUInt32 >>> ((10 : Int32) &&& 31).toUInt32).toInt32) &&& (255 : Int32))] : List Int32).map (fun c => c.toInt8.toInt32)) (n := 2) (n0 := Z.heap.size) big55 (Nat.le_trans O0.1 (Nat.le_refl _)) A53 f57 f58 f52 (oCS.ext O0) oCz rfl rfl (by decide) (by decide) (own_cC (own_c8m ((p1.toUInt32 >>> ((2 : Int32) &&& 31).toUInt32).toInt32)) (own_cC (own_c8m ((p1.toUInt32 >>> ((10 : Int32) &&& 31).toUInt32).toInt32)) own_cN)) rfl (by decide) (by decide)) rfl (by show _ ≤ 4; omega) (by show _ ≤ 10; omega) e53 (g := (mkF m 100 #[iv p1, iv (p1 &&& (3 : Int32)), iv (((p1.toUInt32 >>> ((2 : Int32) &&& 31).toUInt32).toInt32) &&& (255 : Int32)), iv (((p1.toUInt32 >>> ((10 : Int32) &&& 31).toUInt32).toInt32) &&& (255 : Int32)), iv (((p1.toUInt32 >>> ((18 : Int32) &&& 31).toUInt32).toInt32) &&& (255 : Int32)), rv b43] [(.ref b43), (.ref b53), (.ref b53)])) rfl (by rw [hml]; rfl) b53 [(.ref b43)] [(.ref b53)] (lenOf own_pd_1 rfl) rfl rfl (hb hby d1_100)
        obtain ⟨rfl, Nc59, Kc59, f159, f259, t59, kb59, tb59, ts59, tn59, f359, f459⟩ := hQ59
        refine own_goW st59 ?_
        clear st59 X53 e53
        replace N0 := Fr.app N0 Nc59
        clear Nc59
        replace hS := own_since hS Kc59.1
        have ne60 : b43 ≠ t59 := Nat.ne_of_lt (Nat.lt_of_lt_of_le f52.lt ts59)
        have ne61 : b53 ≠ t59 := Nat.ne_of_lt (Nat.lt_of_lt_of_le A53.lt ts59)
        have big62 : Z.heap.size ≤ t59 := Nat.le_trans O0.1 ts59
        have sz63 : h0.size ≤ t59 := Nat.le_trans K0.1 ts59
        have hAp_b53 := own_apart hZ hJ f57
        replace hJ := own_JkeepS hZ hJ Kc59 hAp_b53 A53 (ow8 hw)
        replace f52 := f52.keep Kc59 (ninS ne54 nin0)
        replace A53 := A53.keep Kc59
        clear f57
        clear f58
        replace O0 := own_oldKeep O0 Kc59 (allS big55 all0)
        replace K0 := K0.trans Kc59 (allS (Or.inr sz56) all0)
        clear Kc59
        replace f459 : Arv Z T59.heap t59 kb59 .byte (2 : Int32) [(.int ((((p1.toUInt32 >>> ((2 : Int32) &&& 31).toUInt32).toInt32) &&& (255 : Int32)).toInt8.toInt32)), (.int ((((p1.toUInt32 >>> ((10 : Int32) &&& 31).toUInt32).toInt32) &&& (255 : Int32)).toInt8.toInt32))] (.int (0 : Int32)) := f459
        show own_GoW p e below s _ _ _ _ (T59.setTop (mkF m 103 #[iv p1, iv (p1 &&& (3 : Int32)), iv (((p1.toUInt32 >>> ((2 : Int32) &&& 31).toUInt32).toInt32) &&& (255 : Int32)), iv (((p1.toUInt32 >>> ((10 : Int32) &&& 31).toUInt32).toInt32) &&& (255 : Int32)), iv (((p1.toUInt32 >>> ((18 : Int32) &&& 31).toUInt32).toInt32) &&& (255 : Int32)), rv b43] [(.ref b53)]))
        have sl64 : own_Sl Z T59.heap b53 (own_cs p1) := by
          rw [own_cs_2 hc42]
          exact own_mkSl (cs := [(((p1.toUInt32 >>> ((2 : Int32) &&& 31).toUInt32).toInt32) &&& (255 : Int32)), (((p1.toUInt32 >>> ((10 : Int32) &&& 31).toUInt32).toInt32) &&& (255 : Int32))]) f159 f259 f359 f459 rfl rfl (own_cC (own_c8m ((p1.toUInt32 >>> ((2 : Int32) &&& 31).toUInt32).toInt32)) (own_cC (own_c8m ((p1.toUInt32 >>> ((10 : Int32) &&& 31).toUInt32).toInt32)) own_cN)) (Nat.le_of_ble_eq_true rfl)
        refine own_retAW X59 hS hL hZ hJ hx hlk (rfl : T59.heap = T59.heap) hret rfl rfl (hb hby d1_103) (by show _ ≤ 4; omega) (by show _ ≤ 10; omega) ?_
        exact ⟨b53, rfl, N0, K0, sz56, f159, sl64⟩
      · refine own_goW (fun _ k => XS.icmpYes X0.here hx rfl (pc0 := 76) (pc' := 104) rfl (hb hby d1_76) rfl (feq hc42).2 (by decide) (by decide) k) ?_
        show own_GoW p e below s _ _ _ _ (T.setTop (mkF m 104 #[iv p1, iv (p1 &&& (3 : Int32)), iv (((p1.toUInt32 >>> ((2 : Int32) &&& 31).toUInt32).toInt32) &&& (255 : Int32)), iv (((p1.toUInt32 >>> ((10 : Int32) &&& 31).toUInt32).toInt32) &&& (255 : Int32)), iv (((p1.toUInt32 >>> ((18 : Int32) &&& 31).toUInt32).toInt32) &&& (255 : Int32)), .unset] []))
        refine own_goW (fun _ k => XS.iconst X0.here hx rfl (hb hby d1_104) k) ?_
        obtain ⟨T65, h65, k65, X65, e65, E65, A65, st65⟩ := newP (aty := .char) X0 hx hZ (ow10 hw) e0 (g := (mkF m 105 #[iv p1, iv (p1 &&& (3 : Int32)), iv (((p1.toUInt32 >>> ((2 : Int32) &&& 31).toUInt32).toInt32) &&& (255 : Int32)), iv (((p1.toUInt32 >>> ((10 : Int32) &&& 31).toUInt32).toInt32) &&& (255 : Int32)), iv (((p1.toUInt32 >>> ((18 : Int32) &&& 31).toUInt32).toInt32) &&& (255 : Int32)), .unset] [(.int (3 : Int32))])) rfl (hb hby d1_105) rfl (by decide) (cap := 3) (by decide) (by decide) (by show _ ≤ 4; omega) (by show _ ≤ 10; omega)
        obtain ⟨b65, g65⟩ : ∃ z, z = h0.size := ⟨_, rfl⟩
        rw [← g65] at A65 st65
        refine own_goW st65 ?_
        clear st65 X0 e0
        have ge65 := Nat.le_of_eq g65.symm
        have big66 : Z.heap.size ≤ b65 := Nat.le_trans O0.1 ge65
        have sz67 : h0.size ≤ b65 := Nat.le_trans K0.1 ge65
        replace O0 := own_oldExt O0 E65
        replace K0 := K0.ext E65
        replace hS := own_since hS E65.1
        replace hJ := own_Jext hJ E65
        clear E65
        have f68 : Arv Z h65 b65 k65 .char (3 : Int32) [(.int (0 : Int32)), (.int (0 : Int32)), (.int (0 : Int32))] (.int (0 : Int32)) := (Arv.new A65 (by decide)).pad (pad_rep [] (.int (0 : Int32)) 3)
        refine own_goW (fun _ k => XS.astore X65.here hx rfl (hb hby d1_107) rfl rfl (l' := #[iv p1, iv (p1 &&& (3 : Int32)), iv (((p1.toUInt32 >>> ((2 : Int32) &&& 31).toUInt32).toInt32) &&& (255 : Int32)), iv (((p1.toUInt32 >>> ((10 : Int32) &&& 31).toUInt32).toInt32) &&& (255 : Int32)), iv (((p1.toUInt32 >>> ((18 : Int32) &&& 31).toUInt32).toInt32) &&& (255 : Int32)), rv b65]) rfl (XS.aload X65.here hx rfl (hb hby d1_109) rfl rfl k)) ?_
        show own_GoW p e below s _ _ _ _ (T65.setTop (mkF m 111 #[iv p1, iv (p1 &&& (3 : Int32)), iv (((p1.toUInt32 >>> ((2 : Int32) &&& 31).toUInt32).toInt32) &&& (255 : Int32)), iv (((p1.toUInt32 >>> ((10 : Int32) &&& 31).toUInt32).toInt32) &&& (255 : Int32)), iv (((p1.toUInt32 >>> ((18 : Int32) &&& 31).toUInt32).toInt32) &&& (255 : Int32)), rv b65] [(.ref b65)]))
        refine own_goW (fun _ k => XS.iconst X65.here hx rfl (hb hby d1_111) (XS.iloadN X65.here hx rfl (hb hby d1_112) rfl k)) ?_
        obtain ⟨cl69, Ar69, q69, S69, M69, P69, G69⟩ := id f68
        have hin69 : ¬ ((0 : Int32) < 0 ∨ cl69.slots.size ≤ ((0 : Int32)).toNatClampNeg) := inb_of S69 ⟨by decide, by decide⟩
        obtain ⟨T70, h70, X70, e70, W70, st70⟩ := stC X65 hx hZ e65 Ar69 (j := (0 : Int32)) hin69 (g := (mkF m 113 #[iv p1, iv (p1 &&& (3 : Int32)), iv (((p1.toUInt32 >>> ((2 : Int32) &&& 31).toUInt32).toInt32) &&& (255 : Int32)), iv (((p1.toUInt32 >>> ((10 : Int32) &&& 31).toUInt32).toInt32) &&& (255 : Int32)), iv (((p1.toUInt32 >>> ((18 : Int32) &&& 31).toUInt32).toInt32) &&& (255 : Int32)), rv b65] [(.int (((p1.toUInt32 >>> ((2 : Int32) &&& 31).toUInt32).toInt32) &&& (255 : Int32))), (.int (0 : Int32)), (.ref b65)])) rfl rfl (hb hby d1_113)
        refine own_goW st70 ?_
        clear st70 X65 e65
        rw [own_narM ((p1.toUInt32 >>> ((2 : Int32) &&& 31).toUInt32).toInt32)] at W70
        have f71 : Arv Z h70 b65 k65 .char (3 : Int32) [(.int (((p1.toUInt32 >>> ((2 : Int32) &&& 31).toUInt32).toInt32) &&& (255 : Int32))), (.int (0 : Int32)), (.int (0 : Int32))] (.int (0 : Int32)) := Arv.set Ar69 q69 S69 M69 P69 G69 (by have q := fits_nar_char (((p1.toUInt32 >>> ((2 : Int32) &&& 31).toUInt32).toInt32) &&& (255 : Int32)); rw [own_narM ((p1.toUInt32 >>> ((2 : Int32) &&& 31).toUInt32).toInt32)] at q; exact q) W70 0 rfl (Nat.le_of_ble_eq_true rfl)
        replace N0 := Fr.snoc X70 N0 big66
        replace hJ := own_Jwr hZ hJ W70 (own_farV f68 (by decide) (ow8 hw))
        clear f68
        replace O0 := own_oldWr O0 W70 big66
        replace K0 := K0.wr W70 (Or.inr sz67)
        replace hS := own_since hS (Nat.le_of_eq W70.size.symm)
        clear W70
        clear Ar69 q69 S69 M69 P69 G69 hin69
        refine own_goW (fun _ k => XS.aload X70.here hx rfl (hb hby d1_114) rfl rfl k) ?_
        show own_GoW p e below s _ _ _ _ (T70.setTop (mkF m 116 #[iv p1, iv (p1 &&& (3 : Int32)), iv (((p1.toUInt32 >>> ((2 : Int32) &&& 31).toUInt32).toInt32) &&& (255 : Int32)), iv (((p1.toUInt32 >>> ((10 : Int32) &&& 31).toUInt32).toInt32) &&& (255 : Int32)), iv (((p1.toUInt32 >>> ((18 : Int32) &&& 31).toUInt32).toInt32) &&& (255 : Int32)), rv b65] [(.ref b65)]))
        refine own_goW (fun _ k => XS.iconst X70.here hx rfl (hb hby d1_116) (XS.iloadN X70.here hx rfl (hb hby d1_117) rfl k)) ?_
        obtain ⟨cl72, Ar72, q72, S72, M72, P72, G72⟩ := id f71
        have hin72 : ¬ ((1 : Int32) < 0 ∨ cl72.slots.size ≤ ((1 : Int32)).toNatClampNeg) := inb_of S72 ⟨by decide, by decide⟩
        obtain ⟨T73, h73, X73, e73, W73, st73⟩ := stC X70 hx hZ e70 Ar72 (j := (1 : Int32)) hin72 (g := (mkF m 118 #[iv p1, iv (p1 &&& (3 : Int32)), iv (((p1.toUInt32 >>> ((2 : Int32) &&& 31).toUInt32).toInt32) &&& (255 : Int32)), iv (((p1.toUInt32 >>> ((10 : Int32) &&& 31).toUInt32).toInt32) &&& (255 : Int32)), iv (((p1.toUInt32 >>> ((18 : Int32) &&& 31).toUInt32).toInt32) &&& (255 : Int32)), rv b65] [(.int (((p1.toUInt32 >>> ((10 : Int32) &&& 31).toUInt32).toInt32) &&& (255 : Int32))), (.int (1 : Int32)), (.ref b65)])) rfl rfl (hb hby d1_118)
        refine own_goW st73 ?_
        clear st73 X70 e70
        rw [own_narM ((p1.toUInt32 >>> ((10 : Int32) &&& 31).toUInt32).toInt32)] at W73
        have f74 : Arv Z h73 b65 k65 .char (3 : Int32) [(.int (((p1.toUInt32 >>> ((2 : Int32) &&& 31).toUInt32).toInt32) &&& (255 : Int32))), (.int (((p1.toUInt32 >>> ((10 : Int32) &&& 31).toUInt32).toInt32) &&& (255 : Int32))), (.int (0 : Int32))] (.int (0 : Int32)) := Arv.set Ar72 q72 S72 M72 P72 G72 (by have q := fits_nar_char (((p1.toUInt32 >>> ((10 : Int32) &&& 31).toUInt32).toInt32) &&& (255 : Int32)); rw [own_narM ((p1.toUInt32 >>> ((10 : Int32) &&& 31).toUInt32).toInt32)] at q; exact q) W73 1 rfl (Nat.le_of_ble_eq_true rfl)
        replace N0 := Fr.snoc X73 N0 big66
        replace hJ := own_Jwr hZ hJ W73 (own_farV f71 (by decide) (ow8 hw))
        clear f71
        replace O0 := own_oldWr O0 W73 big66
        replace K0 := K0.wr W73 (Or.inr sz67)
        replace hS := own_since hS (Nat.le_of_eq W73.size.symm)
        clear W73
        clear Ar72 q72 S72 M72 P72 G72 hin72
        refine own_goW (fun _ k => XS.aload X73.here hx rfl (hb hby d1_119) rfl rfl k) ?_
        show own_GoW p e below s _ _ _ _ (T73.setTop (mkF m 121 #[iv p1, iv (p1 &&& (3 : Int32)), iv (((p1.toUInt32 >>> ((2 : Int32) &&& 31).toUInt32).toInt32) &&& (255 : Int32)), iv (((p1.toUInt32 >>> ((10 : Int32) &&& 31).toUInt32).toInt32) &&& (255 : Int32)), iv (((p1.toUInt32 >>> ((18 : Int32) &&& 31).toUInt32).toInt32) &&& (255 : Int32)), rv b65] [(.ref b65)]))
        refine own_goW (fun _ k => XS.iconst X73.here hx rfl (hb hby d1_121) (XS.iload X73.here hx rfl (hb hby d1_122) rfl k)) ?_
        obtain ⟨cl75, Ar75, q75, S75, M75, P75, G75⟩ := id f74
        have hin75 : ¬ ((2 : Int32) < 0 ∨ cl75.slots.size ≤ ((2 : Int32)).toNatClampNeg) := inb_of S75 ⟨by decide, by decide⟩
        obtain ⟨T76, h76, X76, e76, W76, st76⟩ := stC X73 hx hZ e73 Ar75 (j := (2 : Int32)) hin75 (g := (mkF m 124 #[iv p1, iv (p1 &&& (3 : Int32)), iv (((p1.toUInt32 >>> ((2 : Int32) &&& 31).toUInt32).toInt32) &&& (255 : Int32)), iv (((p1.toUInt32 >>> ((10 : Int32) &&& 31).toUInt32).toInt32) &&& (255 : Int32)), iv (((p1.toUInt32 >>> ((18 : Int32) &&& 31).toUInt32).toInt32) &&& (255 : Int32)), rv b65] [(.int (((p1.toUInt32 >>> ((18 : Int32) &&& 31).toUInt32).toInt32) &&& (255 : Int32))), (.int (2 : Int32)), (.ref b65)])) rfl rfl (hb hby d1_124)
        refine own_goW st76 ?_
        clear st76 X73 e73
        rw [own_narM ((p1.toUInt32 >>> ((18 : Int32) &&& 31).toUInt32).toInt32)] at W76
        have f77 : Arv Z h76 b65 k65 .char (3 : Int32) [(.int (((p1.toUInt32 >>> ((2 : Int32) &&& 31).toUInt32).toInt32) &&& (255 : Int32))), (.int (((p1.toUInt32 >>> ((10 : Int32) &&& 31).toUInt32).toInt32) &&& (255 : Int32))), (.int (((p1.toUInt32 >>> ((18 : Int32) &&& 31).toUInt32).toInt32) &&& (255 : Int32)))] (.int (0 : Int32)) := Arv.set Ar75 q75 S75 M75 P75 G75 (by have q := fits_nar_char (((p1.toUInt32 >>> ((18 : Int32) &&& 31).toUInt32).toInt32) &&& (255 : Int32)); rw [own_narM ((p1.toUInt32 >>> ((18 : Int32) &&& 31).toUInt32).toInt32)] at q; exact q) W76 2 rfl (Nat.le_of_ble_eq_true rfl)
        replace N0 := Fr.snoc X76 N0 big66
        replace hJ := own_Jwr hZ hJ W76 (own_farV f74 (by decide) (ow8 hw))
        clear f74
        replace O0 := own_oldWr O0 W76 big66
        replace K0 := K0.wr W76 (Or.inr sz67)
        replace hS := own_since hS (Nat.le_of_eq W76.size.symm)
        clear W76
        clear Ar75 q75 S75 M75 P75 G75 hin75
        obtain ⟨T78, h78, X78, e78, E78, A78, D78, -, st78⟩ := newO X76 hx hZ hown (ow7 hw) (ow8 hw) (ow9 hw) e76 (g := (mkF m 125 #[iv p1, iv (p1 &&& (3 : Int32)), iv (((p1.toUInt32 >>> ((2 : Int32) &&& 31).toUInt32).toInt32) &&& (255 : Int32)), iv (((p1.toUInt32 >>> ((10 : Int32) &&& 31).toUInt32).toInt32) &&& (255 : Int32)), iv (((p1.toUInt32 >>> ((18 : Int32) &&& 31).toUInt32).toInt32) &&& (255 : Int32)), rv b65] [])) rfl (hb hby d1_125) (by show _ ≤ 4; omega) (by show _ ≤ 10; omega)
        obtain ⟨b78, g78⟩ : ∃ z, z = h76.size := ⟨_, rfl⟩
        rw [← g78] at A78 D78 st78
        refine own_goW st78 ?_
        clear st78 X76 e76
        have ge78 := Nat.le_of_eq g78.symm
        have ne79 : b65 ≠ b78 := Nat.ne_of_lt (Nat.lt_of_lt_of_le f77.lt ge78)
        have big80 : Z.heap.size ≤ b78 := Nat.le_trans O0.1 ge78
        have sz81 : h0.size ≤ b78 := Nat.le_trans K0.1 ge78
        replace f77 := f77.ext E78
        replace O0 := own_oldExt O0 E78
        replace K0 := K0.ext E78
        replace hS := own_since hS E78.1
        replace hJ := own_Jext hJ E78
        clear E78
        have f82 : Fld Z h78 b78 "java/lang/String" "value" "[B" .null := D78 (Or.inr (ow23 hw)) (ty := (.array .byte)) own_fd0
        have f83 : Fld Z h78 b78 "java/lang/String" "coder" "B" (.int (0 : Int32)) := D78 (Or.inr (ow24 hw)) (ty := .byte) own_fd1
        show own_GoW p e below s _ _ _ _ (T78.setTop (mkF m 128 #[iv p1, iv (p1 &&& (3 : Int32)), iv (((p1.toUInt32 >>> ((2 : Int32) &&& 31).toUInt32).toInt32) &&& (255 : Int32)), iv (((p1.toUInt32 >>> ((10 : Int32) &&& 31).toUInt32).toInt32) &&& (255 : Int32)), iv (((p1.toUInt32 >>> ((18 : Int32) &&& 31).toUInt32).toInt32) &&& (255 : Int32)), rv b65] [(.ref b78)]))
        refine own_goW (fun _ k => XS.dup X78.here hx rfl (hb hby d1_128) rfl rfl (XS.aload X78.here hx rfl (hb hby d1_129) rfl rfl k)) ?_
        obtain ⟨v84, T84, L84, X84, hQ84, st84⟩ := own_callIB (y := own_y1) X78 hx hZ hown (ow11 hw) (ow12 hw) (ow9 hw) (ow13 hw) 1 1 3 (StrChars.Road.backV (W := 1) hZ (own_sw1 hw) (kI := 4) (ow8 hw) (cs := ([(((p1.toUInt32 >>> ((2 : Int32) &&& 31).toUInt32).toInt32) &&& (255 : Int32)), (((p1.toUInt32 >>> ((10 : Int32) &&& 31).toUInt32).toInt32) &&& (255 : Int32)), (((p1.toUInt32 >>> ((18 : Int32) &&& 31).toUInt32).toInt32) &&& (255 : Int32))] : List Int32)) (bs := ([(((p1.toUInt32 >>> ((2 : Int32) &&& 31).toUInt32).toInt32) &&& (255 : Int32)), (((p1.toUInt32 >>> ((10 : Int32) &&& 31).toUInt32).toInt32) &&& (255 : Int32)), (((p1.toUInt32 >>> ((18 : Int32) &&& 31).toUInt32).toInt32) &&& (255 : Int32))] : List Int32).map (fun c => c.toInt8.toInt32)) (n := 3) (n0 := Z.heap.size) big80 (Nat.le_trans O0.1 (Nat.le_refl _)) A78 f82 f83 f77 (oCS.ext O0) oCz rfl rfl (by decide) (by decide) (own_cC (own_c8m ((p1.toUInt32 >>> ((2 : Int32) &&& 31).toUInt32).toInt32)) (own_cC (own_c8m ((p1.toUInt32 >>> ((10 : Int32) &&& 31).toUInt32).toInt32)) (own_cC (own_c8m ((p1.toUInt32 >>> ((18 : Int32) &&& 31).toUInt32).toInt32)) own_cN))) rfl (by decide) (by decide)) rfl (by show _ ≤ 4; omega) (by show _ ≤ 10; omega) e78 (g := (mkF m 131 #[iv p1, iv (p1 &&& (3 : Int32)), iv (((p1.toUInt32 >>> ((2 : Int32) &&& 31).toUInt32).toInt32) &&& (255 : Int32)), iv (((p1.toUInt32 >>> ((10 : Int32) &&& 31).toUInt32).toInt32) &&& (255 : Int32)), iv (((p1.toUInt32 >>> ((18 : Int32) &&& 31).toUInt32).toInt32) &&& (255 : Int32)), rv b65] [(.ref b65), (.ref b78), (.ref b78)])) rfl (by rw [hml]; rfl) b78 [(.ref b65)] [(.ref b78)] (lenOf own_pd_1 rfl) rfl rfl (hb hby d1_131)
        obtain ⟨rfl, Nc84, Kc84, f184, f284, t84, kb84, tb84, ts84, tn84, f384, f484⟩ := hQ84
        refine own_goW st84 ?_
        clear st84 X78 e78
        replace N0 := Fr.app N0 Nc84
        clear Nc84
        replace hS := own_since hS Kc84.1
        have ne85 : b65 ≠ t84 := Nat.ne_of_lt (Nat.lt_of_lt_of_le f77.lt ts84)
        have ne86 : b78 ≠ t84 := Nat.ne_of_lt (Nat.lt_of_lt_of_le A78.lt ts84)
        have big87 : Z.heap.size ≤ t84 := Nat.le_trans O0.1 ts84
        have sz88 : h0.size ≤ t84 := Nat.le_trans K0.1 ts84
        have hAp_b78 := own_apart hZ hJ f82
        replace hJ := own_JkeepS hZ hJ Kc84 hAp_b78 A78 (ow8 hw)
        replace f77 := f77.keep Kc84 (ninS ne79 nin0)
        replace A78 := A78.keep Kc84
        clear f82
        clear f83
        replace O0 := own_oldKeep O0 Kc84 (allS big80 all0)
        replace K0 := K0.trans Kc84 (allS (Or.inr sz81) all0)
        clear Kc84
        replace f484 : Arv Z T84.heap t84 kb84 .byte (3 : Int32) [(.int ((((p1.toUInt32 >>> ((2 : Int32) &&& 31).toUInt32).toInt32) &&& (255 : Int32)).toInt8.toInt32)), (.int ((((p1.toUInt32 >>> ((10 : Int32) &&& 31).toUInt32).toInt32) &&& (255 : Int32)).toInt8.toInt32)), (.int ((((p1.toUInt32 >>> ((18 : Int32) &&& 31).toUInt32).toInt32) &&& (255 : Int32)).toInt8.toInt32))] (.int (0 : Int32)) := f484
        show own_GoW p e below s _ _ _ _ (T84.setTop (mkF m 134 #[iv p1, iv (p1 &&& (3 : Int32)), iv (((p1.toUInt32 >>> ((2 : Int32) &&& 31).toUInt32).toInt32) &&& (255 : Int32)), iv (((p1.toUInt32 >>> ((10 : Int32) &&& 31).toUInt32).toInt32) &&& (255 : Int32)), iv (((p1.toUInt32 >>> ((18 : Int32) &&& 31).toUInt32).toInt32) &&& (255 : Int32)), rv b65] [(.ref b78)]))
        have sl89 : own_Sl Z T84.heap b78 (own_cs p1) := by
          rw [own_cs_3 hc1 hc22 hc42]
          exact own_mkSl (cs := [(((p1.toUInt32 >>> ((2 : Int32) &&& 31).toUInt32).toInt32) &&& (255 : Int32)), (((p1.toUInt32 >>> ((10 : Int32) &&& 31).toUInt32).toInt32) &&& (255 : Int32)), (((p1.toUInt32 >>> ((18 : Int32) &&& 31).toUInt32).toInt32) &&& (255 : Int32))]) f184 f284 f384 f484 rfl rfl (own_cC (own_c8m ((p1.toUInt32 >>> ((2 : Int32) &&& 31).toUInt32).toInt32)) (own_cC (own_c8m ((p1.toUInt32 >>> ((10 : Int32) &&& 31).toUInt32).toInt32)) (own_cC (own_c8m ((p1.toUInt32 >>> ((18 : Int32) &&& 31).toUInt32).toInt32)) own_cN))) (Nat.le_of_ble_eq_true rfl)
        refine own_retAW X84 hS hL hZ hJ hx hlk (rfl : T84.heap = T84.heap) hret rfl rfl (hb hby d1_134) (by show _ ≤ 4; omega) (by show _ ≤ 10; omega) ?_
        exact ⟨b78, rfl, N0, K0, sz81, f184, sl89⟩
theorem d10_0 : decode method_3_code 0 = .ok (.iload_n 0, 1) := by decide +kernel
theorem d10_1 : decode method_3_code 1 = .ok (.iconst 3, 1) := by decide +kernel
theorem d10_2 : decode method_3_code 2 = .ok (.iand, 1) := by decide +kernel
theorem d10_3 : decode method_3_code 3 = .ok (.istore_n 2, 1) := by decide +kernel
theorem d10_4 : decode method_3_code 4 = .ok (.iload_n 2, 1) := by decide +kernel
theorem d10_5 : decode method_3_code 5 = .ok (.iload_n 1, 1) := by decide +kernel
theorem d10_6 : decode method_3_code 6 = .ok (.iconst 3, 1) := by decide +kernel
theorem d10_7 : decode method_3_code 7 = .ok (.iand, 1) := by decide +kernel
theorem d10_8 : decode method_3_code 8 = .ok (.if_icmp .eq 5, 3) := by decide +kernel
theorem d10_11 : decode method_3_code 11 = .ok (.iconst 0, 1) := by decide +kernel
theorem d10_12 : decode method_3_code 12 = .ok (.ireturn, 1) := by decide +kernel
theorem d10_13 : decode method_3_code 13 = .ok (.iload_n 2, 1) := by decide +kernel
theorem d10_14 : decode method_3_code 14 = .ok (.iconst 1, 1) := by decide +kernel
theorem d10_15 : decode method_3_code 15 = .ok (.if_icmp .lt 22, 3) := by decide +kernel
theorem d10_18 : decode method_3_code 18 = .ok (.iload_n 0, 1) := by decide +kernel
theorem d10_19 : decode method_3_code 19 = .ok (.iconst 2, 1) := by decide +kernel
theorem d10_20 : decode method_3_code 20 = .ok (.iushr, 1) := by decide +kernel
theorem d10_21 : decode method_3_code 21 = .ok (.sipush 255, 3) := by decide +kernel
theorem d10_24 : decode method_3_code 24 = .ok (.iand, 1) := by decide +kernel
theorem d10_25 : decode method_3_code 25 = .ok (.iload_n 1, 1) := by decide +kernel
theorem d10_26 : decode method_3_code 26 = .ok (.iconst 2, 1) := by decide +kernel
theorem d10_27 : decode method_3_code 27 = .ok (.iushr, 1) := by decide +kernel
theorem d10_28 : decode method_3_code 28 = .ok (.sipush 255, 3) := by decide +kernel
theorem d10_31 : decode method_3_code 31 = .ok (.iand, 1) := by decide +kernel
theorem d10_32 : decode method_3_code 32 = .ok (.if_icmp .eq 5, 3) := by decide +kernel
theorem d10_35 : decode method_3_code 35 = .ok (.iconst 0, 1) := by decide +kernel
theorem d10_36 : decode method_3_code 36 = .ok (.ireturn, 1) := by decide +kernel
theorem d10_37 : decode method_3_code 37 = .ok (.iload_n 2, 1) := by decide +kernel
theorem d10_38 : decode method_3_code 38 = .ok (.iconst 2, 1) := by decide +kernel
theorem d10_39 : decode method_3_code 39 = .ok (.if_icmp .lt 24, 3) := by decide +kernel
theorem d10_42 : decode method_3_code 42 = .ok (.iload_n 0, 1) := by decide +kernel
theorem d10_43 : decode method_3_code 43 = .ok (.bipush 10, 2) := by decide +kernel
theorem d10_45 : decode method_3_code 45 = .ok (.iushr, 1) := by decide +kernel
theorem d10_46 : decode method_3_code 46 = .ok (.sipush 255, 3) := by decide +kernel
theorem d10_49 : decode method_3_code 49 = .ok (.iand, 1) := by decide +kernel
theorem d10_50 : decode method_3_code 50 = .ok (.iload_n 1, 1) := by decide +kernel
theorem d10_51 : decode method_3_code 51 = .ok (.bipush 10, 2) := by decide +kernel
theorem d10_53 : decode method_3_code 53 = .ok (.iushr, 1) := by decide +kernel
theorem d10_54 : decode method_3_code 54 = .ok (.sipush 255, 3) := by decide +kernel
theorem d10_57 : decode method_3_code 57 = .ok (.iand, 1) := by decide +kernel
theorem d10_58 : decode method_3_code 58 = .ok (.if_icmp .eq 5, 3) := by decide +kernel
theorem d10_61 : decode method_3_code 61 = .ok (.iconst 0, 1) := by decide +kernel
theorem d10_62 : decode method_3_code 62 = .ok (.ireturn, 1) := by decide +kernel
theorem d10_63 : decode method_3_code 63 = .ok (.iload_n 2, 1) := by decide +kernel
theorem d10_64 : decode method_3_code 64 = .ok (.iconst 3, 1) := by decide +kernel
theorem d10_65 : decode method_3_code 65 = .ok (.if_icmp .lt 24, 3) := by decide +kernel
theorem d10_68 : decode method_3_code 68 = .ok (.iload_n 0, 1) := by decide +kernel
theorem d10_69 : decode method_3_code 69 = .ok (.bipush 18, 2) := by decide +kernel
theorem d10_71 : decode method_3_code 71 = .ok (.iushr, 1) := by decide +kernel
theorem d10_72 : decode method_3_code 72 = .ok (.sipush 255, 3) := by decide +kernel
theorem d10_75 : decode method_3_code 75 = .ok (.iand, 1) := by decide +kernel
theorem d10_76 : decode method_3_code 76 = .ok (.iload_n 1, 1) := by decide +kernel
theorem d10_77 : decode method_3_code 77 = .ok (.bipush 18, 2) := by decide +kernel
theorem d10_79 : decode method_3_code 79 = .ok (.iushr, 1) := by decide +kernel
theorem d10_80 : decode method_3_code 80 = .ok (.sipush 255, 3) := by decide +kernel
theorem d10_83 : decode method_3_code 83 = .ok (.iand, 1) := by decide +kernel
theorem d10_84 : decode method_3_code 84 = .ok (.if_icmp .eq 5, 3) := by decide +kernel
theorem d10_87 : decode method_3_code 87 = .ok (.iconst 0, 1) := by decide +kernel
theorem d10_88 : decode method_3_code 88 = .ok (.ireturn, 1) := by decide +kernel
theorem d10_89 : decode method_3_code 89 = .ok (.iconst 1, 1) := by decide +kernel
theorem d10_90 : decode method_3_code 90 = .ok (.ireturn, 1) := by decide +kernel
def Q_same (Z : State) (zc : Int32) (p1 : Int32) (p2 : Int32) (h0 : Heap) (v : Option Value) (h : Heap) (L : List Loc) : Prop := (v = some (.int (1 : Int32)) ∧ Fr Z.heap.size L ∧ (own_cs p1) = (own_cs p2) ∧ h = h0) ∨ (v = some (.int (0 : Int32)) ∧ Fr Z.heap.size L ∧ ¬ ((own_cs p1) = (own_cs p2)) ∧ h = h0)
theorem ef_same (m : MethodId) (x0 : Int32) (x1 : Int32) : entryFrame m #[(.int x0), (.int x1)] 3 = mkF m 0 #[iv x0, iv x1, .unset] [] := by first | (simp [entryFrame, mkF, argsToLocals, Value.category]; done) | rfl
set_option maxRecDepth 65536 in
set_option maxHeartbeats 40000000 in
theorem rm_same (l : Launch) (Z : State) (a0 : Array Value) (hw : own_W Z a0) {zc : Int32} (hO : own_Olds Z zc) (ws : List Jvm.Cond) (p1 : Int32) (p2 : Int32) (h0 : Heap) (O0 : Ext Z.heap h0) :
    own_MF l Z h0 own_y3 method_3_code 3 (some .boolean) ({ frames := 0, cells := 0, slots := 0, locals := 0 } : Room) #[(.int p1), (.int p2)] (Q_same Z zc p1 p2 h0) ws := by
  refine own_met (Q := (Q_same Z zc p1 p2 h0)) _ _ (plainFor_of_name own_pn_1) ?_
  intro p e s m below meth c T X0 hx hby hml hret hlk hZ hown hnm e0
  replace hown : s.vm.findClass "com/example/ratification/ratification/model/TripleEqualsPinLaw" = some m.cls := hown
  replace hnm : meth.name = "same" := hnm
  have hml : c.maxLocals = 3 := hml
  obtain ⟨oCS, oCz⟩ := id hO
  have N0 := Fr.nil Z.heap.size
  have K0 := Keep.refl h0 []
  refine own_go (fun _ k => castTop (ef_same m p1 p2) k) ?_
  show own_Go p e below s _ _ _ (T.setTop (mkF m 0 #[iv p1, iv p2, .unset] []))
  refine own_go (fun _ k => XS.iloadN X0.here hx rfl (hb hby d10_0) rfl (XS.iconst X0.here hx rfl (hb hby d10_1) (XS.iand X0.here hx rfl (hb hby d10_2) rfl (XS.istoreN X0.here hx rfl (hb hby d10_3) rfl (l' := #[iv p1, iv p2, iv (p1 &&& (3 : Int32))]) rfl k)))) ?_
  show own_Go p e below s _ _ _ (T.setTop (mkF m 4 #[iv p1, iv p2, iv (p1 &&& (3 : Int32))] []))
  refine own_go (fun _ k => XS.iloadN X0.here hx rfl (hb hby d10_4) rfl (XS.iloadN X0.here hx rfl (hb hby d10_5) rfl (XS.iconst X0.here hx rfl (hb hby d10_6) (XS.iand X0.here hx rfl (hb hby d10_7) rfl k)))) ?_
  show own_Go p e below s _ _ _ (T.setTop (mkF m 8 #[iv p1, iv p2, iv (p1 &&& (3 : Int32))] [(.int (p2 &&& (3 : Int32))), (.int (p1 &&& (3 : Int32)))]))
  by_cases hc1 : (p1 &&& (3 : Int32)) = (p2 &&& (3 : Int32))
  · refine own_go (fun _ k => XS.icmpYes X0.here hx rfl (pc0 := 8) (pc' := 13) rfl (hb hby d10_8) rfl (teq hc1).1 (by decide) (by decide) k) ?_
    show own_Go p e below s _ _ _ (T.setTop (mkF m 13 #[iv p1, iv p2, iv (p1 &&& (3 : Int32))] []))
    refine own_go (fun _ k => XS.iloadN X0.here hx rfl (hb hby d10_13) rfl (XS.iconst X0.here hx rfl (hb hby d10_14) k)) ?_
    by_cases hc2 : (p1 &&& (3 : Int32)) < (1 : Int32)
    · refine own_go (fun _ k => XS.icmpYes X0.here hx rfl (pc0 := 15) (pc' := 37) rfl (hb hby d10_15) rfl (tlt hc2).1 (by decide) (by decide) k) ?_
      show own_Go p e below s _ _ _ (T.setTop (mkF m 37 #[iv p1, iv p2, iv (p1 &&& (3 : Int32))] []))
      refine own_go (fun _ k => XS.iloadN X0.here hx rfl (hb hby d10_37) rfl (XS.iconst X0.here hx rfl (hb hby d10_38) (XS.icmpYes X0.here hx rfl (pc0 := 39) (pc' := 63) rfl (hb hby d10_39) rfl (tlt (own_ltT hc2 (by decide))).1 (by decide) (by decide) (XS.iloadN X0.here hx rfl (hb hby d10_63) rfl k)))) ?_
      show own_Go p e below s _ _ _ (T.setTop (mkF m 64 #[iv p1, iv p2, iv (p1 &&& (3 : Int32))] [(.int (p1 &&& (3 : Int32)))]))
      refine own_go (fun _ k => XS.iconst X0.here hx rfl (hb hby d10_64) (XS.icmpYes X0.here hx rfl (pc0 := 65) (pc' := 89) rfl (hb hby d10_65) rfl (tlt (own_ltT hc2 (by decide))).1 (by decide) (by decide) (XS.iconst X0.here hx rfl (hb hby d10_89) k))) ?_
      show own_Go p e below s _ _ _ (T.setTop (mkF m 90 #[iv p1, iv p2, iv (p1 &&& (3 : Int32))] [(.int (1 : Int32))]))
      refine own_retN X0 hx hlk e0 (t := .boolean) hret (by simp) (hb hby d10_90) (by show _ ≤ 0; omega) (by show _ ≤ 0; omega) ?_
      exact Or.inl ⟨rfl, N0, (own_sm0 hc1 hc2), rfl⟩
    · refine own_go (fun _ k => XS.icmpNo X0.here hx rfl (hb hby d10_15) rfl (flt hc2).1 k) ?_
      show own_Go p e below s _ _ _ (T.setTop (mkF m 18 #[iv p1, iv p2, iv (p1 &&& (3 : Int32))] []))
      refine own_go (fun _ k => XS.iloadN X0.here hx rfl (hb hby d10_18) rfl (XS.iconst X0.here hx rfl (hb hby d10_19) (XS.iushr X0.here hx rfl (hb hby d10_20) rfl (XS.sipush X0.here hx rfl (hb hby d10_21) k)))) ?_
      show own_Go p e below s _ _ _ (T.setTop (mkF m 24 #[iv p1, iv p2, iv (p1 &&& (3 : Int32))] [(.int (255 : Int32)), (.int ((p1.toUInt32 >>> ((2 : Int32) &&& 31).toUInt32).toInt32))]))
      refine own_go (fun _ k => XS.iand X0.here hx rfl (hb hby d10_24) rfl (XS.iloadN X0.here hx rfl (hb hby d10_25) rfl (XS.iconst X0.here hx rfl (hb hby d10_26) (XS.iushr X0.here hx rfl (hb hby d10_27) rfl k)))) ?_
      show own_Go p e below s _ _ _ (T.setTop (mkF m 28 #[iv p1, iv p2, iv (p1 &&& (3 : Int32))] [(.int ((p2.toUInt32 >>> ((2 : Int32) &&& 31).toUInt32).toInt32)), (.int (((p1.toUInt32 >>> ((2 : Int32) &&& 31).toUInt32).toInt32) &&& (255 : Int32)))]))
      refine own_go (fun _ k => XS.sipush X0.here hx rfl (hb hby d10_28) (XS.iand X0.here hx rfl (hb hby d10_31) rfl k)) ?_
      by_cases hc3 : (((p1.toUInt32 >>> ((2 : Int32) &&& 31).toUInt32).toInt32) &&& (255 : Int32)) = (((p2.toUInt32 >>> ((2 : Int32) &&& 31).toUInt32).toInt32) &&& (255 : Int32))
      · refine own_go (fun _ k => XS.icmpYes X0.here hx rfl (pc0 := 32) (pc' := 37) rfl (hb hby d10_32) rfl (teq hc3).1 (by decide) (by decide) k) ?_
        show own_Go p e below s _ _ _ (T.setTop (mkF m 37 #[iv p1, iv p2, iv (p1 &&& (3 : Int32))] []))
        refine own_go (fun _ k => XS.iloadN X0.here hx rfl (hb hby d10_37) rfl (XS.iconst X0.here hx rfl (hb hby d10_38) k)) ?_
        by_cases hc4 : (p1 &&& (3 : Int32)) < (2 : Int32)
        · refine own_go (fun _ k => XS.icmpYes X0.here hx rfl (pc0 := 39) (pc' := 63) rfl (hb hby d10_39) rfl (tlt hc4).1 (by decide) (by decide) k) ?_
          show own_Go p e below s _ _ _ (T.setTop (mkF m 63 #[iv p1, iv p2, iv (p1 &&& (3 : Int32))] []))
          refine own_go (fun _ k => XS.iloadN X0.here hx rfl (hb hby d10_63) rfl (XS.iconst X0.here hx rfl (hb hby d10_64) (XS.icmpYes X0.here hx rfl (pc0 := 65) (pc' := 89) rfl (hb hby d10_65) rfl (tlt (own_ltT hc4 (by decide))).1 (by decide) (by decide) (XS.iconst X0.here hx rfl (hb hby d10_89) k)))) ?_
          show own_Go p e below s _ _ _ (T.setTop (mkF m 90 #[iv p1, iv p2, iv (p1 &&& (3 : Int32))] [(.int (1 : Int32))]))
          refine own_retN X0 hx hlk e0 (t := .boolean) hret (by simp) (hb hby d10_90) (by show _ ≤ 0; omega) (by show _ ≤ 0; omega) ?_
          exact Or.inl ⟨rfl, N0, (own_sm1 hc1 hc4 hc2 hc3), rfl⟩
        · refine own_go (fun _ k => XS.icmpNo X0.here hx rfl (hb hby d10_39) rfl (flt hc4).1 k) ?_
          show own_Go p e below s _ _ _ (T.setTop (mkF m 42 #[iv p1, iv p2, iv (p1 &&& (3 : Int32))] []))
          refine own_go (fun _ k => XS.iloadN X0.here hx rfl (hb hby d10_42) rfl (XS.bipush X0.here hx rfl (hb hby d10_43) (XS.iushr X0.here hx rfl (hb hby d10_45) rfl (XS.sipush X0.here hx rfl (hb hby d10_46) k)))) ?_
          show own_Go p e below s _ _ _ (T.setTop (mkF m 49 #[iv p1, iv p2, iv (p1 &&& (3 : Int32))] [(.int (255 : Int32)), (.int ((p1.toUInt32 >>> ((10 : Int32) &&& 31).toUInt32).toInt32))]))
          refine own_go (fun _ k => XS.iand X0.here hx rfl (hb hby d10_49) rfl (XS.iloadN X0.here hx rfl (hb hby d10_50) rfl (XS.bipush X0.here hx rfl (hb hby d10_51) (XS.iushr X0.here hx rfl (hb hby d10_53) rfl k)))) ?_
          show own_Go p e below s _ _ _ (T.setTop (mkF m 54 #[iv p1, iv p2, iv (p1 &&& (3 : Int32))] [(.int ((p2.toUInt32 >>> ((10 : Int32) &&& 31).toUInt32).toInt32)), (.int (((p1.toUInt32 >>> ((10 : Int32) &&& 31).toUInt32).toInt32) &&& (255 : Int32)))]))
          refine own_go (fun _ k => XS.sipush X0.here hx rfl (hb hby d10_54) (XS.iand X0.here hx rfl (hb hby d10_57) rfl k)) ?_
          by_cases hc5 : (((p1.toUInt32 >>> ((10 : Int32) &&& 31).toUInt32).toInt32) &&& (255 : Int32)) = (((p2.toUInt32 >>> ((10 : Int32) &&& 31).toUInt32).toInt32) &&& (255 : Int32))
          · refine own_go (fun _ k => XS.icmpYes X0.here hx rfl (pc0 := 58) (pc' := 63) rfl (hb hby d10_58) rfl (teq hc5).1 (by decide) (by decide) k) ?_
            show own_Go p e below s _ _ _ (T.setTop (mkF m 63 #[iv p1, iv p2, iv (p1 &&& (3 : Int32))] []))
            refine own_go (fun _ k => XS.iloadN X0.here hx rfl (hb hby d10_63) rfl (XS.iconst X0.here hx rfl (hb hby d10_64) k)) ?_
            by_cases hc6 : (p1 &&& (3 : Int32)) < (3 : Int32)
            · refine own_go (fun _ k => XS.icmpYes X0.here hx rfl (pc0 := 65) (pc' := 89) rfl (hb hby d10_65) rfl (tlt hc6).1 (by decide) (by decide) k) ?_
              show own_Go p e below s _ _ _ (T.setTop (mkF m 89 #[iv p1, iv p2, iv (p1 &&& (3 : Int32))] []))
              refine own_go (fun _ k => XS.iconst X0.here hx rfl (hb hby d10_89) k) ?_
              show own_Go p e below s _ _ _ (T.setTop (mkF m 90 #[iv p1, iv p2, iv (p1 &&& (3 : Int32))] [(.int (1 : Int32))]))
              refine own_retN X0 hx hlk e0 (t := .boolean) hret (by simp) (hb hby d10_90) (by show _ ≤ 0; omega) (by show _ ≤ 0; omega) ?_
              exact Or.inl ⟨rfl, N0, (own_sm2 hc1 hc6 hc2 hc4 hc3 hc5), rfl⟩
            · refine own_go (fun _ k => XS.icmpNo X0.here hx rfl (hb hby d10_65) rfl (flt hc6).1 k) ?_
              show own_Go p e below s _ _ _ (T.setTop (mkF m 68 #[iv p1, iv p2, iv (p1 &&& (3 : Int32))] []))
              refine own_go (fun _ k => XS.iloadN X0.here hx rfl (hb hby d10_68) rfl (XS.bipush X0.here hx rfl (hb hby d10_69) (XS.iushr X0.here hx rfl (hb hby d10_71) rfl (XS.sipush X0.here hx rfl (hb hby d10_72) k)))) ?_
              show own_Go p e below s _ _ _ (T.setTop (mkF m 75 #[iv p1, iv p2, iv (p1 &&& (3 : Int32))] [(.int (255 : Int32)), (.int ((p1.toUInt32 >>> ((18 : Int32) &&& 31).toUInt32).toInt32))]))
              refine own_go (fun _ k => XS.iand X0.here hx rfl (hb hby d10_75) rfl (XS.iloadN X0.here hx rfl (hb hby d10_76) rfl (XS.bipush X0.here hx rfl (hb hby d10_77) (XS.iushr X0.here hx rfl (hb hby d10_79) rfl k)))) ?_
              show own_Go p e below s _ _ _ (T.setTop (mkF m 80 #[iv p1, iv p2, iv (p1 &&& (3 : Int32))] [(.int ((p2.toUInt32 >>> ((18 : Int32) &&& 31).toUInt32).toInt32)), (.int (((p1.toUInt32 >>> ((18 : Int32) &&& 31).toUInt32).toInt32) &&& (255 : Int32)))]))
              refine own_go (fun _ k => XS.sipush X0.here hx rfl (hb hby d10_80) (XS.iand X0.here hx rfl (hb hby d10_83) rfl k)) ?_
              by_cases hc7 : (((p1.toUInt32 >>> ((18 : Int32) &&& 31).toUInt32).toInt32) &&& (255 : Int32)) = (((p2.toUInt32 >>> ((18 : Int32) &&& 31).toUInt32).toInt32) &&& (255 : Int32))
              · refine own_go (fun _ k => XS.icmpYes X0.here hx rfl (pc0 := 84) (pc' := 89) rfl (hb hby d10_84) rfl (teq hc7).1 (by decide) (by decide) k) ?_
                show own_Go p e below s _ _ _ (T.setTop (mkF m 89 #[iv p1, iv p2, iv (p1 &&& (3 : Int32))] []))
                refine own_go (fun _ k => XS.iconst X0.here hx rfl (hb hby d10_89) k) ?_
                show own_Go p e below s _ _ _ (T.setTop (mkF m 90 #[iv p1, iv p2, iv (p1 &&& (3 : Int32))] [(.int (1 : Int32))]))
                refine own_retN X0 hx hlk e0 (t := .boolean) hret (by simp) (hb hby d10_90) (by show _ ≤ 0; omega) (by show _ ≤ 0; omega) ?_
                exact Or.inl ⟨rfl, N0, (own_sm3 hc1 hc6 hc3 hc5 hc7), rfl⟩
              · refine own_go (fun _ k => XS.icmpNo X0.here hx rfl (hb hby d10_84) rfl (feq hc7).1 k) ?_
                show own_Go p e below s _ _ _ (T.setTop (mkF m 87 #[iv p1, iv p2, iv (p1 &&& (3 : Int32))] []))
                refine own_go (fun _ k => XS.iconst X0.here hx rfl (hb hby d10_87) k) ?_
                show own_Go p e below s _ _ _ (T.setTop (mkF m 88 #[iv p1, iv p2, iv (p1 &&& (3 : Int32))] [(.int (0 : Int32))]))
                refine own_retN X0 hx hlk e0 (t := .boolean) hret (by simp) (hb hby d10_88) (by show _ ≤ 0; omega) (by show _ ≤ 0; omega) ?_
                exact Or.inr (⟨rfl, N0, (own_smC hc1 hc6 hc7), rfl⟩)
          · refine own_go (fun _ k => XS.icmpNo X0.here hx rfl (hb hby d10_58) rfl (feq hc5).1 k) ?_
            show own_Go p e below s _ _ _ (T.setTop (mkF m 61 #[iv p1, iv p2, iv (p1 &&& (3 : Int32))] []))
            refine own_go (fun _ k => XS.iconst X0.here hx rfl (hb hby d10_61) k) ?_
            show own_Go p e below s _ _ _ (T.setTop (mkF m 62 #[iv p1, iv p2, iv (p1 &&& (3 : Int32))] [(.int (0 : Int32))]))
            refine own_retN X0 hx hlk e0 (t := .boolean) hret (by simp) (hb hby d10_62) (by show _ ≤ 0; omega) (by show _ ≤ 0; omega) ?_
            exact Or.inr (⟨rfl, N0, (own_smB hc1 hc4 hc5), rfl⟩)
      · refine own_go (fun _ k => XS.icmpNo X0.here hx rfl (hb hby d10_32) rfl (feq hc3).1 k) ?_
        show own_Go p e below s _ _ _ (T.setTop (mkF m 35 #[iv p1, iv p2, iv (p1 &&& (3 : Int32))] []))
        refine own_go (fun _ k => XS.iconst X0.here hx rfl (hb hby d10_35) k) ?_
        show own_Go p e below s _ _ _ (T.setTop (mkF m 36 #[iv p1, iv p2, iv (p1 &&& (3 : Int32))] [(.int (0 : Int32))]))
        refine own_retN X0 hx hlk e0 (t := .boolean) hret (by simp) (hb hby d10_36) (by show _ ≤ 0; omega) (by show _ ≤ 0; omega) ?_
        exact Or.inr (⟨rfl, N0, (own_smA hc1 hc2 hc3), rfl⟩)
  · refine own_go (fun _ k => XS.icmpNo X0.here hx rfl (hb hby d10_8) rfl (feq hc1).1 k) ?_
    show own_Go p e below s _ _ _ (T.setTop (mkF m 11 #[iv p1, iv p2, iv (p1 &&& (3 : Int32))] []))
    refine own_go (fun _ k => XS.iconst X0.here hx rfl (hb hby d10_11) k) ?_
    show own_Go p e below s _ _ _ (T.setTop (mkF m 12 #[iv p1, iv p2, iv (p1 &&& (3 : Int32))] [(.int (0 : Int32))]))
    refine own_retN X0 hx hlk e0 (t := .boolean) hret (by simp) (hb hby d10_12) (by show _ ≤ 0; omega) (by show _ ≤ 0; omega) ?_
    exact Or.inr (⟨rfl, N0, (own_smL hc1), rfl⟩)
theorem d9_0 : decode jdk_31_method_11_code 0 = .ok (.aload_n 0, 1) := by decide +kernel
theorem d9_1 : decode jdk_31_method_11_code 1 = .ok (.ifnonnull 12, 3) := by decide +kernel
theorem d9_13 : decode jdk_31_method_11_code 13 = .ok (.aload_n 0, 1) := by decide +kernel
theorem d9_14 : decode jdk_31_method_11_code 14 = .ok (.areturn, 1) := by decide +kernel
def Q_rnn2 (Z : State) (zc : Int32) (a1 : Addr) (a2 : Addr) (h0 : Heap) (v : Option Value) (h : Heap) (L : List Loc) : Prop := (v = some (.ref a1) ∧ Fr Z.heap.size L ∧ h = h0)
theorem ef_rnn2 (m : MethodId) (x0 : Addr) (x1 : Addr) : entryFrame m #[(.ref x0), (.ref x1)] 2 = mkF m 0 #[rv x0, rv x1] [] := by first | (simp [entryFrame, mkF, argsToLocals, Value.category]; done) | rfl
set_option maxRecDepth 65536 in
set_option maxHeartbeats 40000000 in
theorem rm_rnn2 (l : Launch) (Z : State) (a0 : Array Value) (hw : own_W Z a0) {zc : Int32} (hO : own_Olds Z zc) (ws : List Jvm.Cond) (a1 : Addr) (a2 : Addr) (h0 : Heap) (O0 : Ext Z.heap h0) :
    own_MF l Z h0 own_y4 jdk_31_method_11_code 2 (some (.object "java/lang/Object")) ({ frames := 0, cells := 0, slots := 0, locals := 0 } : Room) #[(.ref a1), (.ref a2)] (Q_rnn2 Z zc a1 a2 h0) ws := by
  refine own_met (Q := (Q_rnn2 Z zc a1 a2 h0)) _ _ (plainFor_of_name own_pn_2) ?_
  intro p e s m below meth c T X0 hx hby hml hret hlk hZ hown hnm e0
  replace hown : s.vm.findClass "java/util/Objects" = some m.cls := hown
  replace hnm : meth.name = "requireNonNull" := hnm
  have hml : c.maxLocals = 2 := hml
  obtain ⟨oCS, oCz⟩ := id hO
  have N0 := Fr.nil Z.heap.size
  have K0 := Keep.refl h0 []
  refine own_go (fun _ k => castTop (ef_rnn2 m a1 a2) k) ?_
  show own_Go p e below s _ _ _ (T.setTop (mkF m 0 #[rv a1, rv a2] []))
  refine own_go (fun _ k => XS.aloadN X0.here hx rfl (hb hby d9_0) rfl rfl (XS.ifnonnullYes X0.here hx rfl (pc0 := 1) (pc' := 13) rfl (hb hby d9_1) rfl (by decide) (by decide) (XS.aloadN X0.here hx rfl (hb hby d9_13) rfl rfl k))) ?_
  show own_Go p e below s _ _ _ (T.setTop (mkF m 14 #[rv a1, rv a2] [(.ref a1)]))
  refine own_retA X0 hx hlk e0 hret rfl rfl (hb hby d9_14) (by show _ ≤ 0; omega) (by show _ ≤ 0; omega) ?_
  exact ⟨rfl, N0, rfl⟩
theorem d8_0 : decode prog_68_method_1_code 0 = .ok (.aload_n 0, 1) := by decide +kernel
theorem d8_1 : decode prog_68_method_1_code 1 = .ok (.invokespecial 1, 3) := by decide +kernel
theorem d8_4 : decode prog_68_method_1_code 4 = .ok (.aload_n 0, 1) := by decide +kernel
theorem d8_5 : decode prog_68_method_1_code 5 = .ok (.aload_n 1, 1) := by decide +kernel
theorem d8_6 : decode prog_68_method_1_code 6 = .ok (.ldc 7, 2) := by decide +kernel
theorem d8_8 : decode prog_68_method_1_code 8 = .ok (.invokestatic 9, 3) := by decide +kernel
theorem d8_11 : decode prog_68_method_1_code 11 = .ok (.checkcast 15, 3) := by decide +kernel
theorem d8_14 : decode prog_68_method_1_code 14 = .ok (.putfield 17, 3) := by decide +kernel
theorem d8_17 : decode prog_68_method_1_code 17 = .ok (.aload_n 0, 1) := by decide +kernel
theorem d8_18 : decode prog_68_method_1_code 18 = .ok (.aload_n 2, 1) := by decide +kernel
theorem d8_19 : decode prog_68_method_1_code 19 = .ok (.ldc 22, 2) := by decide +kernel
theorem d8_21 : decode prog_68_method_1_code 21 = .ok (.invokestatic 9, 3) := by decide +kernel
theorem d8_24 : decode prog_68_method_1_code 24 = .ok (.checkcast 15, 3) := by decide +kernel
theorem d8_27 : decode prog_68_method_1_code 27 = .ok (.putfield 24, 3) := by decide +kernel
theorem d8_30 : decode prog_68_method_1_code 30 = .ok (.aload_n 0, 1) := by decide +kernel
theorem d8_31 : decode prog_68_method_1_code 31 = .ok (.aload_n 3, 1) := by decide +kernel
theorem d8_32 : decode prog_68_method_1_code 32 = .ok (.ldc 26, 2) := by decide +kernel
theorem d8_34 : decode prog_68_method_1_code 34 = .ok (.invokestatic 9, 3) := by decide +kernel
theorem d8_37 : decode prog_68_method_1_code 37 = .ok (.checkcast 15, 3) := by decide +kernel
theorem d8_40 : decode prog_68_method_1_code 40 = .ok (.putfield 28, 3) := by decide +kernel
theorem d8_43 : decode prog_68_method_1_code 43 = .ok (.return_, 1) := by decide +kernel
def Q_tinit (Z : State) (zc : Int32) (a1 : Addr) (a2 : Addr) (a3 : Addr) (a4 : Addr) (h0 : Heap) (v : Option Value) (h : Heap) (L : List Loc) : Prop := (v = none ∧ Fr Z.heap.size L ∧ Keep h0 h [a1] ∧ Exa Z h a1 "com/example/ratification/ratification/model/Triple" ∧ Fld Z h a1 "com/example/ratification/ratification/model/Triple" "subject" "Ljava/lang/String;" (.ref a2) ∧ Fld Z h a1 "com/example/ratification/ratification/model/Triple" "object" "Ljava/lang/String;" (.ref a3) ∧ Fld Z h a1 "com/example/ratification/ratification/model/Triple" "right" "Ljava/lang/String;" (.ref a4))
theorem ef_tinit (m : MethodId) (x0 : Addr) (x1 : Addr) (x2 : Addr) (x3 : Addr) : entryFrame m #[(.ref x0), (.ref x1), (.ref x2), (.ref x3)] 4 = mkF m 0 #[rv x0, rv x1, rv x2, rv x3] [] := by first | (simp [entryFrame, mkF, argsToLocals, Value.category]; done) | rfl
set_option maxRecDepth 65536 in
set_option maxHeartbeats 40000000 in
theorem rm_tinit (l : Launch) (Z : State) (a0 : Array Value) (hw : own_W Z a0) {zc : Int32} (hO : own_Olds Z zc) (ws : List Jvm.Cond) (a1 : Addr) (a2 : Addr) (a3 : Addr) (a4 : Addr) (h0 : Heap) (O0 : Ext Z.heap h0) (fp0 : Exa Z h0 a1 "com/example/ratification/ratification/model/Triple") (fp1 : Fld Z h0 a1 "com/example/ratification/ratification/model/Triple" "subject" "Ljava/lang/String;" .null) (fp2 : Fld Z h0 a1 "com/example/ratification/ratification/model/Triple" "object" "Ljava/lang/String;" .null) (fp3 : Fld Z h0 a1 "com/example/ratification/ratification/model/Triple" "right" "Ljava/lang/String;" .null) (fp4 : Exa Z h0 a2 "java/lang/String") (fp5 : Exa Z h0 a3 "java/lang/String") (fp6 : Exa Z h0 a4 "java/lang/String") (big_a1 : Z.heap.size ≤ a1) :
    MetFree l own_y5 (head1 (Jvm.Cond.code own_y5 prog_68_method_1_code 4 none :: ws) ({ frames := 1, cells := 6, slots := 84, locals := 14 } : Room)) (fun a U => a = #[(.ref a1), (.ref a2), (.ref a3), (.ref a4)] ∧ Z.Warmed39 U.vm ∧ U.heap = h0 ∧ own_J Z U.vm U.heap) (fun _ _ _ _ _ => True) (fun _ U o U' => ∃ v L, o = .returned v ∧ ((Q_tinit Z zc a1 a2 a3 a4 h0) v U'.heap L ∧ own_J Z U'.vm U'.heap) ∧ ReturnedEndW U o U' L ({ frames := 1, cells := 6, slots := 84, locals := 14 } : Room).cells ({ frames := 1, cells := 6, slots := 84, locals := 14 } : Room).slots) := by
  refine own_metW (Q := (Q_tinit Z zc a1 a2 a3 a4 h0)) _ _ (plainFor_of_name own_pn_3) ?_
  intro p e s vm0 m below meth c T X0 hS hJ hJ0 hZ0 hI hs0 hx hby hml hret hlk hZ hown hnm e0
  replace hown : (s.setVm vm0).vm.findClass "com/example/ratification/ratification/model/Triple" = some m.cls := hown
  replace hnm : meth.name = "<init>" := hnm
  have hml : c.maxLocals = 4 := hml
  obtain ⟨oCS, oCz⟩ := id hO
  have N0 := Fr.nil Z.heap.size
  have hL := own_Lhw hw
  have K0 := Keep.refl h0 [a1]
  refine own_goW (fun _ k => castTop (ef_tinit m a1 a2 a3 a4) k) ?_
  show own_GoW p e below s _ _ _ _ (T.setTop (mkF m 0 #[rv a1, rv a2, rv a3, rv a4] []))
  refine own_goW (fun _ k => XS.aloadN X0.here hx rfl (hb hby d8_0) rfl rfl k) ?_
  obtain ⟨T1, X1, e1, st1⟩ := initO X0 hx hZ hown (ow43 hw) (ow19 hw) (ow20 hw) e0 (g := (mkF m 1 #[rv a1, rv a2, rv a3, rv a4] [(.ref a1)])) rfl (by rw [hml]; rfl) rfl (hb hby d8_1) (by decide) (W := 0) (by show 2 * 0 + _ ≤ _; exact Nat.le_of_eq rfl) (by decide)
  refine own_goW st1 ?_
  clear st1 X0 e0
  refine own_goW (fun _ k => XS.aloadN X1.here hx rfl (hb hby d8_4) rfl rfl (XS.aloadN X1.here hx rfl (hb hby d8_5) rfl rfl k)) ?_
  show own_GoW p e below s _ _ _ _ (T1.setTop (mkF m 6 #[rv a1, rv a2, rv a3, rv a4] [(.ref a2), (.ref a1)]))
  obtain ⟨b2, T2, h2, vm2, u2, X2, e2, E2, hSn, hZn, hownn, hJn, li2, tx2, sl2, st2⟩ := own_ldcK X1 hS hx hZ hown hL (List.mem_of_getElem? (i := 0) rfl) (ow44 hw) (own_wS hw) e1 hJ (by decide) (g := (mkF m 6 #[rv a1, rv a2, rv a3, rv a4] [(.ref a2), (.ref a1)])) rfl (hb hby d8_6) (n := 28) (by decide) (by decide) (by show _ ≤ 6; omega) (by show _ ≤ 84; omega)
  refine own_goW st2 ?_
  clear st2 X1 e1
  replace hS := hSn
  replace hZ := hZn
  replace hown := hownn
  replace hJ := hJn
  clear hSn hZn hownn hJn
  replace fp0 := fp0.ext E2
  replace fp1 := fp1.ext E2
  replace fp2 := fp2.ext E2
  replace fp3 := fp3.ext E2
  replace O0 := own_oldExt O0 E2
  replace K0 := K0.ext E2
  clear E2
  obtain ⟨t2, kt2, g12, g22, g32, g42⟩ := own_litFacts hZ sl2 tx2 (by decide)
  clear sl2 tx2
  replace g42 : Arv Z h2 t2 kt2 .byte (7 : Int32) [(.int (115 : Int32)), (.int (117 : Int32)), (.int (98 : Int32)), (.int (106 : Int32)), (.int (101 : Int32)), (.int (99 : Int32)), (.int (116 : Int32))] (.int (0 : Int32)) := g42
  obtain ⟨v3, T3, L3, X3, hQ3, st3⟩ := own_callS (y := own_y4) X2 hx hZ hown (ow45 hw) (ow46 hw) (ow47 hw) (ow48 hw) (rm_rnn2 l Z a0 hw hO [] a2 b2 h2 O0) 1 0 0 (by show _ ≤ 6; omega) (by show _ ≤ 84; omega) e2 (g := (mkF m 8 #[rv a1, rv a2, rv a3, rv a4] [(.ref b2), (.ref a2), (.ref a1)])) rfl (by rw [hml]; rfl) [(.ref a2), (.ref b2)] [(.ref a1)] (lenOf own_pd_2 rfl) rfl rfl (hb hby d8_8)
  obtain ⟨rfl, Nc5, Kc4⟩ := hQ3
  refine own_goW st3 ?_
  clear st3 X2 e2
  replace N0 := Fr.app N0 Nc5
  clear Nc5
  obtain ⟨T6, X6, e6, st6⟩ := castY X3 hx hZ hown (ow49 hw) Kc4 (Ins.self (fp4.keep K0)) (g := (mkF m 11 #[rv a1, rv a2, rv a3, rv a4] [(.ref a2), (.ref a1)])) rfl rfl (hb hby d8_11)
  refine own_goW st6 ?_
  clear st6 X3 Kc4
  obtain ⟨T7, h7, X7, e7, W7, st7⟩ := putF X6 hx hZ hown (host := "") (Or.inl (ow50 hw)) Via.refl e6 fp1 fp0 (Or.inr ⟨(ow51 hw), rfl, hnm⟩) (ow1 hw) (ty := (.object "java/lang/String")) own_fd2 rfl rfl (g := (mkF m 14 #[rv a1, rv a2, rv a3, rv a4] [(.ref a2), (.ref a1)])) rfl rfl (hb hby d8_14)
  refine own_goW st7 ?_
  clear st7 X6 e6
  replace N0 := Fr.snoc X7 N0 big_a1
  replace hJ := own_Jwr hZ hJ W7 (own_farE fp0 (by decide) (ow1 hw))
  have ne8 : b2 ≠ a1 := (ne_exa g12 fp0 (by decide))
  have ne9 : t2 ≠ a1 := (Ne.symm (Exa.neArv fp0 g42 (ow1 hw)))
  replace fp0 := fp0.wr W7
  replace fp1 := fp1.same W7
  replace fp2 := fp2.other W7 (.inr (own_sn1 hw))
  replace fp3 := fp3.other W7 (.inr (own_sn2 hw))
  replace g12 := g12.wr W7
  replace g22 := g22.other W7 (Or.inl ne8)
  replace g32 := g32.other W7 (Or.inl ne8)
  replace g42 := g42.other W7 ne9
  replace O0 := own_oldWr O0 W7 big_a1
  replace K0 := K0.wr W7 (Or.inl (List.mem_of_getElem? (i := 0) rfl))
  replace hS := own_since hS (Nat.le_of_eq W7.size.symm)
  clear W7
  show own_GoW p e below s _ _ _ _ (T7.setTop (mkF m 17 #[rv a1, rv a2, rv a3, rv a4] []))
  refine own_goW (fun _ k => XS.aloadN X7.here hx rfl (hb hby d8_17) rfl rfl (XS.aloadN X7.here hx rfl (hb hby d8_18) rfl rfl k)) ?_
  obtain ⟨b10, T10, h10, vm10, u10, X10, e10, E10, hSn, hZn, hownn, hJn, li10, tx10, sl10, st10⟩ := own_ldcK X7 hS hx hZ hown hL (List.mem_of_getElem? (i := 1) rfl) (ow52 hw) (own_wS hw) e7 hJ (by decide) (g := (mkF m 19 #[rv a1, rv a2, rv a3, rv a4] [(.ref a3), (.ref a1)])) rfl (hb hby d8_19) (n := 24) (by decide) (by decide) (by show _ ≤ 6; omega) (by show _ ≤ 84; omega)
  refine own_goW st10 ?_
  clear st10 X7 e7
  replace hS := hSn
  replace hZ := hZn
  replace hown := hownn
  replace hJ := hJn
  clear hSn hZn hownn hJn
  replace fp0 := fp0.ext E10
  replace fp1 := fp1.ext E10
  replace fp2 := fp2.ext E10
  replace fp3 := fp3.ext E10
  replace g12 := g12.ext E10
  replace g22 := g22.ext E10
  replace g32 := g32.ext E10
  replace g42 := g42.ext E10
  replace O0 := own_oldExt O0 E10
  replace K0 := K0.ext E10
  clear E10
  obtain ⟨t10, kt10, g110, g210, g310, g410⟩ := own_litFacts hZ sl10 tx10 (by decide)
  clear sl10 tx10
  replace g410 : Arv Z h10 t10 kt10 .byte (6 : Int32) [(.int (111 : Int32)), (.int (98 : Int32)), (.int (106 : Int32)), (.int (101 : Int32)), (.int (99 : Int32)), (.int (116 : Int32))] (.int (0 : Int32)) := g410
  obtain ⟨v11, T11, L11, X11, hQ11, st11⟩ := own_callS (y := own_y4) X10 hx hZ hown (ow45 hw) (ow46 hw) (ow47 hw) (ow48 hw) (rm_rnn2 l Z a0 hw hO [] a3 b10 h10 O0) 1 0 0 (by show _ ≤ 6; omega) (by show _ ≤ 84; omega) e10 (g := (mkF m 21 #[rv a1, rv a2, rv a3, rv a4] [(.ref b10), (.ref a3), (.ref a1)])) rfl (by rw [hml]; rfl) [(.ref a3), (.ref b10)] [(.ref a1)] (lenOf own_pd_2 rfl) rfl rfl (hb hby d8_21)
  obtain ⟨rfl, Nc13, Kc12⟩ := hQ11
  refine own_goW st11 ?_
  clear st11 X10 e10
  replace N0 := Fr.app N0 Nc13
  clear Nc13
  show own_GoW p e below s _ _ _ _ (T11.setTop (mkF m 24 #[rv a1, rv a2, rv a3, rv a4] [(.ref a3), (.ref a1)]))
  obtain ⟨T14, X14, e14, st14⟩ := castY X11 hx hZ hown (ow49 hw) Kc12 (Ins.self (fp5.keep K0)) (g := (mkF m 24 #[rv a1, rv a2, rv a3, rv a4] [(.ref a3), (.ref a1)])) rfl rfl (hb hby d8_24)
  refine own_goW st14 ?_
  clear st14 X11 Kc12
  obtain ⟨T15, h15, X15, e15, W15, st15⟩ := putF X14 hx hZ hown (host := "") (Or.inl (ow53 hw)) Via.refl e14 fp2 fp0 (Or.inr ⟨(ow54 hw), rfl, hnm⟩) (ow1 hw) (ty := (.object "java/lang/String")) own_fd2 rfl rfl (g := (mkF m 27 #[rv a1, rv a2, rv a3, rv a4] [(.ref a3), (.ref a1)])) rfl rfl (hb hby d8_27)
  refine own_goW st15 ?_
  clear st15 X14 e14
  replace N0 := Fr.snoc X15 N0 big_a1
  replace hJ := own_Jwr hZ hJ W15 (own_farE fp0 (by decide) (ow1 hw))
  have ne16 : b10 ≠ a1 := (ne_exa g110 fp0 (by decide))
  have ne17 : t10 ≠ a1 := (Ne.symm (Exa.neArv fp0 g410 (ow1 hw)))
  replace fp0 := fp0.wr W15
  replace fp1 := fp1.other W15 (.inr (own_sn1 hw).symm)
  replace fp2 := fp2.same W15
  replace fp3 := fp3.other W15 (.inr (own_sn3 hw))
  replace g12 := g12.wr W15
  replace g22 := g22.other W15 (Or.inl ne8)
  replace g32 := g32.other W15 (Or.inl ne8)
  replace g42 := g42.other W15 ne9
  replace g110 := g110.wr W15
  replace g210 := g210.other W15 (Or.inl ne16)
  replace g310 := g310.other W15 (Or.inl ne16)
  replace g410 := g410.other W15 ne17
  replace O0 := own_oldWr O0 W15 big_a1
  replace K0 := K0.wr W15 (Or.inl (List.mem_of_getElem? (i := 0) rfl))
  replace hS := own_since hS (Nat.le_of_eq W15.size.symm)
  clear W15
  refine own_goW (fun _ k => XS.aloadN X15.here hx rfl (hb hby d8_30) rfl rfl (XS.aloadN X15.here hx rfl (hb hby d8_31) rfl rfl k)) ?_
  show own_GoW p e below s _ _ _ _ (T15.setTop (mkF m 32 #[rv a1, rv a2, rv a3, rv a4] [(.ref a4), (.ref a1)]))
  obtain ⟨b18, T18, h18, vm18, u18, X18, e18, E18, hSn, hZn, hownn, hJn, li18, tx18, sl18, st18⟩ := own_ldcK X15 hS hx hZ hown hL (List.mem_of_getElem? (i := 2) rfl) (ow55 hw) (own_wS hw) e15 hJ (by decide) (g := (mkF m 32 #[rv a1, rv a2, rv a3, rv a4] [(.ref a4), (.ref a1)])) rfl (hb hby d8_32) (n := 20) (by decide) (by decide) (by show _ ≤ 6; omega) (by show _ ≤ 84; omega)
  refine own_goW st18 ?_
  clear st18 X15 e15
  replace hS := hSn
  replace hZ := hZn
  replace hown := hownn
  replace hJ := hJn
  clear hSn hZn hownn hJn
  replace fp0 := fp0.ext E18
  replace fp1 := fp1.ext E18
  replace fp2 := fp2.ext E18
  replace fp3 := fp3.ext E18
  replace g12 := g12.ext E18
  replace g22 := g22.ext E18
  replace g32 := g32.ext E18
  replace g42 := g42.ext E18
  replace g110 := g110.ext E18
  replace g210 := g210.ext E18
  replace g310 := g310.ext E18
  replace g410 := g410.ext E18
  replace O0 := own_oldExt O0 E18
  replace K0 := K0.ext E18
  clear E18
  obtain ⟨t18, kt18, g118, g218, g318, g418⟩ := own_litFacts hZ sl18 tx18 (by decide)
  clear sl18 tx18
  replace g418 : Arv Z h18 t18 kt18 .byte (5 : Int32) [(.int (114 : Int32)), (.int (105 : Int32)), (.int (103 : Int32)), (.int (104 : Int32)), (.int (116 : Int32))] (.int (0 : Int32)) := g418
  obtain ⟨v19, T19, L19, X19, hQ19, st19⟩ := own_callS (y := own_y4) X18 hx hZ hown (ow45 hw) (ow46 hw) (ow47 hw) (ow48 hw) (rm_rnn2 l Z a0 hw hO [] a4 b18 h18 O0) 1 0 0 (by show _ ≤ 6; omega) (by show _ ≤ 84; omega) e18 (g := (mkF m 34 #[rv a1, rv a2, rv a3, rv a4] [(.ref b18), (.ref a4), (.ref a1)])) rfl (by rw [hml]; rfl) [(.ref a4), (.ref b18)] [(.ref a1)] (lenOf own_pd_2 rfl) rfl rfl (hb hby d8_34)
  obtain ⟨rfl, Nc21, Kc20⟩ := hQ19
  refine own_goW st19 ?_
  clear st19 X18 e18
  replace N0 := Fr.app N0 Nc21
  clear Nc21
  obtain ⟨T22, X22, e22, st22⟩ := castY X19 hx hZ hown (ow49 hw) Kc20 (Ins.self (fp6.keep K0)) (g := (mkF m 37 #[rv a1, rv a2, rv a3, rv a4] [(.ref a4), (.ref a1)])) rfl rfl (hb hby d8_37)
  refine own_goW st22 ?_
  clear st22 X19 Kc20
  obtain ⟨T23, h23, X23, e23, W23, st23⟩ := putF X22 hx hZ hown (host := "") (Or.inl (ow56 hw)) Via.refl e22 fp3 fp0 (Or.inr ⟨(ow57 hw), rfl, hnm⟩) (ow1 hw) (ty := (.object "java/lang/String")) own_fd2 rfl rfl (g := (mkF m 40 #[rv a1, rv a2, rv a3, rv a4] [(.ref a4), (.ref a1)])) rfl rfl (hb hby d8_40)
  refine own_goW st23 ?_
  clear st23 X22 e22
  replace N0 := Fr.snoc X23 N0 big_a1
  replace hJ := own_Jwr hZ hJ W23 (own_farE fp0 (by decide) (ow1 hw))
  have ne24 : b18 ≠ a1 := (ne_exa g118 fp0 (by decide))
  have ne25 : t18 ≠ a1 := (Ne.symm (Exa.neArv fp0 g418 (ow1 hw)))
  replace fp0 := fp0.wr W23
  replace fp1 := fp1.other W23 (.inr (own_sn2 hw).symm)
  replace fp2 := fp2.other W23 (.inr (own_sn3 hw).symm)
  replace fp3 := fp3.same W23
  replace g12 := g12.wr W23
  replace g22 := g22.other W23 (Or.inl ne8)
  replace g32 := g32.other W23 (Or.inl ne8)
  replace g42 := g42.other W23 ne9
  replace g110 := g110.wr W23
  replace g210 := g210.other W23 (Or.inl ne16)
  replace g310 := g310.other W23 (Or.inl ne16)
  replace g410 := g410.other W23 ne17
  replace g118 := g118.wr W23
  replace g218 := g218.other W23 (Or.inl ne24)
  replace g318 := g318.other W23 (Or.inl ne24)
  replace g418 := g418.other W23 ne25
  replace O0 := own_oldWr O0 W23 big_a1
  replace K0 := K0.wr W23 (Or.inl (List.mem_of_getElem? (i := 0) rfl))
  replace hS := own_since hS (Nat.le_of_eq W23.size.symm)
  clear W23
  show own_GoW p e below s _ _ _ _ (T23.setTop (mkF m 43 #[rv a1, rv a2, rv a3, rv a4] []))
  refine own_retVW X23 hS hL hZ hJ hx hlk e23 hret (hb hby d8_43) (by show _ ≤ 6; omega) (by show _ ≤ 84; omega) ?_
  exact ⟨rfl, N0, K0, fp0, fp1, fp2, fp3⟩
theorem d11_0 : decode prog_68_method_5_code 0 = .ok (.aload_n 1, 1) := by decide +kernel
theorem d11_1 : decode prog_68_method_5_code 1 = .ok (.instanceof 18, 3) := by decide +kernel
theorem d11_4 : decode prog_68_method_5_code 4 = .ok (.ifCond .eq 58, 3) := by decide +kernel
theorem d11_7 : decode prog_68_method_5_code 7 = .ok (.aload_n 0, 1) := by decide +kernel
theorem d11_8 : decode prog_68_method_5_code 8 = .ok (.getfield 17, 3) := by decide +kernel
theorem d11_11 : decode prog_68_method_5_code 11 = .ok (.aload_n 1, 1) := by decide +kernel
theorem d11_12 : decode prog_68_method_5_code 12 = .ok (.checkcast 18, 3) := by decide +kernel
theorem d11_15 : decode prog_68_method_5_code 15 = .ok (.getfield 17, 3) := by decide +kernel
theorem d11_18 : decode prog_68_method_5_code 18 = .ok (.invokevirtual 30, 3) := by decide +kernel
theorem d11_21 : decode prog_68_method_5_code 21 = .ok (.ifCond .eq 41, 3) := by decide +kernel
theorem d11_24 : decode prog_68_method_5_code 24 = .ok (.aload_n 0, 1) := by decide +kernel
theorem d11_25 : decode prog_68_method_5_code 25 = .ok (.getfield 24, 3) := by decide +kernel
theorem d11_28 : decode prog_68_method_5_code 28 = .ok (.aload_n 1, 1) := by decide +kernel
theorem d11_29 : decode prog_68_method_5_code 29 = .ok (.checkcast 18, 3) := by decide +kernel
theorem d11_32 : decode prog_68_method_5_code 32 = .ok (.getfield 24, 3) := by decide +kernel
theorem d11_35 : decode prog_68_method_5_code 35 = .ok (.invokevirtual 30, 3) := by decide +kernel
theorem d11_38 : decode prog_68_method_5_code 38 = .ok (.ifCond .eq 24, 3) := by decide +kernel
theorem d11_41 : decode prog_68_method_5_code 41 = .ok (.aload_n 0, 1) := by decide +kernel
theorem d11_42 : decode prog_68_method_5_code 42 = .ok (.getfield 28, 3) := by decide +kernel
theorem d11_45 : decode prog_68_method_5_code 45 = .ok (.aload_n 1, 1) := by decide +kernel
theorem d11_46 : decode prog_68_method_5_code 46 = .ok (.checkcast 18, 3) := by decide +kernel
theorem d11_49 : decode prog_68_method_5_code 49 = .ok (.getfield 28, 3) := by decide +kernel
theorem d11_52 : decode prog_68_method_5_code 52 = .ok (.invokevirtual 30, 3) := by decide +kernel
theorem d11_55 : decode prog_68_method_5_code 55 = .ok (.ifCond .eq 7, 3) := by decide +kernel
theorem d11_58 : decode prog_68_method_5_code 58 = .ok (.iconst 1, 1) := by decide +kernel
theorem d11_59 : decode prog_68_method_5_code 59 = .ok (.goto 4, 3) := by decide +kernel
theorem d11_62 : decode prog_68_method_5_code 62 = .ok (.iconst 0, 1) := by decide +kernel
theorem d11_63 : decode prog_68_method_5_code 63 = .ok (.ireturn, 1) := by decide +kernel
def Q_eqT (Z : State) (zc : Int32) (a1 : Addr) (a2 : Addr) (sw1_ : Addr) (sw2_ : Addr) (sw3_ : Addr) (su1_ : Addr) (su2_ : Addr) (su3_ : Addr) (cs1_ : List Int32) (cs2_ : List Int32) (cs3_ : List Int32) (ds1_ : List Int32) (ds2_ : List Int32) (ds3_ : List Int32) (h0 : Heap) (v : Option Value) (h : Heap) (L : List Loc) : Prop := (v = some (.int (1 : Int32)) ∧ Fr Z.heap.size L ∧ cs1_ = ds1_ ∧ cs2_ = ds2_ ∧ cs3_ = ds3_ ∧ h = h0) ∨ (v = some (.int (0 : Int32)) ∧ Fr Z.heap.size L ∧ ¬ (cs1_ = ds1_) ∧ h = h0) ∨ (v = some (.int (0 : Int32)) ∧ Fr Z.heap.size L ∧ cs1_ = ds1_ ∧ ¬ (cs2_ = ds2_) ∧ h = h0) ∨ (v = some (.int (0 : Int32)) ∧ Fr Z.heap.size L ∧ cs1_ = ds1_ ∧ cs2_ = ds2_ ∧ ¬ (cs3_ = ds3_) ∧ h = h0)
theorem ef_eqT (m : MethodId) (x0 : Addr) (x1 : Addr) : entryFrame m #[(.ref x0), (.ref x1)] 2 = mkF m 0 #[rv x0, rv x1] [] := by first | (simp [entryFrame, mkF, argsToLocals, Value.category]; done) | rfl
set_option maxRecDepth 65536 in
set_option maxHeartbeats 40000000 in
theorem rm_eqT (l : Launch) (Z : State) (a0 : Array Value) (hw : own_W Z a0) {zc : Int32} (hO : own_Olds Z zc) (ws : List Jvm.Cond) (a1 : Addr) (a2 : Addr) (sw1_ : Addr) (sw2_ : Addr) (sw3_ : Addr) (su1_ : Addr) (su2_ : Addr) (su3_ : Addr) (cs1_ : List Int32) (cs2_ : List Int32) (cs3_ : List Int32) (ds1_ : List Int32) (ds2_ : List Int32) (ds3_ : List Int32) (h0 : Heap) (O0 : Ext Z.heap h0) (fp0 : Exa Z h0 a1 "com/example/ratification/ratification/model/Triple") (fp1 : Exa Z h0 a2 "com/example/ratification/ratification/model/Triple") (fp2 : Fld Z h0 a1 "com/example/ratification/ratification/model/Triple" "subject" "Ljava/lang/String;" (.ref sw1_)) (fp3 : Fld Z h0 a1 "com/example/ratification/ratification/model/Triple" "object" "Ljava/lang/String;" (.ref sw2_)) (fp4 : Fld Z h0 a1 "com/example/ratification/ratification/model/Triple" "right" "Ljava/lang/String;" (.ref sw3_)) (fp5 : Fld Z h0 a2 "com/example/ratification/ratification/model/Triple" "subject" "Ljava/lang/String;" (.ref su1_)) (fp6 : Fld Z h0 a2 "com/example/ratification/ratification/model/Triple" "object" "Ljava/lang/String;" (.ref su2_)) (fp7 : Fld Z h0 a2 "com/example/ratification/ratification/model/Triple" "right" "Ljava/lang/String;" (.ref su3_)) (fp8 : Exa Z h0 sw1_ "java/lang/String") (fp9 : Exa Z h0 sw2_ "java/lang/String") (fp10 : Exa Z h0 sw3_ "java/lang/String") (fp11 : Exa Z h0 su1_ "java/lang/String") (fp12 : Exa Z h0 su2_ "java/lang/String") (fp13 : Exa Z h0 su3_ "java/lang/String") (fp14 : own_Sl Z h0 sw1_ cs1_) (fp15 : own_Sl Z h0 sw2_ cs2_) (fp16 : own_Sl Z h0 sw3_ cs3_) (fp17 : own_Sl Z h0 su1_ ds1_) (fp18 : own_Sl Z h0 su2_ ds2_) (fp19 : own_Sl Z h0 su3_ ds3_) :
    own_MF l Z h0 own_y7 prog_68_method_5_code 2 (some .boolean) ({ frames := 3, cells := 0, slots := 0, locals := 28 } : Room) #[(.ref a1), (.ref a2)] (Q_eqT Z zc a1 a2 sw1_ sw2_ sw3_ su1_ su2_ su3_ cs1_ cs2_ cs3_ ds1_ ds2_ ds3_ h0) ws := by
  refine own_met (Q := (Q_eqT Z zc a1 a2 sw1_ sw2_ sw3_ su1_ su2_ su3_ cs1_ cs2_ cs3_ ds1_ ds2_ ds3_ h0)) _ _ (plainFor_of_name own_pn_3) ?_
  intro p e s m below meth c T X0 hx hby hml hret hlk hZ hown hnm e0
  replace hown : s.vm.findClass "com/example/ratification/ratification/model/Triple" = some m.cls := hown
  replace hnm : meth.name = "equals" := hnm
  have hml : c.maxLocals = 2 := hml
  obtain ⟨oCS, oCz⟩ := id hO
  have N0 := Fr.nil Z.heap.size
  have K0 := Keep.refl h0 []
  refine own_go (fun _ k => castTop (ef_eqT m a1 a2) k) ?_
  show own_Go p e below s _ _ _ (T.setTop (mkF m 0 #[rv a1, rv a2] []))
  refine own_go (fun _ k => XS.aloadN X0.here hx rfl (hb hby d11_0) rfl rfl k) ?_
  obtain ⟨T1, X1, e1, st1⟩ := instY X0 hx hZ hown (ow66 hw) e0 (Ins.self (fp1.keep K0)) (g := (mkF m 1 #[rv a1, rv a2] [(.ref a2)])) rfl rfl (hb hby d11_1)
  refine own_go st1 ?_
  clear st1 X0 e0
  refine own_go (fun _ k => XS.ifNo X1.here hx rfl (hb hby d11_4) rfl ((if0 _ _).trans (feq (by decide : ¬ ((1 : Int32) = (0 : Int32)))).1) (XS.aloadN X1.here hx rfl (hb hby d11_7) rfl rfl k)) ?_
  show own_Go p e below s _ _ _ (T1.setTop (mkF m 8 #[rv a1, rv a2] [(.ref a1)]))
  obtain ⟨T2, X2, e2, st2⟩ := getF X1 hx hZ hown (host := "") (Or.inl (ow50 hw)) Via.refl e1 (fp2.keep K0 nin0) (g := (mkF m 8 #[rv a1, rv a2] [(.ref a1)])) rfl rfl (hb hby d11_8)
  refine own_go st2 ?_
  clear st2 X1 e1
  refine own_go (fun _ k => XS.aloadN X2.here hx rfl (hb hby d11_11) rfl rfl k) ?_
  obtain ⟨T3, X3, e3, st3⟩ := castY X2 hx hZ hown (ow66 hw) e2 (Ins.self (fp1.keep K0)) (g := (mkF m 12 #[rv a1, rv a2] [(.ref a2), (.ref sw1_)])) rfl rfl (hb hby d11_12)
  refine own_go st3 ?_
  clear st3 X2 e2
  obtain ⟨T4, X4, e4, st4⟩ := getF X3 hx hZ hown (host := "") (Or.inl (ow50 hw)) Via.refl e3 (fp5.keep K0 nin0) (g := (mkF m 15 #[rv a1, rv a2] [(.ref a2), (.ref sw1_)])) rfl rfl (hb hby d11_15)
  refine own_go st4 ?_
  clear st4 X3 e3
  show own_Go p e below s _ _ _ (T4.setTop (mkF m 18 #[rv a1, rv a2] [(.ref su1_), (.ref sw1_)]))
  obtain ⟨v5, T5, L5, X5, hQ5, st5⟩ := own_callVB (y := own_y6) (z := own_y6) X4 hx hZ hown (ow68 hw) (ow69 hw) (notFace_of_selects (args := #[]) (mvT hZ (ow71 hw))) (ow71 hw) (ow70 hw) (ow9 hw) (ow72 hw) 0 0 0 (own_eqB (W := 0) hZ (own_sw2 hw) (kI := 4) (ow8 hw) (own_SlKeep fp14 K0 all0) (own_SlKeep fp17 K0 all0) (oCS.ext O0) oCz (by decide) (by decide)) (by show _ ≤ 0; omega) (by show _ ≤ 0; omega) e4 (fp8.keep K0) (g := (mkF m 18 #[rv a1, rv a2] [(.ref su1_), (.ref sw1_)])) rfl (by rw [hml]; rfl) [(.ref su1_)] [] (lenOf own_pd_3 rfl) rfl rfl (hb hby d11_18)
  obtain ⟨hv5, rfl, eh5⟩ := hQ5
  rcases hv5 with ⟨rfl, hc5⟩ | ⟨rfl, hc5⟩
  · refine own_go st5 ?_
    clear st5 X4 e4
    replace N0 := Fr.app N0 (Fr.nil Z.heap.size)
    show own_Go p e below s _ _ _ (T5.setTop (mkF m 21 #[rv a1, rv a2] [(.int (1 : Int32))]))
    refine own_go (fun _ k => XS.ifNo X5.here hx rfl (hb hby d11_21) rfl ((if0 _ _).trans (feq (by decide : ¬ ((1 : Int32) = (0 : Int32)))).1) (XS.aloadN X5.here hx rfl (hb hby d11_24) rfl rfl k)) ?_
    obtain ⟨T6, X6, e6, st6⟩ := getF X5 hx hZ hown (host := "") (Or.inl (ow53 hw)) Via.refl eh5 (fp3.keep K0 nin0) (g := (mkF m 25 #[rv a1, rv a2] [(.ref a1)])) rfl rfl (hb hby d11_25)
    refine own_go st6 ?_
    clear st6 X5 eh5
    refine own_go (fun _ k => XS.aloadN X6.here hx rfl (hb hby d11_28) rfl rfl k) ?_
    show own_Go p e below s _ _ _ (T6.setTop (mkF m 29 #[rv a1, rv a2] [(.ref a2), (.ref sw2_)]))
    obtain ⟨T7, X7, e7, st7⟩ := castY X6 hx hZ hown (ow66 hw) e6 (Ins.self (fp1.keep K0)) (g := (mkF m 29 #[rv a1, rv a2] [(.ref a2), (.ref sw2_)])) rfl rfl (hb hby d11_29)
    refine own_go st7 ?_
    clear st7 X6 e6
    obtain ⟨T8, X8, e8, st8⟩ := getF X7 hx hZ hown (host := "") (Or.inl (ow53 hw)) Via.refl e7 (fp6.keep K0 nin0) (g := (mkF m 32 #[rv a1, rv a2] [(.ref a2), (.ref sw2_)])) rfl rfl (hb hby d11_32)
    refine own_go st8 ?_
    clear st8 X7 e7
    obtain ⟨v9, T9, L9, X9, hQ9, st9⟩ := own_callVB (y := own_y6) (z := own_y6) X8 hx hZ hown (ow68 hw) (ow69 hw) (notFace_of_selects (args := #[]) (mvT hZ (ow71 hw))) (ow71 hw) (ow70 hw) (ow9 hw) (ow72 hw) 0 0 0 (own_eqB (W := 0) hZ (own_sw2 hw) (kI := 4) (ow8 hw) (own_SlKeep fp15 K0 all0) (own_SlKeep fp18 K0 all0) (oCS.ext O0) oCz (by decide) (by decide)) (by show _ ≤ 0; omega) (by show _ ≤ 0; omega) e8 (fp9.keep K0) (g := (mkF m 35 #[rv a1, rv a2] [(.ref su2_), (.ref sw2_)])) rfl (by rw [hml]; rfl) [(.ref su2_)] [] (lenOf own_pd_3 rfl) rfl rfl (hb hby d11_35)
    obtain ⟨hv9, rfl, eh9⟩ := hQ9
    rcases hv9 with ⟨rfl, hc9⟩ | ⟨rfl, hc9⟩
    · refine own_go st9 ?_
      clear st9 X8 e8
      replace N0 := Fr.app N0 (Fr.nil Z.heap.size)
      show own_Go p e below s _ _ _ (T9.setTop (mkF m 38 #[rv a1, rv a2] [(.int (1 : Int32))]))
      refine own_go (fun _ k => XS.ifNo X9.here hx rfl (hb hby d11_38) rfl ((if0 _ _).trans (feq (by decide : ¬ ((1 : Int32) = (0 : Int32)))).1) (XS.aloadN X9.here hx rfl (hb hby d11_41) rfl rfl k)) ?_
      obtain ⟨T10, X10, e10, st10⟩ := getF X9 hx hZ hown (host := "") (Or.inl (ow56 hw)) Via.refl eh9 (fp4.keep K0 nin0) (g := (mkF m 42 #[rv a1, rv a2] [(.ref a1)])) rfl rfl (hb hby d11_42)
      refine own_go st10 ?_
      clear st10 X9 eh9
      refine own_go (fun _ k => XS.aloadN X10.here hx rfl (hb hby d11_45) rfl rfl k) ?_
      show own_Go p e below s _ _ _ (T10.setTop (mkF m 46 #[rv a1, rv a2] [(.ref a2), (.ref sw3_)]))
      obtain ⟨T11, X11, e11, st11⟩ := castY X10 hx hZ hown (ow66 hw) e10 (Ins.self (fp1.keep K0)) (g := (mkF m 46 #[rv a1, rv a2] [(.ref a2), (.ref sw3_)])) rfl rfl (hb hby d11_46)
      refine own_go st11 ?_
      clear st11 X10 e10
      obtain ⟨T12, X12, e12, st12⟩ := getF X11 hx hZ hown (host := "") (Or.inl (ow56 hw)) Via.refl e11 (fp7.keep K0 nin0) (g := (mkF m 49 #[rv a1, rv a2] [(.ref a2), (.ref sw3_)])) rfl rfl (hb hby d11_49)
      refine own_go st12 ?_
      clear st12 X11 e11
      obtain ⟨v13, T13, L13, X13, hQ13, st13⟩ := own_callVB (y := own_y6) (z := own_y6) X12 hx hZ hown (ow68 hw) (ow69 hw) (notFace_of_selects (args := #[]) (mvT hZ (ow71 hw))) (ow71 hw) (ow70 hw) (ow9 hw) (ow72 hw) 0 0 0 (own_eqB (W := 0) hZ (own_sw2 hw) (kI := 4) (ow8 hw) (own_SlKeep fp16 K0 all0) (own_SlKeep fp19 K0 all0) (oCS.ext O0) oCz (by decide) (by decide)) (by show _ ≤ 0; omega) (by show _ ≤ 0; omega) e12 (fp10.keep K0) (g := (mkF m 52 #[rv a1, rv a2] [(.ref su3_), (.ref sw3_)])) rfl (by rw [hml]; rfl) [(.ref su3_)] [] (lenOf own_pd_3 rfl) rfl rfl (hb hby d11_52)
      obtain ⟨hv13, rfl, eh13⟩ := hQ13
      rcases hv13 with ⟨rfl, hc13⟩ | ⟨rfl, hc13⟩
      · refine own_go st13 ?_
        clear st13 X12 e12
        replace N0 := Fr.app N0 (Fr.nil Z.heap.size)
        show own_Go p e below s _ _ _ (T13.setTop (mkF m 55 #[rv a1, rv a2] [(.int (1 : Int32))]))
        refine own_go (fun _ k => XS.ifNo X13.here hx rfl (hb hby d11_55) rfl ((if0 _ _).trans (feq (by decide : ¬ ((1 : Int32) = (0 : Int32)))).1) (XS.iconst X13.here hx rfl (hb hby d11_58) (XS.goto X13.here hx rfl (pc0 := 59) (pc' := 63) rfl (hb hby d11_59) (by decide) (by decide) k))) ?_
        show own_Go p e below s _ _ _ (T13.setTop (mkF m 63 #[rv a1, rv a2] [(.int (1 : Int32))]))
        refine own_retN X13 hx hlk eh13 (t := .boolean) hret (by simp) (hb hby d11_63) (by show _ ≤ 0; omega) (by show _ ≤ 0; omega) ?_
        exact Or.inl ⟨rfl, N0, hc5, hc9, hc13, rfl⟩
      · refine own_go st13 ?_
        clear st13 X12 e12
        replace N0 := Fr.app N0 (Fr.nil Z.heap.size)
        show own_Go p e below s _ _ _ (T13.setTop (mkF m 55 #[rv a1, rv a2] [(.int (0 : Int32))]))
        refine own_go (fun _ k => XS.ifYes X13.here hx rfl (pc0 := 55) (pc' := 62) rfl (hb hby d11_55) rfl ((if0 _ _).trans (teq (by decide : (0 : Int32) = (0 : Int32))).1) (by decide) (by decide) (XS.iconst X13.here hx rfl (hb hby d11_62) k)) ?_
        show own_Go p e below s _ _ _ (T13.setTop (mkF m 63 #[rv a1, rv a2] [(.int (0 : Int32))]))
        refine own_retN X13 hx hlk eh13 (t := .boolean) hret (by simp) (hb hby d11_63) (by show _ ≤ 0; omega) (by show _ ≤ 0; omega) ?_
        exact Or.inr (Or.inr (Or.inr (⟨rfl, N0, hc5, hc9, hc13, rfl⟩)))
    · refine own_go st9 ?_
      clear st9 X8 e8
      replace N0 := Fr.app N0 (Fr.nil Z.heap.size)
      show own_Go p e below s _ _ _ (T9.setTop (mkF m 38 #[rv a1, rv a2] [(.int (0 : Int32))]))
      refine own_go (fun _ k => XS.ifYes X9.here hx rfl (pc0 := 38) (pc' := 62) rfl (hb hby d11_38) rfl ((if0 _ _).trans (teq (by decide : (0 : Int32) = (0 : Int32))).1) (by decide) (by decide) (XS.iconst X9.here hx rfl (hb hby d11_62) k)) ?_
      show own_Go p e below s _ _ _ (T9.setTop (mkF m 63 #[rv a1, rv a2] [(.int (0 : Int32))]))
      refine own_retN X9 hx hlk eh9 (t := .boolean) hret (by simp) (hb hby d11_63) (by show _ ≤ 0; omega) (by show _ ≤ 0; omega) ?_
      exact Or.inr (Or.inr (Or.inl ⟨rfl, N0, hc5, hc9, rfl⟩))
  · refine own_go st5 ?_
    clear st5 X4 e4
    replace N0 := Fr.app N0 (Fr.nil Z.heap.size)
    show own_Go p e below s _ _ _ (T5.setTop (mkF m 21 #[rv a1, rv a2] [(.int (0 : Int32))]))
    refine own_go (fun _ k => XS.ifYes X5.here hx rfl (pc0 := 21) (pc' := 62) rfl (hb hby d11_21) rfl ((if0 _ _).trans (teq (by decide : (0 : Int32) = (0 : Int32))).1) (by decide) (by decide) (XS.iconst X5.here hx rfl (hb hby d11_62) k)) ?_
    show own_Go p e below s _ _ _ (T5.setTop (mkF m 63 #[rv a1, rv a2] [(.int (0 : Int32))]))
    refine own_retN X5 hx hlk eh5 (t := .boolean) hret (by simp) (hb hby d11_63) (by show _ ≤ 0; omega) (by show _ ≤ 0; omega) ?_
    exact Or.inr (Or.inl ⟨rfl, N0, hc5, rfl⟩)
def Q_eqN (Z : State) (zc : Int32) (a1 : Addr) (h0 : Heap) (v : Option Value) (h : Heap) (L : List Loc) : Prop := (v = some (.int (0 : Int32)) ∧ Fr Z.heap.size L ∧ h = h0)
theorem ef_eqN (m : MethodId) (x0 : Addr) : entryFrame m #[(.ref x0), .null] 2 = mkF m 0 #[rv x0, .val .null] [] := by first | (simp [entryFrame, mkF, argsToLocals, Value.category]; done) | rfl
set_option maxRecDepth 65536 in
set_option maxHeartbeats 40000000 in
theorem rm_eqN (l : Launch) (Z : State) (a0 : Array Value) (hw : own_W Z a0) {zc : Int32} (hO : own_Olds Z zc) (ws : List Jvm.Cond) (a1 : Addr) (h0 : Heap) (O0 : Ext Z.heap h0) :
    own_MF l Z h0 own_y7 prog_68_method_5_code 2 (some .boolean) ({ frames := 0, cells := 0, slots := 0, locals := 0 } : Room) #[(.ref a1), .null] (Q_eqN Z zc a1 h0) ws := by
  refine own_met (Q := (Q_eqN Z zc a1 h0)) _ _ (plainFor_of_name own_pn_3) ?_
  intro p e s m below meth c T X0 hx hby hml hret hlk hZ hown hnm e0
  replace hown : s.vm.findClass "com/example/ratification/ratification/model/Triple" = some m.cls := hown
  replace hnm : meth.name = "equals" := hnm
  have hml : c.maxLocals = 2 := hml
  obtain ⟨oCS, oCz⟩ := id hO
  have N0 := Fr.nil Z.heap.size
  have K0 := Keep.refl h0 []
  refine own_go (fun _ k => castTop (ef_eqN m a1) k) ?_
  show own_Go p e below s _ _ _ (T.setTop (mkF m 0 #[rv a1, .val .null] []))
  refine own_go (fun _ k => XS.aloadN X0.here hx rfl (hb hby d11_0) rfl rfl k) ?_
  refine own_go (X0.instanceofNull hx (g := (mkF m 1 #[rv a1, .val .null] [.null])) rfl rfl (hb hby d11_1)) ?_
  refine own_go (fun _ k => XS.ifYes X0.here hx rfl (pc0 := 4) (pc' := 62) rfl (hb hby d11_4) rfl ((if0 _ _).trans (teq (by decide : (0 : Int32) = (0 : Int32))).1) (by decide) (by decide) (XS.iconst X0.here hx rfl (hb hby d11_62) k)) ?_
  show own_Go p e below s _ _ _ (T.setTop (mkF m 63 #[rv a1, .val .null] [(.int (0 : Int32))]))
  refine own_retN X0 hx hlk e0 (t := .boolean) hret (by simp) (hb hby d11_63) (by show _ ≤ 0; omega) (by show _ ≤ 0; omega) ?_
  exact ⟨rfl, N0, rfl⟩
def Q_eqS (Z : State) (zc : Int32) (a1 : Addr) (a2 : Addr) (h0 : Heap) (v : Option Value) (h : Heap) (L : List Loc) : Prop := (v = some (.int (0 : Int32)) ∧ Fr Z.heap.size L ∧ h = h0)
theorem ef_eqS (m : MethodId) (x0 : Addr) (x1 : Addr) : entryFrame m #[(.ref x0), (.ref x1)] 2 = mkF m 0 #[rv x0, rv x1] [] := by first | (simp [entryFrame, mkF, argsToLocals, Value.category]; done) | rfl
set_option maxRecDepth 65536 in
set_option maxHeartbeats 40000000 in
theorem rm_eqS (l : Launch) (Z : State) (a0 : Array Value) (hw : own_W Z a0) {zc : Int32} (hO : own_Olds Z zc) (ws : List Jvm.Cond) (a1 : Addr) (a2 : Addr) (h0 : Heap) (O0 : Ext Z.heap h0) (fp0 : Exa Z h0 a2 "java/lang/String") :
    own_MF l Z h0 own_y7 prog_68_method_5_code 2 (some .boolean) ({ frames := 0, cells := 0, slots := 0, locals := 0 } : Room) #[(.ref a1), (.ref a2)] (Q_eqS Z zc a1 a2 h0) ws := by
  refine own_met (Q := (Q_eqS Z zc a1 a2 h0)) _ _ (plainFor_of_name own_pn_3) ?_
  intro p e s m below meth c T X0 hx hby hml hret hlk hZ hown hnm e0
  replace hown : s.vm.findClass "com/example/ratification/ratification/model/Triple" = some m.cls := hown
  replace hnm : meth.name = "equals" := hnm
  have hml : c.maxLocals = 2 := hml
  obtain ⟨oCS, oCz⟩ := id hO
  have N0 := Fr.nil Z.heap.size
  have K0 := Keep.refl h0 []
  refine own_go (fun _ k => castTop (ef_eqS m a1 a2) k) ?_
  show own_Go p e below s _ _ _ (T.setTop (mkF m 0 #[rv a1, rv a2] []))
  refine own_go (fun _ k => XS.aloadN X0.here hx rfl (hb hby d11_0) rfl rfl k) ?_
  obtain ⟨T1, X1, e1, st1⟩ := instNo X0 hx hZ hown (ow66 hw) e0 (fp0.keep K0) (own_noI (ow78 hw) (ow1 hw) (NS.step (ow78 hw) (own_rootI (ow79 hw) (ow1 hw) (by decide)) (by decide)) (by decide)) (g := (mkF m 1 #[rv a1, rv a2] [(.ref a2)])) rfl rfl (hb hby d11_1)
  refine own_go st1 ?_
  clear st1 X0 e0
  refine own_go (fun _ k => XS.ifYes X1.here hx rfl (pc0 := 4) (pc' := 62) rfl (hb hby d11_4) rfl ((if0 _ _).trans (teq (by decide : (0 : Int32) = (0 : Int32))).1) (by decide) (by decide) (XS.iconst X1.here hx rfl (hb hby d11_62) k)) ?_
  show own_Go p e below s _ _ _ (T1.setTop (mkF m 63 #[rv a1, rv a2] [(.int (0 : Int32))]))
  refine own_retN X1 hx hlk e1 (t := .boolean) hret (by simp) (hb hby d11_63) (by show _ ≤ 0; omega) (by show _ ≤ 0; omega) ?_
  exact ⟨rfl, N0, rfl⟩
def Q_law (Z : State) (zc : Int32) (p1 : Int32) (p2 : Int32) (p3 : Int32) (p4 : Int32) (p5 : Int32) (p6 : Int32) (h0 : Heap) (v : Option Value) (h : Heap) (L : List Loc) : Prop := (v = some (.int (1 : Int32)) ∧ Fr Z.heap.size L ∧ Keep h0 h [])
set_option maxRecDepth 65536 in
set_option maxHeartbeats 40000000 in
theorem sg_s167 {l : Launch} {Z : State} {a0 : Array Value} (hw : own_W Z a0) {zc : Int32} (hO : own_Olds Z zc) {p : Program} {e : Env} {s : State} {vm0 : Vm} {m : MethodId} {args : Array Value} {below : List Frame} {meth : Method} {c : Code} {T : State} {locs : List Loc} {cells slots : Nat} (p1 : Int32) (p2 : Int32) (p3 : Int32) (p4 : Int32) (p5 : Int32) (p6 : Int32) (uv : Int32) (ua : Int32) (ub : Int32) (uc : Int32) (ta : Addr) (tb : Addr) (swa : Addr) (swb : Addr) (swc : Addr) (swd : Addr) (swe : Addr) (swf : Addr) (ve : Int32) (h0 hs1 : Heap)
    (X0 : Stand p l e room_1 (s.setVm vm0) m args below meth c T locs cells slots) (hS : s.Since vm0 hs1.size) (hL : own_L Z a0) (hJ : own_J Z vm0 hs1) (hx : p.tables.exec = Jvm.exec) (hby : c.code = code) (hml : c.maxLocals = 13) (hret : meth.sig.returnType = some .boolean) (hlk : meth.locks = false) (hZ : Z.Warmed39 (s.setVm vm0).vm) (hown : (s.setVm vm0).vm.findClass "com/example/ratification/ratification/model/TripleEqualsPinLaw" = some m.cls) (hnm : meth.name = "law") (e0 : T.heap = hs1) (N0 : Fr Z.heap.size locs) (O0 : Ext Z.heap hs1) (K0 : Keep h0 hs1 []) (fp0 : Exa Z hs1 ta "com/example/ratification/ratification/model/Triple") (fp1 : Fld Z hs1 ta "com/example/ratification/ratification/model/Triple" "subject" "Ljava/lang/String;" (.ref swa)) (fp2 : Fld Z hs1 ta "com/example/ratification/ratification/model/Triple" "object" "Ljava/lang/String;" (.ref swb)) (fp3 : Fld Z hs1 ta "com/example/ratification/ratification/model/Triple" "right" "Ljava/lang/String;" (.ref swc)) (fp4 : Exa Z hs1 tb "com/example/ratification/ratification/model/Triple") (fp5 : Fld Z hs1 tb "com/example/ratification/ratification/model/Triple" "subject" "Ljava/lang/String;" (.ref swd)) (fp6 : Fld Z hs1 tb "com/example/ratification/ratification/model/Triple" "object" "Ljava/lang/String;" (.ref swe)) (fp7 : Fld Z hs1 tb "com/example/ratification/ratification/model/Triple" "right" "Ljava/lang/String;" (.ref swf)) (fp8 : Exa Z hs1 swa "java/lang/String") (fp9 : Exa Z hs1 swb "java/lang/String") (fp10 : Exa Z hs1 swc "java/lang/String") (fp11 : own_Sl Z hs1 swa (own_cs p1)) (fp12 : own_Sl Z hs1 swb (own_cs p2)) (fp13 : own_Sl Z hs1 swc (own_cs p3)) (fp14 : Exa Z hs1 swd "java/lang/String") (fp15 : Exa Z hs1 swe "java/lang/String") (fp16 : Exa Z hs1 swf "java/lang/String") (fp17 : own_Sl Z hs1 swd (own_cs ua)) (fp18 : own_Sl Z hs1 swe (own_cs ub)) (fp19 : own_Sl Z hs1 swf (own_cs uc)) (hve : own_B ve ((own_cs p1) = (own_cs ua) ∧ (own_cs p2) = (own_cs ub) ∧ (own_cs p3) = (own_cs uc))) (hcells : cells ≤ 50) (hslots : slots ≤ 4000) :
    own_GoW p e below s Z (Q_law Z zc p1 p2 p3 p4 p5 p6 h0) room_1.cells room_1.slots (T.setTop (mkF m 167 #[iv p1, iv p2, iv p3, iv p4, iv p5, iv p6, iv uv, iv ua, iv ub, iv uc, rv ta, rv tb, .unset] [(.int ve)])) := by
  obtain ⟨oCS, oCz⟩ := id hO
  have K1 := Keep.refl hs1 []
  show own_GoW p e below s _ _ _ _ (T.setTop (mkF m 167 #[iv p1, iv p2, iv p3, iv p4, iv p5, iv p6, iv uv, iv ua, iv ub, iv uc, rv ta, rv tb, .unset] [(.int ve)]))
  refine own_goW (fun _ k => XS.istore X0.here hx rfl (hb hby at_167) rfl (l' := #[iv p1, iv p2, iv p3, iv p4, iv p5, iv p6, iv uv, iv ua, iv ub, iv uc, rv ta, rv tb, iv ve]) rfl (XS.aload X0.here hx rfl (hb hby at_169) rfl rfl (XS.aload X0.here hx rfl (hb hby at_171) rfl rfl k))) ?_
  obtain ⟨v1, T1, L1, X1, hQ1, st1⟩ := own_callV (y := own_y7) (z := own_y7) X0 hx hZ hown (ow61 hw) (ow62 hw) (notFace_of_selects (args := #[]) (mvT hZ (ow64 hw))) (ow64 hw) (ow63 hw) (ow2 hw) (ow65 hw) (rm_eqT l Z a0 hw hO [] ta tb swa swb swc swd swe swf (own_cs p1) (own_cs p2) (own_cs p3) (own_cs ua) (own_cs ub) (own_cs uc) hs1 O0 (fp0.keep K1) (fp4.keep K1) (fp1.keep K1 nin0) (fp2.keep K1 nin0) (fp3.keep K1 nin0) (fp5.keep K1 nin0) (fp6.keep K1 nin0) (fp7.keep K1 nin0) (fp8.keep K1) (fp9.keep K1) (fp10.keep K1) (fp14.keep K1) (fp15.keep K1) (fp16.keep K1) (own_SlKeep fp11 K1 all0) (own_SlKeep fp12 K1 all0) (own_SlKeep fp13 K1 all0) (own_SlKeep fp17 K1 all0) (own_SlKeep fp18 K1 all0) (own_SlKeep fp19 K1 all0)) 0 0 0 (by show _ ≤ 56; omega) (by show _ ≤ 4352; omega) e0 (fp0.keep K1) (g := (mkF m 173 #[iv p1, iv p2, iv p3, iv p4, iv p5, iv p6, iv uv, iv ua, iv ub, iv uc, rv ta, rv tb, iv ve] [(.ref tb), (.ref ta)])) rfl (by rw [hml]; rfl) [(.ref tb)] [] (lenOf own_pd_3 rfl) rfl rfl (hb hby at_173)
  rcases hQ1 with hQ1 | hQ1 | hQ1 | hQ1
  · obtain ⟨rfl, Nc6, hp2, hp3, hp4, Kc5⟩ := hQ1
    refine own_goW st1 ?_
    clear st1 X0 e0
    replace N0 := Fr.app N0 Nc6
    clear Nc6
    show own_GoW p e below s _ _ _ _ (T1.setTop (mkF m 176 #[iv p1, iv p2, iv p3, iv p4, iv p5, iv p6, iv uv, iv ua, iv ub, iv uc, rv ta, rv tb, iv ve] [(.int (1 : Int32))]))
    refine own_goW (fun _ k => XS.iload X1.here hx rfl (hb hby at_176) rfl (XS.icmpNo X1.here hx rfl (hb hby at_178) rfl (teq (own_B1 hve ⟨hp2, hp3, hp4⟩).symm).2 (XS.aload X1.here hx rfl (hb hby at_181) rfl rfl (XS.aload X1.here hx rfl (hb hby at_183) rfl rfl k)))) ?_
    show own_GoW p e below s _ _ _ _ (T1.setTop (mkF m 185 #[iv p1, iv p2, iv p3, iv p4, iv p5, iv p6, iv uv, iv ua, iv ub, iv uc, rv ta, rv tb, iv ve] [(.ref ta), (.ref tb)]))
    obtain ⟨v7, T7, L7, X7, hQ7, st7⟩ := own_callV (y := own_y7) (z := own_y7) X1 hx hZ hown (ow61 hw) (ow62 hw) (notFace_of_selects (args := #[]) (mvT hZ (ow64 hw))) (ow64 hw) (ow63 hw) (ow2 hw) (ow65 hw) (rm_eqT l Z a0 hw hO [] tb ta swd swe swf swa swb swc (own_cs ua) (own_cs ub) (own_cs uc) (own_cs p1) (own_cs p2) (own_cs p3) hs1 O0 (fp4.keep K1) (fp0.keep K1) (fp5.keep K1 nin0) (fp6.keep K1 nin0) (fp7.keep K1 nin0) (fp1.keep K1 nin0) (fp2.keep K1 nin0) (fp3.keep K1 nin0) (fp14.keep K1) (fp15.keep K1) (fp16.keep K1) (fp8.keep K1) (fp9.keep K1) (fp10.keep K1) (own_SlKeep fp17 K1 all0) (own_SlKeep fp18 K1 all0) (own_SlKeep fp19 K1 all0) (own_SlKeep fp11 K1 all0) (own_SlKeep fp12 K1 all0) (own_SlKeep fp13 K1 all0)) 0 0 0 (by show _ ≤ 56; omega) (by show _ ≤ 4352; omega) Kc5 (fp4.keep K1) (g := (mkF m 185 #[iv p1, iv p2, iv p3, iv p4, iv p5, iv p6, iv uv, iv ua, iv ub, iv uc, rv ta, rv tb, iv ve] [(.ref ta), (.ref tb)])) rfl (by rw [hml]; rfl) [(.ref ta)] [] (lenOf own_pd_3 rfl) rfl rfl (hb hby at_185)
    rcases hQ7 with hQ7 | hQ7 | hQ7 | hQ7
    · obtain ⟨rfl, Nc12, hp8, hp9, hp10, Kc11⟩ := hQ7
      refine own_goW st7 ?_
      clear st7 X1 Kc5
      replace N0 := Fr.app N0 Nc12
      clear Nc12
      show own_GoW p e below s _ _ _ _ (T7.setTop (mkF m 188 #[iv p1, iv p2, iv p3, iv p4, iv p5, iv p6, iv uv, iv ua, iv ub, iv uc, rv ta, rv tb, iv ve] [(.int (1 : Int32))]))
      refine own_goW (fun _ k => XS.iload X7.here hx rfl (hb hby at_188) rfl (XS.icmpNo X7.here hx rfl (hb hby at_190) rfl (teq (own_B1 hve ⟨hp2, hp3, hp4⟩).symm).2 (XS.iconst X7.here hx rfl (hb hby at_193) (XS.goto X7.here hx rfl (pc0 := 194) (pc' := 198) rfl (hb hby at_194) (by decide) (by decide) k)))) ?_
      show own_GoW p e below s _ _ _ _ (T7.setTop (mkF m 198 #[iv p1, iv p2, iv p3, iv p4, iv p5, iv p6, iv uv, iv ua, iv ub, iv uc, rv ta, rv tb, iv ve] [(.int (1 : Int32))]))
      refine own_retNW X7 hS hL hZ hJ hx hlk Kc11 (t := .boolean) hret (by simp) (hb hby at_198) (by show _ ≤ 56; omega) (by show _ ≤ 4352; omega) ?_
      exact ⟨rfl, N0, K0⟩
    · obtain ⟨rfl, Nc15, hp13, Kc14⟩ := hQ7
      refine own_goW st7 ?_
      clear st7 X1 Kc5
      replace N0 := Fr.app N0 Nc15
      clear Nc15
      exact absurd (Eq.symm hp2) hp13
    · obtain ⟨rfl, Nc19, hp16, hp17, Kc18⟩ := hQ7
      refine own_goW st7 ?_
      clear st7 X1 Kc5
      replace N0 := Fr.app N0 Nc19
      clear Nc19
      exact absurd (Eq.symm hp3) hp17
    · obtain ⟨rfl, Nc24, hp20, hp21, hp22, Kc23⟩ := hQ7
      refine own_goW st7 ?_
      clear st7 X1 Kc5
      replace N0 := Fr.app N0 Nc24
      clear Nc24
      exact absurd (Eq.symm hp4) hp22
  · obtain ⟨rfl, Nc27, hp25, Kc26⟩ := hQ1
    refine own_goW st1 ?_
    clear st1 X0 e0
    replace N0 := Fr.app N0 Nc27
    clear Nc27
    show own_GoW p e below s _ _ _ _ (T1.setTop (mkF m 176 #[iv p1, iv p2, iv p3, iv p4, iv p5, iv p6, iv uv, iv ua, iv ub, iv uc, rv ta, rv tb, iv ve] [(.int (0 : Int32))]))
    refine own_goW (fun _ k => XS.iload X1.here hx rfl (hb hby at_176) rfl (XS.icmpNo X1.here hx rfl (hb hby at_178) rfl (teq (own_B0 hve (fun h => hp25 h.1)).symm).2 (XS.aload X1.here hx rfl (hb hby at_181) rfl rfl (XS.aload X1.here hx rfl (hb hby at_183) rfl rfl k)))) ?_
    show own_GoW p e below s _ _ _ _ (T1.setTop (mkF m 185 #[iv p1, iv p2, iv p3, iv p4, iv p5, iv p6, iv uv, iv ua, iv ub, iv uc, rv ta, rv tb, iv ve] [(.ref ta), (.ref tb)]))
    obtain ⟨v28, T28, L28, X28, hQ28, st28⟩ := own_callV (y := own_y7) (z := own_y7) X1 hx hZ hown (ow61 hw) (ow62 hw) (notFace_of_selects (args := #[]) (mvT hZ (ow64 hw))) (ow64 hw) (ow63 hw) (ow2 hw) (ow65 hw) (rm_eqT l Z a0 hw hO [] tb ta swd swe swf swa swb swc (own_cs ua) (own_cs ub) (own_cs uc) (own_cs p1) (own_cs p2) (own_cs p3) hs1 O0 (fp4.keep K1) (fp0.keep K1) (fp5.keep K1 nin0) (fp6.keep K1 nin0) (fp7.keep K1 nin0) (fp1.keep K1 nin0) (fp2.keep K1 nin0) (fp3.keep K1 nin0) (fp14.keep K1) (fp15.keep K1) (fp16.keep K1) (fp8.keep K1) (fp9.keep K1) (fp10.keep K1) (own_SlKeep fp17 K1 all0) (own_SlKeep fp18 K1 all0) (own_SlKeep fp19 K1 all0) (own_SlKeep fp11 K1 all0) (own_SlKeep fp12 K1 all0) (own_SlKeep fp13 K1 all0)) 0 0 0 (by show _ ≤ 56; omega) (by show _ ≤ 4352; omega) Kc26 (fp4.keep K1) (g := (mkF m 185 #[iv p1, iv p2, iv p3, iv p4, iv p5, iv p6, iv uv, iv ua, iv ub, iv uc, rv ta, rv tb, iv ve] [(.ref ta), (.ref tb)])) rfl (by rw [hml]; rfl) [(.ref ta)] [] (lenOf own_pd_3 rfl) rfl rfl (hb hby at_185)
    rcases hQ28 with hQ28 | hQ28 | hQ28 | hQ28
    · obtain ⟨rfl, Nc33, hp29, hp30, hp31, Kc32⟩ := hQ28
      refine own_goW st28 ?_
      clear st28 X1 Kc26
      replace N0 := Fr.app N0 Nc33
      clear Nc33
      exact absurd hp29 (fun q => hp25 q.symm)
    · obtain ⟨rfl, Nc36, hp34, Kc35⟩ := hQ28
      refine own_goW st28 ?_
      clear st28 X1 Kc26
      replace N0 := Fr.app N0 Nc36
      clear Nc36
      show own_GoW p e below s _ _ _ _ (T28.setTop (mkF m 188 #[iv p1, iv p2, iv p3, iv p4, iv p5, iv p6, iv uv, iv ua, iv ub, iv uc, rv ta, rv tb, iv ve] [(.int (0 : Int32))]))
      refine own_goW (fun _ k => XS.iload X28.here hx rfl (hb hby at_188) rfl (XS.icmpNo X28.here hx rfl (hb hby at_190) rfl (teq (own_B0 hve (fun h => hp25 h.1)).symm).2 (XS.iconst X28.here hx rfl (hb hby at_193) (XS.goto X28.here hx rfl (pc0 := 194) (pc' := 198) rfl (hb hby at_194) (by decide) (by decide) k)))) ?_
      show own_GoW p e below s _ _ _ _ (T28.setTop (mkF m 198 #[iv p1, iv p2, iv p3, iv p4, iv p5, iv p6, iv uv, iv ua, iv ub, iv uc, rv ta, rv tb, iv ve] [(.int (1 : Int32))]))
      refine own_retNW X28 hS hL hZ hJ hx hlk Kc35 (t := .boolean) hret (by simp) (hb hby at_198) (by show _ ≤ 56; omega) (by show _ ≤ 4352; omega) ?_
      exact ⟨rfl, N0, K0⟩
    · obtain ⟨rfl, Nc40, hp37, hp38, Kc39⟩ := hQ28
      refine own_goW st28 ?_
      clear st28 X1 Kc26
      replace N0 := Fr.app N0 Nc40
      clear Nc40
      exact absurd hp37 (fun q => hp25 q.symm)
    · obtain ⟨rfl, Nc45, hp41, hp42, hp43, Kc44⟩ := hQ28
      refine own_goW st28 ?_
      clear st28 X1 Kc26
      replace N0 := Fr.app N0 Nc45
      clear Nc45
      exact absurd hp41 (fun q => hp25 q.symm)
  · obtain ⟨rfl, Nc49, hp46, hp47, Kc48⟩ := hQ1
    refine own_goW st1 ?_
    clear st1 X0 e0
    replace N0 := Fr.app N0 Nc49
    clear Nc49
    show own_GoW p e below s _ _ _ _ (T1.setTop (mkF m 176 #[iv p1, iv p2, iv p3, iv p4, iv p5, iv p6, iv uv, iv ua, iv ub, iv uc, rv ta, rv tb, iv ve] [(.int (0 : Int32))]))
    refine own_goW (fun _ k => XS.iload X1.here hx rfl (hb hby at_176) rfl (XS.icmpNo X1.here hx rfl (hb hby at_178) rfl (teq (own_B0 hve (fun h => hp47 h.2.1)).symm).2 (XS.aload X1.here hx rfl (hb hby at_181) rfl rfl (XS.aload X1.here hx rfl (hb hby at_183) rfl rfl k)))) ?_
    show own_GoW p e below s _ _ _ _ (T1.setTop (mkF m 185 #[iv p1, iv p2, iv p3, iv p4, iv p5, iv p6, iv uv, iv ua, iv ub, iv uc, rv ta, rv tb, iv ve] [(.ref ta), (.ref tb)]))
    obtain ⟨v50, T50, L50, X50, hQ50, st50⟩ := own_callV (y := own_y7) (z := own_y7) X1 hx hZ hown (ow61 hw) (ow62 hw) (notFace_of_selects (args := #[]) (mvT hZ (ow64 hw))) (ow64 hw) (ow63 hw) (ow2 hw) (ow65 hw) (rm_eqT l Z a0 hw hO [] tb ta swd swe swf swa swb swc (own_cs ua) (own_cs ub) (own_cs uc) (own_cs p1) (own_cs p2) (own_cs p3) hs1 O0 (fp4.keep K1) (fp0.keep K1) (fp5.keep K1 nin0) (fp6.keep K1 nin0) (fp7.keep K1 nin0) (fp1.keep K1 nin0) (fp2.keep K1 nin0) (fp3.keep K1 nin0) (fp14.keep K1) (fp15.keep K1) (fp16.keep K1) (fp8.keep K1) (fp9.keep K1) (fp10.keep K1) (own_SlKeep fp17 K1 all0) (own_SlKeep fp18 K1 all0) (own_SlKeep fp19 K1 all0) (own_SlKeep fp11 K1 all0) (own_SlKeep fp12 K1 all0) (own_SlKeep fp13 K1 all0)) 0 0 0 (by show _ ≤ 56; omega) (by show _ ≤ 4352; omega) Kc48 (fp4.keep K1) (g := (mkF m 185 #[iv p1, iv p2, iv p3, iv p4, iv p5, iv p6, iv uv, iv ua, iv ub, iv uc, rv ta, rv tb, iv ve] [(.ref ta), (.ref tb)])) rfl (by rw [hml]; rfl) [(.ref ta)] [] (lenOf own_pd_3 rfl) rfl rfl (hb hby at_185)
    rcases hQ50 with hQ50 | hQ50 | hQ50 | hQ50
    · obtain ⟨rfl, Nc55, hp51, hp52, hp53, Kc54⟩ := hQ50
      refine own_goW st50 ?_
      clear st50 X1 Kc48
      replace N0 := Fr.app N0 Nc55
      clear Nc55
      exact absurd hp52 (fun q => hp47 q.symm)
    · obtain ⟨rfl, Nc58, hp56, Kc57⟩ := hQ50
      refine own_goW st50 ?_
      clear st50 X1 Kc48
      replace N0 := Fr.app N0 Nc58
      clear Nc58
      exact absurd (Eq.symm hp46) hp56
    · obtain ⟨rfl, Nc62, hp59, hp60, Kc61⟩ := hQ50
      refine own_goW st50 ?_
      clear st50 X1 Kc48
      replace N0 := Fr.app N0 Nc62
      clear Nc62
      show own_GoW p e below s _ _ _ _ (T50.setTop (mkF m 188 #[iv p1, iv p2, iv p3, iv p4, iv p5, iv p6, iv uv, iv ua, iv ub, iv uc, rv ta, rv tb, iv ve] [(.int (0 : Int32))]))
      refine own_goW (fun _ k => XS.iload X50.here hx rfl (hb hby at_188) rfl (XS.icmpNo X50.here hx rfl (hb hby at_190) rfl (teq (own_B0 hve (fun h => hp47 h.2.1)).symm).2 (XS.iconst X50.here hx rfl (hb hby at_193) (XS.goto X50.here hx rfl (pc0 := 194) (pc' := 198) rfl (hb hby at_194) (by decide) (by decide) k)))) ?_
      show own_GoW p e below s _ _ _ _ (T50.setTop (mkF m 198 #[iv p1, iv p2, iv p3, iv p4, iv p5, iv p6, iv uv, iv ua, iv ub, iv uc, rv ta, rv tb, iv ve] [(.int (1 : Int32))]))
      refine own_retNW X50 hS hL hZ hJ hx hlk Kc61 (t := .boolean) hret (by simp) (hb hby at_198) (by show _ ≤ 56; omega) (by show _ ≤ 4352; omega) ?_
      exact ⟨rfl, N0, K0⟩
    · obtain ⟨rfl, Nc67, hp63, hp64, hp65, Kc66⟩ := hQ50
      refine own_goW st50 ?_
      clear st50 X1 Kc48
      replace N0 := Fr.app N0 Nc67
      clear Nc67
      exact absurd hp64 (fun q => hp47 q.symm)
  · obtain ⟨rfl, Nc72, hp68, hp69, hp70, Kc71⟩ := hQ1
    refine own_goW st1 ?_
    clear st1 X0 e0
    replace N0 := Fr.app N0 Nc72
    clear Nc72
    show own_GoW p e below s _ _ _ _ (T1.setTop (mkF m 176 #[iv p1, iv p2, iv p3, iv p4, iv p5, iv p6, iv uv, iv ua, iv ub, iv uc, rv ta, rv tb, iv ve] [(.int (0 : Int32))]))
    refine own_goW (fun _ k => XS.iload X1.here hx rfl (hb hby at_176) rfl (XS.icmpNo X1.here hx rfl (hb hby at_178) rfl (teq (own_B0 hve (fun h => hp70 h.2.2)).symm).2 (XS.aload X1.here hx rfl (hb hby at_181) rfl rfl (XS.aload X1.here hx rfl (hb hby at_183) rfl rfl k)))) ?_
    show own_GoW p e below s _ _ _ _ (T1.setTop (mkF m 185 #[iv p1, iv p2, iv p3, iv p4, iv p5, iv p6, iv uv, iv ua, iv ub, iv uc, rv ta, rv tb, iv ve] [(.ref ta), (.ref tb)]))
    obtain ⟨v73, T73, L73, X73, hQ73, st73⟩ := own_callV (y := own_y7) (z := own_y7) X1 hx hZ hown (ow61 hw) (ow62 hw) (notFace_of_selects (args := #[]) (mvT hZ (ow64 hw))) (ow64 hw) (ow63 hw) (ow2 hw) (ow65 hw) (rm_eqT l Z a0 hw hO [] tb ta swd swe swf swa swb swc (own_cs ua) (own_cs ub) (own_cs uc) (own_cs p1) (own_cs p2) (own_cs p3) hs1 O0 (fp4.keep K1) (fp0.keep K1) (fp5.keep K1 nin0) (fp6.keep K1 nin0) (fp7.keep K1 nin0) (fp1.keep K1 nin0) (fp2.keep K1 nin0) (fp3.keep K1 nin0) (fp14.keep K1) (fp15.keep K1) (fp16.keep K1) (fp8.keep K1) (fp9.keep K1) (fp10.keep K1) (own_SlKeep fp17 K1 all0) (own_SlKeep fp18 K1 all0) (own_SlKeep fp19 K1 all0) (own_SlKeep fp11 K1 all0) (own_SlKeep fp12 K1 all0) (own_SlKeep fp13 K1 all0)) 0 0 0 (by show _ ≤ 56; omega) (by show _ ≤ 4352; omega) Kc71 (fp4.keep K1) (g := (mkF m 185 #[iv p1, iv p2, iv p3, iv p4, iv p5, iv p6, iv uv, iv ua, iv ub, iv uc, rv ta, rv tb, iv ve] [(.ref ta), (.ref tb)])) rfl (by rw [hml]; rfl) [(.ref ta)] [] (lenOf own_pd_3 rfl) rfl rfl (hb hby at_185)
    rcases hQ73 with hQ73 | hQ73 | hQ73 | hQ73
    · obtain ⟨rfl, Nc78, hp74, hp75, hp76, Kc77⟩ := hQ73
      refine own_goW st73 ?_
      clear st73 X1 Kc71
      replace N0 := Fr.app N0 Nc78
      clear Nc78
      exact absurd hp76 (fun q => hp70 q.symm)
    · obtain ⟨rfl, Nc81, hp79, Kc80⟩ := hQ73
      refine own_goW st73 ?_
      clear st73 X1 Kc71
      replace N0 := Fr.app N0 Nc81
      clear Nc81
      exact absurd (Eq.symm hp68) hp79
    · obtain ⟨rfl, Nc85, hp82, hp83, Kc84⟩ := hQ73
      refine own_goW st73 ?_
      clear st73 X1 Kc71
      replace N0 := Fr.app N0 Nc85
      clear Nc85
      exact absurd (Eq.symm hp69) hp83
    · obtain ⟨rfl, Nc90, hp86, hp87, hp88, Kc89⟩ := hQ73
      refine own_goW st73 ?_
      clear st73 X1 Kc71
      replace N0 := Fr.app N0 Nc90
      clear Nc90
      show own_GoW p e below s _ _ _ _ (T73.setTop (mkF m 188 #[iv p1, iv p2, iv p3, iv p4, iv p5, iv p6, iv uv, iv ua, iv ub, iv uc, rv ta, rv tb, iv ve] [(.int (0 : Int32))]))
      refine own_goW (fun _ k => XS.iload X73.here hx rfl (hb hby at_188) rfl (XS.icmpNo X73.here hx rfl (hb hby at_190) rfl (teq (own_B0 hve (fun h => hp70 h.2.2)).symm).2 (XS.iconst X73.here hx rfl (hb hby at_193) (XS.goto X73.here hx rfl (pc0 := 194) (pc' := 198) rfl (hb hby at_194) (by decide) (by decide) k)))) ?_
      show own_GoW p e below s _ _ _ _ (T73.setTop (mkF m 198 #[iv p1, iv p2, iv p3, iv p4, iv p5, iv p6, iv uv, iv ua, iv ub, iv uc, rv ta, rv tb, iv ve] [(.int (1 : Int32))]))
      refine own_retNW X73 hS hL hZ hJ hx hlk Kc89 (t := .boolean) hret (by simp) (hb hby at_198) (by show _ ≤ 56; omega) (by show _ ≤ 4352; omega) ?_
      exact ⟨rfl, N0, K0⟩
set_option maxRecDepth 65536 in
set_option maxHeartbeats 40000000 in
theorem sg_s69 {l : Launch} {Z : State} {a0 : Array Value} (hw : own_W Z a0) {zc : Int32} (hO : own_Olds Z zc) {p : Program} {e : Env} {s : State} {vm0 : Vm} {m : MethodId} {args : Array Value} {below : List Frame} {meth : Method} {c : Code} {T : State} {locs : List Loc} {cells slots : Nat} (p1 : Int32) (p2 : Int32) (p3 : Int32) (p4 : Int32) (p5 : Int32) (p6 : Int32) (uv : Int32) (ua : Int32) (ub : Int32) (uc : Int32) (ta : Addr) (swa : Addr) (swb : Addr) (swc : Addr) (h0 hs1 : Heap)
    (X0 : Stand p l e room_1 (s.setVm vm0) m args below meth c T locs cells slots) (hS : s.Since vm0 hs1.size) (hL : own_L Z a0) (hJ : own_J Z vm0 hs1) (hx : p.tables.exec = Jvm.exec) (hby : c.code = code) (hml : c.maxLocals = 13) (hret : meth.sig.returnType = some .boolean) (hlk : meth.locks = false) (hZ : Z.Warmed39 (s.setVm vm0).vm) (hown : (s.setVm vm0).vm.findClass "com/example/ratification/ratification/model/TripleEqualsPinLaw" = some m.cls) (hnm : meth.name = "law") (e0 : T.heap = hs1) (N0 : Fr Z.heap.size locs) (O0 : Ext Z.heap hs1) (K0 : Keep h0 hs1 []) (fp0 : Exa Z hs1 ta "com/example/ratification/ratification/model/Triple") (fp1 : Fld Z hs1 ta "com/example/ratification/ratification/model/Triple" "subject" "Ljava/lang/String;" (.ref swa)) (fp2 : Fld Z hs1 ta "com/example/ratification/ratification/model/Triple" "object" "Ljava/lang/String;" (.ref swb)) (fp3 : Fld Z hs1 ta "com/example/ratification/ratification/model/Triple" "right" "Ljava/lang/String;" (.ref swc)) (fp4 : Exa Z hs1 swa "java/lang/String") (fp5 : Exa Z hs1 swb "java/lang/String") (fp6 : Exa Z hs1 swc "java/lang/String") (fp7 : own_Sl Z hs1 swa (own_cs p1)) (fp8 : own_Sl Z hs1 swb (own_cs p2)) (fp9 : own_Sl Z hs1 swc (own_cs p3)) (hcells : cells ≤ 30) (hslots : slots ≤ 2000) :
    own_GoW p e below s Z (Q_law Z zc p1 p2 p3 p4 p5 p6 h0) room_1.cells room_1.slots (T.setTop (mkF m 69 #[iv p1, iv p2, iv p3, iv p4, iv p5, iv p6, iv uv, iv ua, iv ub, iv uc, .unset, .unset, .unset] [(.ref ta)])) := by
  obtain ⟨oCS, oCz⟩ := id hO
  have K1 := Keep.refl hs1 []
  show own_GoW p e below s _ _ _ _ (T.setTop (mkF m 69 #[iv p1, iv p2, iv p3, iv p4, iv p5, iv p6, iv uv, iv ua, iv ub, iv uc, .unset, .unset, .unset] [(.ref ta)]))
  refine own_goW (fun _ k => XS.astore X0.here hx rfl (hb hby at_69) rfl rfl (l' := #[iv p1, iv p2, iv p3, iv p4, iv p5, iv p6, iv uv, iv ua, iv ub, iv uc, rv ta, .unset, .unset]) rfl (XS.iload X0.here hx rfl (hb hby at_71) rfl (XS.bipush X0.here hx rfl (hb hby at_73) (XS.iand X0.here hx rfl (hb hby at_75) rfl k)))) ?_
  show own_GoW p e below s _ _ _ _ (T.setTop (mkF m 76 #[iv p1, iv p2, iv p3, iv p4, iv p5, iv p6, iv uv, iv ua, iv ub, iv uc, rv ta, .unset, .unset] [(.int (p6 &&& (8 : Int32)))]))
  by_cases hc91 : (p6 &&& (8 : Int32)) = (0 : Int32)
  · refine own_goW (fun _ k => XS.ifYes X0.here hx rfl (pc0 := 76) (pc' := 111) rfl (hb hby at_76) rfl ((if0 _ _).trans (teq hc91).1) (by decide) (by decide) k) ?_
    show own_GoW p e below s _ _ _ _ (T.setTop (mkF m 111 #[iv p1, iv p2, iv p3, iv p4, iv p5, iv p6, iv uv, iv ua, iv ub, iv uc, rv ta, .unset, .unset] []))
    obtain ⟨T92, h92, X92, e92, E92, A92, D92, -, st92⟩ := newO X0 hx hZ hown (ow0 hw) (ow1 hw) (ow2 hw) e0 (g := (mkF m 111 #[iv p1, iv p2, iv p3, iv p4, iv p5, iv p6, iv uv, iv ua, iv ub, iv uc, rv ta, .unset, .unset] [])) rfl (hb hby at_111) (by show _ ≤ 56; omega) (by show _ ≤ 4352; omega)
    obtain ⟨b92, g92⟩ : ∃ z, z = hs1.size := ⟨_, rfl⟩
    rw [← g92] at A92 D92 st92
    refine own_goW st92 ?_
    clear st92 X0 e0
    have ge92 := Nat.le_of_eq g92.symm
    have big93 : Z.heap.size ≤ b92 := Nat.le_trans O0.1 ge92
    have sz94 : h0.size ≤ b92 := Nat.le_trans K0.1 ge92
    have sz95 : hs1.size ≤ b92 := Nat.le_trans K1.1 ge92
    replace O0 := own_oldExt O0 E92
    replace K0 := K0.ext E92
    replace K1 := K1.ext E92
    replace hS := own_since hS E92.1
    replace hJ := own_Jext hJ E92
    clear E92
    have f96 : Fld Z h92 b92 "com/example/ratification/ratification/model/Triple" "subject" "Ljava/lang/String;" .null := D92 (Or.inr (ow51 hw)) (ty := (.object "java/lang/String")) own_fd2
    have f97 : Fld Z h92 b92 "com/example/ratification/ratification/model/Triple" "object" "Ljava/lang/String;" .null := D92 (Or.inr (ow54 hw)) (ty := (.object "java/lang/String")) own_fd2
    have f98 : Fld Z h92 b92 "com/example/ratification/ratification/model/Triple" "right" "Ljava/lang/String;" .null := D92 (Or.inr (ow57 hw)) (ty := (.object "java/lang/String")) own_fd2
    refine own_goW (fun _ k => XS.dup X92.here hx rfl (hb hby at_114) rfl rfl (XS.iload X92.here hx rfl (hb hby at_115) rfl k)) ?_
    obtain ⟨v99, T99, L99, X99, hSn, hZn, hownn, hQ99, hJn, st99⟩ := own_callSW (y := own_y2) X92 hS hL hJ hx hZ hown (ow3 hw) (ow4 hw) (ow5 hw) (ow6 hw) (rm_mk l Z a0 hw hO [] ua h92 O0) 2 4 10 (by show _ ≤ 56; omega) (by show _ ≤ 4352; omega) e92 (g := (mkF m 117 #[iv p1, iv p2, iv p3, iv p4, iv p5, iv p6, iv uv, iv ua, iv ub, iv uc, rv ta, .unset, .unset] [(.int ua), (.ref b92), (.ref b92)])) rfl (by rw [hml]; rfl) [(.int ua)] [(.ref b92), (.ref b92)] (lenOf own_pd_4 rfl) rfl rfl (hb hby at_117)
    replace hS := hSn
    replace hZ := hZn
    replace hown := hownn
    replace hJ := hJn
    clear hSn hZn hownn hJn
    obtain ⟨w100, rfl, Nc105, Kc104, hb101, f102, f103⟩ := hQ99
    refine own_goW st99 ?_
    clear st99 X92 e92
    replace N0 := Fr.app N0 Nc105
    clear Nc105
    have ne106 : b92 ≠ w100 := Nat.ne_of_lt (Nat.lt_of_lt_of_le A92.lt hb101)
    have big107 : Z.heap.size ≤ w100 := Nat.le_trans O0.1 hb101
    have sz108 : h0.size ≤ w100 := Nat.le_trans K0.1 hb101
    have sz109 : hs1.size ≤ w100 := Nat.le_trans K1.1 hb101
    replace A92 := A92.keep Kc104
    replace f96 := f96.keep Kc104 nin0
    replace f97 := f97.keep Kc104 nin0
    replace f98 := f98.keep Kc104 nin0
    replace O0 := own_oldKeep O0 Kc104 all0
    replace K0 := K0.trans Kc104 all0
    replace K1 := K1.trans Kc104 all0
    clear Kc104
    show own_GoW p e below s _ _ _ _ (T99.setTop (mkF m 120 #[iv p1, iv p2, iv p3, iv p4, iv p5, iv p6, iv uv, iv ua, iv ub, iv uc, rv ta, .unset, .unset] [(.ref w100), (.ref b92), (.ref b92)]))
    refine own_goW (fun _ k => XS.iload X99.here hx rfl (hb hby at_120) rfl k) ?_
    obtain ⟨v110, T110, L110, X110, hSn, hZn, hownn, hQ110, hJn, st110⟩ := own_callSW (y := own_y2) X99 hS hL hJ hx hZ hown (ow3 hw) (ow4 hw) (ow5 hw) (ow6 hw) (rm_mk l Z a0 hw hO [] ub T99.heap O0) 3 4 10 (by show _ ≤ 56; omega) (by show _ ≤ 4352; omega) (rfl : T99.heap = T99.heap) (g := (mkF m 122 #[iv p1, iv p2, iv p3, iv p4, iv p5, iv p6, iv uv, iv ua, iv ub, iv uc, rv ta, .unset, .unset] [(.int ub), (.ref w100), (.ref b92), (.ref b92)])) rfl (by rw [hml]; rfl) [(.int ub)] [(.ref w100), (.ref b92), (.ref b92)] (lenOf own_pd_4 rfl) rfl rfl (hb hby at_122)
    replace hS := hSn
    replace hZ := hZn
    replace hown := hownn
    replace hJ := hJn
    clear hSn hZn hownn hJn
    obtain ⟨w111, rfl, Nc116, Kc115, hb112, f113, f114⟩ := hQ110
    refine own_goW st110 ?_
    clear st110 X99
    replace N0 := Fr.app N0 Nc116
    clear Nc116
    have ne117 : b92 ≠ w111 := Nat.ne_of_lt (Nat.lt_of_lt_of_le A92.lt hb112)
    have ne118 : w100 ≠ w111 := Nat.ne_of_lt (Nat.lt_of_lt_of_le f102.lt hb112)
    have big119 : Z.heap.size ≤ w111 := Nat.le_trans O0.1 hb112
    have sz120 : h0.size ≤ w111 := Nat.le_trans K0.1 hb112
    have sz121 : hs1.size ≤ w111 := Nat.le_trans K1.1 hb112
    replace f103 := (own_SlKeep f103 Kc115 all0)
    replace A92 := A92.keep Kc115
    replace f96 := f96.keep Kc115 nin0
    replace f97 := f97.keep Kc115 nin0
    replace f98 := f98.keep Kc115 nin0
    replace f102 := f102.keep Kc115
    replace O0 := own_oldKeep O0 Kc115 all0
    replace K0 := K0.trans Kc115 all0
    replace K1 := K1.trans Kc115 all0
    clear Kc115
    refine own_goW (fun _ k => XS.iload X110.here hx rfl (hb hby at_125) rfl k) ?_
    obtain ⟨v122, T122, L122, X122, hSn, hZn, hownn, hQ122, hJn, st122⟩ := own_callSW (y := own_y2) X110 hS hL hJ hx hZ hown (ow3 hw) (ow4 hw) (ow5 hw) (ow6 hw) (rm_mk l Z a0 hw hO [] uc T110.heap O0) 4 4 10 (by show _ ≤ 56; omega) (by show _ ≤ 4352; omega) (rfl : T110.heap = T110.heap) (g := (mkF m 127 #[iv p1, iv p2, iv p3, iv p4, iv p5, iv p6, iv uv, iv ua, iv ub, iv uc, rv ta, .unset, .unset] [(.int uc), (.ref w111), (.ref w100), (.ref b92), (.ref b92)])) rfl (by rw [hml]; rfl) [(.int uc)] [(.ref w111), (.ref w100), (.ref b92), (.ref b92)] (lenOf own_pd_4 rfl) rfl rfl (hb hby at_127)
    replace hS := hSn
    replace hZ := hZn
    replace hown := hownn
    replace hJ := hJn
    clear hSn hZn hownn hJn
    obtain ⟨w123, rfl, Nc128, Kc127, hb124, f125, f126⟩ := hQ122
    refine own_goW st122 ?_
    clear st122 X110
    replace N0 := Fr.app N0 Nc128
    clear Nc128
    have ne129 : b92 ≠ w123 := Nat.ne_of_lt (Nat.lt_of_lt_of_le A92.lt hb124)
    have ne130 : w100 ≠ w123 := Nat.ne_of_lt (Nat.lt_of_lt_of_le f102.lt hb124)
    have ne131 : w111 ≠ w123 := Nat.ne_of_lt (Nat.lt_of_lt_of_le f113.lt hb124)
    have big132 : Z.heap.size ≤ w123 := Nat.le_trans O0.1 hb124
    have sz133 : h0.size ≤ w123 := Nat.le_trans K0.1 hb124
    have sz134 : hs1.size ≤ w123 := Nat.le_trans K1.1 hb124
    replace f103 := (own_SlKeep f103 Kc127 all0)
    replace f114 := (own_SlKeep f114 Kc127 all0)
    replace A92 := A92.keep Kc127
    replace f96 := f96.keep Kc127 nin0
    replace f97 := f97.keep Kc127 nin0
    replace f98 := f98.keep Kc127 nin0
    replace f102 := f102.keep Kc127
    replace f113 := f113.keep Kc127
    replace O0 := own_oldKeep O0 Kc127 all0
    replace K0 := K0.trans Kc127 all0
    replace K1 := K1.trans Kc127 all0
    clear Kc127
    show own_GoW p e below s _ _ _ _ (T122.setTop (mkF m 130 #[iv p1, iv p2, iv p3, iv p4, iv p5, iv p6, iv uv, iv ua, iv ub, iv uc, rv ta, .unset, .unset] [(.ref w123), (.ref w111), (.ref w100), (.ref b92), (.ref b92)]))
    obtain ⟨v135, T135, L135, X135, hSn, hZn, hownn, hQ135, hJn, st135⟩ := own_callIW (y := own_y5) X122 hS hL hJ hx hZ hown (ow40 hw) (ow41 hw) (ow2 hw) (ow42 hw) (rm_tinit l Z a0 hw hO [] b92 w100 w111 w123 T122.heap O0 A92 f96 f97 f98 f102 f113 f125 big93) 1 6 84 rfl (by show _ ≤ 56; omega) (by show _ ≤ 4352; omega) (rfl : T122.heap = T122.heap) (g := (mkF m 130 #[iv p1, iv p2, iv p3, iv p4, iv p5, iv p6, iv uv, iv ua, iv ub, iv uc, rv ta, .unset, .unset] [(.ref w123), (.ref w111), (.ref w100), (.ref b92), (.ref b92)])) rfl (by rw [hml]; rfl) b92 [(.ref w100), (.ref w111), (.ref w123)] [(.ref b92)] (lenOf own_pd_5 rfl) rfl rfl (hb hby at_130)
    replace hS := hSn
    replace hZ := hZn
    replace hown := hownn
    replace hJ := hJn
    clear hSn hZn hownn hJn
    obtain ⟨rfl, Nc141, Kc140, f136, f137, f138, f139⟩ := hQ135
    refine own_goW st135 ?_
    clear st135 X122
    replace N0 := Fr.app N0 Nc141
    clear Nc141
    replace f103 := (own_SlKeep f103 Kc140 (allS (own_afE A92 (by decide) (ow1 hw)) all0))
    replace f114 := (own_SlKeep f114 Kc140 (allS (own_afE A92 (by decide) (ow1 hw)) all0))
    replace f126 := (own_SlKeep f126 Kc140 (allS (own_afE A92 (by decide) (ow1 hw)) all0))
    replace A92 := A92.keep Kc140
    clear f96
    clear f97
    clear f98
    replace f102 := f102.keep Kc140
    replace f113 := f113.keep Kc140
    replace f125 := f125.keep Kc140
    replace O0 := own_oldKeep O0 Kc140 (allS big93 all0)
    replace K0 := K0.trans Kc140 (allS (Or.inr sz94) all0)
    replace K1 := K1.trans Kc140 (allS (Or.inr sz95) all0)
    clear Kc140
    refine own_goW (fun _ k => XS.astore X135.here hx rfl (hb hby at_133) rfl rfl (l' := #[iv p1, iv p2, iv p3, iv p4, iv p5, iv p6, iv uv, iv ua, iv ub, iv uc, rv ta, rv b92, .unset]) rfl (XS.iloadN X135.here hx rfl (hb hby at_135) rfl (XS.iload X135.here hx rfl (hb hby at_136) rfl k))) ?_
    show own_GoW p e below s _ _ _ _ (T135.setTop (mkF m 138 #[iv p1, iv p2, iv p3, iv p4, iv p5, iv p6, iv uv, iv ua, iv ub, iv uc, rv ta, rv b92, .unset] [(.int ua), (.int p1)]))
    obtain ⟨v142, T142, L142, X142, hQ142, st142⟩ := own_callS (y := own_y3) X135 hx hZ hown (ow58 hw) (ow59 hw) (ow5 hw) (ow60 hw) (rm_same l Z a0 hw hO [] p1 ua T135.heap O0) 0 0 0 (by show _ ≤ 56; omega) (by show _ ≤ 4352; omega) (rfl : T135.heap = T135.heap) (g := (mkF m 138 #[iv p1, iv p2, iv p3, iv p4, iv p5, iv p6, iv uv, iv ua, iv ub, iv uc, rv ta, rv b92, .unset] [(.int ua), (.int p1)])) rfl (by rw [hml]; rfl) [(.int p1), (.int ua)] [] (lenOf own_pd_6 rfl) rfl rfl (hb hby at_138)
    rcases hQ142 with hQ142 | hQ142
    · obtain ⟨rfl, Nc145, hp143, Kc144⟩ := hQ142
      refine own_goW st142 ?_
      clear st142 X135
      replace N0 := Fr.app N0 Nc145
      clear Nc145
      show own_GoW p e below s _ _ _ _ (T142.setTop (mkF m 141 #[iv p1, iv p2, iv p3, iv p4, iv p5, iv p6, iv uv, iv ua, iv ub, iv uc, rv ta, rv b92, .unset] [(.int (1 : Int32))]))
      refine own_goW (fun _ k => XS.ifNo X142.here hx rfl (hb hby at_141) rfl ((if0 _ _).trans (feq (by decide : ¬ ((1 : Int32) = (0 : Int32)))).1) (XS.iloadN X142.here hx rfl (hb hby at_144) rfl (XS.iload X142.here hx rfl (hb hby at_145) rfl k))) ?_
      obtain ⟨v146, T146, L146, X146, hQ146, st146⟩ := own_callS (y := own_y3) X142 hx hZ hown (ow58 hw) (ow59 hw) (ow5 hw) (ow60 hw) (rm_same l Z a0 hw hO [] p2 ub T135.heap O0) 0 0 0 (by show _ ≤ 56; omega) (by show _ ≤ 4352; omega) Kc144 (g := (mkF m 147 #[iv p1, iv p2, iv p3, iv p4, iv p5, iv p6, iv uv, iv ua, iv ub, iv uc, rv ta, rv b92, .unset] [(.int ub), (.int p2)])) rfl (by rw [hml]; rfl) [(.int p2), (.int ub)] [] (lenOf own_pd_6 rfl) rfl rfl (hb hby at_147)
      rcases hQ146 with hQ146 | hQ146
      · obtain ⟨rfl, Nc149, hp147, Kc148⟩ := hQ146
        refine own_goW st146 ?_
        clear st146 X142 Kc144
        replace N0 := Fr.app N0 Nc149
        clear Nc149
        show own_GoW p e below s _ _ _ _ (T146.setTop (mkF m 150 #[iv p1, iv p2, iv p3, iv p4, iv p5, iv p6, iv uv, iv ua, iv ub, iv uc, rv ta, rv b92, .unset] [(.int (1 : Int32))]))
        refine own_goW (fun _ k => XS.ifNo X146.here hx rfl (hb hby at_150) rfl ((if0 _ _).trans (feq (by decide : ¬ ((1 : Int32) = (0 : Int32)))).1) (XS.iloadN X146.here hx rfl (hb hby at_153) rfl (XS.iload X146.here hx rfl (hb hby at_154) rfl k))) ?_
        obtain ⟨v150, T150, L150, X150, hQ150, st150⟩ := own_callS (y := own_y3) X146 hx hZ hown (ow58 hw) (ow59 hw) (ow5 hw) (ow60 hw) (rm_same l Z a0 hw hO [] p3 uc T135.heap O0) 0 0 0 (by show _ ≤ 56; omega) (by show _ ≤ 4352; omega) Kc148 (g := (mkF m 156 #[iv p1, iv p2, iv p3, iv p4, iv p5, iv p6, iv uv, iv ua, iv ub, iv uc, rv ta, rv b92, .unset] [(.int uc), (.int p3)])) rfl (by rw [hml]; rfl) [(.int p3), (.int uc)] [] (lenOf own_pd_6 rfl) rfl rfl (hb hby at_156)
        rcases hQ150 with hQ150 | hQ150
        · obtain ⟨rfl, Nc153, hp151, Kc152⟩ := hQ150
          refine own_goW st150 ?_
          clear st150 X146 Kc148
          replace N0 := Fr.app N0 Nc153
          clear Nc153
          show own_GoW p e below s _ _ _ _ (T150.setTop (mkF m 159 #[iv p1, iv p2, iv p3, iv p4, iv p5, iv p6, iv uv, iv ua, iv ub, iv uc, rv ta, rv b92, .unset] [(.int (1 : Int32))]))
          refine own_goW (fun _ k => XS.ifNo X150.here hx rfl (hb hby at_159) rfl ((if0 _ _).trans (feq (by decide : ¬ ((1 : Int32) = (0 : Int32)))).1) (XS.iconst X150.here hx rfl (hb hby at_162) (XS.goto X150.here hx rfl (pc0 := 163) (pc' := 167) rfl (hb hby at_163) (by decide) (by decide) k))) ?_
          show own_GoW p e below s _ _ _ _ (T150.setTop (mkF m 167 #[iv p1, iv p2, iv p3, iv p4, iv p5, iv p6, iv uv, iv ua, iv ub, iv uc, rv ta, rv b92, .unset] [(.int (1 : Int32))]))
          exact sg_s167 hw hO p1 p2 p3 p4 p5 p6 uv ua ub uc ta b92 swa swb swc w100 w111 w123 (1 : Int32) h0 T135.heap X150 hS hL hJ hx hby hml hret hlk hZ hown hnm Kc152 N0 O0 K0 (fp0.keep K1) (fp1.keep K1 nin0) (fp2.keep K1 nin0) (fp3.keep K1 nin0) f136 f137 f138 f139 (fp4.keep K1) (fp5.keep K1) (fp6.keep K1) (own_SlKeep fp7 K1 all0) (own_SlKeep fp8 K1 all0) (own_SlKeep fp9 K1 all0) f102 f113 f125 f103 f114 f126 (Or.inl ⟨rfl, hp143, hp147, hp151⟩) (by omega) (by omega)
        · obtain ⟨rfl, Nc156, hp154, Kc155⟩ := hQ150
          refine own_goW st150 ?_
          clear st150 X146 Kc148
          replace N0 := Fr.app N0 Nc156
          clear Nc156
          show own_GoW p e below s _ _ _ _ (T150.setTop (mkF m 159 #[iv p1, iv p2, iv p3, iv p4, iv p5, iv p6, iv uv, iv ua, iv ub, iv uc, rv ta, rv b92, .unset] [(.int (0 : Int32))]))
          refine own_goW (fun _ k => XS.ifYes X150.here hx rfl (pc0 := 159) (pc' := 166) rfl (hb hby at_159) rfl ((if0 _ _).trans (teq (by decide : (0 : Int32) = (0 : Int32))).1) (by decide) (by decide) (XS.iconst X150.here hx rfl (hb hby at_166) k)) ?_
          show own_GoW p e below s _ _ _ _ (T150.setTop (mkF m 167 #[iv p1, iv p2, iv p3, iv p4, iv p5, iv p6, iv uv, iv ua, iv ub, iv uc, rv ta, rv b92, .unset] [(.int (0 : Int32))]))
          exact sg_s167 hw hO p1 p2 p3 p4 p5 p6 uv ua ub uc ta b92 swa swb swc w100 w111 w123 (0 : Int32) h0 T135.heap X150 hS hL hJ hx hby hml hret hlk hZ hown hnm Kc155 N0 O0 K0 (fp0.keep K1) (fp1.keep K1 nin0) (fp2.keep K1 nin0) (fp3.keep K1 nin0) f136 f137 f138 f139 (fp4.keep K1) (fp5.keep K1) (fp6.keep K1) (own_SlKeep fp7 K1 all0) (own_SlKeep fp8 K1 all0) (own_SlKeep fp9 K1 all0) f102 f113 f125 f103 f114 f126 (Or.inr ⟨rfl, fun h => hp154 h.2.2⟩) (by omega) (by omega)
      · obtain ⟨rfl, Nc159, hp157, Kc158⟩ := hQ146
        refine own_goW st146 ?_
        clear st146 X142 Kc144
        replace N0 := Fr.app N0 Nc159
        clear Nc159
        show own_GoW p e below s _ _ _ _ (T146.setTop (mkF m 150 #[iv p1, iv p2, iv p3, iv p4, iv p5, iv p6, iv uv, iv ua, iv ub, iv uc, rv ta, rv b92, .unset] [(.int (0 : Int32))]))
        refine own_goW (fun _ k => XS.ifYes X146.here hx rfl (pc0 := 150) (pc' := 166) rfl (hb hby at_150) rfl ((if0 _ _).trans (teq (by decide : (0 : Int32) = (0 : Int32))).1) (by decide) (by decide) (XS.iconst X146.here hx rfl (hb hby at_166) k)) ?_
        show own_GoW p e below s _ _ _ _ (T146.setTop (mkF m 167 #[iv p1, iv p2, iv p3, iv p4, iv p5, iv p6, iv uv, iv ua, iv ub, iv uc, rv ta, rv b92, .unset] [(.int (0 : Int32))]))
        exact sg_s167 hw hO p1 p2 p3 p4 p5 p6 uv ua ub uc ta b92 swa swb swc w100 w111 w123 (0 : Int32) h0 T135.heap X146 hS hL hJ hx hby hml hret hlk hZ hown hnm Kc158 N0 O0 K0 (fp0.keep K1) (fp1.keep K1 nin0) (fp2.keep K1 nin0) (fp3.keep K1 nin0) f136 f137 f138 f139 (fp4.keep K1) (fp5.keep K1) (fp6.keep K1) (own_SlKeep fp7 K1 all0) (own_SlKeep fp8 K1 all0) (own_SlKeep fp9 K1 all0) f102 f113 f125 f103 f114 f126 (Or.inr ⟨rfl, fun h => hp157 h.2.1⟩) (by omega) (by omega)
    · obtain ⟨rfl, Nc162, hp160, Kc161⟩ := hQ142
      refine own_goW st142 ?_
      clear st142 X135
      replace N0 := Fr.app N0 Nc162
      clear Nc162
      show own_GoW p e below s _ _ _ _ (T142.setTop (mkF m 141 #[iv p1, iv p2, iv p3, iv p4, iv p5, iv p6, iv uv, iv ua, iv ub, iv uc, rv ta, rv b92, .unset] [(.int (0 : Int32))]))
      refine own_goW (fun _ k => XS.ifYes X142.here hx rfl (pc0 := 141) (pc' := 166) rfl (hb hby at_141) rfl ((if0 _ _).trans (teq (by decide : (0 : Int32) = (0 : Int32))).1) (by decide) (by decide) (XS.iconst X142.here hx rfl (hb hby at_166) k)) ?_
      show own_GoW p e below s _ _ _ _ (T142.setTop (mkF m 167 #[iv p1, iv p2, iv p3, iv p4, iv p5, iv p6, iv uv, iv ua, iv ub, iv uc, rv ta, rv b92, .unset] [(.int (0 : Int32))]))
      exact sg_s167 hw hO p1 p2 p3 p4 p5 p6 uv ua ub uc ta b92 swa swb swc w100 w111 w123 (0 : Int32) h0 T135.heap X142 hS hL hJ hx hby hml hret hlk hZ hown hnm Kc161 N0 O0 K0 (fp0.keep K1) (fp1.keep K1 nin0) (fp2.keep K1 nin0) (fp3.keep K1 nin0) f136 f137 f138 f139 (fp4.keep K1) (fp5.keep K1) (fp6.keep K1) (own_SlKeep fp7 K1 all0) (own_SlKeep fp8 K1 all0) (own_SlKeep fp9 K1 all0) f102 f113 f125 f103 f114 f126 (Or.inr ⟨rfl, fun h => hp160 h.1⟩) (by omega) (by omega)
  · refine own_goW (fun _ k => XS.ifNo X0.here hx rfl (hb hby at_76) rfl ((if0 _ _).trans (feq hc91).1) k) ?_
    show own_GoW p e below s _ _ _ _ (T.setTop (mkF m 79 #[iv p1, iv p2, iv p3, iv p4, iv p5, iv p6, iv uv, iv ua, iv ub, iv uc, rv ta, .unset, .unset] []))
    refine own_goW (fun _ k => XS.iloadN X0.here hx rfl (hb hby at_79) rfl (XS.iconst X0.here hx rfl (hb hby at_80) (XS.iand X0.here hx rfl (hb hby at_81) rfl k))) ?_
    by_cases hc163 : (p4 &&& (1 : Int32)) = (0 : Int32)
    · refine own_goW (fun _ k => XS.ifNo X0.here hx rfl (hb hby at_82) rfl ((if0 _ _).trans (teq hc163).2) k) ?_
      show own_GoW p e below s _ _ _ _ (T.setTop (mkF m 85 #[iv p1, iv p2, iv p3, iv p4, iv p5, iv p6, iv uv, iv ua, iv ub, iv uc, rv ta, .unset, .unset] []))
      refine own_goW (fun _ k => XS.aconstNull X0.here hx rfl (hb hby at_85) (XS.goto X0.here hx rfl (pc0 := 86) (pc' := 93) rfl (hb hby at_86) (by decide) (by decide) (XS.astore X0.here hx rfl (hb hby at_93) rfl rfl (l' := #[iv p1, iv p2, iv p3, iv p4, iv p5, iv p6, iv uv, iv ua, iv ub, iv uc, rv ta, .val .null, .unset]) rfl (XS.aload X0.here hx rfl (hb hby at_95) rfl rfl k)))) ?_
      show own_GoW p e below s _ _ _ _ (T.setTop (mkF m 97 #[iv p1, iv p2, iv p3, iv p4, iv p5, iv p6, iv uv, iv ua, iv ub, iv uc, rv ta, .val .null, .unset] [(.ref ta)]))
      refine own_goW (fun _ k => XS.aload X0.here hx rfl (hb hby at_97) rfl rfl k) ?_
      obtain ⟨v164, T164, L164, X164, hQ164, st164⟩ := own_callV (y := own_y7) (z := own_y7) X0 hx hZ hown (ow61 hw) (ow62 hw) (notFace_of_selects (args := #[]) (mvT hZ (ow64 hw))) (ow64 hw) (ow63 hw) (ow2 hw) (ow65 hw) (rm_eqN l Z a0 hw hO [] ta hs1 O0) 0 0 0 (by show _ ≤ 56; omega) (by show _ ≤ 4352; omega) e0 (fp0.keep K1) (g := (mkF m 99 #[iv p1, iv p2, iv p3, iv p4, iv p5, iv p6, iv uv, iv ua, iv ub, iv uc, rv ta, .val .null, .unset] [.null, (.ref ta)])) rfl (by rw [hml]; rfl) [.null] [] (lenOf own_pd_3 rfl) rfl rfl (hb hby at_99)
      obtain ⟨rfl, Nc166, Kc165⟩ := hQ164
      refine own_goW st164 ?_
      clear st164 X0 e0
      replace N0 := Fr.app N0 Nc166
      clear Nc166
      refine own_goW (fun _ k => XS.ifNo X164.here hx rfl (hb hby at_102) rfl ((if0 _ _).trans (teq (by decide : (0 : Int32) = (0 : Int32))).2) (XS.iconst X164.here hx rfl (hb hby at_105) k)) ?_
      show own_GoW p e below s _ _ _ _ (T164.setTop (mkF m 106 #[iv p1, iv p2, iv p3, iv p4, iv p5, iv p6, iv uv, iv ua, iv ub, iv uc, rv ta, .val .null, .unset] [(.int (1 : Int32))]))
      refine own_goW (fun _ k => XS.goto X164.here hx rfl (pc0 := 106) (pc' := 110) rfl (hb hby at_106) (by decide) (by decide) k) ?_
      show own_GoW p e below s _ _ _ _ (T164.setTop (mkF m 110 #[iv p1, iv p2, iv p3, iv p4, iv p5, iv p6, iv uv, iv ua, iv ub, iv uc, rv ta, .val .null, .unset] [(.int (1 : Int32))]))
      refine own_retNW X164 hS hL hZ hJ hx hlk Kc165 (t := .boolean) hret (by simp) (hb hby at_110) (by show _ ≤ 56; omega) (by show _ ≤ 4352; omega) ?_
      exact ⟨rfl, N0, K0⟩
    · refine own_goW (fun _ k => XS.ifYes X0.here hx rfl (pc0 := 82) (pc' := 89) rfl (hb hby at_82) rfl ((if0 _ _).trans (feq hc163).2) (by decide) (by decide) k) ?_
      show own_GoW p e below s _ _ _ _ (T.setTop (mkF m 89 #[iv p1, iv p2, iv p3, iv p4, iv p5, iv p6, iv uv, iv ua, iv ub, iv uc, rv ta, .unset, .unset] []))
      refine own_goW (fun _ k => XS.iloadN X0.here hx rfl (hb hby at_89) rfl k) ?_
      obtain ⟨v167, T167, L167, X167, hSn, hZn, hownn, hQ167, hJn, st167⟩ := own_callSW (y := own_y2) X0 hS hL hJ hx hZ hown (ow3 hw) (ow4 hw) (ow5 hw) (ow6 hw) (rm_mk l Z a0 hw hO [] p1 hs1 O0) 0 4 10 (by show _ ≤ 56; omega) (by show _ ≤ 4352; omega) e0 (g := (mkF m 90 #[iv p1, iv p2, iv p3, iv p4, iv p5, iv p6, iv uv, iv ua, iv ub, iv uc, rv ta, .unset, .unset] [(.int p1)])) rfl (by rw [hml]; rfl) [(.int p1)] [] (lenOf own_pd_4 rfl) rfl rfl (hb hby at_90)
      replace hS := hSn
      replace hZ := hZn
      replace hown := hownn
      replace hJ := hJn
      clear hSn hZn hownn hJn
      obtain ⟨w168, rfl, Nc173, Kc172, hb169, f170, f171⟩ := hQ167
      refine own_goW st167 ?_
      clear st167 X0 e0
      replace N0 := Fr.app N0 Nc173
      clear Nc173
      have big174 : Z.heap.size ≤ w168 := Nat.le_trans O0.1 hb169
      have sz175 : h0.size ≤ w168 := Nat.le_trans K0.1 hb169
      have sz176 : hs1.size ≤ w168 := Nat.le_trans K1.1 hb169
      replace O0 := own_oldKeep O0 Kc172 all0
      replace K0 := K0.trans Kc172 all0
      replace K1 := K1.trans Kc172 all0
      clear Kc172
      refine own_goW (fun _ k => XS.astore X167.here hx rfl (hb hby at_93) rfl rfl (l' := #[iv p1, iv p2, iv p3, iv p4, iv p5, iv p6, iv uv, iv ua, iv ub, iv uc, rv ta, rv w168, .unset]) rfl (XS.aload X167.here hx rfl (hb hby at_95) rfl rfl k)) ?_
      show own_GoW p e below s _ _ _ _ (T167.setTop (mkF m 97 #[iv p1, iv p2, iv p3, iv p4, iv p5, iv p6, iv uv, iv ua, iv ub, iv uc, rv ta, rv w168, .unset] [(.ref ta)]))
      refine own_goW (fun _ k => XS.aload X167.here hx rfl (hb hby at_97) rfl rfl k) ?_
      obtain ⟨v177, T177, L177, X177, hQ177, st177⟩ := own_callV (y := own_y7) (z := own_y7) X167 hx hZ hown (ow61 hw) (ow62 hw) (notFace_of_selects (args := #[]) (mvT hZ (ow64 hw))) (ow64 hw) (ow63 hw) (ow2 hw) (ow65 hw) (rm_eqS l Z a0 hw hO [] ta w168 T167.heap O0 f170) 0 0 0 (by show _ ≤ 56; omega) (by show _ ≤ 4352; omega) (rfl : T167.heap = T167.heap) (fp0.keep K1) (g := (mkF m 99 #[iv p1, iv p2, iv p3, iv p4, iv p5, iv p6, iv uv, iv ua, iv ub, iv uc, rv ta, rv w168, .unset] [(.ref w168), (.ref ta)])) rfl (by rw [hml]; rfl) [(.ref w168)] [] (lenOf own_pd_3 rfl) rfl rfl (hb hby at_99)
      obtain ⟨rfl, Nc179, Kc178⟩ := hQ177
      refine own_goW st177 ?_
      clear st177 X167
      replace N0 := Fr.app N0 Nc179
      clear Nc179
      refine own_goW (fun _ k => XS.ifNo X177.here hx rfl (hb hby at_102) rfl ((if0 _ _).trans (teq (by decide : (0 : Int32) = (0 : Int32))).2) (XS.iconst X177.here hx rfl (hb hby at_105) k)) ?_
      show own_GoW p e below s _ _ _ _ (T177.setTop (mkF m 106 #[iv p1, iv p2, iv p3, iv p4, iv p5, iv p6, iv uv, iv ua, iv ub, iv uc, rv ta, rv w168, .unset] [(.int (1 : Int32))]))
      refine own_goW (fun _ k => XS.goto X177.here hx rfl (pc0 := 106) (pc' := 110) rfl (hb hby at_106) (by decide) (by decide) k) ?_
      show own_GoW p e below s _ _ _ _ (T177.setTop (mkF m 110 #[iv p1, iv p2, iv p3, iv p4, iv p5, iv p6, iv uv, iv ua, iv ub, iv uc, rv ta, rv w168, .unset] [(.int (1 : Int32))]))
      refine own_retNW X177 hS hL hZ hJ hx hlk Kc178 (t := .boolean) hret (by simp) (hb hby at_110) (by show _ ≤ 56; omega) (by show _ ≤ 4352; omega) ?_
      exact ⟨rfl, N0, K0⟩
set_option maxRecDepth 65536 in
set_option maxHeartbeats 40000000 in
theorem sg_s48 {l : Launch} {Z : State} {a0 : Array Value} (hw : own_W Z a0) {zc : Int32} (hO : own_Olds Z zc) {p : Program} {e : Env} {s : State} {vm0 : Vm} {m : MethodId} {args : Array Value} {below : List Frame} {meth : Method} {c : Code} {T : State} {locs : List Loc} {cells slots : Nat} (p1 : Int32) (p2 : Int32) (p3 : Int32) (p4 : Int32) (p5 : Int32) (p6 : Int32) (uv : Int32) (ua : Int32) (ub : Int32) (uc : Int32) (h0 hs1 : Heap)
    (X0 : Stand p l e room_1 (s.setVm vm0) m args below meth c T locs cells slots) (hS : s.Since vm0 hs1.size) (hL : own_L Z a0) (hJ : own_J Z vm0 hs1) (hx : p.tables.exec = Jvm.exec) (hby : c.code = code) (hml : c.maxLocals = 13) (hret : meth.sig.returnType = some .boolean) (hlk : meth.locks = false) (hZ : Z.Warmed39 (s.setVm vm0).vm) (hown : (s.setVm vm0).vm.findClass "com/example/ratification/ratification/model/TripleEqualsPinLaw" = some m.cls) (hnm : meth.name = "law") (e0 : T.heap = hs1) (N0 : Fr Z.heap.size locs) (O0 : Ext Z.heap hs1) (K0 : Keep h0 hs1 []) (hcells : cells ≤ 0) (hslots : slots ≤ 0) :
    own_GoW p e below s Z (Q_law Z zc p1 p2 p3 p4 p5 p6 h0) room_1.cells room_1.slots (T.setTop (mkF m 48 #[iv p1, iv p2, iv p3, iv p4, iv p5, iv p6, iv uv, iv ua, iv ub, .unset, .unset, .unset, .unset] [(.int uc)])) := by
  obtain ⟨oCS, oCz⟩ := id hO
  have K1 := Keep.refl hs1 []
  show own_GoW p e below s _ _ _ _ (T.setTop (mkF m 48 #[iv p1, iv p2, iv p3, iv p4, iv p5, iv p6, iv uv, iv ua, iv ub, .unset, .unset, .unset, .unset] [(.int uc)]))
  refine own_goW (fun _ k => XS.istore X0.here hx rfl (hb hby at_48) rfl (l' := #[iv p1, iv p2, iv p3, iv p4, iv p5, iv p6, iv uv, iv ua, iv ub, iv uc, .unset, .unset, .unset]) rfl k) ?_
  obtain ⟨T180, h180, X180, e180, E180, A180, D180, -, st180⟩ := newO X0 hx hZ hown (ow0 hw) (ow1 hw) (ow2 hw) e0 (g := (mkF m 50 #[iv p1, iv p2, iv p3, iv p4, iv p5, iv p6, iv uv, iv ua, iv ub, iv uc, .unset, .unset, .unset] [])) rfl (hb hby at_50) (by show _ ≤ 56; omega) (by show _ ≤ 4352; omega)
  obtain ⟨b180, g180⟩ : ∃ z, z = hs1.size := ⟨_, rfl⟩
  rw [← g180] at A180 D180 st180
  refine own_goW st180 ?_
  clear st180 X0 e0
  have ge180 := Nat.le_of_eq g180.symm
  have big181 : Z.heap.size ≤ b180 := Nat.le_trans O0.1 ge180
  have sz182 : h0.size ≤ b180 := Nat.le_trans K0.1 ge180
  have sz183 : hs1.size ≤ b180 := Nat.le_trans K1.1 ge180
  replace O0 := own_oldExt O0 E180
  replace K0 := K0.ext E180
  replace K1 := K1.ext E180
  replace hS := own_since hS E180.1
  replace hJ := own_Jext hJ E180
  clear E180
  have f184 : Fld Z h180 b180 "com/example/ratification/ratification/model/Triple" "subject" "Ljava/lang/String;" .null := D180 (Or.inr (ow51 hw)) (ty := (.object "java/lang/String")) own_fd2
  have f185 : Fld Z h180 b180 "com/example/ratification/ratification/model/Triple" "object" "Ljava/lang/String;" .null := D180 (Or.inr (ow54 hw)) (ty := (.object "java/lang/String")) own_fd2
  have f186 : Fld Z h180 b180 "com/example/ratification/ratification/model/Triple" "right" "Ljava/lang/String;" .null := D180 (Or.inr (ow57 hw)) (ty := (.object "java/lang/String")) own_fd2
  refine own_goW (fun _ k => XS.dup X180.here hx rfl (hb hby at_53) rfl rfl (XS.iloadN X180.here hx rfl (hb hby at_54) rfl k)) ?_
  show own_GoW p e below s _ _ _ _ (T180.setTop (mkF m 55 #[iv p1, iv p2, iv p3, iv p4, iv p5, iv p6, iv uv, iv ua, iv ub, iv uc, .unset, .unset, .unset] [(.int p1), (.ref b180), (.ref b180)]))
  obtain ⟨v187, T187, L187, X187, hSn, hZn, hownn, hQ187, hJn, st187⟩ := own_callSW (y := own_y2) X180 hS hL hJ hx hZ hown (ow3 hw) (ow4 hw) (ow5 hw) (ow6 hw) (rm_mk l Z a0 hw hO [] p1 h180 O0) 2 4 10 (by show _ ≤ 56; omega) (by show _ ≤ 4352; omega) e180 (g := (mkF m 55 #[iv p1, iv p2, iv p3, iv p4, iv p5, iv p6, iv uv, iv ua, iv ub, iv uc, .unset, .unset, .unset] [(.int p1), (.ref b180), (.ref b180)])) rfl (by rw [hml]; rfl) [(.int p1)] [(.ref b180), (.ref b180)] (lenOf own_pd_4 rfl) rfl rfl (hb hby at_55)
  replace hS := hSn
  replace hZ := hZn
  replace hown := hownn
  replace hJ := hJn
  clear hSn hZn hownn hJn
  obtain ⟨w188, rfl, Nc193, Kc192, hb189, f190, f191⟩ := hQ187
  refine own_goW st187 ?_
  clear st187 X180 e180
  replace N0 := Fr.app N0 Nc193
  clear Nc193
  have ne194 : b180 ≠ w188 := Nat.ne_of_lt (Nat.lt_of_lt_of_le A180.lt hb189)
  have big195 : Z.heap.size ≤ w188 := Nat.le_trans O0.1 hb189
  have sz196 : h0.size ≤ w188 := Nat.le_trans K0.1 hb189
  have sz197 : hs1.size ≤ w188 := Nat.le_trans K1.1 hb189
  replace A180 := A180.keep Kc192
  replace f184 := f184.keep Kc192 nin0
  replace f185 := f185.keep Kc192 nin0
  replace f186 := f186.keep Kc192 nin0
  replace O0 := own_oldKeep O0 Kc192 all0
  replace K0 := K0.trans Kc192 all0
  replace K1 := K1.trans Kc192 all0
  clear Kc192
  refine own_goW (fun _ k => XS.iloadN X187.here hx rfl (hb hby at_58) rfl k) ?_
  obtain ⟨v198, T198, L198, X198, hSn, hZn, hownn, hQ198, hJn, st198⟩ := own_callSW (y := own_y2) X187 hS hL hJ hx hZ hown (ow3 hw) (ow4 hw) (ow5 hw) (ow6 hw) (rm_mk l Z a0 hw hO [] p2 T187.heap O0) 3 4 10 (by show _ ≤ 56; omega) (by show _ ≤ 4352; omega) (rfl : T187.heap = T187.heap) (g := (mkF m 59 #[iv p1, iv p2, iv p3, iv p4, iv p5, iv p6, iv uv, iv ua, iv ub, iv uc, .unset, .unset, .unset] [(.int p2), (.ref w188), (.ref b180), (.ref b180)])) rfl (by rw [hml]; rfl) [(.int p2)] [(.ref w188), (.ref b180), (.ref b180)] (lenOf own_pd_4 rfl) rfl rfl (hb hby at_59)
  replace hS := hSn
  replace hZ := hZn
  replace hown := hownn
  replace hJ := hJn
  clear hSn hZn hownn hJn
  obtain ⟨w199, rfl, Nc204, Kc203, hb200, f201, f202⟩ := hQ198
  refine own_goW st198 ?_
  clear st198 X187
  replace N0 := Fr.app N0 Nc204
  clear Nc204
  have ne205 : b180 ≠ w199 := Nat.ne_of_lt (Nat.lt_of_lt_of_le A180.lt hb200)
  have ne206 : w188 ≠ w199 := Nat.ne_of_lt (Nat.lt_of_lt_of_le f190.lt hb200)
  have big207 : Z.heap.size ≤ w199 := Nat.le_trans O0.1 hb200
  have sz208 : h0.size ≤ w199 := Nat.le_trans K0.1 hb200
  have sz209 : hs1.size ≤ w199 := Nat.le_trans K1.1 hb200
  replace f191 := (own_SlKeep f191 Kc203 all0)
  replace A180 := A180.keep Kc203
  replace f184 := f184.keep Kc203 nin0
  replace f185 := f185.keep Kc203 nin0
  replace f186 := f186.keep Kc203 nin0
  replace f190 := f190.keep Kc203
  replace O0 := own_oldKeep O0 Kc203 all0
  replace K0 := K0.trans Kc203 all0
  replace K1 := K1.trans Kc203 all0
  clear Kc203
  refine own_goW (fun _ k => XS.iloadN X198.here hx rfl (hb hby at_62) rfl k) ?_
  show own_GoW p e below s _ _ _ _ (T198.setTop (mkF m 63 #[iv p1, iv p2, iv p3, iv p4, iv p5, iv p6, iv uv, iv ua, iv ub, iv uc, .unset, .unset, .unset] [(.int p3), (.ref w199), (.ref w188), (.ref b180), (.ref b180)]))
  obtain ⟨v210, T210, L210, X210, hSn, hZn, hownn, hQ210, hJn, st210⟩ := own_callSW (y := own_y2) X198 hS hL hJ hx hZ hown (ow3 hw) (ow4 hw) (ow5 hw) (ow6 hw) (rm_mk l Z a0 hw hO [] p3 T198.heap O0) 4 4 10 (by show _ ≤ 56; omega) (by show _ ≤ 4352; omega) (rfl : T198.heap = T198.heap) (g := (mkF m 63 #[iv p1, iv p2, iv p3, iv p4, iv p5, iv p6, iv uv, iv ua, iv ub, iv uc, .unset, .unset, .unset] [(.int p3), (.ref w199), (.ref w188), (.ref b180), (.ref b180)])) rfl (by rw [hml]; rfl) [(.int p3)] [(.ref w199), (.ref w188), (.ref b180), (.ref b180)] (lenOf own_pd_4 rfl) rfl rfl (hb hby at_63)
  replace hS := hSn
  replace hZ := hZn
  replace hown := hownn
  replace hJ := hJn
  clear hSn hZn hownn hJn
  obtain ⟨w211, rfl, Nc216, Kc215, hb212, f213, f214⟩ := hQ210
  refine own_goW st210 ?_
  clear st210 X198
  replace N0 := Fr.app N0 Nc216
  clear Nc216
  have ne217 : b180 ≠ w211 := Nat.ne_of_lt (Nat.lt_of_lt_of_le A180.lt hb212)
  have ne218 : w188 ≠ w211 := Nat.ne_of_lt (Nat.lt_of_lt_of_le f190.lt hb212)
  have ne219 : w199 ≠ w211 := Nat.ne_of_lt (Nat.lt_of_lt_of_le f201.lt hb212)
  have big220 : Z.heap.size ≤ w211 := Nat.le_trans O0.1 hb212
  have sz221 : h0.size ≤ w211 := Nat.le_trans K0.1 hb212
  have sz222 : hs1.size ≤ w211 := Nat.le_trans K1.1 hb212
  replace f191 := (own_SlKeep f191 Kc215 all0)
  replace f202 := (own_SlKeep f202 Kc215 all0)
  replace A180 := A180.keep Kc215
  replace f184 := f184.keep Kc215 nin0
  replace f185 := f185.keep Kc215 nin0
  replace f186 := f186.keep Kc215 nin0
  replace f190 := f190.keep Kc215
  replace f201 := f201.keep Kc215
  replace O0 := own_oldKeep O0 Kc215 all0
  replace K0 := K0.trans Kc215 all0
  replace K1 := K1.trans Kc215 all0
  clear Kc215
  obtain ⟨v223, T223, L223, X223, hSn, hZn, hownn, hQ223, hJn, st223⟩ := own_callIW (y := own_y5) X210 hS hL hJ hx hZ hown (ow40 hw) (ow41 hw) (ow2 hw) (ow42 hw) (rm_tinit l Z a0 hw hO [] b180 w188 w199 w211 T210.heap O0 A180 f184 f185 f186 f190 f201 f213 big181) 1 6 84 rfl (by show _ ≤ 56; omega) (by show _ ≤ 4352; omega) (rfl : T210.heap = T210.heap) (g := (mkF m 66 #[iv p1, iv p2, iv p3, iv p4, iv p5, iv p6, iv uv, iv ua, iv ub, iv uc, .unset, .unset, .unset] [(.ref w211), (.ref w199), (.ref w188), (.ref b180), (.ref b180)])) rfl (by rw [hml]; rfl) b180 [(.ref w188), (.ref w199), (.ref w211)] [(.ref b180)] (lenOf own_pd_5 rfl) rfl rfl (hb hby at_66)
  replace hS := hSn
  replace hZ := hZn
  replace hown := hownn
  replace hJ := hJn
  clear hSn hZn hownn hJn
  obtain ⟨rfl, Nc229, Kc228, f224, f225, f226, f227⟩ := hQ223
  refine own_goW st223 ?_
  clear st223 X210
  replace N0 := Fr.app N0 Nc229
  clear Nc229
  replace f191 := (own_SlKeep f191 Kc228 (allS (own_afE A180 (by decide) (ow1 hw)) all0))
  replace f202 := (own_SlKeep f202 Kc228 (allS (own_afE A180 (by decide) (ow1 hw)) all0))
  replace f214 := (own_SlKeep f214 Kc228 (allS (own_afE A180 (by decide) (ow1 hw)) all0))
  replace A180 := A180.keep Kc228
  clear f184
  clear f185
  clear f186
  replace f190 := f190.keep Kc228
  replace f201 := f201.keep Kc228
  replace f213 := f213.keep Kc228
  replace O0 := own_oldKeep O0 Kc228 (allS big181 all0)
  replace K0 := K0.trans Kc228 (allS (Or.inr sz182) all0)
  replace K1 := K1.trans Kc228 (allS (Or.inr sz183) all0)
  clear Kc228
  show own_GoW p e below s _ _ _ _ (T223.setTop (mkF m 69 #[iv p1, iv p2, iv p3, iv p4, iv p5, iv p6, iv uv, iv ua, iv ub, iv uc, .unset, .unset, .unset] [(.ref b180)]))
  exact sg_s69 hw hO p1 p2 p3 p4 p5 p6 uv ua ub uc b180 w188 w199 w211 h0 T223.heap X223 hS hL hJ hx hby hml hret hlk hZ hown hnm (rfl : T223.heap = T223.heap) N0 O0 K0 f224 f225 f226 f227 f190 f201 f213 f191 f202 f214 (by omega) (by omega)
set_option maxRecDepth 65536 in
set_option maxHeartbeats 40000000 in
theorem sg_s33 {l : Launch} {Z : State} {a0 : Array Value} (hw : own_W Z a0) {zc : Int32} (hO : own_Olds Z zc) {p : Program} {e : Env} {s : State} {vm0 : Vm} {m : MethodId} {args : Array Value} {below : List Frame} {meth : Method} {c : Code} {T : State} {locs : List Loc} {cells slots : Nat} (p1 : Int32) (p2 : Int32) (p3 : Int32) (p4 : Int32) (p5 : Int32) (p6 : Int32) (uv : Int32) (ua : Int32) (ub : Int32) (h0 hs1 : Heap)
    (X0 : Stand p l e room_1 (s.setVm vm0) m args below meth c T locs cells slots) (hS : s.Since vm0 hs1.size) (hL : own_L Z a0) (hJ : own_J Z vm0 hs1) (hx : p.tables.exec = Jvm.exec) (hby : c.code = code) (hml : c.maxLocals = 13) (hret : meth.sig.returnType = some .boolean) (hlk : meth.locks = false) (hZ : Z.Warmed39 (s.setVm vm0).vm) (hown : (s.setVm vm0).vm.findClass "com/example/ratification/ratification/model/TripleEqualsPinLaw" = some m.cls) (hnm : meth.name = "law") (e0 : T.heap = hs1) (N0 : Fr Z.heap.size locs) (O0 : Ext Z.heap hs1) (K0 : Keep h0 hs1 []) (hcells : cells ≤ 0) (hslots : slots ≤ 0) :
    own_GoW p e below s Z (Q_law Z zc p1 p2 p3 p4 p5 p6 h0) room_1.cells room_1.slots (T.setTop (mkF m 33 #[iv p1, iv p2, iv p3, iv p4, iv p5, iv p6, iv uv, iv ua, .unset, .unset, .unset, .unset, .unset] [(.int ub)])) := by
  obtain ⟨oCS, oCz⟩ := id hO
  have K1 := Keep.refl hs1 []
  show own_GoW p e below s _ _ _ _ (T.setTop (mkF m 33 #[iv p1, iv p2, iv p3, iv p4, iv p5, iv p6, iv uv, iv ua, .unset, .unset, .unset, .unset, .unset] [(.int ub)]))
  refine own_goW (fun _ k => XS.istore X0.here hx rfl (hb hby at_33) rfl (l' := #[iv p1, iv p2, iv p3, iv p4, iv p5, iv p6, iv uv, iv ua, iv ub, .unset, .unset, .unset, .unset]) rfl (XS.iload X0.here hx rfl (hb hby at_35) rfl (XS.iconst X0.here hx rfl (hb hby at_37) (XS.iand X0.here hx rfl (hb hby at_38) rfl k)))) ?_
  show own_GoW p e below s _ _ _ _ (T.setTop (mkF m 39 #[iv p1, iv p2, iv p3, iv p4, iv p5, iv p6, iv uv, iv ua, iv ub, .unset, .unset, .unset, .unset] [(.int (p6 &&& (4 : Int32)))]))
  by_cases hc230 : (p6 &&& (4 : Int32)) = (0 : Int32)
  · refine own_goW (fun _ k => XS.ifYes X0.here hx rfl (pc0 := 39) (pc' := 46) rfl (hb hby at_39) rfl ((if0 _ _).trans (teq hc230).1) (by decide) (by decide) k) ?_
    show own_GoW p e below s _ _ _ _ (T.setTop (mkF m 46 #[iv p1, iv p2, iv p3, iv p4, iv p5, iv p6, iv uv, iv ua, iv ub, .unset, .unset, .unset, .unset] []))
    refine own_goW (fun _ k => XS.iload X0.here hx rfl (hb hby at_46) rfl k) ?_
    show own_GoW p e below s _ _ _ _ (T.setTop (mkF m 48 #[iv p1, iv p2, iv p3, iv p4, iv p5, iv p6, iv uv, iv ua, iv ub, .unset, .unset, .unset, .unset] [(.int uv)]))
    exact sg_s48 hw hO p1 p2 p3 p4 p5 p6 uv ua ub uv h0 hs1 X0 hS hL hJ hx hby hml hret hlk hZ hown hnm e0 N0 O0 K0 (by omega) (by omega)
  · refine own_goW (fun _ k => XS.ifNo X0.here hx rfl (hb hby at_39) rfl ((if0 _ _).trans (feq hc230).1) k) ?_
    show own_GoW p e below s _ _ _ _ (T.setTop (mkF m 42 #[iv p1, iv p2, iv p3, iv p4, iv p5, iv p6, iv uv, iv ua, iv ub, .unset, .unset, .unset, .unset] []))
    refine own_goW (fun _ k => XS.iloadN X0.here hx rfl (hb hby at_42) rfl (XS.goto X0.here hx rfl (pc0 := 43) (pc' := 48) rfl (hb hby at_43) (by decide) (by decide) k)) ?_
    show own_GoW p e below s _ _ _ _ (T.setTop (mkF m 48 #[iv p1, iv p2, iv p3, iv p4, iv p5, iv p6, iv uv, iv ua, iv ub, .unset, .unset, .unset, .unset] [(.int p3)]))
    exact sg_s48 hw hO p1 p2 p3 p4 p5 p6 uv ua ub p3 h0 hs1 X0 hS hL hJ hx hby hml hret hlk hZ hown hnm e0 N0 O0 K0 (by omega) (by omega)
set_option maxRecDepth 65536 in
set_option maxHeartbeats 40000000 in
theorem sg_s18 {l : Launch} {Z : State} {a0 : Array Value} (hw : own_W Z a0) {zc : Int32} (hO : own_Olds Z zc) {p : Program} {e : Env} {s : State} {vm0 : Vm} {m : MethodId} {args : Array Value} {below : List Frame} {meth : Method} {c : Code} {T : State} {locs : List Loc} {cells slots : Nat} (p1 : Int32) (p2 : Int32) (p3 : Int32) (p4 : Int32) (p5 : Int32) (p6 : Int32) (uv : Int32) (ua : Int32) (h0 hs1 : Heap)
    (X0 : Stand p l e room_1 (s.setVm vm0) m args below meth c T locs cells slots) (hS : s.Since vm0 hs1.size) (hL : own_L Z a0) (hJ : own_J Z vm0 hs1) (hx : p.tables.exec = Jvm.exec) (hby : c.code = code) (hml : c.maxLocals = 13) (hret : meth.sig.returnType = some .boolean) (hlk : meth.locks = false) (hZ : Z.Warmed39 (s.setVm vm0).vm) (hown : (s.setVm vm0).vm.findClass "com/example/ratification/ratification/model/TripleEqualsPinLaw" = some m.cls) (hnm : meth.name = "law") (e0 : T.heap = hs1) (N0 : Fr Z.heap.size locs) (O0 : Ext Z.heap hs1) (K0 : Keep h0 hs1 []) (hcells : cells ≤ 0) (hslots : slots ≤ 0) :
    own_GoW p e below s Z (Q_law Z zc p1 p2 p3 p4 p5 p6 h0) room_1.cells room_1.slots (T.setTop (mkF m 18 #[iv p1, iv p2, iv p3, iv p4, iv p5, iv p6, iv uv, .unset, .unset, .unset, .unset, .unset, .unset] [(.int ua)])) := by
  obtain ⟨oCS, oCz⟩ := id hO
  have K1 := Keep.refl hs1 []
  show own_GoW p e below s _ _ _ _ (T.setTop (mkF m 18 #[iv p1, iv p2, iv p3, iv p4, iv p5, iv p6, iv uv, .unset, .unset, .unset, .unset, .unset, .unset] [(.int ua)]))
  refine own_goW (fun _ k => XS.istore X0.here hx rfl (hb hby at_18) rfl (l' := #[iv p1, iv p2, iv p3, iv p4, iv p5, iv p6, iv uv, iv ua, .unset, .unset, .unset, .unset, .unset]) rfl (XS.iload X0.here hx rfl (hb hby at_20) rfl (XS.iconst X0.here hx rfl (hb hby at_22) (XS.iand X0.here hx rfl (hb hby at_23) rfl k)))) ?_
  show own_GoW p e below s _ _ _ _ (T.setTop (mkF m 24 #[iv p1, iv p2, iv p3, iv p4, iv p5, iv p6, iv uv, iv ua, .unset, .unset, .unset, .unset, .unset] [(.int (p6 &&& (2 : Int32)))]))
  by_cases hc231 : (p6 &&& (2 : Int32)) = (0 : Int32)
  · refine own_goW (fun _ k => XS.ifYes X0.here hx rfl (pc0 := 24) (pc' := 31) rfl (hb hby at_24) rfl ((if0 _ _).trans (teq hc231).1) (by decide) (by decide) k) ?_
    show own_GoW p e below s _ _ _ _ (T.setTop (mkF m 31 #[iv p1, iv p2, iv p3, iv p4, iv p5, iv p6, iv uv, iv ua, .unset, .unset, .unset, .unset, .unset] []))
    refine own_goW (fun _ k => XS.iload X0.here hx rfl (hb hby at_31) rfl k) ?_
    show own_GoW p e below s _ _ _ _ (T.setTop (mkF m 33 #[iv p1, iv p2, iv p3, iv p4, iv p5, iv p6, iv uv, iv ua, .unset, .unset, .unset, .unset, .unset] [(.int p5)]))
    exact sg_s33 hw hO p1 p2 p3 p4 p5 p6 uv ua p5 h0 hs1 X0 hS hL hJ hx hby hml hret hlk hZ hown hnm e0 N0 O0 K0 (by omega) (by omega)
  · refine own_goW (fun _ k => XS.ifNo X0.here hx rfl (hb hby at_24) rfl ((if0 _ _).trans (feq hc231).1) k) ?_
    show own_GoW p e below s _ _ _ _ (T.setTop (mkF m 27 #[iv p1, iv p2, iv p3, iv p4, iv p5, iv p6, iv uv, iv ua, .unset, .unset, .unset, .unset, .unset] []))
    refine own_goW (fun _ k => XS.iloadN X0.here hx rfl (hb hby at_27) rfl (XS.goto X0.here hx rfl (pc0 := 28) (pc' := 33) rfl (hb hby at_28) (by decide) (by decide) k)) ?_
    show own_GoW p e below s _ _ _ _ (T.setTop (mkF m 33 #[iv p1, iv p2, iv p3, iv p4, iv p5, iv p6, iv uv, iv ua, .unset, .unset, .unset, .unset, .unset] [(.int p2)]))
    exact sg_s33 hw hO p1 p2 p3 p4 p5 p6 uv ua p2 h0 hs1 X0 hS hL hJ hx hby hml hret hlk hZ hown hnm e0 N0 O0 K0 (by omega) (by omega)
theorem ef_law (m : MethodId) (x0 : Int32) (x1 : Int32) (x2 : Int32) (x3 : Int32) (x4 : Int32) (x5 : Int32) : entryFrame m #[(.int x0), (.int x1), (.int x2), (.int x3), (.int x4), (.int x5)] maxLocals = mkF m 0 #[iv x0, iv x1, iv x2, iv x3, iv x4, iv x5, .unset, .unset, .unset, .unset, .unset, .unset, .unset] [] := by first | (simp [entryFrame, mkF, argsToLocals, Value.category, maxLocals]; done) | rfl
set_option maxRecDepth 65536 in
set_option maxHeartbeats 40000000 in
theorem rm_law (l : Launch) (Z : State) (a0 : Array Value) (hw : own_W Z a0) {zc : Int32} (hO : own_Olds Z zc) (ws : List Jvm.Cond) (p1 : Int32) (p2 : Int32) (p3 : Int32) (p4 : Int32) (p5 : Int32) (p6 : Int32) (h0 : Heap) (O0 : Ext Z.heap h0) :
    MetFree l x (head1 (Jvm.Cond.code x code maxLocals ret :: ws) room_1) (fun a U => a = #[(.int p1), (.int p2), (.int p3), (.int p4), (.int p5), (.int p6)] ∧ Z.Warmed39 U.vm ∧ U.heap = h0 ∧ own_J Z U.vm U.heap) (fun _ _ _ _ _ => True) (fun _ U o U' => ∃ v L, o = .returned v ∧ ((Q_law Z zc p1 p2 p3 p4 p5 p6 h0) v U'.heap L ∧ own_J Z U'.vm U'.heap) ∧ ReturnedEndW U o U' L room_1.cells room_1.slots) := by
  refine own_metW (Q := (Q_law Z zc p1 p2 p3 p4 p5 p6 h0)) _ _ (plainFor_of_name own_pn_1) ?_
  intro p e s vm0 m below meth c T X0 hS hJ hJ0 hZ0 hI hs0 hx hby hml hret hlk hZ hown hnm e0
  replace hown : (s.setVm vm0).vm.findClass "com/example/ratification/ratification/model/TripleEqualsPinLaw" = some m.cls := hown
  replace hnm : meth.name = "law" := hnm
  have hml : c.maxLocals = 13 := hml
  obtain ⟨oCS, oCz⟩ := id hO
  have N0 := Fr.nil Z.heap.size
  have hL := own_Lhw hw
  have K0 := Keep.refl h0 []
  refine own_goW (fun _ k => castTop (ef_law m p1 p2 p3 p4 p5 p6) k) ?_
  show own_GoW p e below s _ _ _ _ (T.setTop (mkF m 0 #[iv p1, iv p2, iv p3, iv p4, iv p5, iv p6, .unset, .unset, .unset, .unset, .unset, .unset, .unset] []))
  refine own_goW (fun _ k => XS.iload X0.here hx rfl (hb hby at_0) rfl (XS.iconst X0.here hx rfl (hb hby at_2) (XS.iushr X0.here hx rfl (hb hby at_3) rfl (XS.istore X0.here hx rfl (hb hby at_4) rfl (l' := #[iv p1, iv p2, iv p3, iv p4, iv p5, iv p6, iv ((p6.toUInt32 >>> ((4 : Int32) &&& 31).toUInt32).toInt32), .unset, .unset, .unset, .unset, .unset, .unset]) rfl k)))) ?_
  show own_GoW p e below s _ _ _ _ (T.setTop (mkF m 6 #[iv p1, iv p2, iv p3, iv p4, iv p5, iv p6, iv ((p6.toUInt32 >>> ((4 : Int32) &&& 31).toUInt32).toInt32), .unset, .unset, .unset, .unset, .unset, .unset] []))
  refine own_goW (fun _ k => XS.iload X0.here hx rfl (hb hby at_6) rfl (XS.iconst X0.here hx rfl (hb hby at_8) (XS.iand X0.here hx rfl (hb hby at_9) rfl k))) ?_
  by_cases hc232 : (p6 &&& (1 : Int32)) = (0 : Int32)
  · refine own_goW (fun _ k => XS.ifYes X0.here hx rfl (pc0 := 10) (pc' := 17) rfl (hb hby at_10) rfl ((if0 _ _).trans (teq hc232).1) (by decide) (by decide) k) ?_
    show own_GoW p e below s _ _ _ _ (T.setTop (mkF m 17 #[iv p1, iv p2, iv p3, iv p4, iv p5, iv p6, iv ((p6.toUInt32 >>> ((4 : Int32) &&& 31).toUInt32).toInt32), .unset, .unset, .unset, .unset, .unset, .unset] []))
    refine own_goW (fun _ k => XS.iloadN X0.here hx rfl (hb hby at_17) rfl k) ?_
    show own_GoW p e below s _ _ _ _ (T.setTop (mkF m 18 #[iv p1, iv p2, iv p3, iv p4, iv p5, iv p6, iv ((p6.toUInt32 >>> ((4 : Int32) &&& 31).toUInt32).toInt32), .unset, .unset, .unset, .unset, .unset, .unset] [(.int p4)]))
    exact sg_s18 hw hO p1 p2 p3 p4 p5 p6 ((p6.toUInt32 >>> ((4 : Int32) &&& 31).toUInt32).toInt32) p4 h0 h0 X0 hS hL hJ hx hby hml hret hlk hZ hown hnm e0 N0 O0 K0 (by omega) (by omega)
  · refine own_goW (fun _ k => XS.ifNo X0.here hx rfl (hb hby at_10) rfl ((if0 _ _).trans (feq hc232).1) k) ?_
    show own_GoW p e below s _ _ _ _ (T.setTop (mkF m 13 #[iv p1, iv p2, iv p3, iv p4, iv p5, iv p6, iv ((p6.toUInt32 >>> ((4 : Int32) &&& 31).toUInt32).toInt32), .unset, .unset, .unset, .unset, .unset, .unset] []))
    refine own_goW (fun _ k => XS.iloadN X0.here hx rfl (hb hby at_13) rfl (XS.goto X0.here hx rfl (pc0 := 14) (pc' := 18) rfl (hb hby at_14) (by decide) (by decide) k)) ?_
    show own_GoW p e below s _ _ _ _ (T.setTop (mkF m 18 #[iv p1, iv p2, iv p3, iv p4, iv p5, iv p6, iv ((p6.toUInt32 >>> ((4 : Int32) &&& 31).toUInt32).toInt32), .unset, .unset, .unset, .unset, .unset, .unset] [(.int p1)]))
    exact sg_s18 hw hO p1 p2 p3 p4 p5 p6 ((p6.toUInt32 >>> ((4 : Int32) &&& 31).toUInt32).toInt32) p1 h0 h0 X0 hS hL hJ hx hby hml hret hlk hZ hown hnm e0 N0 O0 K0 (by omega) (by omega)
set_option maxRecDepth 65536 in
set_option maxHeartbeats 40000000 in
theorem comes_1 {Post : Tables → Env → Array Value → State → Outcome → State → Prop} (hpost : ∀ tb e args s v u, (limb_1_1.after args s (.returned v) u = true ∧ limb_1_2.after args s (.returned v) u = true ∧ True) → ReturnedEndW s (.returned v) u (Jvm.fieldLocs frame_1_writes args s ++ Jvm.arrayLocs frame_1_arrays args s ++ Jvm.staticLocs frame_1_statics s) 56 4352 → Post tb e args s (.returned v) u) :
    ArmFor flags0 classFile x code maxLocals ret World_1 tables_1 room_1 Calls_1 rest_1 Pre_1 Post := by
  intro l hfl _ _ p e ha hc hk s m args below hf hA hF happ hP
  obtain ⟨hcalls, hrest, hpre⟩ := hP
  obtain ⟨-, -, -, hnamed, -, -, -, hat⟩ := (Spec.applies_iff hf).mp happ
  obtain ⟨hg, hn⟩ := and_e (Cond.before_iff.mp (show (Jvm.Cond.and given_1 narrow_1).before args s = true from hpre))
  obtain ⟨gA0, gB0⟩ := and_e hg
  obtain ⟨gA1, gB1⟩ := and_e gB0
  obtain ⟨gA2, gB2⟩ := and_e gB1
  obtain ⟨gA3, gB3⟩ := and_e gB2
  obtain ⟨gA4, gB4⟩ := and_e gB3
  obtain ⟨gA5, gB5⟩ := and_e gB4
  obtain ⟨w0, w1, w2, w3, w4, w5, rfl⟩ : ∃ w0 w1 w2 w3 w4 w5 : Value, args = #[w0, w1, w2, w3, w4, w5] := by
    have hs : args.size = 6 := by simpa [Cond.value, given_1] using gA0
    obtain ⟨L⟩ := args
    match L, hs with
    | [w0, w1, w2, w3, w4, w5], _ => exact ⟨w0, w1, w2, w3, w4, w5, rfl⟩
  have hw := fun d (hd : d ∈ tables_1) => atoms_spec (ws := Jvm.Cond.code x code maxLocals ret :: tables_1) hat d (List.mem_cons_of_mem _ hd)
  have hfit : Fit s := fun {y c} hc i hi => by
    obtain ⟨ha, rfl⟩ := Array.getElem?_eq_some_iff.mp hc
    have q := List.all_eq_true.mp ((Array.all_eq_true_iff_forall_mem.mp hF) _ (Array.getElem_mem ha)) i (List.mem_range.mpr hi)
    simpa [Array.getElem?_eq_getElem hi] using q
  obtain ⟨hsets, hown0⟩ := atoms_of _ (rest_1_c_eq ▸ (show rest_1_c.before _ s = true from hrest))
  have hr0 := Cond.before_iff.mp hown0
  obtain ⟨i0, ei0⟩ := is_v gA1
  obtain rfl : w0 = (.int i0) := Option.some.inj ei0
  obtain ⟨i1, ei1⟩ := is_v gA2
  obtain rfl : w1 = (.int i1) := Option.some.inj ei1
  obtain ⟨i2, ei2⟩ := is_v gA3
  obtain rfl : w2 = (.int i2) := Option.some.inj ei2
  obtain ⟨i3, ei3⟩ := is_v gA4
  obtain rfl : w3 = (.int i3) := Option.some.inj ei3
  obtain ⟨i4, ei4⟩ := is_v gA5
  obtain rfl : w4 = (.int i4) := Option.some.inj ei4
  obtain ⟨i5, ei5⟩ := is_v gB5
  obtain rfl : w5 = (.int i5) := Option.some.inj ei5
  obtain ⟨zc, cse⟩ := is_v (Cond.before_iff.mp (hsets _ (List.mem_of_getElem? (i := 1) rfl)))
  have oCS := Sta.start cse (Or.inl (hsets _ (List.mem_of_getElem? (i := 0) rfl)))
  have csn := Cond.before_iff.mp (hsets _ (List.mem_of_getElem? (i := 2) rfl))
  have oCz : ¬ zc = (0 : Int32) := gotF (Cond.eq_ints cse (Term.int_eval 0)) (by have q := not_v csn; simpa using q)
  have hJst : own_J s s.vm s.heap := own_Jstart hw (hsets _ (List.mem_of_getElem? (i := 2) rfl)) hcalls
  have hO : own_Olds s _ := ⟨oCS, oCz⟩
  obtain ⟨n, o, h1, h2, h3, _, L, rfl, ⟨⟨rfl, N, -⟩, -⟩, hq⟩ := rm_law l s _ hw hO tables_1 i0 i1 i2 i3 i4 i5  s.heap ⟨Nat.le_refl _, fun _ _ q => q⟩  p e ha hc hk s m _ below hf ((Spec.applies_iff_loose hf).mp happ).1 ⟨rfl, State.Warmed39.refl s, rfl, hJst⟩ trivial
  refine ⟨n, _, h1, h2, h3, hpost _ _ _ _ _ _ ⟨Cond.after_iff.mpr rfl, Cond.after_iff.mpr (eq_i res_at (Term.int_eval (1)) rfl), trivial⟩ ⟨hq.1, hq.2.1, hq.2.2.1, (hq.2.2.2.sift fun y hy => Or.inr (N y hy)).mono (by decide) (by decide)⟩⟩
theorem main_1_1 : Claimed_1_1 := comes_1 fun _ _ _ _ _ _ h hF => ⟨h.1, hF⟩
theorem main_1_2 : Claimed_1_2 := comes_1 fun _ _ _ _ _ _ h hF => ⟨h.2.1, hF⟩
end Jvm.Pilot.@@N@@
namespace Jvm.Pilot.@@N@@
open Jvm Jvm.ClassFile Sem Op Lib Jvm.Free Jvm.Stand Jvm.Pilot.@@N@@.Jvm.D
/-! MADE BY PROGRAM (witnessworld.py) out of the Statement's table words and the real class files: 21 classes; the members and pool entries that the words name. The judged class is class 1, her method 3. -/
namespace start1
open Jvm.ClassFile
def u (s : String) : CpInfo := .utf8 (stringToUtf16 s)
/-- a pool by its gaps: so many unusable entries, then the entry; so many at the end -/
def gap : Nat → List CpInfo → List CpInfo
  | 0, r => r
  | n + 1, r => .unusable :: gap n r
def poolList (es : List (Nat × CpInfo)) (last : Nat) : List CpInfo := es.foldr (fun e r => gap e.1 (e.2 :: r)) (gap last [])
def pool (es : List (Nat × CpInfo)) (last : Nat) : Array CpInfo := ⟨poolList es last⟩
def fileOf (pool : Array CpInfo) (this : Nat) (attrs : Array Attribute := #[]) (ms : Array MethodInfo := #[]) (fl : Nat := 33) (sup : Nat := 0) (ifs : Array Nat := #[]) (fds : Array FieldInfo := #[]) : ClassFile where
  minorVersion := 0
  majorVersion := 65
  constantPool := pool
  accessFlags := fl
  thisClass := this
  superClass := sup
  interfaces := ifs
  fields := fds
  methods := ms
  attributes := attrs
def plain (name : String) (sup : Option ClassId) : Class where
  name := name
  kind := .ordinary
  loader := none
  accessFlags := 33
  super := sup
  interfaces := #[]
  cf := none
  fields := #[]
  methods := #[]
  instanceTypes := #[]
  staticTypes := #[]
  resolved := #[]
  callSites := []
  init := .initialized
  statics := none
  mirror := none

def pool0 : Array CpInfo := pool [(5, u "<init>"), (0, u "()V"), (1, .class_ 10), (1, u "java/lang/Object")] 113

def k0c0 : Code := { maxStack := 0, maxLocals := 1, code := object_method_1_code, exceptionTable := #[], attributes := #[] }
def k0m0 : Method := { name := "<init>", desc := "()V", sig := { parameters := [], returnType := none }, accessFlags := 1, code := some k0c0 }
/-- java/lang/Object -/
def k0 : Class := { plain "java/lang/Object" none with
  accessFlags := 33
  interfaces := #[]
  cf := some (fileOf pool0 8 #[] #[{ accessFlags := 1, nameIndex := 5, descriptorIndex := 6, attributes := #[] }] 33 0 #[] #[])
  fields := #[]
  methods := #[k0m0]
  instanceTypes := #[]
  staticTypes := #[]
  resolved := Array.replicate 124 none
  statics := none }

def pool1 : Array CpInfo := pool [(2, .class_ 4), (1, u "java/lang/Object"), (0, u "<init>"), (0, u "()V"), (0, .class_ 8), (0, u "java/lang/String"), (0, .methodref 7 10), (0, .nameAndType 5 11), (0, u "([C)V"), (0, .class_ 13), (0, u "com/example/ratification/ratification/model/Triple"), (0, .methodref 15 16), (0, .class_ 17), (0, .nameAndType 18 19), (0, u "com/example/ratification/ratification/model/TripleEqualsPinLaw"), (0, u "mk"), (0, u "(I)Ljava/lang/String;"), (0, .methodref 12 21), (0, .nameAndType 5 22), (0, u "(Ljava/lang/String;Ljava/lang/String;Ljava/lang/String;)V"), (0, .methodref 12 24), (0, .nameAndType 25 26), (0, u "equals"), (0, u "(Ljava/lang/Object;)Z"), (0, .methodref 15 28), (0, .nameAndType 29 30), (0, u "same"), (0, u "(II)Z"), (3, u "law"), (0, u "(IIIIII)Z")] 2

def k1m0 : Method := { name := "<init>", desc := "()V", sig := { parameters := [], returnType := none }, accessFlags := 1, code := none }
def k1c1 : Code := { maxStack := 3, maxLocals := 6, code := method_2_code, exceptionTable := #[], attributes := #[] }
def k1m1 : Method := { name := "mk", desc := "(I)Ljava/lang/String;", sig := { parameters := [.int], returnType := some (.object "java/lang/String") }, accessFlags := 10, code := some k1c1 }
def k1c2 : Code := { maxStack := 3, maxLocals := 3, code := method_3_code, exceptionTable := #[], attributes := #[] }
def k1m2 : Method := { name := "same", desc := "(II)Z", sig := { parameters := [.int, .int], returnType := some .boolean }, accessFlags := 10, code := some k1c2 }
def k1c3 : Code := { maxStack := 5, maxLocals := 13, code := code, exceptionTable := #[], attributes := #[] }
def k1m3 : Method := { name := "law", desc := "(IIIIII)Z", sig := { parameters := [.int, .int, .int, .int, .int, .int], returnType := some .boolean }, accessFlags := 9, code := some k1c3 }
/-- com/example/ratification/ratification/model/TripleEqualsPinLaw -/
def k1 : Class := { plain "com/example/ratification/ratification/model/TripleEqualsPinLaw" (some 0) with
  accessFlags := 49
  interfaces := #[]
  cf := some (fileOf pool1 15 #[] #[{ accessFlags := 1, nameIndex := 5, descriptorIndex := 6, attributes := #[] }, { accessFlags := 10, nameIndex := 18, descriptorIndex := 19, attributes := #[] }, { accessFlags := 10, nameIndex := 29, descriptorIndex := 30, attributes := #[] }, { accessFlags := 9, nameIndex := 34, descriptorIndex := 35, attributes := #[] }] 49 2 #[] #[])
  fields := #[]
  methods := #[k1m0, k1m1, k1m2, k1m3]
  instanceTypes := #[]
  staticTypes := #[]
  resolved := Array.replicate 38 none
  statics := none }

def pool2 : Array CpInfo := pool [(1, .methodref 2 3), (0, .class_ 4), (0, .nameAndType 5 6), (0, u "java/lang/Object"), (0, u "<init>"), (0, u "()V"), (0, .string 8), (0, u "subject"), (0, .methodref 10 11), (0, .class_ 12), (0, .nameAndType 13 14), (0, u "java/util/Objects"), (0, u "requireNonNull"), (0, u "(Ljava/lang/Object;Ljava/lang/String;)Ljava/lang/Object;"), (0, .class_ 16), (0, u "java/lang/String"), (0, .fieldref 18 19), (0, .class_ 20), (0, .nameAndType 8 21), (0, u "com/example/ratification/ratification/model/Triple"), (0, u "Ljava/lang/String;"), (0, .string 23), (0, u "object"), (0, .fieldref 18 25), (0, .nameAndType 23 21), (0, .string 27), (0, u "right"), (0, .fieldref 18 29), (0, .nameAndType 27 21), (0, .methodref 15 31), (0, .nameAndType 32 33), (0, u "equals"), (0, u "(Ljava/lang/Object;)Z"), (8, u "(Ljava/lang/String;Ljava/lang/String;Ljava/lang/String;)V")] 24

def k2c0 : Code := { maxStack := 3, maxLocals := 4, code := prog_68_method_1_code, exceptionTable := #[], attributes := #[] }
def k2m0 : Method := { name := "<init>", desc := "(Ljava/lang/String;Ljava/lang/String;Ljava/lang/String;)V", sig := { parameters := [(.object "java/lang/String"), (.object "java/lang/String"), (.object "java/lang/String")], returnType := none }, accessFlags := 1, code := some k2c0 }
def k2c1 : Code := { maxStack := 2, maxLocals := 2, code := prog_68_method_5_code, exceptionTable := #[], attributes := #[] }
def k2m1 : Method := { name := "equals", desc := "(Ljava/lang/Object;)Z", sig := { parameters := [(.object "java/lang/Object")], returnType := some .boolean }, accessFlags := 1, code := some k2c1 }
/-- com/example/ratification/ratification/model/Triple -/
def k2 : Class := { plain "com/example/ratification/ratification/model/Triple" (some 0) with
  accessFlags := 49
  interfaces := #[]
  cf := some (fileOf pool2 18 #[] #[{ accessFlags := 1, nameIndex := 5, descriptorIndex := 42, attributes := #[] }, { accessFlags := 1, nameIndex := 32, descriptorIndex := 33, attributes := #[] }] 49 2 #[] #[{ accessFlags := 18, nameIndex := 8, descriptorIndex := 21, attributes := #[] }, { accessFlags := 18, nameIndex := 23, descriptorIndex := 21, attributes := #[] }, { accessFlags := 18, nameIndex := 27, descriptorIndex := 21, attributes := #[] }])
  fields := #[{ name := "subject", type := (.object "java/lang/String"), accessFlags := 18, slot := 0, constantValue := 0 }, { name := "object", type := (.object "java/lang/String"), accessFlags := 18, slot := 1, constantValue := 0 }, { name := "right", type := (.object "java/lang/String"), accessFlags := 18, slot := 2, constantValue := 0 }]
  methods := #[k2m0, k2m1]
  instanceTypes := #[(.object "java/lang/String"), (.object "java/lang/String"), (.object "java/lang/String")]
  staticTypes := #[]
  resolved := Array.replicate 67 none
  statics := none }

def pool3 : Array CpInfo := pool [(1, .class_ 2), (0, u "java/io/Serializable"), (0, .class_ 4), (0, u "java/lang/Object")] 2

/-- java/io/Serializable -/
def k3 : Class := { plain "java/io/Serializable" (some 0) with
  accessFlags := 1537
  interfaces := #[]
  cf := some (fileOf pool3 1 #[] #[] 1537 3 #[] #[])
  fields := #[]
  methods := #[]
  instanceTypes := #[]
  staticTypes := #[]
  resolved := Array.replicate 7 none
  statics := none }

def pool4 : Array CpInfo := pool [(1, .class_ 2), (0, u "java/lang/Comparable"), (0, .class_ 4), (0, u "java/lang/Object")] 7

/-- java/lang/Comparable -/
def k4 : Class := { plain "java/lang/Comparable" (some 0) with
  accessFlags := 1537
  interfaces := #[]
  cf := some (fileOf pool4 1 #[] #[] 1537 3 #[] #[])
  fields := #[]
  methods := #[]
  instanceTypes := #[]
  staticTypes := #[]
  resolved := Array.replicate 12 none
  statics := none }

def pool5 : Array CpInfo := pool [(2, .class_ 4), (1, u "java/lang/CharSequence"), (42, .class_ 48), (0, u "java/lang/CharSequence$1CodePointIterator"), (10, .class_ 60), (0, u "java/lang/CharSequence$1CharIterator"), (5, .class_ 67), (0, u "java/lang/Object")] 63

/-- java/lang/CharSequence -/
def k5 : Class := { plain "java/lang/CharSequence" (some 0) with
  accessFlags := 1537
  interfaces := #[]
  cf := some (fileOf pool5 2 #[.nestMembers #[47, 59]] #[] 1537 66 #[] #[])
  fields := #[]
  methods := #[]
  instanceTypes := #[]
  staticTypes := #[]
  resolved := Array.replicate 131 none
  statics := none }

def pool6 : Array CpInfo := pool [(1, .class_ 2), (0, u "java/lang/constant/Constable"), (0, .class_ 4), (0, u "java/lang/Object")] 6

/-- java/lang/constant/Constable -/
def k6 : Class := { plain "java/lang/constant/Constable" (some 0) with
  accessFlags := 1537
  interfaces := #[]
  cf := some (fileOf pool6 1 #[] #[] 1537 3 #[] #[])
  fields := #[]
  methods := #[]
  instanceTypes := #[]
  staticTypes := #[]
  resolved := Array.replicate 11 none
  statics := none }

def pool7 : Array CpInfo := pool [(1, .class_ 2), (0, u "java/lang/constant/ConstantDesc"), (0, .class_ 4), (0, u "java/lang/Object")] 32

/-- java/lang/constant/ConstantDesc -/
def k7 : Class := { plain "java/lang/constant/ConstantDesc" (some 0) with
  accessFlags := 1537
  interfaces := #[]
  cf := some (fileOf pool7 1 #[] #[] 1537 3 #[] #[])
  fields := #[]
  methods := #[]
  instanceTypes := #[]
  staticTypes := #[]
  resolved := Array.replicate 37 none
  statics := none }

def pool8 : Array CpInfo := pool [(1, .methodref 2 3), (0, .class_ 4), (0, .nameAndType 5 6), (0, u "java/lang/Object"), (0, u "<init>"), (0, u "()V"), (0, .string 8), (0, u ""), (0, .fieldref 10 11), (0, .class_ 12), (0, .nameAndType 13 14), (0, u "java/lang/String"), (0, u "value"), (0, u "[B"), (0, .fieldref 10 16), (0, .nameAndType 17 18), (0, u "coder"), (0, u "B"), (2, u "hash"), (0, u "I"), (2, u "hashIsZero"), (0, u "Z"), (0, .methodref 10 28), (0, .nameAndType 5 29), (0, u "([CIILjava/lang/Void;)V"), (8, .fieldref 10 39), (0, .nameAndType 40 26), (0, u "COMPACT_STRINGS"), (1, .class_ 44), (1, u "java/lang/StringUTF16"), (0, u "compress"), (1, .methodref 42 48), (0, .nameAndType 49 50), (0, u "coderFromArrayLen"), (0, u "([BI)B"), (56, .class_ 109), (1, u "java/lang/StringLatin1"), (67, .methodref 42 178), (0, .nameAndType 45 179), (0, u "([CII)[B"), (361, .methodref 107 542), (0, .nameAndType 543 544), (0, u "equals"), (0, u "([B[B)Z"), (28, u "(Ljava/lang/Object;)Z"), (1, .class_ 576), (0, u "java/lang/CharSequence"), (22, u "CASE_INSENSITIVE_ORDER"), (0, u "Ljava/util/Comparator;"), (409, u "([C)V"), (90, u "serialPersistentFields"), (0, u "[Ljava/io/ObjectStreamField;"), (0, .class_ 1104), (0, u "java/lang/String$CaseInsensitiveComparator"), (1, .class_ 1107), (0, u "java/io/Serializable"), (0, .class_ 1109), (0, u "java/lang/Comparable"), (0, .class_ 1111), (0, u "java/lang/constant/Constable"), (0, .class_ 1113), (0, u "java/lang/constant/ConstantDesc"), (2, u "serialVersionUID"), (0, u "J"), (3, u "REPL"), (0, u "C"), (2, u "LATIN1"), (1, u "UTF16")] 323

def k8m0 : Method := { name := "<init>", desc := "()V", sig := { parameters := [], returnType := none }, accessFlags := 1, code := none }
def k8c1 : Code := { maxStack := 5, maxLocals := 2, code := jdk_42_method_3_code, exceptionTable := #[], attributes := #[] }
def k8m1 : Method := { name := "<init>", desc := "([C)V", sig := { parameters := [(.array .char)], returnType := none }, accessFlags := 1, code := some k8c1 }
def k8c2 : Code := { maxStack := 2, maxLocals := 3, code := jdk_42_method_66_code, exceptionTable := #[], attributes := #[] }
def k8m2 : Method := { name := "equals", desc := "(Ljava/lang/Object;)Z", sig := { parameters := [(.object "java/lang/Object")], returnType := some .boolean }, accessFlags := 1, code := some k8c2 }
def k8c3 : Code := { maxStack := 4, maxLocals := 6, code := jdk_42_method_149_code, exceptionTable := #[], attributes := #[] }
def k8m3 : Method := { name := "<init>", desc := "([CIILjava/lang/Void;)V", sig := { parameters := [(.array .char), .int, .int, (.object "java/lang/Void")], returnType := none }, accessFlags := 2, code := some k8c3 }
/-- java/lang/String -/
def k8 : Class := { plain "java/lang/String" (some 0) with
  accessFlags := 49
  interfaces := #[3, 4, 5, 6, 7]
  cf := some (fileOf pool8 10 #[.nestMembers #[1103]] #[{ accessFlags := 1, nameIndex := 5, descriptorIndex := 6, attributes := #[] }, { accessFlags := 1, nameIndex := 5, descriptorIndex := 1010, attributes := #[] }, { accessFlags := 1, nameIndex := 543, descriptorIndex := 573, attributes := #[] }, { accessFlags := 2, nameIndex := 5, descriptorIndex := 29, attributes := #[] }] 49 2 #[1106, 1108, 575, 1110, 1112] #[{ accessFlags := 18, nameIndex := 13, descriptorIndex := 14, attributes := #[] }, { accessFlags := 18, nameIndex := 17, descriptorIndex := 18, attributes := #[] }, { accessFlags := 2, nameIndex := 21, descriptorIndex := 22, attributes := #[] }, { accessFlags := 2, nameIndex := 25, descriptorIndex := 26, attributes := #[] }, { accessFlags := 26, nameIndex := 1116, descriptorIndex := 1117, attributes := #[] }, { accessFlags := 24, nameIndex := 40, descriptorIndex := 26, attributes := #[] }, { accessFlags := 26, nameIndex := 1101, descriptorIndex := 1102, attributes := #[] }, { accessFlags := 26, nameIndex := 1121, descriptorIndex := 1122, attributes := #[] }, { accessFlags := 25, nameIndex := 599, descriptorIndex := 600, attributes := #[] }, { accessFlags := 24, nameIndex := 1125, descriptorIndex := 18, attributes := #[] }, { accessFlags := 24, nameIndex := 1127, descriptorIndex := 18, attributes := #[] }])
  fields := #[{ name := "value", type := (.array .byte), accessFlags := 18, slot := 0, constantValue := 0 }, { name := "coder", type := .byte, accessFlags := 18, slot := 1, constantValue := 0 }, { name := "hash", type := .int, accessFlags := 2, slot := 2, constantValue := 0 }, { name := "hashIsZero", type := .boolean, accessFlags := 2, slot := 3, constantValue := 0 }, { name := "serialVersionUID", type := .long, accessFlags := 26, slot := 0, constantValue := 0 }, { name := "COMPACT_STRINGS", type := .boolean, accessFlags := 24, slot := 1, constantValue := 0 }, { name := "serialPersistentFields", type := (.array (.object "java/io/ObjectStreamField")), accessFlags := 26, slot := 2, constantValue := 0 }, { name := "REPL", type := .char, accessFlags := 26, slot := 3, constantValue := 0 }, { name := "CASE_INSENSITIVE_ORDER", type := (.object "java/util/Comparator"), accessFlags := 25, slot := 4, constantValue := 0 }, { name := "LATIN1", type := .byte, accessFlags := 24, slot := 5, constantValue := 0 }, { name := "UTF16", type := .byte, accessFlags := 24, slot := 6, constantValue := 0 }]
  methods := #[k8m0, k8m1, k8m2, k8m3]
  instanceTypes := #[(.array .byte), .byte, .int, .boolean]
  staticTypes := #[.long, .boolean, (.array (.object "java/io/ObjectStreamField")), .char, (.object "java/util/Comparator"), .byte, .byte]
  resolved := Array.replicate 1451 none
  statics := some 0 }

def pool9 : Array CpInfo := pool [(6, .class_ 8), (1, u "java/lang/Object"), (0, u "<init>"), (0, u "()V"), (1, .class_ 14), (1, u "java/lang/StringUTF16"), (31, u "$assertionsDisabled"), (0, u "Z"), (13, u "HI_BYTE_SHIFT"), (0, u "I"), (2, u "LO_BYTE_SHIFT"), (49, .methodref 12 116), (0, .nameAndType 117 118), (0, u "compress"), (0, u "([CI[BII)I"), (3, u "([CII)[B"), (138, u "coderFromArrayLen"), (0, u "([BI)B"), (106, .class_ 371), (1, u "java/lang/StringUTF16$LinesSpliterator"), (58, u "MAX_LENGTH"), (196, .class_ 628), (0, u "java/lang/StringUTF16$CodePointsSpliterator"), (0, .class_ 630), (0, u "java/lang/StringUTF16$CharsSpliterator")] 4

def k9m0 : Method := { name := "<init>", desc := "()V", sig := { parameters := [], returnType := none }, accessFlags := 0, code := none }
def k9c1 : Code := { maxStack := 2, maxLocals := 2, code := jdk_52_method_15_code, exceptionTable := #[], attributes := #[] }
def k9m1 : Method := { name := "coderFromArrayLen", desc := "([BI)B", sig := { parameters := [(.array .byte), .int], returnType := some .byte }, accessFlags := 8, code := some k9c1 }
def k9c2 : Code := { maxStack := 5, maxLocals := 6, code := jdk_52_method_16_code, exceptionTable := #[], attributes := #[] }
def k9m2 : Method := { name := "compress", desc := "([CII)[B", sig := { parameters := [(.array .char), .int, .int], returnType := some (.array .byte) }, accessFlags := 9, code := some k9c2 }
def k9c3 : Code := { maxStack := 3, maxLocals := 7, code := jdk_52_method_21_code, exceptionTable := #[], attributes := #[] }
def k9m3 : Method := { name := "compress", desc := "([CI[BII)I", sig := { parameters := [(.array .char), .int, (.array .byte), .int, .int], returnType := some .int }, accessFlags := 9, code := some k9c3 }
/-- java/lang/StringUTF16 -/
def k9 : Class := { plain "java/lang/StringUTF16" (some 0) with
  accessFlags := 48
  interfaces := #[]
  cf := some (fileOf pool9 12 #[.nestMembers #[627, 629, 369]] #[{ accessFlags := 0, nameIndex := 9, descriptorIndex := 10, attributes := #[] }, { accessFlags := 8, nameIndex := 261, descriptorIndex := 262, attributes := #[] }, { accessFlags := 9, nameIndex := 117, descriptorIndex := 122, attributes := #[] }, { accessFlags := 9, nameIndex := 117, descriptorIndex := 118, attributes := #[] }] 48 6 #[] #[{ accessFlags := 26, nameIndex := 61, descriptorIndex := 62, attributes := #[] }, { accessFlags := 26, nameIndex := 65, descriptorIndex := 62, attributes := #[] }, { accessFlags := 24, nameIndex := 430, descriptorIndex := 62, attributes := #[] }, { accessFlags := 4120, nameIndex := 46, descriptorIndex := 47, attributes := #[] }])
  fields := #[{ name := "HI_BYTE_SHIFT", type := .int, accessFlags := 26, slot := 0, constantValue := 0 }, { name := "LO_BYTE_SHIFT", type := .int, accessFlags := 26, slot := 1, constantValue := 0 }, { name := "MAX_LENGTH", type := .int, accessFlags := 24, slot := 2, constantValue := 0 }, { name := "$assertionsDisabled", type := .boolean, accessFlags := 4120, slot := 3, constantValue := 0 }]
  methods := #[k9m0, k9m1, k9m2, k9m3]
  instanceTypes := #[]
  staticTypes := #[.int, .int, .int, .boolean]
  resolved := Array.replicate 635 none
  statics := none }

def pool10 : Array CpInfo := pool [(2, .class_ 4), (1, u "java/lang/Object"), (0, u "<init>"), (0, u "()V"), (35, .class_ 44), (1, u "java/util/Objects"), (0, u "requireNonNull"), (48, u "(Ljava/lang/Object;Ljava/lang/String;)Ljava/lang/Object;")] 89

def k10m0 : Method := { name := "<init>", desc := "()V", sig := { parameters := [], returnType := none }, accessFlags := 2, code := none }
def k10c1 : Code := { maxStack := 3, maxLocals := 2, code := jdk_31_method_11_code, exceptionTable := #[], attributes := #[] }
def k10m1 : Method := { name := "requireNonNull", desc := "(Ljava/lang/Object;Ljava/lang/String;)Ljava/lang/Object;", sig := { parameters := [(.object "java/lang/Object"), (.object "java/lang/String")], returnType := some (.object "java/lang/Object") }, accessFlags := 9, code := some k10c1 }
/-- java/util/Objects -/
def k10 : Class := { plain "java/util/Objects" (some 0) with
  accessFlags := 49
  interfaces := #[]
  cf := some (fileOf pool10 42 #[] #[{ accessFlags := 2, nameIndex := 5, descriptorIndex := 6, attributes := #[] }, { accessFlags := 9, nameIndex := 45, descriptorIndex := 94, attributes := #[] }] 49 2 #[] #[])
  fields := #[]
  methods := #[k10m0, k10m1]
  instanceTypes := #[]
  staticTypes := #[]
  resolved := Array.replicate 184 none
  statics := none }

def pool11 : Array CpInfo := pool [(4, .class_ 6), (1, u "java/lang/Object"), (0, u "<init>"), (0, u "()V"), (5, .class_ 16), (1, u "java/lang/StringLatin1"), (104, u "$assertionsDisabled"), (0, u "Z"), (98, .class_ 223), (1, u "java/lang/StringLatin1$LinesSpliterator"), (57, u "equals"), (0, u "([B[B)Z"), (107, .class_ 391), (0, u "java/lang/StringLatin1$CharsSpliterator")] 3

def k11m0 : Method := { name := "<init>", desc := "()V", sig := { parameters := [], returnType := none }, accessFlags := 0, code := none }
def k11c1 : Code := { maxStack := 3, maxLocals := 3, code := jdk_43_method_13_code, exceptionTable := #[], attributes := #[] }
def k11m1 : Method := { name := "equals", desc := "([B[B)Z", sig := { parameters := [(.array .byte), (.array .byte)], returnType := some .boolean }, accessFlags := 9, code := some k11c1 }
/-- java/lang/StringLatin1 -/
def k11 : Class := { plain "java/lang/StringLatin1" (some 0) with
  accessFlags := 48
  interfaces := #[]
  cf := some (fileOf pool11 14 #[.nestMembers #[390, 221]] #[{ accessFlags := 0, nameIndex := 7, descriptorIndex := 8, attributes := #[] }, { accessFlags := 9, nameIndex := 281, descriptorIndex := 282, attributes := #[] }] 48 4 #[] #[{ accessFlags := 4120, nameIndex := 121, descriptorIndex := 122, attributes := #[] }])
  fields := #[{ name := "$assertionsDisabled", type := .boolean, accessFlags := 4120, slot := 0, constantValue := 0 }]
  methods := #[k11m0, k11m1]
  instanceTypes := #[]
  staticTypes := #[.boolean]
  resolved := Array.replicate 395 none
  statics := none }

def pool12 : Array CpInfo := pool [(2, .class_ 4), (1, u "java/lang/Object"), (0, u "<init>"), (0, u "()V"), (17, .class_ 26), (1, u "jdk/internal/util/Preconditions"), (28, .class_ 56), (0, u "jdk/internal/util/Preconditions$4"), (57, .class_ 115), (0, u "jdk/internal/util/Preconditions$1"), (7, u "SIOOBE_FORMATTER"), (0, u "Ljava/util/function/BiFunction;"), (0, .class_ 126), (0, u "jdk/internal/util/Preconditions$2"), (3, u "AIOOBE_FORMATTER"), (0, .class_ 132), (0, u "jdk/internal/util/Preconditions$3"), (3, u "IOOBE_FORMATTER")] 57

def k12m0 : Method := { name := "<init>", desc := "()V", sig := { parameters := [], returnType := none }, accessFlags := 1, code := none }
/-- jdk/internal/util/Preconditions -/
def k12 : Class := { plain "jdk/internal/util/Preconditions" (some 0) with
  accessFlags := 33
  interfaces := #[]
  cf := some (fileOf pool12 24 #[.nestMembers #[55, 131, 125, 114]] #[{ accessFlags := 1, nameIndex := 5, descriptorIndex := 6, attributes := #[] }] 33 2 #[] #[{ accessFlags := 25, nameIndex := 123, descriptorIndex := 124, attributes := #[] }, { accessFlags := 25, nameIndex := 130, descriptorIndex := 124, attributes := #[] }, { accessFlags := 25, nameIndex := 136, descriptorIndex := 124, attributes := #[] }])
  fields := #[{ name := "SIOOBE_FORMATTER", type := (.object "java/util/function/BiFunction"), accessFlags := 25, slot := 0, constantValue := 0 }, { name := "AIOOBE_FORMATTER", type := (.object "java/util/function/BiFunction"), accessFlags := 25, slot := 1, constantValue := 0 }, { name := "IOOBE_FORMATTER", type := (.object "java/util/function/BiFunction"), accessFlags := 25, slot := 2, constantValue := 0 }]
  methods := #[k12m0]
  instanceTypes := #[]
  staticTypes := #[(.object "java/util/function/BiFunction"), (.object "java/util/function/BiFunction"), (.object "java/util/function/BiFunction")]
  resolved := Array.replicate 194 none
  statics := some 1 }

def pool13 : Array CpInfo := pool [(9, u "<init>"), (6, .class_ 18), (1, u "java/lang/Object"), (0, u "()V"), (1, .class_ 23), (1, u "jdk/internal/util/ArraysSupport"), (0, u "LOG2_ARRAY_LONG_INDEX_SCALE"), (0, u "I"), (2, u "U"), (0, u "Ljdk/internal/misc/Unsafe;"), (8, u "BIG_ENDIAN"), (0, u "Z"), (8, u "LOG2_BYTE_BIT_SIZE"), (4, u "LOG2_ARRAY_INT_INDEX_SCALE"), (54, u "JLA"), (0, u "Ljdk/internal/access/JavaLangAccess;"), (11, u "LOG2_ARRAY_BOOLEAN_INDEX_SCALE"), (9, u "LOG2_ARRAY_BYTE_INDEX_SCALE"), (5, u "LOG2_ARRAY_CHAR_INDEX_SCALE"), (5, u "LOG2_ARRAY_SHORT_INDEX_SCALE"), (18, u "LOG2_ARRAY_FLOAT_INDEX_SCALE"), (24, u "LOG2_ARRAY_DOUBLE_INDEX_SCALE"), (89, u "T_BOOLEAN"), (2, u "T_CHAR"), (1, u "T_FLOAT"), (1, u "T_DOUBLE"), (1, u "T_BYTE"), (1, u "T_SHORT"), (1, u "T_INT"), (1, u "T_LONG"), (1, u "SOFT_MAX_ARRAY_LENGTH")] 83

def k13m0 : Method := { name := "<init>", desc := "()V", sig := { parameters := [], returnType := none }, accessFlags := 2, code := none }
/-- jdk/internal/util/ArraysSupport -/
def k13 : Class := { plain "jdk/internal/util/ArraysSupport" (some 0) with
  accessFlags := 33
  interfaces := #[]
  cf := some (fileOf pool13 21 #[] #[{ accessFlags := 2, nameIndex := 9, descriptorIndex := 19, attributes := #[] }] 33 16 #[] #[{ accessFlags := 24, nameIndex := 28, descriptorIndex := 29, attributes := #[] }, { accessFlags := 26, nameIndex := 38, descriptorIndex := 39, attributes := #[] }, { accessFlags := 25, nameIndex := 121, descriptorIndex := 25, attributes := #[] }, { accessFlags := 25, nameIndex := 131, descriptorIndex := 25, attributes := #[] }, { accessFlags := 25, nameIndex := 137, descriptorIndex := 25, attributes := #[] }, { accessFlags := 25, nameIndex := 143, descriptorIndex := 25, attributes := #[] }, { accessFlags := 25, nameIndex := 53, descriptorIndex := 25, attributes := #[] }, { accessFlags := 25, nameIndex := 24, descriptorIndex := 25, attributes := #[] }, { accessFlags := 25, nameIndex := 162, descriptorIndex := 25, attributes := #[] }, { accessFlags := 25, nameIndex := 187, descriptorIndex := 25, attributes := #[] }, { accessFlags := 26, nameIndex := 48, descriptorIndex := 25, attributes := #[] }, { accessFlags := 25, nameIndex := 277, descriptorIndex := 25, attributes := #[] }, { accessFlags := 25, nameIndex := 280, descriptorIndex := 25, attributes := #[] }, { accessFlags := 25, nameIndex := 282, descriptorIndex := 25, attributes := #[] }, { accessFlags := 25, nameIndex := 284, descriptorIndex := 25, attributes := #[] }, { accessFlags := 25, nameIndex := 286, descriptorIndex := 25, attributes := #[] }, { accessFlags := 25, nameIndex := 288, descriptorIndex := 25, attributes := #[] }, { accessFlags := 25, nameIndex := 290, descriptorIndex := 25, attributes := #[] }, { accessFlags := 25, nameIndex := 292, descriptorIndex := 25, attributes := #[] }, { accessFlags := 26, nameIndex := 108, descriptorIndex := 109, attributes := #[] }, { accessFlags := 25, nameIndex := 294, descriptorIndex := 25, attributes := #[] }])
  fields := #[{ name := "U", type := (.object "jdk/internal/misc/Unsafe"), accessFlags := 24, slot := 0, constantValue := 0 }, { name := "BIG_ENDIAN", type := .boolean, accessFlags := 26, slot := 1, constantValue := 0 }, { name := "LOG2_ARRAY_BOOLEAN_INDEX_SCALE", type := .int, accessFlags := 25, slot := 2, constantValue := 0 }, { name := "LOG2_ARRAY_BYTE_INDEX_SCALE", type := .int, accessFlags := 25, slot := 3, constantValue := 0 }, { name := "LOG2_ARRAY_CHAR_INDEX_SCALE", type := .int, accessFlags := 25, slot := 4, constantValue := 0 }, { name := "LOG2_ARRAY_SHORT_INDEX_SCALE", type := .int, accessFlags := 25, slot := 5, constantValue := 0 }, { name := "LOG2_ARRAY_INT_INDEX_SCALE", type := .int, accessFlags := 25, slot := 6, constantValue := 0 }, { name := "LOG2_ARRAY_LONG_INDEX_SCALE", type := .int, accessFlags := 25, slot := 7, constantValue := 0 }, { name := "LOG2_ARRAY_FLOAT_INDEX_SCALE", type := .int, accessFlags := 25, slot := 8, constantValue := 0 }, { name := "LOG2_ARRAY_DOUBLE_INDEX_SCALE", type := .int, accessFlags := 25, slot := 9, constantValue := 0 }, { name := "LOG2_BYTE_BIT_SIZE", type := .int, accessFlags := 26, slot := 10, constantValue := 0 }, { name := "T_BOOLEAN", type := .int, accessFlags := 25, slot := 11, constantValue := 0 }, { name := "T_CHAR", type := .int, accessFlags := 25, slot := 12, constantValue := 0 }, { name := "T_FLOAT", type := .int, accessFlags := 25, slot := 13, constantValue := 0 }, { name := "T_DOUBLE", type := .int, accessFlags := 25, slot := 14, constantValue := 0 }, { name := "T_BYTE", type := .int, accessFlags := 25, slot := 15, constantValue := 0 }, { name := "T_SHORT", type := .int, accessFlags := 25, slot := 16, constantValue := 0 }, { name := "T_INT", type := .int, accessFlags := 25, slot := 17, constantValue := 0 }, { name := "T_LONG", type := .int, accessFlags := 25, slot := 18, constantValue := 0 }, { name := "JLA", type := (.object "jdk/internal/access/JavaLangAccess"), accessFlags := 26, slot := 19, constantValue := 0 }, { name := "SOFT_MAX_ARRAY_LENGTH", type := .int, accessFlags := 25, slot := 20, constantValue := 0 }]
  methods := #[k13m0]
  instanceTypes := #[]
  staticTypes := #[(.object "jdk/internal/misc/Unsafe"), .boolean, .int, .int, .int, .int, .int, .int, .int, .int, .int, .int, .int, .int, .int, .int, .int, .int, .int, (.object "jdk/internal/access/JavaLangAccess"), .int]
  resolved := Array.replicate 378 none
  statics := none }

def pool14 : Array CpInfo := pool [(1, u "java/lang/Cloneable"), (0, .class_ 1), (0, u "java/lang/Object"), (0, .class_ 3)] 3

/-- java/lang/Cloneable -/
def k14 : Class := { plain "java/lang/Cloneable" (some 0) with
  accessFlags := 1537
  interfaces := #[]
  cf := some (fileOf pool14 2 #[] #[] 1537 4 #[] #[])
  fields := #[]
  methods := #[]
  instanceTypes := #[]
  staticTypes := #[]
  resolved := Array.replicate 8 none
  statics := none }

/-- the primitive byte -/
def k15 : Class := { plain "byte" none with kind := .primitive 'B', accessFlags := 0x411 }
/-- [B -/
def k16 : Class := { plain "[B" (some 0) with kind := .array 15 .byte, interfaces := #[14, 3], accessFlags := 1041 }

/-- the primitive char -/
def k17 : Class := { plain "char" none with kind := .primitive 'C', accessFlags := 0x411 }
/-- [C -/
def k18 : Class := { plain "[C" (some 0) with kind := .array 17 .char, interfaces := #[14, 3], accessFlags := 1041 }

/-- the primitive int -/
def k19 : Class := { plain "int" none with kind := .primitive 'I', accessFlags := 0x411 }
/-- [I -/
def k20 : Class := { plain "[I" (some 0) with kind := .array 19 .int, interfaces := #[14, 3], accessFlags := 1041 }

def heap : Heap := #[{ cls := 8, slots := #[.long 0, .int 1, .null, .int 0, .null, .int 0, .int 0], vm := .statics 8 },
  { cls := 12, slots := #[.null, .null, .null], vm := .statics 12 }]
def classes : Array Class := #[k0, k1, k2, k3, k4, k5, k6, k7, k8, k9, k10, k11, k12, k13, k14, k15, k16, k17, k18, k19, k20]
def interned : List (Array UInt16 × Addr) := []
def slotsUsed : Nat := 10
def theMethod : MethodId := ⟨1, 3⟩
def args0 : Array Value := #[.int 3, .int 4, .int 5, .int 6, .int 7, .int 8]
def aboutOver (below : List Frame) : State where
  vm := { classes := classes, interned := interned.toArray }
  heap := heap
  slotsUsed := slotsUsed
  threads := #[{ frames := .invoking theMethod args0 :: below }]
def below0 : List Frame := [.native { method := ⟨0, 0⟩, args := #[] }]
def about1 : State := aboutOver below0
def p0 : Program := .bare "" "" ""
def e0 : Env := launch0.env 0 0 0
theorem w_frames : about1.frames = Frame.invoking theMethod args0 :: below0 := rfl
set_option maxRecDepth 65536 in
theorem w_args : argsFit about1.vm theMethod args0 = true := by decide +kernel
set_option maxRecDepth 65536 in
theorem w_heap : heapFits about1 = true := by decide +kernel
set_option maxRecDepth 65536 in
theorem w_runnable : about1.curStatus? = some .runnable := by decide +kernel
set_option maxRecDepth 65536 in
theorem w_alone : about1.alone = true := by decide +kernel
set_option maxRecDepth 65536 in
theorem w_named : about1.methodNamed? x = some theMethod := by decide +kernel
set_option maxRecDepth 65536 in
theorem w_hears : about1.hears theMethod below0 = true := by decide +kernel
set_option maxRecDepth 65536 in
theorem w_ripe : about1.ripe theMethod args0 below0 = true := by decide +kernel
theorem w_running : about1.status = .running := rfl
set_option maxRecDepth 65536 in
theorem w_room : about1.hasRoom e0.platform room_1 = true :=
  launch0.hasRoom_least _ room_1 (by decide +kernel) (by decide +kernel) (by decide +kernel) (by decide +kernel) (by decide +kernel) (by decide +kernel)
theorem allAtoms_all (ts : List Jvm.Cond) (a : Array Jvm.Value) (st : Jvm.State) : (allAtoms ts).before a st = ts.all (fun c => c.before a st) := by
  induction ts with
  | nil => rfl
  | cons c t ih =>
    show (Jvm.Cond.and c (allAtoms t)).before a st = _
    rw [Jvm.Cond.before_and, ih, List.all_cons]
def words1 : List Jvm.Cond := Jvm.Cond.code x code maxLocals ret :: tables_1
/-- a 'code' word, met by the world's own term for the bytes: nothing is compared byte by byte -/
theorem code_word {y : MethodName} {bytes : ByteArray} {mx : Nat} {rt : Option FieldType} {a : Array Value} {s : State} {m : MethodId} {meth : Method} {c : Code} (h1 : s.methodNamed? y = some m) (h2 : s.vm.method? m = some meth) (h3 : meth.code = some c) (h4 : c.code = bytes)
    (h5 : (c.maxLocals == mx && c.exceptionTable.isEmpty && decide (c.maxStack ≤ mostOperands) && decide (meth.sig.returnType = rt) && !meth.locks && decide (parseMethodDescriptor y.desc = some meth.sig)) = true) : (Jvm.Cond.code y bytes mx rt).before a s = true := by
  simp only [Bool.and_eq_true, beq_iff_eq, Bool.not_eq_true', decide_eq_true_eq] at h5
  obtain ⟨⟨⟨⟨⟨g1, g2⟩, g3⟩, g4⟩, g5⟩, g6⟩ := h5
  simp [Cond.before, Cond.holds, Cond.value, h1, h2, h3, h4, g1, g2, g3, g4, g5, g6]
def isCode : Jvm.Cond → Bool
  | .code _ _ _ _ => true
  | _ => false
theorem all_split {L : List Jvm.Cond} {P : Jvm.Cond → Bool} (h1 : L.all (fun c => isCode c || P c) = true) (h2 : ∀ c ∈ L.filter isCode, P c = true) : L.all P = true := by
  refine List.all_eq_true.mpr fun c hc => ?_
  have h := List.all_eq_true.mp h1 c hc
  rcases Bool.eq_false_or_eq_true (isCode c) with hi | hi
  · exact h2 c (List.mem_filter.mpr ⟨hc, hi⟩)
  · simpa [hi] using h
set_option maxRecDepth 65536 in
theorem w_c0 : (Jvm.Cond.code x code maxLocals ret).before args0 about1 = true := code_word (m := ⟨1, 3⟩) (meth := k1m3) (c := k1c3) (by decide +kernel) rfl rfl rfl (by decide +kernel)
set_option maxRecDepth 65536 in
theorem w_c1 : (Jvm.Cond.code ({ cls := "com/example/ratification/ratification/model/TripleEqualsPinLaw", name := "mk", desc := "(I)Ljava/lang/String;" } : Jvm.MethodName) method_2_code (6 : Nat) (Option.some (Jvm.ClassFile.FieldType.object "java/lang/String"))).before args0 about1 = true := code_word (m := ⟨1, 1⟩) (meth := k1m1) (c := k1c1) (by decide +kernel) rfl rfl rfl (by decide +kernel)
set_option maxRecDepth 65536 in
theorem w_c2 : (Jvm.Cond.code ({ cls := "java/lang/String", name := "<init>", desc := "([C)V" } : Jvm.MethodName) jdk_42_method_3_code (2 : Nat) (Option.none : Option Jvm.ClassFile.FieldType)).before args0 about1 = true := code_word (m := ⟨8, 1⟩) (meth := k8m1) (c := k8c1) (by decide +kernel) rfl rfl rfl (by decide +kernel)
set_option maxRecDepth 65536 in
theorem w_c3 : (Jvm.Cond.code ({ cls := "java/lang/String", name := "<init>", desc := "([CIILjava/lang/Void;)V" } : Jvm.MethodName) jdk_42_method_149_code (6 : Nat) (Option.none : Option Jvm.ClassFile.FieldType)).before args0 about1 = true := code_word (m := ⟨8, 3⟩) (meth := k8m3) (c := k8c3) (by decide +kernel) rfl rfl rfl (by decide +kernel)
set_option maxRecDepth 65536 in
theorem w_c4 : (Jvm.Cond.code ({ cls := "java/lang/Object", name := "<init>", desc := "()V" } : Jvm.MethodName) object_method_1_code (1 : Nat) (Option.none : Option Jvm.ClassFile.FieldType)).before args0 about1 = true := code_word (m := ⟨0, 0⟩) (meth := k0m0) (c := k0c0) (by decide +kernel) rfl rfl rfl (by decide +kernel)
set_option maxRecDepth 65536 in
theorem w_c5 : (Jvm.Cond.code ({ cls := "java/lang/StringUTF16", name := "compress", desc := "([CII)[B" } : Jvm.MethodName) jdk_52_method_16_code (6 : Nat) (Option.some (Jvm.ClassFile.FieldType.array Jvm.ClassFile.FieldType.byte))).before args0 about1 = true := code_word (m := ⟨9, 2⟩) (meth := k9m2) (c := k9c2) (by decide +kernel) rfl rfl rfl (by decide +kernel)
set_option maxRecDepth 65536 in
theorem w_c6 : (Jvm.Cond.code ({ cls := "java/lang/StringUTF16", name := "compress", desc := "([CI[BII)I" } : Jvm.MethodName) jdk_52_method_21_code (7 : Nat) (Option.some Jvm.ClassFile.FieldType.int)).before args0 about1 = true := code_word (m := ⟨9, 3⟩) (meth := k9m3) (c := k9c3) (by decide +kernel) rfl rfl rfl (by decide +kernel)
set_option maxRecDepth 65536 in
theorem w_c7 : (Jvm.Cond.code ({ cls := "java/lang/StringUTF16", name := "coderFromArrayLen", desc := "([BI)B" } : Jvm.MethodName) jdk_52_method_15_code (2 : Nat) (Option.some Jvm.ClassFile.FieldType.byte)).before args0 about1 = true := code_word (m := ⟨9, 1⟩) (meth := k9m1) (c := k9c1) (by decide +kernel) rfl rfl rfl (by decide +kernel)
set_option maxRecDepth 65536 in
theorem w_c8 : (Jvm.Cond.code ({ cls := "com/example/ratification/ratification/model/Triple", name := "<init>", desc := "(Ljava/lang/String;Ljava/lang/String;Ljava/lang/String;)V" } : Jvm.MethodName) prog_68_method_1_code (4 : Nat) (Option.none : Option Jvm.ClassFile.FieldType)).before args0 about1 = true := code_word (m := ⟨2, 0⟩) (meth := k2m0) (c := k2c0) (by decide +kernel) rfl rfl rfl (by decide +kernel)
set_option maxRecDepth 65536 in
theorem w_c9 : (Jvm.Cond.code ({ cls := "java/util/Objects", name := "requireNonNull", desc := "(Ljava/lang/Object;Ljava/lang/String;)Ljava/lang/Object;" } : Jvm.MethodName) jdk_31_method_11_code (2 : Nat) (Option.some (Jvm.ClassFile.FieldType.object "java/lang/Object"))).before args0 about1 = true := code_word (m := ⟨10, 1⟩) (meth := k10m1) (c := k10c1) (by decide +kernel) rfl rfl rfl (by decide +kernel)
set_option maxRecDepth 65536 in
theorem w_c10 : (Jvm.Cond.code ({ cls := "com/example/ratification/ratification/model/TripleEqualsPinLaw", name := "same", desc := "(II)Z" } : Jvm.MethodName) method_3_code (3 : Nat) (Option.some Jvm.ClassFile.FieldType.boolean)).before args0 about1 = true := code_word (m := ⟨1, 2⟩) (meth := k1m2) (c := k1c2) (by decide +kernel) rfl rfl rfl (by decide +kernel)
set_option maxRecDepth 65536 in
theorem w_c11 : (Jvm.Cond.code ({ cls := "com/example/ratification/ratification/model/Triple", name := "equals", desc := "(Ljava/lang/Object;)Z" } : Jvm.MethodName) prog_68_method_5_code (2 : Nat) (Option.some Jvm.ClassFile.FieldType.boolean)).before args0 about1 = true := code_word (m := ⟨2, 1⟩) (meth := k2m1) (c := k2c1) (by decide +kernel) rfl rfl rfl (by decide +kernel)
set_option maxRecDepth 65536 in
theorem w_c12 : (Jvm.Cond.code ({ cls := "java/lang/String", name := "equals", desc := "(Ljava/lang/Object;)Z" } : Jvm.MethodName) jdk_42_method_66_code (3 : Nat) (Option.some Jvm.ClassFile.FieldType.boolean)).before args0 about1 = true := code_word (m := ⟨8, 2⟩) (meth := k8m2) (c := k8c2) (by decide +kernel) rfl rfl rfl (by decide +kernel)
set_option maxRecDepth 65536 in
theorem w_c13 : (Jvm.Cond.code ({ cls := "java/lang/StringLatin1", name := "equals", desc := "([B[B)Z" } : Jvm.MethodName) jdk_43_method_13_code (3 : Nat) (Option.some Jvm.ClassFile.FieldType.boolean)).before args0 about1 = true := code_word (m := ⟨11, 1⟩) (meth := k11m1) (c := k11c1) (by decide +kernel) rfl rfl rfl (by decide +kernel)
def codes1 : List Jvm.Cond := [Jvm.Cond.code x code maxLocals ret, Jvm.Cond.code ({ cls := "com/example/ratification/ratification/model/TripleEqualsPinLaw", name := "mk", desc := "(I)Ljava/lang/String;" } : Jvm.MethodName) method_2_code (6 : Nat) (Option.some (Jvm.ClassFile.FieldType.object "java/lang/String")), Jvm.Cond.code ({ cls := "java/lang/String", name := "<init>", desc := "([C)V" } : Jvm.MethodName) jdk_42_method_3_code (2 : Nat) (Option.none : Option Jvm.ClassFile.FieldType), Jvm.Cond.code ({ cls := "java/lang/String", name := "<init>", desc := "([CIILjava/lang/Void;)V" } : Jvm.MethodName) jdk_42_method_149_code (6 : Nat) (Option.none : Option Jvm.ClassFile.FieldType), Jvm.Cond.code ({ cls := "java/lang/Object", name := "<init>", desc := "()V" } : Jvm.MethodName) object_method_1_code (1 : Nat) (Option.none : Option Jvm.ClassFile.FieldType), Jvm.Cond.code ({ cls := "java/lang/StringUTF16", name := "compress", desc := "([CII)[B" } : Jvm.MethodName) jdk_52_method_16_code (6 : Nat) (Option.some (Jvm.ClassFile.FieldType.array Jvm.ClassFile.FieldType.byte)), Jvm.Cond.code ({ cls := "java/lang/StringUTF16", name := "compress", desc := "([CI[BII)I" } : Jvm.MethodName) jdk_52_method_21_code (7 : Nat) (Option.some Jvm.ClassFile.FieldType.int), Jvm.Cond.code ({ cls := "java/lang/StringUTF16", name := "coderFromArrayLen", desc := "([BI)B" } : Jvm.MethodName) jdk_52_method_15_code (2 : Nat) (Option.some Jvm.ClassFile.FieldType.byte), Jvm.Cond.code ({ cls := "com/example/ratification/ratification/model/Triple", name := "<init>", desc := "(Ljava/lang/String;Ljava/lang/String;Ljava/lang/String;)V" } : Jvm.MethodName) prog_68_method_1_code (4 : Nat) (Option.none : Option Jvm.ClassFile.FieldType), Jvm.Cond.code ({ cls := "java/util/Objects", name := "requireNonNull", desc := "(Ljava/lang/Object;Ljava/lang/String;)Ljava/lang/Object;" } : Jvm.MethodName) jdk_31_method_11_code (2 : Nat) (Option.some (Jvm.ClassFile.FieldType.object "java/lang/Object")), Jvm.Cond.code ({ cls := "com/example/ratification/ratification/model/TripleEqualsPinLaw", name := "same", desc := "(II)Z" } : Jvm.MethodName) method_3_code (3 : Nat) (Option.some Jvm.ClassFile.FieldType.boolean), Jvm.Cond.code ({ cls := "com/example/ratification/ratification/model/Triple", name := "equals", desc := "(Ljava/lang/Object;)Z" } : Jvm.MethodName) prog_68_method_5_code (2 : Nat) (Option.some Jvm.ClassFile.FieldType.boolean), Jvm.Cond.code ({ cls := "java/lang/String", name := "equals", desc := "(Ljava/lang/Object;)Z" } : Jvm.MethodName) jdk_42_method_66_code (3 : Nat) (Option.some Jvm.ClassFile.FieldType.boolean), Jvm.Cond.code ({ cls := "java/lang/StringLatin1", name := "equals", desc := "([B[B)Z" } : Jvm.MethodName) jdk_43_method_13_code (3 : Nat) (Option.some Jvm.ClassFile.FieldType.boolean)]
set_option maxRecDepth 65536 in
theorem codes_eq : words1.filter isCode = codes1 := rfl
theorem w_codes : ∀ c ∈ words1.filter isCode, c.before args0 about1 = true := by
  rw [codes_eq]
  intro c hc
  simp only [codes1, List.mem_cons, List.not_mem_nil, or_false] at hc
  rcases hc with rfl | rfl | rfl | rfl | rfl | rfl | rfl | rfl | rfl | rfl | rfl | rfl | rfl | rfl
  · exact w_c0
  · exact w_c1
  · exact w_c2
  · exact w_c3
  · exact w_c4
  · exact w_c5
  · exact w_c6
  · exact w_c7
  · exact w_c8
  · exact w_c9
  · exact w_c10
  · exact w_c11
  · exact w_c12
  · exact w_c13
set_option maxRecDepth 65536 in
theorem w_t1 : (words1.take 24).all (fun c => isCode c || c.before args0 about1) = true := by decide +kernel
set_option maxRecDepth 65536 in
theorem w_t2 : ((words1.drop 24).take 24).all (fun c => isCode c || c.before args0 about1) = true := by decide +kernel
set_option maxRecDepth 65536 in
theorem w_t3 : (((words1.drop 24).drop 24).take 24).all (fun c => isCode c || c.before args0 about1) = true := by decide +kernel
set_option maxRecDepth 65536 in
theorem w_t4 : (((words1.drop 24).drop 24).drop 24).all (fun c => isCode c || c.before args0 about1) = true := by decide +kernel
theorem w_tables : (allAtoms (Jvm.Cond.code x code maxLocals ret :: tables_1)).before args0 about1 = true := by
  rw [allAtoms_all]
  show words1.all (fun c => c.before args0 about1) = true
  refine all_split ?_ w_codes
  rw [← List.take_append_drop 24 words1, List.all_append, w_t1, ← List.take_append_drop 24 (words1.drop 24), List.all_append, w_t2, ← List.take_append_drop 24 ((words1.drop 24).drop 24), List.all_append, w_t3, w_t4]
  rfl
set_option maxRecDepth 65536 in
theorem w_rest : rest_1_c.before args0 about1 = true := by decide +kernel
set_option maxRecDepth 65536 in
theorem w_case : (Jvm.Cond.and given_1 narrow_1).before args0 about1 = true := by decide +kernel
set_option maxRecDepth 65536 in
theorem w_consts : constsHeld consts_1 about1 := Jvm.Lit.constsHeldB_iff.mp (by decide +kernel)
theorem w_applies : (headSpec (Jvm.Cond.code x code maxLocals ret :: tables_1) room_1).applies x e0.platform about1 = true :=
  (Spec.applies_iff w_frames).mpr ⟨w_running, w_runnable, w_alone, w_named, w_hears, w_ripe, w_room, w_tables⟩
theorem atStart : AtStart classFile x code maxLocals ret World_1 tables_1 room_1 Calls_1 rest_1 Pre_1 launch0 p0 e0 about1 theMethod args0 below0 :=
  ⟨lists_1, trivial, launch0.admits_env _ _ _, launch0.least_env, fairChoices_fair.cas, fairChoices_fair.clock, w_frames, w_args, w_heap, w_applies, ⟨w_consts, trivial⟩, w_rest, w_case⟩
end start1
theorem witness_1 : WitnessClaimed_1 := ⟨start1.p0, start1.e0, start1.about1, start1.theMethod, start1.args0, start1.below0, start1.atStart⟩
end Jvm.Pilot.@@N@@
