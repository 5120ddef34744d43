import JvmDerived
import JvmDerived.Pilot.@@N@@Statement
import JvmDerived.Pilot.@@N@@Code
set_option linter.unusedVariables false
set_option linter.unusedSimpArgs false
/- laws to paste: Road.backV, Road.eqW (cut by pick.py; bodies as the Statement names them) -/
namespace Jvm.Pilot.@@N@@
namespace StrChars
open Jvm Sem ClassFile Op Lib Jvm.Stand Jvm.Free.XT Jvm.Free.ALB Jvm.Free.JM Jvm.Free
open Jvm.Lib.Cold (StaticIs)
/-- a char array whose places are chars -/
def Ch (a : Addr) (A : Cell) (U : State) : Prop := Arr .char a A U ∧ Typed .char A
theorem Ch.mv {a : Addr} {A : Cell} {U U' : State} (h : Ch a A U) (hal : U.vm.Alike U'.vm) (hh : U'.heap = U.heap) : Ch a A U' := ⟨h.1.mv hal hh, h.2⟩
theorem Ch.keep {a : Addr} {A : Cell} {U U' : State} (h : Ch a A U) (hal : U.vm.Alike U'.vm) (hk : U'.heap[a]? = some A) : Ch a A U' := ⟨h.1.keep hal hk, h.2⟩
/-- what place i of a char[]'s cell holds -/
def cv (A : Cell) (i : Nat) : Int32 := match A.slots[i]? with | some (.int x) => x | _ => 0
theorem Ch.get {a : Addr} {A : Cell} {U : State} (h : Ch a A U) {i : Nat} (hi : i < A.slots.size) : A.slots[i]? = some (.int (cv A i)) := by
  have e := Array.getElem?_eq_getElem hi
  have f := h.2 i _ e
  unfold cv; rw [e]
  generalize A.slots[i] = v at f
  cases v <;> simp [fits] at f ⊢
/-- the byte that i2b leaves of a char -/
def lo8 (x : Int32) : Int32 := x.toInt8.toInt32
theorem fits_lo8 (y : Int32) : fits .byte (.int (lo8 y)) = true := by
  have h1 := y.toInt8.le_toInt
  have h2 := y.toInt8.toInt_lt
  simp only [lo8, fits, Bool.and_eq_true, decide_eq_true_eq, Int32.le_iff_toInt_le, Int8.toInt_toInt32, show (-128 : Int32).toInt = -128 from by decide, show (127 : Int32).toInt = 127 from by decide]
  omega
/-- A' is A but that each place j of lo .. hi - 1 holds f j -/
def Laid (A A' : Cell) (lo hi : Nat) (f : Nat → Value) : Prop := A'.cls = A.cls ∧ A'.vm = A.vm ∧ A'.slots.size = A.slots.size ∧ ∀ i, A'.slots[i]? = if lo ≤ i ∧ i < hi then some (f i) else A.slots[i]?
theorem Laid.zero (A : Cell) (lo : Nat) (f : Nat → Value) : Laid A A lo (lo + 0) f := ⟨rfl, rfl, rfl, fun i => by rw [if_neg (by omega)]⟩
theorem Laid.step {A Ak : Cell} {lo k : Nat} {f : Nat → Value} {v : Value} (h : Laid A Ak lo k f) (hlo : lo ≤ k) (hk : k < Ak.slots.size) (hv : v = f k) : Laid A (Ak.setSlot k v) lo (k + 1) f := by
  refine ⟨h.1, h.2.1, by simpa [Cell.setSlot] using h.2.2.1, fun i => ?_⟩
  by_cases e : k = i
  · subst e; rw [Cell.slots_setSlot_self v hk, if_pos (by omega), hv]
  · rw [Cell.slots_setSlot_ne v e, h.2.2.2 i]
    by_cases q : lo ≤ i ∧ i < k
    · rw [if_pos q, if_pos (by omega)]
    · rw [if_neg q, if_neg (by omega)]
def U16 : String := "java/lang/StringUTF16"
namespace Cmp5
def yN : MethodName := ⟨"java/lang/StringUTF16", "compress", "([CI[BII)I"⟩
abbrev yB : ByteArray := jdk_52_method_21_code
theorem d0 : decode yB 0 = .ok (.iconst 0, 1) := by decide +kernel
theorem d1 : decode yB 1 = .ok (.istore 5, 2) := by decide +kernel
theorem d3 : decode yB 3 = .ok (.iload 5, 2) := by decide +kernel
theorem d5 : decode yB 5 = .ok (.iload 4, 2) := by decide +kernel
theorem d7 : decode yB 7 = .ok (.if_icmp (.ge) 37, 3) := by decide +kernel
theorem d10 : decode yB 10 = .ok (.aload_n 0, 1) := by decide +kernel
theorem d11 : decode yB 11 = .ok (.iload_n 1, 1) := by decide +kernel
theorem d12 : decode yB 12 = .ok (.caload, 1) := by decide +kernel
theorem d13 : decode yB 13 = .ok (.istore 6, 2) := by decide +kernel
theorem d15 : decode yB 15 = .ok (.iload 6, 2) := by decide +kernel
theorem d17 : decode yB 17 = .ok (.sipush 255, 3) := by decide +kernel
theorem d20 : decode yB 20 = .ok (.if_icmp (.le) 6, 3) := by decide +kernel
theorem d26 : decode yB 26 = .ok (.aload_n 2, 1) := by decide +kernel
theorem d27 : decode yB 27 = .ok (.iload_n 3, 1) := by decide +kernel
theorem d28 : decode yB 28 = .ok (.iload 6, 2) := by decide +kernel
theorem d30 : decode yB 30 = .ok (.i2b, 1) := by decide +kernel
theorem d31 : decode yB 31 = .ok (.bastore, 1) := by decide +kernel
theorem d32 : decode yB 32 = .ok (.iinc 1 1, 3) := by decide +kernel
theorem d35 : decode yB 35 = .ok (.iinc 3 1, 3) := by decide +kernel
theorem d38 : decode yB 38 = .ok (.iinc 5 1, 3) := by decide +kernel
theorem d41 : decode yB 41 = .ok (.goto (-38), 3) := by decide +kernel
theorem d44 : decode yB 44 = .ok (.iload 4, 2) := by decide +kernel
theorem d46 : decode yB 46 = .ok (.ireturn, 1) := by decide +kernel
def site : List Cond := []
def tab : Cond := tabOf yN yB 7 (some .int) site
def P (b : Addr) (A : Cell) (d : Addr) (B : Cell) (o q len : Nat) (args : Array Value) (s : State) : Prop := args = #[.ref b, .int (Int32.ofNat o), .ref d, .int (Int32.ofNat q), .int (Int32.ofNat len)] ∧ Ch b A s ∧ Arr .byte d B s ∧ b ≠ d ∧ o + len ≤ A.slots.size ∧ q + len ≤ B.slots.size ∧ ∀ i, i < len → ¬ 255 < cv A (o + i)
def E (b : Addr) (A : Cell) (d : Addr) (B : Cell) (o q len : Nat) (r : Option Value) (s u : State) : Prop := r = some (.int (Int32.ofNat len)) ∧ ∃ B', Put d B' s u ∧ Laid B B' q (q + len) (fun j => Value.int (lo8 (cv A (o + (j - q)))))
/-- no char of the range above 255: len; the places written hold each char's low byte -/
theorem law (l : Launch) (b : Addr) (A : Cell) (d : Addr) (B : Cell) (o q len : Nat) : Law l yN 5 5 0 0 yB 7 (some .int) site (P b A d B o q len) (E b A d B o q len) (copyLocs d q len) 0 0 := by
  refine Law.of_walk (plainFor_of_name (by decide +kernel)) (by decide +kernel) (by decide +kernel) (by decide) (fun _ _ h => by rw [h.1]; rfl) (fun _ U U' hal hh h => ⟨h.1, h.2.1.mv hal hh, h.2.2.1.mv hal hh, h.2.2.2⟩) (fun r U U' V V' h1 hal h2 h => ⟨h.1, h.2.elim fun B' q => ⟨B', q.1.mv h1 h2, q.2⟩⟩) ?_
  intro p e s m args below meth c s₁ X0 hexec hbytes hml hret hlk hnm hown hh0 W hP
  obtain ⟨rfl, hA, hB, hne, l1, l2, hp⟩ := hP
  have c1 : Steps p.tables e below (s₁.setTop (entryFrame m #[.ref b, .int (Int32.ofNat o), .ref d, .int (Int32.ofNat q), .int (Int32.ofNat len)] 7)) (s₁.setTop (mkF m 0 #[.val (.ref b), .val (.int (Int32.ofNat o)), .val (.ref d), .val (.int (Int32.ofNat q)), .val (.int (Int32.ofNat len)), .unset, .unset] [])) := entry rfl
  have hA0 := hA.1.mv X0.warmed.alike hh0
  have hB0 := hB.mv X0.warmed.alike hh0
  have a31 := hA.1.2.2.2
  have c2 : Steps p.tables e below (s₁.setTop (entryFrame m #[.ref b, .int (Int32.ofNat o), .ref d, .int (Int32.ofNat q), .int (Int32.ofNat len)] 7)) (s₁.setTop (mkF m 3 #[.val (.ref b), .val (.int (Int32.ofNat o)), .val (.ref d), .val (.int (Int32.ofNat q)), .val (.int (Int32.ofNat len)), .val (.int 0), .unset] [])) := c1.trans (by
    refine iconstV X0.here hexec rfl 0 (hb hbytes d0) (by decide) ?_
    refine XS.istore X0.here hexec rfl (hb hbytes d1) rfl rfl ?_
    exact Steps.refl _)
  have loop : ∀ (r i : Nat), i + r = len → ∀ (z : Slot), (z = .unset ∨ ∃ w, z = .val w ∧ w.category = 1) → ∀ (Tl : State) (Bk : Cell), Stand p l e { frames := 0, locals := 0, cells := 0, slots := 0 } s m #[.ref b, .int (Int32.ofNat o), .ref d, .int (Int32.ofNat q), .int (Int32.ofNat len)] below meth c Tl ([] ++ copyLocs d q i) 0 0 → Put d Bk s₁ Tl → Laid B Bk q (q + i) (fun j => Value.int (lo8 (cv A (o + (j - q))))) →
      Steps p.tables e below (s₁.setTop (entryFrame m #[.ref b, .int (Int32.ofNat o), .ref d, .int (Int32.ofNat q), .int (Int32.ofNat len)] 7)) (Tl.setTop (mkF m 3 #[.val (.ref b), .val (.int (Int32.ofNat (o + i))), .val (.ref d), .val (.int (Int32.ofNat (q + i))), .val (.int (Int32.ofNat len)), .val (.int (Int32.ofNat i)), z] [])) → ∃ (T' : State) (B' : Cell) (z' : Slot), Stand p l e { frames := 0, locals := 0, cells := 0, slots := 0 } s m #[.ref b, .int (Int32.ofNat o), .ref d, .int (Int32.ofNat q), .int (Int32.ofNat len)] below meth c T' ([] ++ copyLocs d q len) 0 0 ∧ Put d B' s₁ T' ∧ Laid B B' q (q + len) (fun j => Value.int (lo8 (cv A (o + (j - q))))) ∧
      Steps p.tables e below (s₁.setTop (entryFrame m #[.ref b, .int (Int32.ofNat o), .ref d, .int (Int32.ofNat q), .int (Int32.ofNat len)] 7)) (T'.setTop (mkF m 3 #[.val (.ref b), .val (.int (Int32.ofNat (o + len))), .val (.ref d), .val (.int (Int32.ofNat (q + len))), .val (.int (Int32.ofNat len)), .val (.int (Int32.ofNat len)), z'] [])) := by
    intro r
    induction r with
    | zero =>
      intro i hi z hz Tl Bk Xl pl fl cl
      have hil : i = len := by omega
      rw [hil] at Xl fl cl
      exact ⟨Tl, Bk, z, Xl, pl, fl, cl⟩
    | succ r ih =>
      intro i hi z hz Tl Bk Xl pl fl cl
      have all := X0.warmed.alike.symm.trans Xl.warmed.alike
      have hAl := hA0.keep all (pl.other hne hA0.1)
      have hBk := hB0.like all pl.1 fl.1 fl.2.1 fl.2.2.1
      have hlt : q + i < Bk.slots.size := by rw [fl.2.2.1]; omega
      have c3 : Steps p.tables e below (s₁.setTop (entryFrame m #[.ref b, .int (Int32.ofNat o), .ref d, .int (Int32.ofNat q), .int (Int32.ofNat len)] 7)) (Tl.setTop (mkF m 12 #[.val (.ref b), .val (.int (Int32.ofNat (o + i))), .val (.ref d), .val (.int (Int32.ofNat (q + i))), .val (.int (Int32.ofNat len)), .val (.int (Int32.ofNat i)), z] [.int (Int32.ofNat (o + i)), .ref b])) := cl.trans (by
        refine XS.iload Xl.here hexec rfl (hb hbytes d3) rfl ?_
        refine XS.iload Xl.here hexec rfl (hb hbytes d5) rfl ?_
        refine XS.icmpNo Xl.here hexec rfl (hb hbytes d7) rfl (ii_ge_f (lt32 (by omega) (by omega))) ?_
        refine XS.aloadN Xl.here hexec rfl (hb hbytes d10) rfl rfl ?_
        refine XS.iloadN Xl.here hexec rfl (hb hbytes d11) rfl ?_
        exact Steps.refl _)
      have c4 : Steps p.tables e below (s₁.setTop (entryFrame m #[.ref b, .int (Int32.ofNat o), .ref d, .int (Int32.ofNat q), .int (Int32.ofNat len)] 7)) (Tl.setTop (mkF m 13 #[.val (.ref b), .val (.int (Int32.ofNat (o + i))), .val (.ref d), .val (.int (Int32.ofNat (q + i))), .val (.int (Int32.ofNat len)), .val (.int (Int32.ofNat i)), z] [.int (cv A (o + i))])) := c3.trans (by
        refine Xl.aget hexec hAl rfl (hA.get (i := o + i) (by omega)) rfl rfl (hb hbytes d12) ?_
        exact Steps.refl _)
      have c5 : Steps p.tables e below (s₁.setTop (entryFrame m #[.ref b, .int (Int32.ofNat o), .ref d, .int (Int32.ofNat q), .int (Int32.ofNat len)] 7)) (Tl.setTop (mkF m 15 #[.val (.ref b), .val (.int (Int32.ofNat (o + i))), .val (.ref d), .val (.int (Int32.ofNat (q + i))), .val (.int (Int32.ofNat len)), .val (.int (Int32.ofNat i)), .val (.int (cv A (o + i)))] [])) := c4.trans (by
        refine XS.istoreS Xl.here hexec rfl (hb hbytes d13) rfl rfl hz ?_
        exact Steps.refl _)
      have c6 : Steps p.tables e below (s₁.setTop (entryFrame m #[.ref b, .int (Int32.ofNat o), .ref d, .int (Int32.ofNat q), .int (Int32.ofNat len)] 7)) (Tl.setTop (mkF m 31 #[.val (.ref b), .val (.int (Int32.ofNat (o + i))), .val (.ref d), .val (.int (Int32.ofNat (q + i))), .val (.int (Int32.ofNat len)), .val (.int (Int32.ofNat i)), .val (.int (cv A (o + i)))] [.int (lo8 (cv A (o + i))), .int (Int32.ofNat (q + i)), .ref d])) := c5.trans (by
        refine XS.iload Xl.here hexec rfl (hb hbytes d15) rfl ?_
        refine sipushV Xl.here hexec rfl 255 (hb hbytes d17) (by decide) ?_
        refine XS.icmpYes Xl.here hexec rfl (pc0 := 20) rfl (hb hbytes d20) rfl (ii_le_t (hp i (by omega))) (by decide) rfl ?_
        refine XS.aloadN Xl.here hexec rfl (hb hbytes d26) rfl rfl ?_
        refine XS.iloadN Xl.here hexec rfl (hb hbytes d27) rfl ?_
        refine XS.iload Xl.here hexec rfl (hb hbytes d28) rfl ?_
        refine i2b Xl.here hexec rfl (hb hbytes d30) rfl ?_
        exact Steps.refl _)
      obtain ⟨T7, X7, p7, st7⟩ := Xl.aput hexec hBk rfl hlt rfl (fits_lo8 (cv A (o + i))) (g := (mkF m 31 #[.val (.ref b), .val (.int (Int32.ofNat (o + i))), .val (.ref d), .val (.int (Int32.ofNat (q + i))), .val (.int (Int32.ofNat len)), .val (.int (Int32.ofNat i)), .val (.int (cv A (o + i)))] [.int (lo8 (cv A (o + i))), .int (Int32.ofNat (q + i)), .ref d])) rfl (rest := []) rfl (hb hbytes d31)
      have c8 : Steps p.tables e below (s₁.setTop (entryFrame m #[.ref b, .int (Int32.ofNat o), .ref d, .int (Int32.ofNat q), .int (Int32.ofNat len)] 7)) (T7.setTop (mkF m 32 #[.val (.ref b), .val (.int (Int32.ofNat (o + i))), .val (.ref d), .val (.int (Int32.ofNat (q + i))), .val (.int (Int32.ofNat len)), .val (.int (Int32.ofNat i)), .val (.int (cv A (o + i)))] [])) := c6.trans (st7 _ (Steps.refl _))
      have c9 : Steps p.tables e below (s₁.setTop (entryFrame m #[.ref b, .int (Int32.ofNat o), .ref d, .int (Int32.ofNat q), .int (Int32.ofNat len)] 7)) (T7.setTop (mkF m 3 #[.val (.ref b), .val (.int (Int32.ofNat (o + i) + 1)), .val (.ref d), .val (.int (Int32.ofNat (q + i) + 1)), .val (.int (Int32.ofNat len)), .val (.int (Int32.ofNat i + 1)), .val (.int (cv A (o + i)))] [])) := c8.trans (by
        refine iincV X7.here hexec rfl 1 (hb hbytes d32) (by decide) rfl rfl ?_
        refine iincV X7.here hexec rfl 1 (hb hbytes d35) (by decide) rfl rfl ?_
        refine iincV X7.here hexec rfl 1 (hb hbytes d38) (by decide) rfl rfl ?_
        refine XS.goto X7.here hexec rfl (pc0 := 41) rfl (hb hbytes d41) (by decide) rfl ?_
        exact Steps.refl _)
      have c10 : Steps p.tables e below (s₁.setTop (entryFrame m #[.ref b, .int (Int32.ofNat o), .ref d, .int (Int32.ofNat q), .int (Int32.ofNat len)] 7)) (T7.setTop (mkF m 3 #[.val (.ref b), .val (.int (Int32.ofNat (o + (i + 1)))), .val (.ref d), .val (.int (Int32.ofNat (q + (i + 1)))), .val (.int (Int32.ofNat len)), .val (.int (Int32.ofNat (i + 1))), .val (.int (cv A (o + i)))] [])) := by
        have := c9
        rw [succ32, succ32, succ32] at this
        exact this
      exact ih (i + 1) (by omega) _ (Or.inr ⟨_, rfl, rfl⟩) T7 _ (by rw [copyLocs_step, ← List.append_assoc]; exact X7) (pl.trans p7) (fl.step (by omega) hlt (by simp)) c10
  obtain ⟨T9, B9, z9, X9, p9, f9, g9⟩ := loop len 0 (by omega) .unset (Or.inl rfl) s₁ B (by simpa [copyLocs] using X0) ⟨hB0.1, fun _ _ => rfl, rfl⟩ (Laid.zero _ _ _) c2
  have c11 : Steps p.tables e below (s₁.setTop (entryFrame m #[.ref b, .int (Int32.ofNat o), .ref d, .int (Int32.ofNat q), .int (Int32.ofNat len)] 7)) (T9.setTop (mkF m 46 #[.val (.ref b), .val (.int (Int32.ofNat (o + len))), .val (.ref d), .val (.int (Int32.ofNat (q + len))), .val (.int (Int32.ofNat len)), .val (.int (Int32.ofNat len)), z9] [.int (Int32.ofNat len)])) := g9.trans (by
    refine XS.iload X9.here hexec rfl (hb hbytes d3) rfl ?_
    refine XS.iload X9.here hexec rfl (hb hbytes d5) rfl ?_
    refine XS.icmpYes X9.here hexec rfl (pc0 := 7) rfl (hb hbytes d7) rfl (ii_ge_t (nlt32 (by omega) (Nat.le_refl _))) (by decide) rfl ?_
    refine XS.iload X9.here hexec rfl (hb hbytes d44) rfl ?_
    exact Steps.refl _)
  exact ⟨T9, some (.int (Int32.ofNat len)), _, _, _, X9, by simp, rfl, rfl, (fun h => by cases h), ⟨rfl, B9, p9.from hh0, f9⟩, fun fs hl => c11.trans (X9.ireturnOut hexec hret rfl (Or.inl rfl) (hb hbytes d46) hl)⟩
end Cmp5
namespace Cmp3
def yN : MethodName := ⟨"java/lang/StringUTF16", "compress", "([CII)[B"⟩
abbrev yB : ByteArray := jdk_52_method_16_code
theorem d0 : decode yB 0 = .ok (.iload_n 2, 1) := by decide +kernel
theorem d1 : decode yB 1 = .ok (.newarray .byte, 2) := by decide +kernel
theorem d3 : decode yB 3 = .ok (.astore_n 3, 1) := by decide +kernel
theorem d4 : decode yB 4 = .ok (.aload_n 0, 1) := by decide +kernel
theorem d5 : decode yB 5 = .ok (.iload_n 1, 1) := by decide +kernel
theorem d6 : decode yB 6 = .ok (.aload_n 3, 1) := by decide +kernel
theorem d7 : decode yB 7 = .ok (.iconst 0, 1) := by decide +kernel
theorem d8 : decode yB 8 = .ok (.iload_n 2, 1) := by decide +kernel
theorem d9 : decode yB 9 = .ok (.invokestatic 115, 3) := by decide +kernel
theorem d12 : decode yB 12 = .ok (.istore 4, 2) := by decide +kernel
theorem d14 : decode yB 14 = .ok (.iload 4, 2) := by decide +kernel
theorem d16 : decode yB 16 = .ok (.iload_n 2, 1) := by decide +kernel
theorem d17 : decode yB 17 = .ok (.if_icmp (.eq) 40, 3) := by decide +kernel
theorem d57 : decode yB 57 = .ok (.aload_n 3, 1) := by decide +kernel
theorem d58 : decode yB 58 = .ok (.areturn, 1) := by decide +kernel
def site : List Cond := [.arrayClass .byte, Cmp5.tab] ++ staticW U16 115 Cmp5.yN
def tab : Cond := tabOf yN yB 6 (some (.array .byte)) site
def P (b : Addr) (A : Cell) (o len : Nat) (args : Array Value) (s : State) : Prop := args = #[.ref b, .int (Int32.ofNat o), .int (Int32.ofNat len)] ∧ Ch b A s ∧ o + len ≤ A.slots.size ∧ len ≤ 536870912 ∧ ∀ i, i < len → ¬ 255 < cv A (o + i)
def E (b : Addr) (A : Cell) (o len : Nat) (r : Option Value) (s u : State) : Prop := NewArr .byte "[B" len (fun j => .int (lo8 (cv A (o + j)))) r s u ∧ u.heap.size = s.heap.size + 1
/-- no char of the range above 255: a new byte[] of their low bytes -/
theorem law (l : Launch) (b : Addr) (A : Cell) (o len : Nat) : Law l yN 3 3 1 18 yB 6 (some (.array .byte)) site (P b A o len) (E b A o len) [] 1 len := by
  refine Law.of_walk (plainFor_of_name (by decide +kernel)) (by decide +kernel) (by decide +kernel) (by decide) (fun _ _ h => by rw [h.1]; rfl) (fun _ U U' hal hh h => ⟨h.1, h.2.1.mv hal hh, h.2.2⟩) (fun r U U' V V' h1 hal h2 h => ⟨NewArr.mv r U U' V V' h1 hal h2 h.1, by rw [h1, h2]; exact h.2⟩) ?_
  intro p e s m args below meth c s₁ X0 hexec hbytes hml hret hlk hnm hown hh0 W hP
  obtain ⟨rfl, hA, l1, l2, hp⟩ := hP
  have a31 := hA.1.2.2.2
  have c1 : Steps p.tables e below (s₁.setTop (entryFrame m #[.ref b, .int (Int32.ofNat o), .int (Int32.ofNat len)] 6)) (s₁.setTop (mkF m 0 #[.val (.ref b), .val (.int (Int32.ofNat o)), .val (.int (Int32.ofNat len)), .unset, .unset, .unset] [])) := entry rfl
  have c2 : Steps p.tables e below (s₁.setTop (entryFrame m #[.ref b, .int (Int32.ofNat o), .int (Int32.ofNat len)] 6)) (s₁.setTop (mkF m 1 #[.val (.ref b), .val (.int (Int32.ofNat o)), .val (.int (Int32.ofNat len)), .unset, .unset, .unset] [.int (Int32.ofNat len)])) := c1.trans (by
    refine XS.iloadN X0.here hexec rfl (hb hbytes d0) rfl ?_
    exact Steps.refl _)
  obtain ⟨T3, B3, X3, ba3, bs3, bv3, bh3, bf3, st3⟩ := X0.anew hexec (atype := .byte) (wk W (.arrayClass .byte)) rfl (by show len * 1 ≤ _; omega) (by omega) (g := (mkF m 1 #[.val (.ref b), .val (.int (Int32.ofNat o)), .val (.int (Int32.ofNat len)), .unset, .unset, .unset] [.int (Int32.ofNat len)])) rfl (hb hbytes d1) (rest := []) rfl (Nat.le_refl _) (by show 0 + len ≤ len; omega)
  rw [hh0] at ba3 st3
  have kp3 : XT.Kept s T3 := (XT.Kept.of_eq hh0).push bh3
  have hA3 := hA.keep X3.warmed.alike (kp3 _ _ hA.1.1)
  have hne : b ≠ s.heap.size := hA.1.ne
  have c4 : Steps p.tables e below (s₁.setTop (entryFrame m #[.ref b, .int (Int32.ofNat o), .int (Int32.ofNat len)] 6)) (T3.setTop (mkF m 3 #[.val (.ref b), .val (.int (Int32.ofNat o)), .val (.int (Int32.ofNat len)), .unset, .unset, .unset] [.ref s.heap.size])) := c2.trans (st3 _ (Steps.refl _))
  have c5 : Steps p.tables e below (s₁.setTop (entryFrame m #[.ref b, .int (Int32.ofNat o), .int (Int32.ofNat len)] 6)) (T3.setTop (mkF m 9 #[.val (.ref b), .val (.int (Int32.ofNat o)), .val (.int (Int32.ofNat len)), .val (.ref s.heap.size), .unset, .unset] [.int (Int32.ofNat len), .int 0, .ref s.heap.size, .int (Int32.ofNat o), .ref b])) := c4.trans (by
    refine XS.astoreN X3.here hexec rfl (hb hbytes d3) rfl rfl rfl ?_
    refine XS.aloadN X3.here hexec rfl (hb hbytes d4) rfl rfl ?_
    refine XS.iloadN X3.here hexec rfl (hb hbytes d5) rfl ?_
    refine XS.aloadN X3.here hexec rfl (hb hbytes d6) rfl rfl ?_
    refine iconstV X3.here hexec rfl 0 (hb hbytes d7) (by decide) ?_
    refine XS.iloadN X3.here hexec rfl (hb hbytes d8) rfl ?_
    exact Steps.refl _)
  obtain ⟨v6, T6, X6, E6, g6⟩ := X3.callS hexec (Cmp5.law l b A s.heap.size B3 o 0 len) hown (wks W (staticW U16 115 Cmp5.yN)) (wk W Cmp5.tab) (W := 0) (Nat.le_of_ble_eq_true rfl) (Nat.le_of_ble_eq_true rfl) (Nat.le_refl _) (by show 0 + len + 0 ≤ len; omega) (g := (mkF m 9 #[.val (.ref b), .val (.int (Int32.ofNat o)), .val (.int (Int32.ofNat len)), .val (.ref s.heap.size), .unset, .unset] [.int (Int32.ofNat len), .int (Int32.ofNat 0), .ref s.heap.size, .int (Int32.ofNat o), .ref b])) rfl (by rw [hml]; rfl) c5 (argsL := [.ref b, .int (Int32.ofNat o), .ref s.heap.size, .int (Int32.ofNat 0), .int (Int32.ofNat len)]) (rest := []) rfl rfl (by show 2 * 0 + 0 ≤ _; decide) (hb hbytes d9) (⟨rfl, hA3, ba3, hne, l1, by rw [bs3]; simp, hp⟩)
  obtain ⟨rfl, B6, p6, f6⟩ := E6
  have c7 : Steps p.tables e below (s₁.setTop (entryFrame m #[.ref b, .int (Int32.ofNat o), .int (Int32.ofNat len)] 6)) (T6.setTop (mkF m 12 #[.val (.ref b), .val (.int (Int32.ofNat o)), .val (.int (Int32.ofNat len)), .val (.ref s.heap.size), .unset, .unset] [.int (Int32.ofNat len)])) := g6
  have c8 : Steps p.tables e below (s₁.setTop (entryFrame m #[.ref b, .int (Int32.ofNat o), .int (Int32.ofNat len)] 6)) (T6.setTop (mkF m 58 #[.val (.ref b), .val (.int (Int32.ofNat o)), .val (.int (Int32.ofNat len)), .val (.ref s.heap.size), .val (.int (Int32.ofNat len)), .unset] [.ref s.heap.size])) := c7.trans (by
    refine XS.istore X6.here hexec rfl (hb hbytes d12) rfl rfl ?_
    refine XS.iload X6.here hexec rfl (hb hbytes d14) rfl ?_
    refine XS.iloadN X6.here hexec rfl (hb hbytes d16) rfl ?_
    refine XS.icmpYes X6.here hexec rfl (pc0 := 17) rfl (hb hbytes d17) rfl (ii_eq_t rfl) (by decide) rfl ?_
    refine XS.aloadN X6.here hexec rfl (hb hbytes d57) rfl rfl ?_
    exact Steps.refl _)
  have X8 := X6.wide (L' := []) (cells' := 1) (slots' := len) (fun x hx hlt => by
    simp only [List.nil_append, copyLocs, List.mem_map, List.mem_range] at hx
    obtain ⟨i, -, rfl⟩ := hx
    exact absurd hlt (Nat.lt_irrefl _)) (Nat.le_refl _) (by omega)
  exact ⟨T6, some (.ref s.heap.size), _, _, _, X8, rfl, rfl, rfl, (fun h => by cases h), ⟨⟨rfl, B6, ba3.like (X3.warmed.alike.symm.trans X6.warmed.alike) p6.1 f6.1 f6.2.1 f6.2.2.1, f6.2.1.trans bv3, by rw [X6.warmed.alike.findClass, f6.1]; exact bf3, by rw [f6.2.2.1, bs3]; simp, fun j hj => by rw [f6.2.2.2 j, if_pos (by omega)]; rfl, kp3.put p6 (Nat.le_refl _)⟩, by rw [p6.2.2, bh3, hh0]; simp⟩, fun fs hl => c8.trans (X8.areturnOut hexec rfl hret rfl (hb hbytes d58) hl)⟩
end Cmp3
namespace CodL
def yN : MethodName := ⟨"java/lang/StringUTF16", "coderFromArrayLen", "([BI)B"⟩
abbrev yB : ByteArray := jdk_52_method_15_code
theorem d0 : decode yB 0 = .ok (.iload_n 1, 1) := by decide +kernel
theorem d1 : decode yB 1 = .ok (.aload_n 0, 1) := by decide +kernel
theorem d2 : decode yB 2 = .ok (.arraylength, 1) := by decide +kernel
theorem d3 : decode yB 3 = .ok (.isub, 1) := by decide +kernel
theorem d4 : decode yB 4 = .ok (.bipush 31, 2) := by decide +kernel
theorem d6 : decode yB 6 = .ok (.iushr, 1) := by decide +kernel
theorem d7 : decode yB 7 = .ok (.i2b, 1) := by decide +kernel
theorem d8 : decode yB 8 = .ok (.ireturn, 1) := by decide +kernel
def site : List Cond := []
def tab : Cond := tabOf yN yB 2 (some .byte) site
def P (d : Addr) (B : Cell) (args : Array Value) (s : State) : Prop := args = #[.ref d, .int (Int32.ofNat B.slots.size)] ∧ Arr .byte d B s
def E (r : Option Value) (s u : State) : Prop := XT.PureE (some (.int 0)) r s u
/-- an array as long as the number of chars: LATIN1 -/
theorem law (l : Launch) (d : Addr) (B : Cell) : Law l yN 2 2 0 0 yB 2 (some .byte) site (P d B) E [] 0 0 := by
  refine Law.of_walk (plainFor_of_name (by decide +kernel)) (by decide +kernel) (by decide +kernel) (by decide) (fun _ _ h => by rw [h.1]; rfl) (fun _ U U' hal hh h => ⟨h.1, h.2.mv hal hh⟩) (fun r U U' V V' h1 hal h2 h => XT.PureE.mv r U U' V V' h1 hal h2 h) ?_
  intro p e s m args below meth c s₁ X0 hexec hbytes hml hret hlk hnm hown hh0 W hP
  obtain ⟨rfl, hB⟩ := hP
  have hB0 := hB.mv X0.warmed.alike hh0
  have c1 : Steps p.tables e below (s₁.setTop (entryFrame m #[.ref d, .int (Int32.ofNat B.slots.size)] 2)) (s₁.setTop (mkF m 0 #[.val (.ref d), .val (.int (Int32.ofNat B.slots.size))] [])) := entry rfl
  have c2 : Steps p.tables e below (s₁.setTop (entryFrame m #[.ref d, .int (Int32.ofNat B.slots.size)] 2)) (s₁.setTop (mkF m 2 #[.val (.ref d), .val (.int (Int32.ofNat B.slots.size))] [.ref d, .int (Int32.ofNat B.slots.size)])) := c1.trans (by
    refine XS.iloadN X0.here hexec rfl (hb hbytes d0) rfl ?_
    refine XS.aloadN X0.here hexec rfl (hb hbytes d1) rfl rfl ?_
    exact Steps.refl _)
  have c3 : Steps p.tables e below (s₁.setTop (entryFrame m #[.ref d, .int (Int32.ofNat B.slots.size)] 2)) (s₁.setTop (mkF m 8 #[.val (.ref d), .val (.int (Int32.ofNat B.slots.size))] [.int (lo8 (ushr (Int32.ofNat B.slots.size - Int32.ofNat B.slots.size) 31))])) := c2.trans (by
    refine X0.alen hexec hB0 rfl rfl (hb hbytes d2) ?_
    refine XS.isub X0.here hexec rfl (hb hbytes d3) rfl ?_
    refine bipushV X0.here hexec rfl 31 (hb hbytes d4) (by decide) ?_
    refine iushr X0.here hexec rfl (hb hbytes d6) rfl ?_
    refine i2b X0.here hexec rfl (hb hbytes d7) rfl ?_
    exact Steps.refl _)
  have e0 : lo8 (ushr (Int32.ofNat B.slots.size - Int32.ofNat B.slots.size) 31) = 0 := by rw [Int32.sub_self]; decide
  rw [e0] at c3
  exact ⟨s₁, some (.int 0), _, _, _, X0, rfl, rfl, rfl, (fun h => by cases h), ⟨rfl, hh0⟩, fun fs hl => c3.trans (X0.ireturnOut hexec hret rfl (Or.inr (Or.inr (Or.inl rfl))) (hb hbytes d8) hl)⟩
end CodL
/-- the String at a is Latin-1 over a new byte[] (the heap's one new cell): the low bytes of the len chars of A from o on; every cell but a is kept -/
def Got (a : Addr) (D : Cell) (fV fC : Field) (A : Cell) (o len : Nat) (r : Option Value) (s u : State) : Prop := r = none ∧ ∃ D' V : Cell, Blank "java/lang/String" a D' u ∧ Same D D' [fV.slot, fC.slot] ∧ D'.slots[fV.slot]? = some (.ref s.heap.size) ∧ D'.slots[fC.slot]? = some (.int 0) ∧ Arr .byte s.heap.size V u ∧ V.vm = .none ∧ u.vm.findClass "[B" = some V.cls ∧ V.slots.size = len ∧ (∀ j, j < len → V.slots[j]? = some (.int (lo8 (cv A (o + j))))) ∧ (∀ (y : Addr) (c : Cell), y ≠ a → s.heap[y]? = some c → u.heap[y]? = some c) ∧ u.heap.size = s.heap.size + 1
theorem Got.mv {a : Addr} {D A : Cell} {fV fC : Field} {o len : Nat} : ∀ r (U U' V V' : State), U'.heap = U.heap → V.vm.Alike V'.vm → V'.heap = V.heap → Got a D fV fC A o len r U V → Got a D fV fC A o len r U' V' :=
  fun r U U' V V' h1 hal h2 ⟨e0, D', X, a1, a2, a3, a4, a5, a6, a7, a8, a9, a10, a11⟩ => ⟨e0, D', X, a1.mv hal h2, a2, by rw [h1]; exact a3, a4, by rw [h1]; exact a5.mv hal h2, a6, by rw [hal.findClass]; exact a7, a8, a9, by rw [h1, h2]; exact a10, by rw [h1, h2]; exact a11⟩
namespace New4
def yN : MethodName := ⟨"java/lang/String", "<init>", "([CIILjava/lang/Void;)V"⟩
abbrev yB : ByteArray := jdk_42_method_149_code
theorem d0 : decode yB 0 = .ok (.aload_n 0, 1) := by decide +kernel
theorem d1 : decode yB 1 = .ok (.invokespecial 1, 3) := by decide +kernel
theorem d4 : decode yB 4 = .ok (.iload_n 3, 1) := by decide +kernel
theorem d5 : decode yB 5 = .ok (.ifCond (.ne) 22, 3) := by decide +kernel
theorem d27 : decode yB 27 = .ok (.getstatic 38, 3) := by decide +kernel
theorem d30 : decode yB 30 = .ok (.ifCond (.eq) 28, 3) := by decide +kernel
theorem d33 : decode yB 33 = .ok (.aload_n 1, 1) := by decide +kernel
theorem d34 : decode yB 34 = .ok (.iload_n 2, 1) := by decide +kernel
theorem d35 : decode yB 35 = .ok (.iload_n 3, 1) := by decide +kernel
theorem d36 : decode yB 36 = .ok (.invokestatic 177, 3) := by decide +kernel
theorem d39 : decode yB 39 = .ok (.astore 5, 2) := by decide +kernel
theorem d41 : decode yB 41 = .ok (.aload_n 0, 1) := by decide +kernel
theorem d42 : decode yB 42 = .ok (.aload 5, 2) := by decide +kernel
theorem d44 : decode yB 44 = .ok (.iload_n 3, 1) := by decide +kernel
theorem d45 : decode yB 45 = .ok (.invokestatic 47, 3) := by decide +kernel
theorem d48 : decode yB 48 = .ok (.putfield 15, 3) := by decide +kernel
theorem d51 : decode yB 51 = .ok (.aload_n 0, 1) := by decide +kernel
theorem d52 : decode yB 52 = .ok (.aload 5, 2) := by decide +kernel
theorem d54 : decode yB 54 = .ok (.putfield 9, 3) := by decide +kernel
theorem d57 : decode yB 57 = .ok (.return_, 1) := by decide +kernel
def site : List Cond := [.fieldLink "java/lang/String" 38 "java/lang/String" "COMPACT_STRINGS" "Z", Cmp3.tab, CodL.tab, .laysFinal "java/lang/String" "java/lang/String" "value" "[B", .fieldLink "java/lang/String" 9 "java/lang/String" "value" "[B", .laysFinal "java/lang/String" "java/lang/String" "coder" "B", .fieldLink "java/lang/String" 15 "java/lang/String" "coder" "B"] ++ objW "java/lang/String" 1 ++ staticW "java/lang/String" 177 Cmp3.yN ++ staticW "java/lang/String" 47 CodL.yN
def tab : Cond := tabOf yN yB 6 none site
def P (a : Addr) (D : Cell) (fV fC : Field) (b : Addr) (A : Cell) (z : Int32) (o len : Nat) (args : Array Value) (s : State) : Prop := args = #[.ref a, .ref b, .int (Int32.ofNat o), .int (Int32.ofNat len), .null] ∧ Blank "java/lang/String" a D s ∧ Found "java/lang/String" "value" "[B" fV s ∧ Found "java/lang/String" "coder" "B" fC s ∧ Ch b A s ∧ StaticIs s "java/lang/String" "COMPACT_STRINGS" "Z" (.int z) ∧ ¬ z = 0 ∧ 0 < len ∧ o + len ≤ A.slots.size ∧ len ≤ 536870912 ∧ ∀ i, i < len → ¬ 255 < cv A (o + i)
def E (a : Addr) (D : Cell) (fV fC : Field) (A : Cell) (o len : Nat) (r : Option Value) (s u : State) : Prop := Got a D fV fC A o len r s u
/-- len > 0, no char of the range above 255: a Latin-1 String of their low bytes -/
theorem law (l : Launch) (a : Addr) (D : Cell) (fV fC : Field) (b : Addr) (A : Cell) (z : Int32) (o len : Nat) : Law l yN 5 4 2 35 yB 6 none site (P a D fV fC b A z o len) (E a D fV fC A o len) [⟨a, fC.slot⟩, ⟨a, fV.slot⟩] 1 len := by
  refine Law.of_walk (plainFor_of_name (by decide +kernel)) (by decide +kernel) (by decide +kernel) (by decide) (fun _ _ h => by rw [h.1]; rfl) (fun _ U U' hal hh h => ⟨h.1, h.2.1.mv hal hh, h.2.2.1.al hal, h.2.2.2.1.al hal, h.2.2.2.2.1.mv hal hh, h.2.2.2.2.2.1.there hal hh, h.2.2.2.2.2.2⟩) (fun r U U' V V' h1 hal h2 h => Got.mv r U U' V V' h1 hal h2 h) ?_
  intro p e s m args below meth c s₁ X0 hexec hbytes hml hret hlk hnm hown hh0 W hP
  obtain ⟨rfl, hB, f1, f2, hA, s1, hz, l0, l1, l2, hp⟩ := hP
  have a31 := hA.1.2.2.2
  have c1 : Steps p.tables e below (s₁.setTop (entryFrame m #[.ref a, .ref b, .int (Int32.ofNat o), .int (Int32.ofNat len), .null] 6)) (s₁.setTop (mkF m 0 #[.val (.ref a), .val (.ref b), .val (.int (Int32.ofNat o)), .val (.int (Int32.ofNat len)), .val .null, .unset] [])) := entry rfl
  have c2 : Steps p.tables e below (s₁.setTop (entryFrame m #[.ref a, .ref b, .int (Int32.ofNat o), .int (Int32.ofNat len), .null] 6)) (s₁.setTop (mkF m 1 #[.val (.ref a), .val (.ref b), .val (.int (Int32.ofNat o)), .val (.int (Int32.ofNat len)), .val .null, .unset] [.ref a])) := c1.trans (by
    refine XS.aloadN X0.here hexec rfl (hb hbytes d0) rfl rfl ?_
    exact Steps.refl _)
  obtain ⟨T3, X3, q3, st3⟩ := X0.oinit hexec hown (wks W (objW "java/lang/String" 1)) (g := (mkF m 1 #[.val (.ref a), .val (.ref b), .val (.int (Int32.ofNat o)), .val (.int (Int32.ofNat len)), .val .null, .unset] [.ref a])) rfl (by rw [hml]; rfl) (rest := []) rfl (hb hbytes d1) (W := 0) (by show 2 * 0 + 0 ≤ _; decide) (Nat.le_of_ble_eq_true rfl) (Nat.le_of_ble_eq_true rfl)
  have hh3 := q3.trans hh0
  have c4 : Steps p.tables e below (s₁.setTop (entryFrame m #[.ref a, .ref b, .int (Int32.ofNat o), .int (Int32.ofNat len), .null] 6)) (T3.setTop (mkF m 27 #[.val (.ref a), .val (.ref b), .val (.int (Int32.ofNat o)), .val (.int (Int32.ofNat len)), .val .null, .unset] [])) := (c2.trans (st3 _ (Steps.refl _))).trans (by
    refine XS.iloadN X3.here hexec rfl (hb hbytes d4) rfl ?_
    refine XS.ifYes X3.here hexec rfl (pc0 := 5) rfl (hb hbytes d5) rfl (i0_ne_t (nz32 (by omega) l0)) (by decide) rfl ?_
    exact Steps.refl _)
  obtain ⟨T5, X5, q5, st5⟩ := X3.sget hexec hown (wk W (.fieldLink "java/lang/String" 38 "java/lang/String" "COMPACT_STRINGS" "Z")) s1 (fun _ _ h => by rw [hh3]; exact h) (g := (mkF m 27 #[.val (.ref a), .val (.ref b), .val (.int (Int32.ofNat o)), .val (.int (Int32.ofNat len)), .val .null, .unset] [])) rfl (hb hbytes d27)
  have hh5 := q5.trans hh3
  have c6 : Steps p.tables e below (s₁.setTop (entryFrame m #[.ref a, .ref b, .int (Int32.ofNat o), .int (Int32.ofNat len), .null] 6)) (T5.setTop (mkF m 30 #[.val (.ref a), .val (.ref b), .val (.int (Int32.ofNat o)), .val (.int (Int32.ofNat len)), .val .null, .unset] [.int z])) := c4.trans (st5 _ (Steps.refl _))
  have c7 : Steps p.tables e below (s₁.setTop (entryFrame m #[.ref a, .ref b, .int (Int32.ofNat o), .int (Int32.ofNat len), .null] 6)) (T5.setTop (mkF m 36 #[.val (.ref a), .val (.ref b), .val (.int (Int32.ofNat o)), .val (.int (Int32.ofNat len)), .val .null, .unset] [.int (Int32.ofNat len), .int (Int32.ofNat o), .ref b])) := c6.trans (by
    refine XS.ifNo X5.here hexec rfl (hb hbytes d30) rfl (i0_eq_f hz) ?_
    refine XS.aloadN X5.here hexec rfl (hb hbytes d33) rfl rfl ?_
    refine XS.iloadN X5.here hexec rfl (hb hbytes d34) rfl ?_
    refine XS.iloadN X5.here hexec rfl (hb hbytes d35) rfl ?_
    exact Steps.refl _)
  obtain ⟨v8, T8, X8, E8, g8⟩ := X5.callS hexec (Cmp3.law l b A o len) hown (wks W (staticW "java/lang/String" 177 Cmp3.yN)) (wk W Cmp3.tab) (W := 0) (Nat.le_of_ble_eq_true rfl) (Nat.le_of_ble_eq_true rfl) (Nat.le_refl _) (by show 0 + len ≤ len; omega) (g := (mkF m 36 #[.val (.ref a), .val (.ref b), .val (.int (Int32.ofNat o)), .val (.int (Int32.ofNat len)), .val .null, .unset] [.int (Int32.ofNat len), .int (Int32.ofNat o), .ref b])) rfl (by rw [hml]; rfl) c7 (argsL := [.ref b, .int (Int32.ofNat o), .int (Int32.ofNat len)]) (rest := []) rfl rfl (by show 2 * 0 + 0 ≤ _; decide) (hb hbytes d36) (⟨rfl, hA.mv X5.warmed.alike hh5, l1, l2, hp⟩)
  obtain ⟨e8, z8⟩ := E8
  obtain ⟨rfl, N, n1, n2, n3, n4, n5, n6⟩ := NewArr.mv _ T5 s _ _ hh5.symm (Vm.Alike.refl _) rfl e8
  rw [hh5] at z8
  have hB1 := hB.keep X8.warmed.alike (n6 _ _ hB.1)
  have hne : s.heap.size ≠ a := (Nat.ne_of_lt (Array.getElem?_eq_some_iff.mp hB.1).1).symm
  have c9 : Steps p.tables e below (s₁.setTop (entryFrame m #[.ref a, .ref b, .int (Int32.ofNat o), .int (Int32.ofNat len), .null] 6)) (T8.setTop (mkF m 39 #[.val (.ref a), .val (.ref b), .val (.int (Int32.ofNat o)), .val (.int (Int32.ofNat len)), .val .null, .unset] [.ref s.heap.size])) := g8
  have c10 : Steps p.tables e below (s₁.setTop (entryFrame m #[.ref a, .ref b, .int (Int32.ofNat o), .int (Int32.ofNat len), .null] 6)) (T8.setTop (mkF m 45 #[.val (.ref a), .val (.ref b), .val (.int (Int32.ofNat o)), .val (.int (Int32.ofNat len)), .val .null, .val (.ref s.heap.size)] [.int (Int32.ofNat N.slots.size), .ref s.heap.size, .ref a])) := by
    have hc : Steps p.tables e below (s₁.setTop (entryFrame m #[.ref a, .ref b, .int (Int32.ofNat o), .int (Int32.ofNat len), .null] 6)) (T8.setTop (mkF m 45 #[.val (.ref a), .val (.ref b), .val (.int (Int32.ofNat o)), .val (.int (Int32.ofNat len)), .val .null, .val (.ref s.heap.size)] [.int (Int32.ofNat len), .ref s.heap.size, .ref a])) := c9.trans (by
      refine XS.astore X8.here hexec rfl (hb hbytes d39) rfl rfl rfl ?_
      refine XS.aloadN X8.here hexec rfl (hb hbytes d41) rfl rfl ?_
      refine XS.aload X8.here hexec rfl (hb hbytes d42) rfl rfl ?_
      refine XS.iloadN X8.here hexec rfl (hb hbytes d44) rfl ?_
      exact Steps.refl _)
    rw [n4]; exact hc
  obtain ⟨v11, T11, X11, E11, g11⟩ := X8.callS hexec (CodL.law l s.heap.size N) hown (wks W (staticW "java/lang/String" 47 CodL.yN)) (wk W CodL.tab) (W := 1) (Nat.le_of_ble_eq_true rfl) (Nat.le_of_ble_eq_true rfl) (Nat.le_refl _) (by show 0 + len + 0 ≤ len; omega) (g := (mkF m 45 #[.val (.ref a), .val (.ref b), .val (.int (Int32.ofNat o)), .val (.int (Int32.ofNat len)), .val .null, .val (.ref s.heap.size)] [.int (Int32.ofNat N.slots.size), .ref s.heap.size, .ref a])) rfl (by rw [hml]; rfl) c10 (argsL := [.ref s.heap.size, .int (Int32.ofNat N.slots.size)]) (rest := [.ref a]) rfl rfl (by show 2 * 0 + (1 + 0) ≤ _; decide) (hb hbytes d45) (⟨rfl, n1⟩)
  obtain ⟨rfl, q11⟩ := E11
  have hB11 := hB1.mv (X8.warmed.alike.symm.trans X11.warmed.alike) q11
  have c12 : Steps p.tables e below (s₁.setTop (entryFrame m #[.ref a, .ref b, .int (Int32.ofNat o), .int (Int32.ofNat len), .null] 6)) (T11.setTop (mkF m 48 #[.val (.ref a), .val (.ref b), .val (.int (Int32.ofNat o)), .val (.int (Int32.ofNat len)), .val .null, .val (.ref s.heap.size)] [.int 0, .ref a])) := g11
  obtain ⟨T13, X13, p13, bl13, sl13, st13⟩ := X11.finit hexec hown (wk W (.fieldLink "java/lang/String" 15 "java/lang/String" "coder" "B")) (Or.inr ⟨_, (wk W (.laysFinal "java/lang/String" "java/lang/String" "coder" "B"))⟩) (Or.inl ⟨rfl, hnm⟩) f2 (Or.inl rfl) hB11 (t := .byte) (by decide +kernel) rfl (g := (mkF m 48 #[.val (.ref a), .val (.ref b), .val (.int (Int32.ofNat o)), .val (.int (Int32.ofNat len)), .val .null, .val (.ref s.heap.size)] [.int 0, .ref a])) rfl (rest := []) rfl (hb hbytes d48)
  have c14 : Steps p.tables e below (s₁.setTop (entryFrame m #[.ref a, .ref b, .int (Int32.ofNat o), .int (Int32.ofNat len), .null] 6)) (T13.setTop (mkF m 54 #[.val (.ref a), .val (.ref b), .val (.int (Int32.ofNat o)), .val (.int (Int32.ofNat len)), .val .null, .val (.ref s.heap.size)] [.ref s.heap.size, .ref a])) := (c12.trans (st13 _ (Steps.refl _))).trans (by
    refine XS.aloadN X13.here hexec rfl (hb hbytes d51) rfl rfl ?_
    refine XS.aload X13.here hexec rfl (hb hbytes d52) rfl rfl ?_
    exact Steps.refl _)
  obtain ⟨T15, X15, p15, bl15, sl15, st15⟩ := X13.finit hexec hown (wk W (.fieldLink "java/lang/String" 9 "java/lang/String" "value" "[B")) (Or.inr ⟨_, (wk W (.laysFinal "java/lang/String" "java/lang/String" "value" "[B"))⟩) (Or.inl ⟨rfl, hnm⟩) f1 (Or.inl rfl) bl13 (t := (.array .byte)) (by decide +kernel) rfl (g := (mkF m 54 #[.val (.ref a), .val (.ref b), .val (.int (Int32.ofNat o)), .val (.int (Int32.ofNat len)), .val .null, .val (.ref s.heap.size)] [.ref s.heap.size, .ref a])) rfl (rest := []) rfl (hb hbytes d54)
  have c16 : Steps p.tables e below (s₁.setTop (entryFrame m #[.ref a, .ref b, .int (Int32.ofNat o), .int (Int32.ofNat len), .null] 6)) (T15.setTop (mkF m 57 #[.val (.ref a), .val (.ref b), .val (.int (Int32.ofNat o)), .val (.int (Int32.ofNat len)), .val .null, .val (.ref s.heap.size)] [])) := c14.trans (st15 _ (Steps.refl _))
  have ap := apart (Or.inr ⟨_, (wk W (.laysFinal "java/lang/String" "java/lang/String" "value" "[B"))⟩) (Or.inr ⟨_, (wk W (.laysFinal "java/lang/String" "java/lang/String" "coder" "B"))⟩) f1 f2 (t₁ := .array .byte) (t₂ := .byte) (by decide +kernel) (by decide +kernel) (by decide)
  have al := X8.warmed.alike.symm.trans X15.warmed.alike
  have n7 : T11.heap[s.heap.size]? = some N := by rw [q11]; exact n1.1
  exact ⟨T15, none, _, _, _, X15, by simp, rfl, by omega, (fun _ => rfl), ⟨rfl, _, N, bl15, ((Same.refl D _).set _ (by simp)).set _ (by simp), sl15, (Cell.slots_setSlot_ne _ ap).trans sl13, n1.keep al (p15.other hne (p13.other hne n7)), n2, by rw [al.findClass]; exact n3, n4, n5, fun y c h1 h2 => p15.other h1 (p13.other h1 (by rw [q11]; exact n6 y c h2)), by rw [p15.2.2, p13.2.2, q11]; exact z8⟩, fun fs hl => c16.trans (X15.returnOut hexec hret (hb hbytes d57) hl)⟩
end New4
namespace New1
def yN : MethodName := ⟨"java/lang/String", "<init>", "([C)V"⟩
abbrev yB : ByteArray := jdk_42_method_3_code
theorem d0 : decode yB 0 = .ok (.aload_n 0, 1) := by decide +kernel
theorem d1 : decode yB 1 = .ok (.aload_n 1, 1) := by decide +kernel
theorem d2 : decode yB 2 = .ok (.iconst 0, 1) := by decide +kernel
theorem d3 : decode yB 3 = .ok (.aload_n 1, 1) := by decide +kernel
theorem d4 : decode yB 4 = .ok (.arraylength, 1) := by decide +kernel
theorem d5 : decode yB 5 = .ok (.aconst_null, 1) := by decide +kernel
theorem d6 : decode yB 6 = .ok (.invokespecial 27, 3) := by decide +kernel
theorem d9 : decode yB 9 = .ok (.return_, 1) := by decide +kernel
def site : List Cond := [New4.tab] ++ initW "java/lang/String" 27 New4.yN
def tab : Cond := tabOf yN yB 2 none site
def P (a : Addr) (D : Cell) (fV fC : Field) (b : Addr) (A : Cell) (z : Int32) (args : Array Value) (s : State) : Prop := args = #[.ref a, .ref b] ∧ Blank "java/lang/String" a D s ∧ Found "java/lang/String" "value" "[B" fV s ∧ Found "java/lang/String" "coder" "B" fC s ∧ Ch b A s ∧ StaticIs s "java/lang/String" "COMPACT_STRINGS" "Z" (.int z) ∧ ¬ z = 0 ∧ 0 < A.slots.size ∧ A.slots.size ≤ 536870912 ∧ ∀ i, i < A.slots.size → ¬ 255 < cv A i
def E (a : Addr) (D : Cell) (fV fC : Field) (A : Cell) (r : Option Value) (s u : State) : Prop := Got a D fV fC A 0 A.slots.size r s u
/-- new String(chars), not empty, no char above 255: a Latin-1 String of their low bytes -/
theorem law (l : Launch) (a : Addr) (D : Cell) (fV fC : Field) (b : Addr) (A : Cell) (z : Int32) : Law l yN 2 1 3 52 yB 2 none site (P a D fV fC b A z) (E a D fV fC A) [⟨a, fC.slot⟩, ⟨a, fV.slot⟩] 1 A.slots.size := by
  refine Law.of_walk (plainFor_of_name (by decide +kernel)) (by decide +kernel) (by decide +kernel) (by decide) (fun _ _ h => by rw [h.1]; rfl) (fun _ U U' hal hh h => ⟨h.1, h.2.1.mv hal hh, h.2.2.1.al hal, h.2.2.2.1.al hal, h.2.2.2.2.1.mv hal hh, h.2.2.2.2.2.1.there hal hh, h.2.2.2.2.2.2⟩) (fun r U U' V V' h1 hal h2 h => Got.mv r U U' V V' h1 hal h2 h) ?_
  intro p e s m args below meth c s₁ X0 hexec hbytes hml hret hlk hnm hown hh0 W hP
  obtain ⟨rfl, hB, f1, f2, hA, s1, hz, l0, l2, hp⟩ := hP
  have c1 : Steps p.tables e below (s₁.setTop (entryFrame m #[.ref a, .ref b] 2)) (s₁.setTop (mkF m 0 #[.val (.ref a), .val (.ref b)] [])) := entry rfl
  have c2 : Steps p.tables e below (s₁.setTop (entryFrame m #[.ref a, .ref b] 2)) (s₁.setTop (mkF m 6 #[.val (.ref a), .val (.ref b)] [.null, .int (Int32.ofNat A.slots.size), .int 0, .ref b, .ref a])) := c1.trans (by
    refine XS.aloadN X0.here hexec rfl (hb hbytes d0) rfl rfl ?_
    refine XS.aloadN X0.here hexec rfl (hb hbytes d1) rfl rfl ?_
    refine iconstV X0.here hexec rfl 0 (hb hbytes d2) (by decide) ?_
    refine XS.aloadN X0.here hexec rfl (hb hbytes d3) rfl rfl ?_
    refine X0.alen hexec (hA.1.mv X0.warmed.alike hh0) rfl rfl (hb hbytes d4) ?_
    refine XS.aconstNull X0.here hexec rfl (hb hbytes d5) ?_
    exact Steps.refl _)
  obtain ⟨v3, T3, X3, E3, g3⟩ := X0.callN hexec (New4.law l a D fV fC b A z 0 A.slots.size) rfl hown (wks W (initW "java/lang/String" 27 New4.yN)) (W New4.tab (by simp only [site, List.mem_cons, List.mem_append, true_or, or_true])) (W := 0) (Nat.le_of_ble_eq_true rfl) (Nat.le_of_ble_eq_true rfl) (Nat.le_refl _) (by show 0 + A.slots.size ≤ A.slots.size; omega) (g := (mkF m 6 #[.val (.ref a), .val (.ref b)] [.null, .int (Int32.ofNat A.slots.size), .int (Int32.ofNat 0), .ref b, .ref a])) rfl (by rw [hml]; rfl) c2 (argsL := [.ref b, .int (Int32.ofNat 0), .int (Int32.ofNat A.slots.size), .null]) (rest := []) rfl rfl (by show 2 * 0 + 0 ≤ _; decide) (hb hbytes d6) (⟨rfl, hB.mv X0.warmed.alike hh0, f1.al X0.warmed.alike, f2.al X0.warmed.alike, hA.mv X0.warmed.alike hh0, s1.there X0.warmed.alike hh0, hz, l0, by omega, l2, fun i hi => by rw [Nat.zero_add]; exact hp i hi⟩)
  have e0 := Got.mv _ s₁ s _ _ hh0.symm (Vm.Alike.refl _) rfl E3
  obtain rfl := e0.1
  have c4 : Steps p.tables e below (s₁.setTop (entryFrame m #[.ref a, .ref b] 2)) (T3.setTop (mkF m 9 #[.val (.ref a), .val (.ref b)] [])) := g3
  exact ⟨T3, none, _, _, _, X3, by simp, rfl, by omega, (fun _ => rfl), e0, fun fs hl => c4.trans (X3.returnOut hexec hret (hb hbytes d9) hl)⟩
theorem pays {l : Launch} {R : Room} {p : Program} {e : Env} {below : List Frame} {s : State} {sargs : Array Value} {len W : Nat} (a : Addr) (D : Cell) (fV fC : Field) (b : Addr) (A : Cell) (z : Int32) (htab : tab.before sargs s = true) (hfr : 4 ≤ R.frames) (hlo : W + 65 ≤ R.locals) :
    Back l R p e below s sargs yN len W (fun A₁ a₁ => A₁.cells + 1 ≤ R.cells ∧ A₁.slots + A.slots.size ≤ R.slots ∧ P a D fV fC b A z a₁ A₁.U) (fun A₁ _ v₁ B₁ => E a D fV fC A v₁ A₁.U B₁.U ∧ B₁.locs = A₁.locs ++ [⟨a, fC.slot⟩, ⟨a, fV.slot⟩] ∧ B₁.cells = A₁.cells + 1 ∧ B₁.slots = A₁.slots + A.slots.size) :=
  (law l a D fV fC b A z).pays htab hfr (by omega)
end New1
/-- the byte, read back as charAt reads it, is the char -/
theorem lo8_mask {x : Int32} (h0 : ¬ x < 0) (h1 : ¬ 255 < x) : lo8 x &&& 255 = x := by
  have t : ∀ k : Fin 256, lo8 (Int32.ofNat k.val) &&& 255 = Int32.ofNat k.val := by decide +kernel
  rw [Int32.lt_iff_toInt_lt] at h0 h1
  have e0 : (0 : Int32).toInt = 0 := rfl
  have e1 : (255 : Int32).toInt = 255 := rfl
  obtain ⟨k, hk⟩ : ∃ k : Nat, x.toInt = k := ⟨x.toInt.toNat, by omega⟩
  have hx : x = Int32.ofNat k := Int32.toInt_inj.mp (by rw [hk, Int32.toInt_ofNat_small (by omega)])
  rw [hx]
  exact t ⟨k, by omega⟩
end StrChars
namespace StrChars.Road
open Jvm Sem ClassFile Op Lib Jvm.Stand Jvm.Free Jvm.Free.XT
open Jvm.Lib.Cold (StaticIs)
abbrev ST : String := "java/lang/String"
/-- every table word that New1's law asks, flat -/
abbrev words : List Jvm.Cond := [.code New1.yN New1.yB 2 none, .initialized ST, .methodLink ST 27 New4.yN, .instanceMethod New4.yN,
  .code New4.yN New4.yB 6 none, .fieldLink ST 38 ST "COMPACT_STRINGS" "Z", .laysFinal ST ST "value" "[B", .fieldLink ST 9 ST "value" "[B", .laysFinal ST ST "coder" "B", .fieldLink ST 15 ST "coder" "B",
  .methodLink ST 1 Lib.objectInit, .instanceMethod Lib.objectInit, .code Lib.objectInit ⟨#[0xb1]⟩ 1 none, .methodLink ST 177 Cmp3.yN, .static Cmp3.yN, .methodLink ST 47 CodL.yN, .static CodL.yN,
  .code Cmp3.yN Cmp3.yB 6 (some (.array .byte)), .initialized U16, .arrayClass .byte, .methodLink U16 115 Cmp5.yN, .static Cmp5.yN, .code Cmp5.yN Cmp5.yB 7 (some .int), .code CodL.yN CodL.yB 2 (some .byte)]
theorem tab_of {a : Array Value} {s : State} (h : ∀ w ∈ words, w.before a s = true) : New1.tab.before a s = true := by
  have h5 : Cmp5.tab.before a s = true := unparts (wk h (.code Cmp5.yN Cmp5.yB 7 (some .int))) (wks h (.initialized Cmp5.yN.cls :: Cmp5.site))
  have hc : CodL.tab.before a s = true := unparts (wk h (.code CodL.yN CodL.yB 2 (some .byte))) (wks h (.initialized CodL.yN.cls :: CodL.site))
  have q5 : ∀ w ∈ Cmp5.tab :: words, w.before a s = true := fun w hw => (List.mem_cons.mp hw).elim (fun e => e ▸ h5) (h w)
  have h3 : Cmp3.tab.before a s = true := unparts (wk q5 (.code Cmp3.yN Cmp3.yB 6 (some (.array .byte)))) (wks q5 (.initialized Cmp3.yN.cls :: Cmp3.site))
  have q3 : ∀ w ∈ Cmp3.tab :: CodL.tab :: words, w.before a s = true := fun w hw => (List.mem_cons.mp hw).elim (fun e => e ▸ h3) fun hw => (List.mem_cons.mp hw).elim (fun e => e ▸ hc) (h w)
  have h4 : New4.tab.before a s = true := unparts (wk q3 (.code New4.yN New4.yB 6 none)) (wks q3 (.initialized New4.yN.cls :: New4.site))
  have q4 : ∀ w ∈ New4.tab :: words, w.before a s = true := fun w hw => (List.mem_cons.mp hw).elim (fun e => e ▸ h4) (h w)
  exact unparts (wk q4 (.code New1.yN New1.yB 2 none)) (wks q4 (.initialized New1.yN.cls :: New1.site))
/-- the words ride from the start Z to the walk's own state -/
theorem moved {Z s : State} {a0 args : Array Value} (hZ : Z.Warmed39 s.vm) (hw : ∀ d ∈ words, d.before a0 Z = true) : ∀ d ∈ words, d.before args s = true := fun d hd => by
  have q := hw d hd
  have t : ∀ d ∈ words, d = .arrayClass .byte ∨ (d.onTables && d.keepsFace) = true := by decide +kernel
  rcases t d hd with rfl | t
  · exact RoadKit.mvA hZ q
  · exact RoadKit.mv hZ q t
/-- WHAT COMES BACK, over the tables of the start Z: h the heap at the call, h' behind it -/
def Q (Z : State) (x : Addr) (A : Cell) (h : Heap) (v : Option Value) (h' : Heap) (L : List Loc) : Prop := v = none ∧ (∀ y ∈ L, y.base = x) ∧ RoadKit.Keep h h' [x] ∧ h'.size = h.size + 1 ∧ RoadKit.Exa Z h' x ST ∧ RoadKit.Fld Z h' x ST "value" "[B" (.ref h.size) ∧ RoadKit.Fld Z h' x ST "coder" "B" (.int 0) ∧
  (∃ V : Cell, RoadKit.Arr Z h' h.size V .byte ∧ V.vm = .none ∧ Z.vm.findClass "[B" = some V.cls ∧ V.slots.size = A.slots.size ∧ ∀ j, j < A.slots.size → V.slots[j]? = some (.int (lo8 (cv A j)))) ∧
  ∀ (O n d : String) (w : Value), RoadKit.Fld Z h x O n d w → RoadKit.slotOf Z O n d ≠ RoadKit.slotOf Z ST "value" "[B" → RoadKit.slotOf Z O n d ≠ RoadKit.slotOf Z ST "coder" "B" → RoadKit.Fld Z h' x O n d w
/-- **new String(chars) AT A CALL, IN THE ROAD'S FORM**: for specialBack behind newO: x the fresh String, b the char[] with the cell A -/
theorem back {p : Program} {l : Launch} {e : Env} {R : Room} {s : State} {args : Array Value} {below : List Frame} {len W : Nat} {Z : State} {a0 : Array Value} {h : Heap} (hZ : Z.Warmed39 s.vm) (hw : ∀ d ∈ words, d.before a0 Z = true) {kI : Nat} (wi : (Jvm.Cond.instantiable ST kI).before a0 Z = true)
    {x b : Addr} {A : Cell} {z : Int32} {v0 c0 : Value} (E : RoadKit.Exa Z h x ST) (V : RoadKit.Fld Z h x ST "value" "[B" v0) (C : RoadKit.Fld Z h x ST "coder" "B" c0) (K : RoadKit.Arr Z h b A .char) (hty : Typed .char A) (S : RoadKit.Sta Z h ST "COMPACT_STRINGS" "Z" (.int z)) (hz : ¬ z = 0)
    (l0 : 0 < A.slots.size) (l2 : A.slots.size ≤ 536870912) (hp : ∀ i, i < A.slots.size → ¬ 255 < cv A i) (hfr : 4 ≤ R.frames) (hlo : W + 65 ≤ R.locals) :
    Back l R p e below s args New1.yN len W (fun P a => a = #[.ref x, .ref b] ∧ P.U.heap = h ∧ P.cells + 1 ≤ R.cells ∧ P.slots + A.slots.size ≤ R.slots)
      (fun P _ v B => ∃ L, Q Z x A h v B.U.heap L ∧ B.locs = P.locs ++ L ∧ B.cells = P.cells + 1 ∧ B.slots = P.slots + A.slots.size) := by
  intro m meth c P g ig mk a X hg hsize hdg hW hn hp'
  obtain ⟨rfl, rfl, r1, r2⟩ := hp'
  have al : Z.vm.Alike P.U.vm := hZ.alike.trans X.warmed.alike
  obtain ⟨D, cfV, kV, iV, fV, hD, gV, stV, knV, obV, asV, slV⟩ := id V
  obtain ⟨D', cfC, kC, iC, fC, hD', gC, stC, -, -, asC, slC⟩ := id C
  cases hD.symm.trans hD'
  obtain ⟨D2, kD, e1, e2, e3, e4, e5⟩ := id E
  cases hD.symm.trans e1
  obtain ⟨c2, k2, i1, i2, i3, -⟩ := Cond.instantiable_spec wi
  cases e2.symm.trans i1
  cases e3.symm.trans i2
  obtain ⟨kU, u1, u2⟩ := al.2.2 _ _ e3
  have hB : Blank ST x D P.U := ⟨hD, ⟨knV, fun q hq => by rw [hq] at obV; cases obV⟩, by rw [al.findClass]; exact e2, kU, u1, by rw [u2]; exact i3, by rw [u2]; exact e5 i3⟩
  have F1 : Found ST "value" "[B" fV P.U := ⟨SBG.found_only al ⟨cfV, kV, iV, gV⟩, stV⟩
  have F2 : Found ST "coder" "B" fC P.U := ⟨SBG.found_only al ⟨cfC, kC, iC, gC⟩, stC⟩
  have hA : Ch b A P.U := ⟨⟨K.1, State.isArrayOf_alike al K.2.1, K.2.2, by omega⟩, hty⟩
  have hS : StaticIs P.U ST "COMPACT_STRINGS" "Z" (.int z) := by
    obtain ⟨cfS, iS, kS, fS, st, cS, t1, t2, t3, t4, t5, t6, t7⟩ := S
    exact StaticIs.there (s := { Z with heap := P.U.heap }) ⟨cfS, iS, kS, fS, st, cS, t1, t2, t3, t4, t5, (fun q => by rw [q] at t6; cases t6), t7⟩ al rfl
  obtain ⟨v, B, X', ⟨⟨hv, E', V', q1, q2, q3, q4, q5, q6, q7, q8, q9, q10, q11⟩, hl, hc, hs⟩, st⟩ := New1.pays x D fV fC b A z (tab_of (moved hZ hw)) hfr hlo m meth c P g ig mk _ X hg hsize hdg hW hn ⟨r1, r2, rfl, hB, F1, F2, hA, hS, hz, l0, l2, hp⟩
  have al' : Z.vm.Alike B.U.vm := hZ.alike.trans X'.warmed.alike
  have hsz : E'.slots.size = D.slots.size := by
    obtain ⟨-, -, -, kB, w1, w2, w3⟩ := q1
    obtain ⟨kB', y1, y2⟩ := al'.2.2 _ _ e3
    rw [q2.2.1] at w1
    cases w1.symm.trans y1
    rw [w3, e5 i3, y2]
  refine ⟨v, B, X', ⟨_, ⟨hv, ?_, ⟨by omega, fun y cy hy hn' => q10 y cy (by simpa using hn') hy, fun y cy hy => ?_⟩, q11, ⟨E', _, q1.1, by rw [q2.2.1]; exact e2, by rw [q2.2.1]; exact e3, by rw [q2.1]; exact obV, fun _ => by rw [hsz]; exact e5 i3⟩,
    ⟨E', cfV, kV, iV, fV, q1.1, gV, stV, by rw [q2.1]; exact knV, by rw [q2.1]; exact obV, by rw [q2.2.1]; exact asV, q3⟩, ⟨E', cfC, kC, iC, fC, q1.1, gC, stC, by rw [q2.1]; exact knV, by rw [q2.1]; exact obV, by rw [q2.2.1]; exact asC, q4⟩,
    ⟨V', ⟨q5.1, State.isArrayOf_alike al'.symm q5.2.1, q5.2.2.1⟩, q6, by rw [← al'.findClass]; exact q7, q8, fun j hj => by have := q9 j hj; rwa [Nat.zero_add] at this⟩, fun O n d w F n1 n2 => ?_⟩, hl, hc, hs⟩, st⟩
  · intro y hy
    simp only [List.mem_cons, List.not_mem_nil, or_false] at hy
    rcases hy with rfl | rfl <;> rfl
  · by_cases q : y = x
    · subst q
      cases hD.symm.trans hy
      exact ⟨E', q1.1, q2.2.1, q2.1, hsz⟩
    · exact ⟨cy, q10 y cy q hy, rfl, rfl, rfl⟩
  · obtain ⟨D3, cf, k, i, f, g1, g2, g3, g4, g5, g6, g7⟩ := F
    cases hD.symm.trans g1
    simp only [RoadKit.slotOf, g2, gV, gC, Option.map_some, Option.getD_some] at n1 n2
    exact ⟨E', cf, k, i, f, q1.1, g2, g3, by rw [q2.1]; exact g4, by rw [q2.1]; exact g5, by rw [q2.2.1]; exact g6, by rw [q2.2.2 f.slot (by simp [n1, n2])]; exact g7⟩
end StrChars.Road
namespace StrChars.Road
open Jvm Sem ClassFile Op Lib Jvm.Stand Jvm.Free Jvm.Free.XT
/-- WHAT COMES BACK, the byte[] as a list of values -/
def QA (Z : State) (x : Addr) (zn : Int32) (cs : List Int32) (h : Heap) (v : Option Value) (h' : Heap) (L : List Loc) : Prop := v = none ∧ (∀ y ∈ L, y.base = x) ∧ RoadKit.Keep h h' [x] ∧ h'.size = h.size + 1 ∧ RoadKit.Exa Z h' x ST ∧ RoadKit.Fld Z h' x ST "value" "[B" (.ref h.size) ∧ RoadKit.Fld Z h' x ST "coder" "B" (.int 0) ∧
  (∃ kb, Z.vm.findClass "[B" = some kb ∧ RoadKit.Arv Z h' h.size kb .byte zn (cs.map fun c => .int (lo8 c)) (.int 0)) ∧
  ∀ (O n d : String) (w : Value), RoadKit.Fld Z h x O n d w → RoadKit.slotOf Z O n d ≠ RoadKit.slotOf Z ST "value" "[B" → RoadKit.slotOf Z O n d ≠ RoadKit.slotOf Z ST "coder" "B" → RoadKit.Fld Z h' x O n d w
/-- **new String(chars) AT A CALL, THE ARRAYS AS LISTS**: the char[] at b holds cs, not empty, no char above 255 -/
theorem backArv {p : Program} {l : Launch} {e : Env} {R : Room} {s : State} {args : Array Value} {below : List Frame} {len W : Nat} {Z : State} {a0 : Array Value} {h : Heap} (hZ : Z.Warmed39 s.vm) (hw : ∀ d ∈ words, d.before a0 Z = true) {kI : Nat} (wi : (Jvm.Cond.instantiable ST kI).before a0 Z = true)
    {x b : Addr} {k : ClassId} {zn z : Int32} {cs : List Int32} {dv v0 c0 : Value} (E : RoadKit.Exa Z h x ST) (V : RoadKit.Fld Z h x ST "value" "[B" v0) (C : RoadKit.Fld Z h x ST "coder" "B" c0) (K : RoadKit.Arv Z h b k .char zn (cs.map Value.int) dv) (S : RoadKit.Sta Z h ST "COMPACT_STRINGS" "Z" (.int z)) (hz : ¬ z = 0)
    (hlen : zn.toNatClampNeg = cs.length) (h0 : 0 < cs.length) (hbig : cs.length ≤ 536870912) (hall : ∀ c ∈ cs, ¬ 255 < c) (hfr : 4 ≤ R.frames) (hlo : W + 65 ≤ R.locals) :
    Back l R p e below s args New1.yN len W (fun P a => a = #[.ref x, .ref b] ∧ P.U.heap = h ∧ P.cells + 1 ≤ R.cells ∧ P.slots + cs.length ≤ R.slots)
      (fun P _ v B => ∃ L, QA Z x zn cs h v B.U.heap L ∧ B.locs = P.locs ++ L ∧ B.cells = P.cells + 1 ∧ B.slots = P.slots + cs.length) := by
  obtain ⟨A, K1, K2, K3, K4, K5, K6⟩ := K
  have e : A.slots.size = cs.length := K3.trans hlen
  have hat : ∀ (i : Nat) (hi : i < cs.length), A.slots[i]? = some (.int cs[i]) := fun i hi => by rw [K5 i (by omega)]; simp [List.getD_eq_getElem?_getD, hi]
  have hcv : ∀ (i : Nat) (hi : i < cs.length), cv A i = cs[i] := fun i hi => by unfold cv; rw [hat i hi]
  have hty : Typed .char A := fun i v hv => by
    have hi : i < A.slots.size := (Array.getElem?_eq_some_iff.mp hv).1
    have q := K5 i hi
    rw [hv] at q
    rw [Option.some.inj q]
    exact K6 i hi
  refine Back.mono (back hZ hw wi E V C K1 hty S hz (by omega) (by omega) (fun i hi => by rw [hcv i (by omega)]; exact hall _ (List.getElem_mem _)) hfr hlo) (fun P a hp => ⟨hp.1, hp.2.1, hp.2.2.1, by rw [e]; exact hp.2.2.2⟩) (fun P a v B hp hq => ?_)
  obtain ⟨L, ⟨q1, q2, q3, q4, q5, q6, q7, ⟨V', v1, v2, v3, v4, v5⟩, q9⟩, hl, hc, hs⟩ := hq
  refine ⟨L, ⟨q1, q2, q3, q4, q5, q6, q7, ⟨V'.cls, v3, V', v1, rfl, by rw [v4, e, hlen], K4, fun i hi => ?_, fun i hi => ?_⟩, q9⟩, hl, hc, by rw [hs, e]⟩
  · have hi' : i < cs.length := by omega
    rw [v5 i (by omega), hcv i hi']; simp [List.getD_eq_getElem?_getD, hi']
  · have hi' : i < cs.length := by omega
    simp only [List.getD_eq_getElem?_getD, List.getElem?_map, List.getElem?_eq_getElem hi', Option.map_some, Option.getD_some]
    exact fits_lo8 _
end StrChars.Road
namespace StrChars.Road
open Jvm Sem ClassFile Op Lib Jvm.Stand Jvm.Free Jvm.Free.XT
/-- WHAT COMES BACK, in the writer's own shape -/
def QV (Z : State) (x : Addr) (N : Int32) (bs : List Int32) (h : Heap) (n0 : Nat) (v : Option Value) (h' : Heap) (L : List Loc) : Prop := v = none ∧ RoadKit.Fr n0 L ∧ RoadKit.Keep h h' [x] ∧ RoadKit.Exa Z h' x ST ∧ RoadKit.Fld Z h' x ST "coder" "B" (.int 0) ∧
  ∃ (t : Addr) (kb : ClassId), n0 ≤ t ∧ h.size ≤ t ∧ ¬ t = x ∧ RoadKit.Fld Z h' x ST "value" "[B" (.ref t) ∧ RoadKit.Arv Z h' t kb .byte N (bs.map Value.int) (.int 0)
/-- **new String(chars) AT A CALL, FOR THE WRITER**: a char[] of n known ints, each 0 to 255 -/
theorem backV {p : Program} {l : Launch} {e : Env} {R : Room} {s : State} {args : Array Value} {below : List Frame} {len W : Nat} {Z : State} {a0 : Array Value} {h : Heap} (hZ : Z.Warmed39 s.vm) (hw : ∀ d ∈ words, d.before a0 Z = true) {kI : Nat} (wi : (Jvm.Cond.instantiable ST kI).before a0 Z = true)
    {x b : Addr} {kC : ClassId} {cs bs : List Int32} {d v0 c0 : Value} {z N : Int32} {n n0 : Nat} (hx0 : n0 ≤ x) (hh0 : n0 ≤ h.size) (E : RoadKit.Exa Z h x ST) (V : RoadKit.Fld Z h x ST "value" "[B" v0) (C : RoadKit.Fld Z h x ST "coder" "B" c0) (K : RoadKit.Arv Z h b kC .char N (cs.map Value.int) d) (S : RoadKit.Sta Z h ST "COMPACT_STRINGS" "Z" (.int z)) (hz : ¬ z = 0)
    (hn : cs.length = n) (hN : N = Int32.ofNat n) (l0 : 0 < n) (l2 : n ≤ 4000) (hp : ∀ c ∈ cs, ¬ c < 0 ∧ ¬ (255 : Int32) < c) (hb : bs = cs.map (fun c => c.toInt8.toInt32)) (hfr : 4 ≤ R.frames) (hlo : W + 65 ≤ R.locals) :
    Back l R p e below s args (⟨"java/lang/String", "<init>", "([C)V"⟩ : MethodName) len W (fun P a => a = #[.ref x, .ref b] ∧ P.U.heap = h ∧ P.cells + 1 ≤ R.cells ∧ P.slots + n ≤ R.slots)
      (fun P _ v B => ∃ L, QV Z x N bs h n0 v B.U.heap L ∧ B.locs = P.locs ++ L ∧ B.cells = P.cells + 1 ∧ B.slots = P.slots + n) := by
  subst hn hN hb
  refine Back.mono (backArv hZ hw wi E V C K S hz (n32 (by omega)) l0 (by omega) (fun c hc => (hp c hc).2) hfr hlo) (fun P a hp => hp) (fun P a v B hp hq => ?_)
  obtain ⟨L, ⟨q1, q2, q3, q4, q5, q6, q7, ⟨kb, v1, v2⟩, q9⟩, hl, hc, hs⟩ := hq
  exact ⟨L, ⟨q1, fun y hy => by rw [q2 y hy]; exact hx0, q3, q5, q7, h.size, kb, hh0, Nat.le_refl _, Nat.ne_of_gt E.lt, q6, by rw [List.map_map]; exact v2⟩, hl, hc, hs⟩
end StrChars.Road
namespace StrChars
open Jvm Sem ClassFile Op Lib Jvm.Stand Jvm.Free.XT Jvm.Free.ALB Jvm.Free.JM Jvm.Free
open Jvm.Lib.Cold (StaticIs)
def hi8 (x : Int32) : Int32 := lo8 (x >>> ((8 : Int32) &&& 31))
/-- what StringUTF16.getChar makes of two bytes -/
def pairCh (u v : Int32) : Int32 := (((u &&& 255) <<< ((0 : Int32) &&& 31)) ||| ((v &&& 255) <<< ((8 : Int32) &&& 31))).toUInt32.toUInt16.toUInt32.toInt32
theorem lo8_and (x : Int32) : (lo8 x &&& 255).toBitVec.toNat = x.toBitVec.toNat % 256 := by
  have h : (lo8 x).toBitVec = (x.toBitVec.signExtend 8).signExtend 32 := by rw [lo8, Int8.toBitVec_toInt32, Int32.toBitVec_toInt8]
  rw [Int32.toBitVec_and, BitVec.toNat_and, h]
  have e : ((x.toBitVec.signExtend 8).signExtend 32).toNat % 256 = x.toBitVec.toNat % 256 := by
    rw [BitVec.toNat_signExtend]
    have hlt := x.toBitVec.isLt
    simp only [BitVec.toNat_setWidth, BitVec.toNat_signExtend]
    split <;> split <;> omega
  rw [← e]
  exact Nat.and_two_pow_sub_one_eq_mod _ 8
theorem pair_says {c : Int32} (h0 : ¬ c < 0) (h1 : ¬ 65535 < c) : pairCh (lo8 c) (hi8 c) = c := by
  rw [Int32.lt_iff_toInt_lt] at h0 h1
  have e0 : (0 : Int32).toInt = 0 := rfl
  have e1 : (65535 : Int32).toInt = 65535 := rfl
  have hc : c.toInt = c.toBitVec.toNat := by
    have := c.toBitVec.isLt
    have e : c.toInt = c.toBitVec.toInt := rfl
    rw [e] at h0 h1
    rw [e]
    rw [BitVec.toInt_eq_toNat_cond] at h0 h1 ⊢
    split at h0 <;> split <;> omega
  have hn : c.toBitVec.toNat < 65536 := by omega
  have a1 := lo8_and c
  have a2 : (hi8 c &&& 255).toBitVec.toNat = c.toBitVec.toNat / 256 := by
    rw [hi8, lo8_and]
    have e : ((8 : Int32) &&& 31) = 8 := by decide
    rw [e, Int32.toBitVec_shiftRight]
    have e2 : ((8 : Int32).toBitVec.smod 32) = 8#32 := by decide
    rw [e2, BitVec.sshiftRight_eq', BitVec.toNat_sshiftRight_of_msb_false (by rw [BitVec.msb_eq_false_iff_two_mul_lt]; omega)]
    show c.toBitVec.toNat >>> 8 % 256 = _
    rw [Nat.shiftRight_eq_div_pow]
    omega
  unfold pairCh
  apply Int32.toBitVec_inj.mp
  apply BitVec.eq_of_toNat_eq
  have f0 : ((0 : Int32) &&& 31) = 0 := by decide
  have f8 : ((8 : Int32) &&& 31) = 8 := by decide
  rw [f0, f8]
  have g : (((lo8 c &&& 255) <<< (0 : Int32)) ||| ((hi8 c &&& 255) <<< (8 : Int32))).toBitVec.toNat = c.toBitVec.toNat := by
    rw [Int32.toBitVec_or, Int32.toBitVec_shiftLeft, Int32.toBitVec_shiftLeft]
    have s0 : ((0 : Int32).toBitVec.smod 32) = 0#32 := by decide
    have s8 : ((8 : Int32).toBitVec.smod 32) = 8#32 := by decide
    rw [s0, s8, BitVec.toNat_or]
    simp only [BitVec.shiftLeft_eq', BitVec.toNat_shiftLeft, a1, a2]
    show (c.toBitVec.toNat % 256) <<< 0 % 2 ^ 32 ||| (c.toBitVec.toNat / 256) <<< 8 % 2 ^ 32 = _
    rw [Nat.shiftLeft_zero, Nat.mod_eq_of_lt (show c.toBitVec.toNat % 256 < 2 ^ 32 by omega), Nat.mod_eq_of_lt (show (c.toBitVec.toNat / 256) <<< 8 < 2 ^ 32 by rw [Nat.shiftLeft_eq]; omega), Nat.or_comm, ← Nat.shiftLeft_add_eq_or_of_lt (by omega), Nat.shiftLeft_eq]
    omega
  show BitVec.toNat (((((lo8 c &&& 255) <<< (0 : Int32)) ||| ((hi8 c &&& 255) <<< (8 : Int32))).toBitVec.setWidth 16).setWidth 32) = _
  rw [BitVec.toNat_setWidth, BitVec.toNat_setWidth, g]
  omega
end StrChars
namespace StrChars
open Jvm Sem ClassFile Op Lib Jvm.Stand Jvm.Free.XT Jvm.Free.ALB Jvm.Free.JM Jvm.Free
open Jvm.Lib.Cold (StaticIs)
/-- the array's cell V codes the n chars f 0 .. f (n - 1) by the coder cd, as the JDK does: coder 1 just where some char is above 255 -/
def Cod (cd : Int32) (n : Nat) (f : Nat → Int32) (V : Cell) : Prop := (cd = 0 ∧ V.slots.size = n ∧ ∀ j, j < n → V.slots[j]? = some (.int (lo8 (f j))) ∧ ¬ 255 < f j) ∨ (cd = 1 ∧ V.slots.size = 2 * n ∧ (∀ j, j < n → V.slots[2 * j]? = some (.int (lo8 (f j))) ∧ V.slots[2 * j + 1]? = some (.int (hi8 (f j)))) ∧ ∃ j, j < n ∧ 255 < f j)
/-- **x is a String of the n chars f 0 .. f (n - 1)**, Latin-1 or UTF-16; its array at t has the cell V -/
def Txt (x t : Addr) (V : Cell) (cd : Int32) (n : Nat) (f : Nat → Int32) (U : State) : Prop := Exact "java/lang/String" x U ∧ Has x "java/lang/String" "value" "[B" (.ref t) U ∧ Has x "java/lang/String" "coder" "B" (.int cd) U ∧ XT.Arr .byte t V U ∧ Cod cd n f V ∧ ∀ j, j < n → ¬ f j < 0 ∧ ¬ 65535 < f j
theorem Txt.mv {x t : Addr} {V : Cell} {cd : Int32} {n : Nat} {f : Nat → Int32} {U U' : State} (h : Txt x t V cd n f U) (hal : U.vm.Alike U'.vm) (hh : U'.heap = U.heap) : Txt x t V cd n f U' := ⟨h.1.mv hal hh, h.2.1.mv hal hh, h.2.2.1.mv hal hh, h.2.2.2.1.mv hal hh, h.2.2.2.2⟩
end StrChars
namespace StrChars.Road
open Jvm Sem ClassFile Op Lib Jvm.Stand Jvm.Free Jvm.Free.XT
open Jvm.Lib.Cold (StaticIs)
theorem consq {a : Array Value} {s : State} {c : Jvm.Cond} {L : List Jvm.Cond} (h0 : c.before a s = true) (h : ∀ w ∈ L, w.before a s = true) : ∀ w ∈ c :: L, w.before a s = true := fun w hw => (List.mem_cons.mp hw).elim (fun e => e ▸ h0) (h w)
/-- the bytes of the chars cs, low before high -/
def wideBytes : List Int32 → List Value
  | [] => []
  | c :: cs => .int (lo8 c) :: .int (hi8 c) :: wideBytes cs
theorem wide_lo (d : Value) : ∀ (cs : List Int32) (j : Nat), j < cs.length → (wideBytes cs).getD (2 * j) d = .int (lo8 (cs.getD j 0))
  | [], j, h => absurd h (Nat.not_lt_zero j)
  | c :: cs, 0, _ => rfl
  | c :: cs, j + 1, h => by
    have q := wide_lo d cs j (by simpa using h)
    rw [show 2 * (j + 1) = 2 * j + 1 + 1 from by omega]
    simpa [wideBytes] using q
theorem wide_hi (d : Value) : ∀ (cs : List Int32) (j : Nat), j < cs.length → (wideBytes cs).getD (2 * j + 1) d = .int (hi8 (cs.getD j 0))
  | [], j, h => absurd h (Nat.not_lt_zero j)
  | c :: cs, 0, _ => rfl
  | c :: cs, j + 1, h => by
    have q := wide_hi d cs j (by simpa using h)
    rw [show 2 * (j + 1) + 1 = 2 * j + 1 + 1 + 1 from by omega]
    simpa [wideBytes] using q
theorem low_at (d : Value) (cs : List Int32) (j : Nat) (h : j < cs.length) : (cs.map fun c => Value.int (lo8 c)).getD j d = .int (lo8 (cs.getD j 0)) := by
  simp [List.getD_eq_getElem?_getD, h]
/-- an array of N2 bytes vs codes the chars cs by the coder cd -/
def CodA (cs : List Int32) (cd N2 : Int32) (vs : List Value) : Prop := (cd = 0 ∧ N2 = Int32.ofNat cs.length ∧ vs = (cs.map fun c => Value.int (lo8 c)) ∧ ∀ c ∈ cs, ¬ 255 < c) ∨ (cd = 1 ∧ N2 = Int32.ofNat (2 * cs.length) ∧ vs = wideBytes cs ∧ ∃ c ∈ cs, 255 < c)
theorem CodA.cod {cs : List Int32} {cd N2 : Int32} {vs : List Value} {V : Cell} (h : CodA cs cd N2 vs) (hn : 2 * cs.length < 2 ^ 31) (hs : V.slots.size = N2.toNatClampNeg) (hv : RoadKit.Has V vs (.int 0)) : Cod cd cs.length (fun j => cs.getD j 0) V := by
  rcases h with ⟨rfl, rfl, rfl, h⟩ | ⟨rfl, rfl, rfl, c, hc, hw⟩
  · rw [n32 (by omega)] at hs
    exact Or.inl ⟨rfl, hs, fun j hj => ⟨by rw [hv j (by omega), low_at _ _ _ hj], by
      have e : cs.getD j 0 = cs[j] := by simp [List.getD_eq_getElem?_getD, hj]
      show ¬ 255 < cs.getD j 0
      rw [e]; exact h _ (List.getElem_mem _)⟩⟩
  · rw [n32 (by omega)] at hs
    obtain ⟨j, hj, rfl⟩ := List.getElem_of_mem hc
    exact Or.inr ⟨rfl, hs, fun j hj => ⟨by rw [hv _ (by omega), wide_lo _ _ _ hj], by rw [hv _ (by omega), wide_hi _ _ _ hj]⟩, j, hj, by
      have e : cs.getD j 0 = cs[j] := by simp [List.getD_eq_getElem?_getD, hj]
      show 255 < cs.getD j 0
      rw [e]; exact hw⟩
/-- an object of exactly java/lang/String, its two fields found: as the laws ask it -/
theorem strObj {Z U : State} {a0 : Array Value} {kI : Nat} (wi : (Jvm.Cond.instantiable ST kI).before a0 Z = true) (al : Z.vm.Alike U.vm) {x : Addr} {v0 c0 : Value} (E : RoadKit.Exa Z U.heap x ST) (V : RoadKit.Fld Z U.heap x ST "value" "[B" v0) (C : RoadKit.Fld Z U.heap x ST "coder" "B" c0) :
    ∃ (D : Cell) (fV fC : Field), Blank ST x D U ∧ Found ST "value" "[B" fV U ∧ Found ST "coder" "B" fC U ∧ D.slots[fV.slot]? = some v0 ∧ D.slots[fC.slot]? = some c0 ∧ RoadKit.slotOf Z ST "value" "[B" = fV.slot ∧ RoadKit.slotOf Z ST "coder" "B" = fC.slot := by
  obtain ⟨D, cfV, kV, iV, fV, hD, gV, stV, knV, obV, asV, slV⟩ := V
  obtain ⟨D', cfC, kC, iC, fC, hD', gC, stC, -, -, asC, slC⟩ := C
  cases hD.symm.trans hD'
  obtain ⟨D2, kD, e1, e2, e3, e4, e5⟩ := E
  cases hD.symm.trans e1
  obtain ⟨c2, k2, i1, i2, i3, -⟩ := Cond.instantiable_spec wi
  cases e2.symm.trans i1
  cases e3.symm.trans i2
  obtain ⟨kU, u1, u2⟩ := al.2.2 _ _ e3
  exact ⟨D, fV, fC, ⟨hD, ⟨knV, fun q hq => by rw [hq] at obV; cases obV⟩, by rw [al.findClass]; exact e2, kU, u1, by rw [u2]; exact i3, by rw [u2]; exact e5 i3⟩, ⟨SBG.found_only al ⟨cfV, kV, iV, gV⟩, stV⟩, ⟨SBG.found_only al ⟨cfC, kC, iC, gC⟩, stC⟩, slV, slC, by simp [RoadKit.slotOf, gV], by simp [RoadKit.slotOf, gC]⟩
theorem sta_is {Z U : State} (al : Z.vm.Alike U.vm) {C n d : String} {v : Value} (S : RoadKit.Sta Z U.heap C n d v) : StaticIs U C n d v := by
  obtain ⟨cfS, iS, kS, fS, st, cS, t1, t2, t3, t4, t5, t6, t7⟩ := S
  exact StaticIs.there (s := { Z with heap := U.heap }) ⟨cfS, iS, kS, fS, st, cS, t1, t2, t3, t4, t5, (fun q => by rw [q] at t6; cases t6), t7⟩ al rfl
end StrChars.Road
namespace StrChars
open Jvm Sem ClassFile Op Lib Jvm.Stand Jvm.Free.XT Jvm.Free.ALB Jvm.Free.JM Jvm.Free
open Jvm.Lib.Cold (StaticIs)
/-- what place i of a byte[]'s cell holds -/
def yv (A : Cell) (i : Nat) : Int32 := match A.slots[i]? with | some (.int x) => x | _ => 0
theorem yv_get {a : Addr} {A : Cell} {U : State} (h : XT.Arr .byte a A U) (ht : Typed .byte A) {i : Nat} (hi : i < A.slots.size) : A.slots[i]? = some (.int (yv A i)) := by
  have e := Array.getElem?_eq_getElem hi
  have f := ht i _ e
  unfold yv; rw [e]
  generalize A.slots[i] = v at f
  cases v <;> simp [fits] at f ⊢
/-- the two arrays are equal, place for place -/
def EqC (A B : Cell) : Prop := A.slots.size = B.slots.size ∧ ∀ i, i < A.slots.size → yv A i = yv B i
/-- a boolean that says whether p -/
def Says01 (q : Prop) (r : Option Value) (s u : State) : Prop := ∃ v : Int32, r = some (.int v) ∧ u.heap = s.heap ∧ ((v = 1 ∧ q) ∨ (v = 0 ∧ ¬ q))
theorem Says01.mv {q : Prop} : ∀ r (U U' V V' : State), U'.heap = U.heap → V.vm.Alike V'.vm → V'.heap = V.heap → Says01 q r U V → Says01 q r U' V' :=
  fun r U U' V V' h1 _ h2 ⟨v, a, b, c⟩ => ⟨v, a, by rw [h1, h2]; exact b, c⟩
namespace LEq
def yN : MethodName := ⟨"java/lang/StringLatin1", "equals", "([B[B)Z"⟩
abbrev yB : ByteArray := jdk_43_method_13_code
theorem d0 : decode yB 0 = .ok (.aload_n 0, 1) := by decide +kernel
theorem d1 : decode yB 1 = .ok (.arraylength, 1) := by decide +kernel
theorem d2 : decode yB 2 = .ok (.aload_n 1, 1) := by decide +kernel
theorem d3 : decode yB 3 = .ok (.arraylength, 1) := by decide +kernel
theorem d4 : decode yB 4 = .ok (.if_icmp (.ne) 30, 3) := by decide +kernel
theorem d7 : decode yB 7 = .ok (.iconst 0, 1) := by decide +kernel
theorem d8 : decode yB 8 = .ok (.istore_n 2, 1) := by decide +kernel
theorem d9 : decode yB 9 = .ok (.iload_n 2, 1) := by decide +kernel
theorem d10 : decode yB 10 = .ok (.aload_n 0, 1) := by decide +kernel
theorem d11 : decode yB 11 = .ok (.arraylength, 1) := by decide +kernel
theorem d12 : decode yB 12 = .ok (.if_icmp (.ge) 20, 3) := by decide +kernel
theorem d15 : decode yB 15 = .ok (.aload_n 0, 1) := by decide +kernel
theorem d16 : decode yB 16 = .ok (.iload_n 2, 1) := by decide +kernel
theorem d17 : decode yB 17 = .ok (.baload, 1) := by decide +kernel
theorem d18 : decode yB 18 = .ok (.aload_n 1, 1) := by decide +kernel
theorem d19 : decode yB 19 = .ok (.iload_n 2, 1) := by decide +kernel
theorem d20 : decode yB 20 = .ok (.baload, 1) := by decide +kernel
theorem d21 : decode yB 21 = .ok (.if_icmp (.eq) 5, 3) := by decide +kernel
theorem d24 : decode yB 24 = .ok (.iconst 0, 1) := by decide +kernel
theorem d25 : decode yB 25 = .ok (.ireturn, 1) := by decide +kernel
theorem d26 : decode yB 26 = .ok (.iinc 2 1, 3) := by decide +kernel
theorem d29 : decode yB 29 = .ok (.goto (-20), 3) := by decide +kernel
theorem d32 : decode yB 32 = .ok (.iconst 1, 1) := by decide +kernel
theorem d33 : decode yB 33 = .ok (.ireturn, 1) := by decide +kernel
theorem d34 : decode yB 34 = .ok (.iconst 0, 1) := by decide +kernel
theorem d35 : decode yB 35 = .ok (.ireturn, 1) := by decide +kernel
def site : List Cond := []
def tab : Cond := tabOf yN yB 3 (some .boolean) site
def P (a : Addr) (A : Cell) (b : Addr) (B : Cell) (args : Array Value) (s : State) : Prop := args = #[.ref a, .ref b] ∧ XT.Arr .byte a A s ∧ Typed .byte A ∧ XT.Arr .byte b B s ∧ Typed .byte B
/-- whether two byte[] are equal, place for place -/
theorem law (l : Launch) (a : Addr) (A : Cell) (b : Addr) (B : Cell) : Law l yN 2 2 0 0 yB 3 (some .boolean) site (P a A b B) (Says01 (EqC A B)) [] 0 0 := by
  refine Law.of_walk (plainFor_of_name (by decide +kernel)) (by decide +kernel) (by decide +kernel) (by decide) (fun _ _ h => by rw [h.1]; rfl) (fun _ U U' hal hh h => ⟨h.1, h.2.1.mv hal hh, h.2.2.1, h.2.2.2.1.mv hal hh, h.2.2.2.2⟩) (fun r U U' V V' h1 hal h2 h => Says01.mv r U U' V V' h1 hal h2 h) ?_
  intro p e s m args below meth c s₁ X0 hexec hbytes hml hret hlk hnm hown hh0 W hP
  obtain ⟨rfl, hA, tA, hB, tB⟩ := hP
  have a31 := hA.2.2.2
  have b31 := hB.2.2.2
  have hA0 := hA.mv X0.warmed.alike hh0
  have hB0 := hB.mv X0.warmed.alike hh0
  have c1 : Steps p.tables e below (s₁.setTop (entryFrame m #[.ref a, .ref b] 3)) (s₁.setTop (mkF m 0 #[.val (.ref a), .val (.ref b), .unset] [])) := entry rfl
  have c2 : Steps p.tables e below (s₁.setTop (entryFrame m #[.ref a, .ref b] 3)) (s₁.setTop (mkF m 4 #[.val (.ref a), .val (.ref b), .unset] [.int (Int32.ofNat B.slots.size), .int (Int32.ofNat A.slots.size)])) := c1.trans (by
    refine XS.aloadN X0.here hexec rfl (hb hbytes d0) rfl rfl ?_
    refine X0.alen hexec hA0 rfl rfl (hb hbytes d1) ?_
    refine XS.aloadN X0.here hexec rfl (hb hbytes d2) rfl rfl ?_
    refine X0.alen hexec hB0 rfl rfl (hb hbytes d3) ?_
    exact Steps.refl _)
  by_cases hs : A.slots.size = B.slots.size
  · have c3 : Steps p.tables e below (s₁.setTop (entryFrame m #[.ref a, .ref b] 3)) (s₁.setTop (mkF m 9 #[.val (.ref a), .val (.ref b), .val (.int 0)] [])) := c2.trans (by
      refine XS.icmpNo X0.here hexec rfl (hb hbytes d4) rfl (ii_ne_f (by rw [hs])) ?_
      refine iconstV X0.here hexec rfl 0 (hb hbytes d7) (by decide) ?_
      refine XS.istoreN X0.here hexec rfl (hb hbytes d8) rfl rfl ?_
      exact Steps.refl _)
    have loop : ∀ (r i : Nat), i + r = A.slots.size → (∀ j, j < i → yv A j = yv B j) → Steps p.tables e below (s₁.setTop (entryFrame m #[.ref a, .ref b] 3)) (s₁.setTop (mkF m 9 #[.val (.ref a), .val (.ref b), .val (.int (Int32.ofNat i))] [])) → ∃ (pc : Nat) (Ls : Array Slot) (v : Int32), (pc = 25 ∨ pc = 33) ∧ ((v = 1 ∧ EqC A B) ∨ (v = 0 ∧ ¬ EqC A B)) ∧ Steps p.tables e below (s₁.setTop (entryFrame m #[.ref a, .ref b] 3)) (s₁.setTop (mkF m pc Ls [.int v])) := by
      intro r
      induction r with
      | zero =>
        intro i hi he cl
        exact ⟨33, _, 1, Or.inr rfl, Or.inl ⟨rfl, hs, fun j hj => he j (by omega)⟩, cl.trans (by
          refine XS.iloadN X0.here hexec rfl (hb hbytes d9) rfl ?_
          refine XS.aloadN X0.here hexec rfl (hb hbytes d10) rfl rfl ?_
          refine X0.alen hexec hA0 rfl rfl (hb hbytes d11) ?_
          refine XS.icmpYes X0.here hexec rfl (pc0 := 12) rfl (hb hbytes d12) rfl (ii_ge_t (nlt32 (by omega) (by omega))) (by decide) rfl ?_
          refine iconstV X0.here hexec rfl 1 (hb hbytes d32) (by decide) ?_
          exact Steps.refl _)⟩
      | succ r ih =>
        intro i hi he cl
        have c4 : Steps p.tables e below (s₁.setTop (entryFrame m #[.ref a, .ref b] 3)) (s₁.setTop (mkF m 21 #[.val (.ref a), .val (.ref b), .val (.int (Int32.ofNat i))] [.int (yv B i), .int (yv A i)])) := cl.trans (by
          refine XS.iloadN X0.here hexec rfl (hb hbytes d9) rfl ?_
          refine XS.aloadN X0.here hexec rfl (hb hbytes d10) rfl rfl ?_
          refine X0.alen hexec hA0 rfl rfl (hb hbytes d11) ?_
          refine XS.icmpNo X0.here hexec rfl (hb hbytes d12) rfl (ii_ge_f (lt32 (by omega) (by omega))) ?_
          refine XS.aloadN X0.here hexec rfl (hb hbytes d15) rfl rfl ?_
          refine XS.iloadN X0.here hexec rfl (hb hbytes d16) rfl ?_
          refine X0.aget hexec hA0 rfl (yv_get hA tA (i := i) (by omega)) rfl rfl (hb hbytes d17) ?_
          refine XS.aloadN X0.here hexec rfl (hb hbytes d18) rfl rfl ?_
          refine XS.iloadN X0.here hexec rfl (hb hbytes d19) rfl ?_
          refine X0.aget hexec hB0 rfl (yv_get hB tB (i := i) (by omega)) rfl rfl (hb hbytes d20) ?_
          exact Steps.refl _)
        by_cases hv : yv A i = yv B i
        · have c5 : Steps p.tables e below (s₁.setTop (entryFrame m #[.ref a, .ref b] 3)) (s₁.setTop (mkF m 9 #[.val (.ref a), .val (.ref b), .val (.int (Int32.ofNat i + 1))] [])) := c4.trans (by
            refine XS.icmpYes X0.here hexec rfl (pc0 := 21) rfl (hb hbytes d21) rfl (ii_eq_t hv) (by decide) rfl ?_
            refine iincV X0.here hexec rfl 1 (hb hbytes d26) (by decide) rfl rfl ?_
            refine XS.goto X0.here hexec rfl (pc0 := 29) rfl (hb hbytes d29) (by decide) rfl ?_
            exact Steps.refl _)
          rw [succ32] at c5
          exact ih (i + 1) (by omega) (fun j hj => by
            by_cases e : j = i
            · rw [e]; exact hv
            · exact he j (by omega)) c5
        · exact ⟨25, _, 0, Or.inl rfl, Or.inr ⟨rfl, fun q => hv (q.2 i (by omega))⟩, c4.trans (by
            refine XS.icmpNo X0.here hexec rfl (hb hbytes d21) rfl (ii_eq_f hv) ?_
            refine iconstV X0.here hexec rfl 0 (hb hbytes d24) (by decide) ?_
            exact Steps.refl _)⟩
    obtain ⟨pc, Ls, v, hpc, hv, cz⟩ := loop A.slots.size 0 (by omega) (fun j hj => absurd hj (Nat.not_lt_zero j)) c3
    have nv : narrow .boolean (.int v) = .int v := by rcases hv with ⟨rfl, -⟩ | ⟨rfl, -⟩ <;> rfl
    rcases hpc with rfl | rfl
    · exact ⟨s₁, some (.int v), _, _, _, X0, rfl, rfl, rfl, (fun h => by cases h), ⟨v, rfl, hh0, hv⟩, fun fs hl => cz.trans (X0.ireturnOut hexec hret nv (Or.inr (Or.inl rfl)) (hb hbytes d25) hl)⟩
    · exact ⟨s₁, some (.int v), _, _, _, X0, rfl, rfl, rfl, (fun h => by cases h), ⟨v, rfl, hh0, hv⟩, fun fs hl => cz.trans (X0.ireturnOut hexec hret nv (Or.inr (Or.inl rfl)) (hb hbytes d33) hl)⟩
  · have c3 : Steps p.tables e below (s₁.setTop (entryFrame m #[.ref a, .ref b] 3)) (s₁.setTop (mkF m 35 #[.val (.ref a), .val (.ref b), .unset] [.int 0])) := c2.trans (by
      refine XS.icmpYes X0.here hexec rfl (pc0 := 4) rfl (hb hbytes d4) rfl (ii_ne_t (ne32 a31 b31 hs)) (by decide) rfl ?_
      refine iconstV X0.here hexec rfl 0 (hb hbytes d34) (by decide) ?_
      exact Steps.refl _)
    exact ⟨s₁, some (.int 0), _, _, _, X0, rfl, rfl, rfl, (fun h => by cases h), ⟨0, rfl, hh0, Or.inr ⟨rfl, fun q => hs q.1⟩⟩, fun fs hl => c3.trans (X0.ireturnOut hexec hret rfl (Or.inr (Or.inl rfl)) (hb hbytes d35) hl)⟩
end LEq
theorem Cod.ty {cd : Int32} {n : Nat} {f : Nat → Int32} {V : Cell} (h : Cod cd n f V) : Typed .byte V := fun i v hv => by
  have hi : i < V.slots.size := (Array.getElem?_eq_some_iff.mp hv).1
  rcases h with ⟨-, k1, k2⟩ | ⟨-, k1, k2, -⟩
  · rw [(k2 i (by omega)).1] at hv; cases hv; exact fits_lo8 _
  · rcases Nat.mod_two_eq_zero_or_one i with e | e
    · obtain ⟨j, rfl⟩ : ∃ j, i = 2 * j := ⟨i / 2, by omega⟩
      rw [(k2 j (by omega)).1] at hv; cases hv; exact fits_lo8 _
    · obtain ⟨j, rfl⟩ : ∃ j, i = 2 * j + 1 := ⟨i / 2, by omega⟩
      rw [(k2 j (by omega)).2] at hv; cases hv; exact fits_lo8 _
/-- the same text -/
def SameT (n : Nat) (f : Nat → Int32) (k : Nat) (g : Nat → Int32) : Prop := n = k ∧ ∀ j, j < n → f j = g j
theorem lo8_inj {x y : Int32} (h0 : ¬ x < 0) (h1 : ¬ 255 < x) (k0 : ¬ y < 0) (k1 : ¬ 255 < y) (h : lo8 x = lo8 y) : x = y := by
  rw [← lo8_mask h0 h1, ← lo8_mask k0 k1, h]
/-- arrays coded by one coder are equal just where the texts are -/
theorem Cod.eqv {cd : Int32} {n k : Nat} {f g : Nat → Int32} {V V' : Cell} (h : Cod cd n f V) (h' : Cod cd k g V') (hf : ∀ j, j < n → ¬ f j < 0 ∧ ¬ 65535 < f j) (hg : ∀ j, j < k → ¬ g j < 0 ∧ ¬ 65535 < g j) : EqC V V' ↔ SameT n f k g := by
  have yvv : ∀ {W : Cell} {i : Nat} {x : Int32}, W.slots[i]? = some (.int x) → yv W i = x := fun q => by unfold yv; rw [q]
  rcases h with ⟨rfl, k1, k2⟩ | ⟨rfl, k1, k2, -⟩
  · rcases h' with ⟨-, m1, m2⟩ | ⟨e, -⟩
    · constructor
      · rintro ⟨e1, e2⟩
        refine ⟨by omega, fun j hj => ?_⟩
        have q := e2 j (by omega)
        rw [yvv (k2 j hj).1, yvv (m2 j (by omega)).1] at q
        exact lo8_inj (hf j hj).1 (k2 j hj).2 (hg j (by omega)).1 (m2 j (by omega)).2 q
      · rintro ⟨rfl, e2⟩
        refine ⟨by omega, fun j hj => ?_⟩
        rw [yvv (k2 j (by omega)).1, yvv (m2 j (by omega)).1, e2 j (by omega)]
    · exact absurd e (by decide)
  · rcases h' with ⟨e, -⟩ | ⟨-, m1, m2, -⟩
    · exact absurd e (by decide)
    · constructor
      · rintro ⟨e1, e2⟩
        refine ⟨by omega, fun j hj => ?_⟩
        have q1 := e2 (2 * j) (by omega)
        have q2 := e2 (2 * j + 1) (by omega)
        rw [yvv (k2 j hj).1, yvv (m2 j (by omega)).1] at q1
        rw [yvv (k2 j hj).2, yvv (m2 j (by omega)).2] at q2
        rw [← pair_says (hf j hj).1 (hf j hj).2, ← pair_says (hg j (by omega)).1 (hg j (by omega)).2, q1, q2]
      · rintro ⟨rfl, e2⟩
        refine ⟨by omega, fun i hi => ?_⟩
        rcases Nat.mod_two_eq_zero_or_one i with e | e
        · obtain ⟨j, rfl⟩ : ∃ j, i = 2 * j := ⟨i / 2, by omega⟩
          rw [yvv (k2 j (by omega)).1, yvv (m2 j (by omega)).1, e2 j (by omega)]
        · obtain ⟨j, rfl⟩ : ∃ j, i = 2 * j + 1 := ⟨i / 2, by omega⟩
          rw [yvv (k2 j (by omega)).2, yvv (m2 j (by omega)).2, e2 j (by omega)]
/-- two codings differ: so do the texts -/
theorem Cod.dif {cd cd' : Int32} {n k : Nat} {f g : Nat → Int32} {V V' : Cell} (h : Cod cd n f V) (h' : Cod cd' k g V') (hne : ¬ cd = cd') : ¬ SameT n f k g := by
  rintro ⟨rfl, e⟩
  rcases h with ⟨rfl, -, k2⟩ | ⟨rfl, -, -, j, hj, hw⟩
  · rcases h' with ⟨rfl, -⟩ | ⟨-, -, -, j, hj, hw⟩
    · exact hne rfl
    · exact (k2 j hj).2 (by rw [e j hj]; exact hw)
  · rcases h' with ⟨-, -, m2⟩ | ⟨rfl, -⟩
    · exact (m2 j hj).2 (by rw [← e j hj]; exact hw)
    · exact hne rfl
/-- an object of exactly C is an instance of C -/
theorem cinst {p : Program} {l : Launch} {e : Env} {R : Room} {s : State} {m : MethodId} {args : Array Value} {below : List Frame} {meth : Method} {c : Code} {T : State} {locs : List Loc} {cells slots : Nat} (X : Stand p l e R s m args below meth c T locs cells slots) (hexec : p.tables.exec = Jvm.exec) {own C : String} {index : Nat} (hown : s.vm.findClass own = some m.cls) (hlink : (Cond.classLink own index C).before args s = true) {a : Addr} (hE : Exact C a T)
    {g : JFrame} (hg : g.method = m) {rest : List Value} (hstack : g.stack = .ref a :: rest) (hdg : decode c.code g.pc = .ok (.instanceof index, 3)) :
    ∃ T', Stand p l e R s m args below meth c T' locs cells slots ∧ T'.heap = T.heap ∧ ∀ target, Steps p.tables e below (T'.setTop { g with pc := g.pc + 3, stack := .int 1 :: rest }) target → Steps p.tables e below (T.setTop g) target := by
  obtain ⟨cB, h1, D, h2, h3, h4⟩ := hE
  have h1' : s.vm.findClass C = some cB := by rw [← X.warmed.alike.findClass]; exact h1
  obtain ⟨vm', X', st⟩ := X.instanceofYes hexec hown hlink h2 h4 h1' (by rw [h3]; exact Jvm.Free.SB.assignable_self _ _) hg hstack hdg
  exact ⟨_, X', rfl, st⟩
theorem cself {p : Program} {l : Launch} {e : Env} {R : Room} {s : State} {m : MethodId} {args : Array Value} {below : List Frame} {meth : Method} {c : Code} {T : State} {locs : List Loc} {cells slots : Nat} (X : Stand p l e R s m args below meth c T locs cells slots) (hexec : p.tables.exec = Jvm.exec) {own C : String} {index : Nat} (hown : s.vm.findClass own = some m.cls) (hlink : (Cond.classLink own index C).before args s = true) {a : Addr} (hE : Exact C a T)
    {g : JFrame} (hg : g.method = m) {rest : List Value} (hstack : g.stack = .ref a :: rest) (hdg : decode c.code g.pc = .ok (.checkcast index, 3)) :
    ∃ T', Stand p l e R s m args below meth c T' locs cells slots ∧ T'.heap = T.heap ∧ ∀ target, Steps p.tables e below (T'.setTop { g with pc := g.pc + 3, stack := .ref a :: rest }) target → Steps p.tables e below (T.setTop g) target := by
  obtain ⟨cB, h1, D, h2, h3, h4⟩ := hE
  have h1' : s.vm.findClass C = some cB := by rw [← X.warmed.alike.findClass]; exact h1
  obtain ⟨vm', X', st⟩ := X.checkcastYes hexec hown hlink h2 h4 h1' (by rw [h3]; exact Jvm.Free.SB.assignable_self _ _) hg hstack hdg
  exact ⟨_, X', rfl, fun t h => st t (by rw [← hstack] at h; exact h)⟩
namespace SEq
def yN : MethodName := ⟨"java/lang/String", "equals", "(Ljava/lang/Object;)Z"⟩
abbrev yB : ByteArray := jdk_42_method_66_code
theorem d0 : decode yB 0 = .ok (.aload_n 0, 1) := by decide +kernel
theorem d1 : decode yB 1 = .ok (.aload_n 1, 1) := by decide +kernel
theorem d2 : decode yB 2 = .ok (.if_acmp (.ne) 5, 3) := by decide +kernel
theorem d5 : decode yB 5 = .ok (.iconst 1, 1) := by decide +kernel
theorem d6 : decode yB 6 = .ok (.ireturn, 1) := by decide +kernel
theorem d7 : decode yB 7 = .ok (.aload_n 1, 1) := by decide +kernel
theorem d8 : decode yB 8 = .ok (.instanceof 10, 3) := by decide +kernel
theorem d11 : decode yB 11 = .ok (.ifCond (.eq) 43, 3) := by decide +kernel
theorem d14 : decode yB 14 = .ok (.aload_n 1, 1) := by decide +kernel
theorem d15 : decode yB 15 = .ok (.checkcast 10, 3) := by decide +kernel
theorem d18 : decode yB 18 = .ok (.astore_n 2, 1) := by decide +kernel
theorem d19 : decode yB 19 = .ok (.getstatic 38, 3) := by decide +kernel
theorem d22 : decode yB 22 = .ok (.ifCond (.eq) 14, 3) := by decide +kernel
theorem d25 : decode yB 25 = .ok (.aload_n 0, 1) := by decide +kernel
theorem d26 : decode yB 26 = .ok (.getfield 15, 3) := by decide +kernel
theorem d29 : decode yB 29 = .ok (.aload_n 2, 1) := by decide +kernel
theorem d30 : decode yB 30 = .ok (.getfield 15, 3) := by decide +kernel
theorem d33 : decode yB 33 = .ok (.if_icmp (.ne) 21, 3) := by decide +kernel
theorem d36 : decode yB 36 = .ok (.aload_n 0, 1) := by decide +kernel
theorem d37 : decode yB 37 = .ok (.getfield 9, 3) := by decide +kernel
theorem d40 : decode yB 40 = .ok (.aload_n 2, 1) := by decide +kernel
theorem d41 : decode yB 41 = .ok (.getfield 9, 3) := by decide +kernel
theorem d44 : decode yB 44 = .ok (.invokestatic 541, 3) := by decide +kernel
theorem d47 : decode yB 47 = .ok (.ifCond (.eq) 7, 3) := by decide +kernel
theorem d50 : decode yB 50 = .ok (.iconst 1, 1) := by decide +kernel
theorem d51 : decode yB 51 = .ok (.goto 4, 3) := by decide +kernel
theorem d54 : decode yB 54 = .ok (.iconst 0, 1) := by decide +kernel
theorem d55 : decode yB 55 = .ok (.ireturn, 1) := by decide +kernel
def site : List Cond := [.classLink "java/lang/String" 10 "java/lang/String", .fieldLink "java/lang/String" 38 "java/lang/String" "COMPACT_STRINGS" "Z", .fieldLink "java/lang/String" 15 "java/lang/String" "coder" "B", .fieldLink "java/lang/String" 9 "java/lang/String" "value" "[B", LEq.tab] ++ staticW "java/lang/String" 541 LEq.yN
def tab : Cond := tabOf yN yB 3 (some .boolean) site
def P (x t : Addr) (V : Cell) (cd : Int32) (n : Nat) (f : Nat → Int32) (y t' : Addr) (V' : Cell) (cd' : Int32) (k : Nat) (g : Nat → Int32) (z : Int32) (args : Array Value) (s : State) : Prop := args = #[.ref x, .ref y] ∧ Txt x t V cd n f s ∧ Txt y t' V' cd' k g s ∧ StaticIs s "java/lang/String" "COMPACT_STRINGS" "Z" (.int z) ∧ ¬ z = 0
/-- equals(Object) of two Strings: whether the texts are the same -/
theorem law (l : Launch) (x t : Addr) (V : Cell) (cd : Int32) (n : Nat) (f : Nat → Int32) (y t' : Addr) (V' : Cell) (cd' : Int32) (k : Nat) (g : Nat → Int32) (z : Int32) : Law l yN 2 1 1 14 yB 3 (some .boolean) site (P x t V cd n f y t' V' cd' k g z) (Says01 (SameT n f k g)) [] 0 0 := by
  refine Law.of_walk (plainFor_of_name (by decide +kernel)) (by decide +kernel) (by decide +kernel) (by decide) (fun _ _ h => by rw [h.1]; rfl) (fun _ U U' hal hh h => ⟨h.1, h.2.1.mv hal hh, h.2.2.1.mv hal hh, h.2.2.2.1.there hal hh, h.2.2.2.2⟩) (fun r U U' V V' h1 hal h2 h => Says01.mv r U U' V V' h1 hal h2 h) ?_
  intro p e s m args below meth c s₁ X0 hexec hbytes hml hret hlk hnm hown hh0 W hP
  obtain ⟨rfl, hx, hy, s1, hz⟩ := hP
  have c1 : Steps p.tables e below (s₁.setTop (entryFrame m #[.ref x, .ref y] 3)) (s₁.setTop (mkF m 2 #[.val (.ref x), .val (.ref y), .unset] [.ref y, .ref x])) := Steps.trans (entry rfl) (by
    show Steps p.tables e below (s₁.setTop (mkF m 0 #[.val (.ref x), .val (.ref y), .unset] [])) _
    refine XS.aloadN X0.here hexec rfl (hb hbytes d0) rfl rfl ?_
    refine XS.aloadN X0.here hexec rfl (hb hbytes d1) rfl rfl ?_
    exact Steps.refl _)
  by_cases hxy : x = y
  · have c2 : Steps p.tables e below (s₁.setTop (entryFrame m #[.ref x, .ref y] 3)) (s₁.setTop (mkF m 6 #[.val (.ref x), .val (.ref y), .unset] [.int 1])) := c1.trans (by
      refine acmpNo X0.here hexec rfl (hb hbytes d2) rfl rfl rfl (by simp [acmp, hxy]) ?_
      refine iconstV X0.here hexec rfl 1 (hb hbytes d5) (by decide) ?_
      exact Steps.refl _)
    subst hxy
    have ec : cd = cd' := by
      obtain ⟨D, fd, a1, a2, a3⟩ := hx.2.2.1
      obtain ⟨D', fd', b1, b2, b3⟩ := hy.2.2.1
      cases a1.symm.trans b1
      obtain ⟨q1, q2, q3, q4⟩ := a2.1
      obtain ⟨r1, r2, r3, r4⟩ := b2.1
      cases q4.symm.trans r4
      cases a3.symm.trans b3; rfl
    have et : t = t' := by
      obtain ⟨D, fd, a1, a2, a3⟩ := hx.2.1
      obtain ⟨D', fd', b1, b2, b3⟩ := hy.2.1
      cases a1.symm.trans b1
      obtain ⟨q1, q2, q3, q4⟩ := a2.1
      obtain ⟨r1, r2, r3, r4⟩ := b2.1
      cases q4.symm.trans r4
      cases a3.symm.trans b3; rfl
    subst ec et
    have ev : V = V' := by cases hx.2.2.2.1.1.symm.trans hy.2.2.2.1.1; rfl
    subst ev
    have hs : SameT n f k g := (Cod.eqv hx.2.2.2.2.1 hy.2.2.2.2.1 hx.2.2.2.2.2 hy.2.2.2.2.2).mp ⟨rfl, fun _ _ => rfl⟩
    exact ⟨s₁, some (.int 1), _, _, _, X0, rfl, rfl, rfl, (fun h => by cases h), ⟨1, rfl, hh0, Or.inl ⟨rfl, hs⟩⟩, fun fs hl => c2.trans (X0.ireturnOut hexec hret rfl (Or.inr (Or.inl rfl)) (hb hbytes d6) hl)⟩
  · have c2 : Steps p.tables e below (s₁.setTop (entryFrame m #[.ref x, .ref y] 3)) (s₁.setTop (mkF m 8 #[.val (.ref x), .val (.ref y), .unset] [.ref y])) := c1.trans (by
      refine acmpYes X0.here hexec rfl (pc0 := 2) rfl (hb hbytes d2) rfl rfl rfl (by simp [acmp, hxy]) (by decide) rfl ?_
      refine XS.aloadN X0.here hexec rfl (hb hbytes d7) rfl rfl ?_
      exact Steps.refl _)
    obtain ⟨T3, X3, q3, st3⟩ := cinst X0 hexec hown (wk W (.classLink "java/lang/String" 10 "java/lang/String")) (hy.mv X0.warmed.alike hh0).1 (g := (mkF m 8 #[.val (.ref x), .val (.ref y), .unset] [.ref y])) rfl (rest := []) rfl (hb hbytes d8)
    have hh3 := q3.trans hh0
    have c4 : Steps p.tables e below (s₁.setTop (entryFrame m #[.ref x, .ref y] 3)) (T3.setTop (mkF m 15 #[.val (.ref x), .val (.ref y), .unset] [.ref y])) := (c2.trans (st3 _ (Steps.refl _))).trans (by
      refine XS.ifNo X3.here hexec rfl (hb hbytes d11) rfl (i0_eq_f (by decide)) ?_
      refine XS.aloadN X3.here hexec rfl (hb hbytes d14) rfl rfl ?_
      exact Steps.refl _)
    obtain ⟨T5, X5, q5, st5⟩ := cself X3 hexec hown (wk W (.classLink "java/lang/String" 10 "java/lang/String")) (hy.mv X3.warmed.alike hh3).1 (g := (mkF m 15 #[.val (.ref x), .val (.ref y), .unset] [.ref y])) rfl (rest := []) rfl (hb hbytes d15)
    have hh5 := q5.trans hh3
    have c6 : Steps p.tables e below (s₁.setTop (entryFrame m #[.ref x, .ref y] 3)) (T5.setTop (mkF m 19 #[.val (.ref x), .val (.ref y), .val (.ref y)] [])) := (c4.trans (st5 _ (Steps.refl _))).trans (by
      refine XS.astoreN X5.here hexec rfl (hb hbytes d18) rfl rfl rfl ?_
      exact Steps.refl _)
    obtain ⟨T7, X7, q7, st7⟩ := X5.sget hexec hown (wk W (.fieldLink "java/lang/String" 38 "java/lang/String" "COMPACT_STRINGS" "Z")) s1 (fun _ _ h => by rw [hh5]; exact h) (g := (mkF m 19 #[.val (.ref x), .val (.ref y), .val (.ref y)] [])) rfl (hb hbytes d19)
    have hh7 := q7.trans hh5
    have c8 : Steps p.tables e below (s₁.setTop (entryFrame m #[.ref x, .ref y] 3)) (T7.setTop (mkF m 26 #[.val (.ref x), .val (.ref y), .val (.ref y)] [.ref x])) := (c6.trans (st7 _ (Steps.refl _))).trans (by
      refine XS.ifNo X7.here hexec rfl (hb hbytes d22) rfl (i0_eq_f hz) ?_
      refine XS.aloadN X7.here hexec rfl (hb hbytes d25) rfl rfl ?_
      exact Steps.refl _)
    obtain ⟨T9, X9, q9, st9⟩ := X7.hget hexec hown (wk W (.fieldLink "java/lang/String" 15 "java/lang/String" "coder" "B")) (hx.mv X7.warmed.alike hh7).2.2.1 (g := (mkF m 26 #[.val (.ref x), .val (.ref y), .val (.ref y)] [.ref x])) rfl (rest := []) rfl (hb hbytes d26)
    have hh9 := q9.trans hh7
    have c10 : Steps p.tables e below (s₁.setTop (entryFrame m #[.ref x, .ref y] 3)) (T9.setTop (mkF m 30 #[.val (.ref x), .val (.ref y), .val (.ref y)] [.ref y, .int cd])) := (c8.trans (st9 _ (Steps.refl _))).trans (by
      refine XS.aloadN X9.here hexec rfl (hb hbytes d29) rfl rfl ?_
      exact Steps.refl _)
    obtain ⟨T11, X11, q11, st11⟩ := X9.hget hexec hown (wk W (.fieldLink "java/lang/String" 15 "java/lang/String" "coder" "B")) (hy.mv X9.warmed.alike hh9).2.2.1 (g := (mkF m 30 #[.val (.ref x), .val (.ref y), .val (.ref y)] [.ref y, .int cd])) rfl (rest := [.int cd]) rfl (hb hbytes d30)
    have hh11 := q11.trans hh9
    have c12 : Steps p.tables e below (s₁.setTop (entryFrame m #[.ref x, .ref y] 3)) (T11.setTop (mkF m 33 #[.val (.ref x), .val (.ref y), .val (.ref y)] [.int cd', .int cd])) := c10.trans (st11 _ (Steps.refl _))
    by_cases hcd : cd = cd'
    · subst hcd
      have c13 : Steps p.tables e below (s₁.setTop (entryFrame m #[.ref x, .ref y] 3)) (T11.setTop (mkF m 37 #[.val (.ref x), .val (.ref y), .val (.ref y)] [.ref x])) := c12.trans (by
        refine XS.icmpNo X11.here hexec rfl (hb hbytes d33) rfl (ii_ne_f rfl) ?_
        refine XS.aloadN X11.here hexec rfl (hb hbytes d36) rfl rfl ?_
        exact Steps.refl _)
      obtain ⟨T14, X14, q14, st14⟩ := X11.hget hexec hown (wk W (.fieldLink "java/lang/String" 9 "java/lang/String" "value" "[B")) (hx.mv X11.warmed.alike hh11).2.1 (g := (mkF m 37 #[.val (.ref x), .val (.ref y), .val (.ref y)] [.ref x])) rfl (rest := []) rfl (hb hbytes d37)
      have hh14 := q14.trans hh11
      have c15 : Steps p.tables e below (s₁.setTop (entryFrame m #[.ref x, .ref y] 3)) (T14.setTop (mkF m 41 #[.val (.ref x), .val (.ref y), .val (.ref y)] [.ref y, .ref t])) := (c13.trans (st14 _ (Steps.refl _))).trans (by
        refine XS.aloadN X14.here hexec rfl (hb hbytes d40) rfl rfl ?_
        exact Steps.refl _)
      obtain ⟨T16, X16, q16, st16⟩ := X14.hget hexec hown (wk W (.fieldLink "java/lang/String" 9 "java/lang/String" "value" "[B")) (hy.mv X14.warmed.alike hh14).2.1 (g := (mkF m 41 #[.val (.ref x), .val (.ref y), .val (.ref y)] [.ref y, .ref t])) rfl (rest := [.ref t]) rfl (hb hbytes d41)
      have hh16 := q16.trans hh14
      have c17 : Steps p.tables e below (s₁.setTop (entryFrame m #[.ref x, .ref y] 3)) (T16.setTop (mkF m 44 #[.val (.ref x), .val (.ref y), .val (.ref y)] [.ref t', .ref t])) := c15.trans (st16 _ (Steps.refl _))
      obtain ⟨v18, T18, X18, E18, g18⟩ := X16.callS hexec (LEq.law l t V t' V') hown (wks W (staticW "java/lang/String" 541 LEq.yN)) (wk W LEq.tab) (W := 0) (Nat.le_of_ble_eq_true rfl) (Nat.le_of_ble_eq_true rfl) (Nat.le_refl _) (Nat.le_refl _) (g := (mkF m 44 #[.val (.ref x), .val (.ref y), .val (.ref y)] [.ref t', .ref t])) rfl (by rw [hml]; rfl) c17 (argsL := [.ref t, .ref t']) (rest := []) rfl rfl (by show 2 * 0 + 0 ≤ _; decide) (hb hbytes d44) (⟨rfl, hx.2.2.2.1.mv X16.warmed.alike hh16, hx.2.2.2.2.1.ty, hy.2.2.2.1.mv X16.warmed.alike hh16, hy.2.2.2.2.1.ty⟩)
      obtain ⟨v, rfl, q18, hv⟩ := E18
      have iff := Cod.eqv hx.2.2.2.2.1 hy.2.2.2.2.1 hx.2.2.2.2.2 hy.2.2.2.2.2
      rcases hv with ⟨rfl, he⟩ | ⟨rfl, he⟩
      · have c19 : Steps p.tables e below (s₁.setTop (entryFrame m #[.ref x, .ref y] 3)) (T18.setTop (mkF m 55 #[.val (.ref x), .val (.ref y), .val (.ref y)] [.int 1])) := Steps.trans g18 (by
          refine XS.ifNo X18.here hexec rfl (hb hbytes d47) rfl (i0_eq_f (by decide)) ?_
          refine iconstV X18.here hexec rfl 1 (hb hbytes d50) (by decide) ?_
          refine XS.goto X18.here hexec rfl (pc0 := 51) rfl (hb hbytes d51) (by decide) rfl ?_
          exact Steps.refl _)
        exact ⟨T18, some (.int 1), _, _, _, X18, rfl, rfl, rfl, (fun h => by cases h), ⟨1, rfl, q18.trans hh16, Or.inl ⟨rfl, iff.mp he⟩⟩, fun fs hl => c19.trans (X18.ireturnOut hexec hret rfl (Or.inr (Or.inl rfl)) (hb hbytes d55) hl)⟩
      · have c19 : Steps p.tables e below (s₁.setTop (entryFrame m #[.ref x, .ref y] 3)) (T18.setTop (mkF m 55 #[.val (.ref x), .val (.ref y), .val (.ref y)] [.int 0])) := Steps.trans g18 (by
          refine XS.ifYes X18.here hexec rfl (pc0 := 47) rfl (hb hbytes d47) rfl (i0_eq_t rfl) (by decide) rfl ?_
          refine iconstV X18.here hexec rfl 0 (hb hbytes d54) (by decide) ?_
          exact Steps.refl _)
        exact ⟨T18, some (.int 0), _, _, _, X18, rfl, rfl, rfl, (fun h => by cases h), ⟨0, rfl, q18.trans hh16, Or.inr ⟨rfl, fun q => he (iff.mpr q)⟩⟩, fun fs hl => c19.trans (X18.ireturnOut hexec hret rfl (Or.inr (Or.inl rfl)) (hb hbytes d55) hl)⟩
    · have c13 : Steps p.tables e below (s₁.setTop (entryFrame m #[.ref x, .ref y] 3)) (T11.setTop (mkF m 55 #[.val (.ref x), .val (.ref y), .val (.ref y)] [.int 0])) := c12.trans (by
        refine XS.icmpYes X11.here hexec rfl (pc0 := 33) rfl (hb hbytes d33) rfl (ii_ne_t hcd) (by decide) rfl ?_
        refine iconstV X11.here hexec rfl 0 (hb hbytes d54) (by decide) ?_
        exact Steps.refl _)
      exact ⟨T11, some (.int 0), _, _, _, X11, rfl, rfl, rfl, (fun h => by cases h), ⟨0, rfl, hh11, Or.inr ⟨rfl, Cod.dif hx.2.2.2.2.1 hy.2.2.2.2.1 hcd⟩⟩, fun fs hl => c13.trans (X11.ireturnOut hexec hret rfl (Or.inr (Or.inl rfl)) (hb hbytes d55) hl)⟩
theorem pays {l : Launch} {R : Room} {p : Program} {e : Env} {below : List Frame} {s : State} {sargs : Array Value} {len W : Nat} (x t : Addr) (V : Cell) (cd : Int32) (n : Nat) (f : Nat → Int32) (y t' : Addr) (V' : Cell) (cd' : Int32) (k : Nat) (g : Nat → Int32) (z : Int32) (htab : tab.before sargs s = true) (hfr : 2 ≤ R.frames) (hlo : W + 28 ≤ R.locals) :
    Back l R p e below s sargs yN len W (fun A₁ a₁ => A₁.cells + 0 ≤ R.cells ∧ A₁.slots + 0 ≤ R.slots ∧ P x t V cd n f y t' V' cd' k g z a₁ A₁.U) (fun A₁ _ v₁ B₁ => Says01 (SameT n f k g) v₁ A₁.U B₁.U ∧ B₁.locs = A₁.locs ++ [] ∧ B₁.cells = A₁.cells + 0 ∧ B₁.slots = A₁.slots + 0) :=
  (law l x t V cd n f y t' V' cd' k g z).pays htab hfr (by omega)
end SEq
end StrChars
namespace StrChars.Road
open Jvm Sem ClassFile Op Lib Jvm.Stand Jvm.Free Jvm.Free.XT
open Jvm.Lib.Cold (StaticIs)
/-- the words of String.equals(Object) -/
abbrev wordsEq : List Jvm.Cond := [.code SEq.yN SEq.yB 3 (some .boolean), .initialized ST, .classLink ST 10 ST, .fieldLink ST 38 ST "COMPACT_STRINGS" "Z", .fieldLink ST 15 ST "coder" "B", .fieldLink ST 9 ST "value" "[B", .methodLink ST 541 LEq.yN, .static LEq.yN, .code LEq.yN LEq.yB 3 (some .boolean), .initialized "java/lang/StringLatin1"]
theorem tabEq_of {a : Array Value} {s : State} (h : ∀ w ∈ wordsEq, w.before a s = true) : SEq.tab.before a s = true := by
  have hl : LEq.tab.before a s = true := unparts (wk h (.code LEq.yN LEq.yB 3 (some .boolean))) (wks h (.initialized LEq.yN.cls :: LEq.site))
  have q := consq hl h
  exact unparts (wk q (.code SEq.yN SEq.yB 3 (some .boolean))) (wks q (.initialized SEq.yN.cls :: SEq.site))
theorem movedEq {Z s : State} {a0 args : Array Value} (hZ : Z.Warmed39 s.vm) (hw : ∀ d ∈ wordsEq, d.before a0 Z = true) : ∀ d ∈ wordsEq, d.before args s = true := fun d hd => by
  have t : ∀ d ∈ wordsEq, (d.onTables && d.keepsFace) = true := by decide +kernel
  exact RoadKit.mv hZ (hw d hd) (t d hd)
/-- the road's facts of a String, as the laws ask it -/
theorem txt_of {Z U : State} {a0 : Array Value} {kI : Nat} (wi : (Jvm.Cond.instantiable ST kI).before a0 Z = true) (al : Z.vm.Alike U.vm) {x t : Addr} {kb : ClassId} {cs : List Int32} {cd N2 : Int32} {vs : List Value} (E : RoadKit.Exa Z U.heap x ST) (V : RoadKit.Fld Z U.heap x ST "value" "[B" (.ref t)) (C : RoadKit.Fld Z U.heap x ST "coder" "B" (.int cd)) (K : RoadKit.Arv Z U.heap t kb .byte N2 vs (.int 0)) (hc : CodA cs cd N2 vs) (hb : ∀ c ∈ cs, ¬ c < 0 ∧ ¬ (65535 : Int32) < c) (l2 : cs.length ≤ 4000) :
    ∃ A, Txt x t A cd cs.length (fun j => cs.getD j 0) U := by
  obtain ⟨A, K1, K2, K3, K4, K5, K6⟩ := K
  have hcod := hc.cod (by omega) K3 K5
  obtain ⟨D, fV, fC, hB, F1, F2, g1, g2, -, -⟩ := strObj wi al E V C
  exact ⟨A, ⟨_, hB.2.2.1, D, hB.1, rfl, by cases q : D.vm <;> first | rfl | exact absurd q (hB.2.1.2 _)⟩, Has.of hB F1 g1, Has.of hB F2 g2, ⟨K1.1, State.isArrayOf_alike al K1.2.1, K1.2.2, by rcases hcod with ⟨-, q, -⟩ | ⟨-, q, -⟩ <;> omega⟩, hcod, fun j hj => by
    have e : cs.getD j 0 = cs[j] := by simp [List.getD_eq_getElem?_getD, hj]
    show ¬ cs.getD j 0 < 0 ∧ ¬ 65535 < cs.getD j 0
    rw [e]; exact hb _ (List.getElem_mem _)⟩
theorem same_list (cs ds : List Int32) : SameT cs.length (fun j => cs.getD j 0) ds.length (fun j => ds.getD j 0) ↔ cs = ds := by
  constructor
  · rintro ⟨e, q⟩
    refine List.ext_getElem e fun j h1 h2 => ?_
    have := q j h1
    simpa [List.getD_eq_getElem?_getD, h1, h2] using this
  · rintro rfl
    exact ⟨rfl, fun _ _ => rfl⟩
/-- **equals(Object) OF TWO SUCH STRINGS**: 1 just where the chars are the same -/
theorem eqW {p : Program} {l : Launch} {e : Env} {R : Room} {s : State} {args : Array Value} {below : List Frame} {len W : Nat} {Z : State} {a0 : Array Value} {h : Heap} (hZ : Z.Warmed39 s.vm) (hw : ∀ d ∈ wordsEq, d.before a0 Z = true) {kI : Nat} (wi : (Jvm.Cond.instantiable ST kI).before a0 Z = true)
    {x t : Addr} {kb : ClassId} {cs : List Int32} {cd N2 : Int32} {vs : List Value} (E : RoadKit.Exa Z h x ST) (V : RoadKit.Fld Z h x ST "value" "[B" (.ref t)) (C : RoadKit.Fld Z h x ST "coder" "B" (.int cd)) (K : RoadKit.Arv Z h t kb .byte N2 vs (.int 0)) (hc : CodA cs cd N2 vs) (hb : ∀ c ∈ cs, ¬ c < 0 ∧ ¬ (65535 : Int32) < c) (l2 : cs.length ≤ 4000)
    {y t' : Addr} {kb' : ClassId} {ds : List Int32} {cd' N2' : Int32} {vs' : List Value} (E' : RoadKit.Exa Z h y ST) (V' : RoadKit.Fld Z h y ST "value" "[B" (.ref t')) (C' : RoadKit.Fld Z h y ST "coder" "B" (.int cd')) (K' : RoadKit.Arv Z h t' kb' .byte N2' vs' (.int 0)) (hc' : CodA ds cd' N2' vs') (hb' : ∀ c ∈ ds, ¬ c < 0 ∧ ¬ (65535 : Int32) < c) (l2' : ds.length ≤ 4000)
    {z : Int32} (S : RoadKit.Sta Z h ST "COMPACT_STRINGS" "Z" (.int z)) (hz : ¬ z = 0) (hfr : 2 ≤ R.frames) (hlo : W + 28 ≤ R.locals) :
    Back l R p e below s args (⟨"java/lang/String", "equals", "(Ljava/lang/Object;)Z"⟩ : MethodName) len W (fun P a => a = #[.ref x, .ref y] ∧ P.U.heap = h ∧ P.cells + 0 ≤ R.cells ∧ P.slots + 0 ≤ R.slots)
      (fun P _ v B => ∃ L, (((v = some (.int 1) ∧ cs = ds) ∨ (v = some (.int 0) ∧ ¬ cs = ds)) ∧ L = [] ∧ B.U.heap = h) ∧ B.locs = P.locs ++ L ∧ B.cells = P.cells + 0 ∧ B.slots = P.slots + 0) := by
  intro m meth c P g ig mk a X hg hsize hdg hW hn hp'
  obtain ⟨rfl, rfl, r1, r2⟩ := hp'
  have al : Z.vm.Alike P.U.vm := hZ.alike.trans X.warmed.alike
  obtain ⟨A, hx⟩ := txt_of wi al E V C K hc hb l2
  obtain ⟨A', hy⟩ := txt_of wi al E' V' C' K' hc' hb' l2'
  obtain ⟨v, B, X', ⟨⟨w, hv, hh, hq⟩, hl, hk, hs⟩, st⟩ := SEq.pays x t A cd cs.length (fun j => cs.getD j 0) y t' A' cd' ds.length (fun j => ds.getD j 0) z (tabEq_of (movedEq hZ hw)) hfr hlo m meth c P g ig mk _ X hg hsize hdg hW hn ⟨r1, r2, rfl, hx, hy, sta_is al S, hz⟩
  refine ⟨v, B, X', ⟨[], ⟨?_, rfl, hh⟩, hl, hk, hs⟩, st⟩
  rcases hq with ⟨rfl, q⟩ | ⟨rfl, q⟩
  · exact Or.inl ⟨hv, (same_list cs ds).mp q⟩
  · exact Or.inr ⟨hv, fun e => q ((same_list cs ds).mpr e)⟩
end StrChars.Road
end Jvm.Pilot.@@N@@

namespace Jvm.Pilot.@@N@@
open Jvm Jvm.ClassFile Sem Op Lib Jvm.Free Jvm.Stand Jvm.LawKit Jvm.RoadKit Bundle Jvm.Pilot.@@N@@.Jvm.D
/-- the run from U comes to a return whose value, heap and written places Q takes; it has made at most kc cells of ks slots -/
def own_Go (p : Program) (e : Env) (below : List Frame) (s : State) (Q : Option Value → Heap → List Loc → Prop) (kc ks : Nat) (U : State) : Prop :=
  ∃ t o, Steps p.tables e below U t ∧ t.status = .running ∧ Ended t below o ∧ ∃ v L, o = .returned v ∧ Q v t.heap L ∧ FrameEnd s o t L kc ks
section OwnKit
variable {p : Program} {l : Launch} {e : Env} {R : Room} {s : State} {m : MethodId} {args : Array Value} {below : List Frame} {meth : Method} {c : Code} {T : State} {locs : List Loc} {cells slots kc ks : Nat} {Z : State} {a0 : Array Value} {h : Heap} {Q : Option Value → Heap → List Loc → Prop}
theorem own_go {U U' : State} (f : ∀ t, Steps p.tables e below U' t → Steps p.tables e below U t) (g : own_Go p e below s Q kc ks U') : own_Go p e below s Q kc ks U := by
  obtain ⟨t, o, a, r⟩ := g
  exact ⟨t, o, f t a, r⟩
theorem own_end (X : Stand p l e R s m args below meth c T locs cells slots) (hlk : meth.locks = false) (eT : T.heap = h) {v : Option Value} (hv : meth.sig.returnType = none → v = none) (hc : cells ≤ kc) (hs : slots ≤ ks) (hq : Q v h locs) {U : State}
    (hst : ∀ fs, (∀ (f : JFrame) (acts : List Action), f.method = m → f.locked = none → f.entered = [] → (doReturn e (T.setTop f) acts v).1 = T.setFrames fs) → Steps p.tables e below U (T.setFrames fs)) : own_Go p e below s Q kc ks U := by
  obtain ⟨fs, hr, hrun, hended, hW, hsame⟩ := X.leave (v := v) hv hlk
  refine ⟨_, _, hst fs hr, hrun, hended, v, locs, rfl, ?_, ⟨v, rfl⟩, hW, hsame.mono hc hs⟩
  show Q v T.heap locs
  rw [eT]; exact hq
theorem own_retN (X : Stand p l e R s m args below meth c T locs cells slots) (hx : p.tables.exec = Jvm.exec) (hlk : meth.locks = false) (eT : T.heap = h) {pc : Nat} {Ls : Array Slot} {z : Int32} {t : FieldType} {rest : List Value} (hret : meth.sig.returnType = some t) (ht : t = .boolean ∨ t = .byte ∨ t = .char ∨ t = .short)
    (hd : decode c.code pc = .ok (.ireturn, 1)) (hc : cells ≤ kc) (hs : slots ≤ ks) (hq : Q (some (.int (nar t z))) h locs) : own_Go p e below s Q kc ks (T.setTop (mkF m pc Ls (.int z :: rest))) :=
  own_end X hlk eT (fun q => by rw [hret] at q; cases q) hc hs hq fun fs hr => retN X hx hret ht hd hr
theorem own_retI (X : Stand p l e R s m args below meth c T locs cells slots) (hx : p.tables.exec = Jvm.exec) (hlk : meth.locks = false) (eT : T.heap = h) {pc : Nat} {Ls : Array Slot} {z : Int32} {rest : List Value} (hret : meth.sig.returnType = some .int)
    (hd : decode c.code pc = .ok (.ireturn, 1)) (hc : cells ≤ kc) (hs : slots ≤ ks) (hq : Q (some (.int z)) h locs) : own_Go p e below s Q kc ks (T.setTop (mkF m pc Ls (.int z :: rest))) :=
  own_end X hlk eT (fun q => by rw [hret] at q; cases q) hc hs hq fun fs hr => retOut X hx hret rfl (Or.inl ⟨rfl, Or.inl rfl, z, rfl⟩) hd hr
theorem own_retJ (X : Stand p l e R s m args below meth c T locs cells slots) (hx : p.tables.exec = Jvm.exec) (hlk : meth.locks = false) (eT : T.heap = h) {pc : Nat} {Ls : Array Slot} {z : Int64} {rest : List Value} (hret : meth.sig.returnType = some .long)
    (hd : decode c.code pc = .ok (.lreturn, 1)) (hc : cells ≤ kc) (hs : slots ≤ ks) (hq : Q (some (.long z)) h locs) : own_Go p e below s Q kc ks (T.setTop (mkF m pc Ls (.long z :: rest))) :=
  own_end X hlk eT (fun q => by rw [hret] at q; cases q) hc hs hq fun fs hr => retOut X hx hret rfl (Or.inr (Or.inl ⟨rfl, rfl, z, rfl⟩)) hd hr
theorem own_retA (X : Stand p l e R s m args below meth c T locs cells slots) (hx : p.tables.exec = Jvm.exec) (hlk : meth.locks = false) (eT : T.heap = h) {pc : Nat} {Ls : Array Slot} {v : Value} {t : FieldType} {rest : List Value} (hret : meth.sig.returnType = some t) (ht : t.isReference = true) (hv : v.isRef = true)
    (hd : decode c.code pc = .ok (.areturn, 1)) (hc : cells ≤ kc) (hs : slots ≤ ks) (hq : Q (some v) h locs) : own_Go p e below s Q kc ks (T.setTop (mkF m pc Ls (v :: rest))) :=
  own_end X hlk eT (fun q => by rw [hret] at q; cases q) hc hs hq fun fs hr => retOut X hx hret (by cases t <;> first | (cases ht; done) | (rcases ref_cases hv with rfl | ⟨_, rfl⟩ <;> rfl)) (Or.inr (Or.inr (Or.inr (Or.inr ⟨rfl, ht, hv⟩)))) hd hr
theorem own_retV (X : Stand p l e R s m args below meth c T locs cells slots) (hx : p.tables.exec = Jvm.exec) (hlk : meth.locks = false) (eT : T.heap = h) {pc : Nat} {Ls : Array Slot} (hret : meth.sig.returnType = none)
    (hd : decode c.code pc = .ok (.return_, 1)) (hc : cells ≤ kc) (hs : slots ≤ ks) (hq : Q none h locs) : own_Go p e below s Q kc ks (T.setTop (mkF m pc Ls [])) :=
  own_end X hlk eT (fun _ => rfl) hc hs hq fun fs hr => X.returnOut hx hret hd hr
/-- a body's contract out of its walk -/
theorem own_met {y : MethodName} {bytes : ByteArray} {maxL : Nat} {ret : Option FieldType} {ws : List Jvm.Cond} {rm : Room} {as' : Array Value} (kc ks : Nat) (hpl : plainFor y = true)
    (body : ∀ (p : Program) (e : Env) (s : State) (m : MethodId) (below : List Frame) (meth : Method) (c : Code) (T : State), Stand p l e rm s m as' below meth c T [] 0 0 → p.tables.exec = Jvm.exec → c.code = bytes → c.maxLocals = maxL → meth.sig.returnType = ret → meth.locks = false → Z.Warmed39 s.vm → s.vm.findClass y.cls = some m.cls → meth.name = y.name → T.heap = h →
      own_Go p e below s Q kc ks (T.setTop (entryFrame m as' maxL))) :
    MetFree l y (head1 (Jvm.Cond.code y bytes maxL ret :: ws) rm) (fun a U => a = as' ∧ Z.Warmed39 U.vm ∧ U.heap = h) (fun _ _ _ _ _ => True) (fun _ U o U' => ∃ v L, o = .returned v ∧ Q v U'.heap L ∧ FrameEnd U o U' L kc ks) := by
  refine MetFree.of_bodySF hpl hisR ?_
  intro p e s m args below meth c s₁ Bd hml hP hK
  obtain ⟨rfl, hZ, hh⟩ := hP
  obtain ⟨t, o, h1, h2, h3, h4⟩ := body p e s m below meth c s₁ (Stand.of_body Bd) Bd.exec Bd.bytes hml Bd.returns Bd.notSynchronized hZ (findClass_of_methodNamed Bd.named) (name_of_methodNamed Bd.named Bd.method).1 (by rw [← hh, Bd.state]; rfl)
  exact ⟨t, o, h1, h2, h3, h4⟩
abbrev own_Met (l : Launch) (Z : State) (h : Heap) (y : MethodName) (bytes : ByteArray) (maxL : Nat) (ret : Option FieldType) (rm : Room) (as' : Array Value) (Q : Option Value → Heap → List Loc → Prop) : Prop :=
  MetFree l y (head1 [Jvm.Cond.code y bytes maxL ret] rm) (fun a U => a = as' ∧ Z.Warmed39 U.vm ∧ U.heap = h) (fun _ _ _ _ _ => True) (fun _ U o U' => ∃ v L, o = .returned v ∧ Q v U'.heap L ∧ FrameEnd U o U' L rm.cells rm.slots)
abbrev own_MF (l : Launch) (Z : State) (h : Heap) (y : MethodName) (bytes : ByteArray) (maxL : Nat) (ret : Option FieldType) (rm : Room) (as' : Array Value) (Q : Option Value → Heap → List Loc → Prop) (ws : List Jvm.Cond) : Prop :=
  MetFree l y (head1 (Jvm.Cond.code y bytes maxL ret :: ws) rm) (fun a U => a = as' ∧ Z.Warmed39 U.vm ∧ U.heap = h) (fun _ _ _ _ _ => True) (fun _ U o U' => ∃ v L, o = .returned v ∧ Q v U'.heap L ∧ FrameEnd U o U' L rm.cells rm.slots)
theorem own_callS {y : MethodName} {bytes : ByteArray} {maxL : Nat} {ret : Option FieldType} {rm : Room} {as' : Array Value} {own : String} {index : Nat} (X : Stand p l e R s m args below meth c T locs cells slots) (hx : p.tables.exec = Jvm.exec) (hZ : Z.Warmed39 s.vm) (hown : s.vm.findClass own = some m.cls)
    (w1 : (Jvm.Cond.methodLink own index y).before a0 Z = true) (w2 : (Jvm.Cond.static y).before a0 Z = true) (w3 : (Jvm.Cond.initialized y.cls).before a0 Z = true) (w4 : (Jvm.Cond.code y bytes maxL ret).before a0 Z = true) (hM : own_Met l Z h y bytes maxL ret rm as' Q) (W : Nat) (nc ns : Nat) 
    (hc : cells + nc ≤ R.cells) (hs : slots + ns ≤ R.slots) (eT : T.heap = h) {g : JFrame} (hg : g.method = m) (hsize : g.locals.size = c.maxLocals)
    (argsL rest : List Value) (hlen : ∀ sig, parseMethodDescriptor y.desc = some sig → argsL.length = sig.parameters.length) (hstack : g.stack = argsL.reverse ++ rest) (has : argsL.toArray = as') (hdg : decode c.code g.pc = .ok (.invokestatic index, 3))
    (hy : y.cls ≠ "java/lang/invoke/MethodHandle" ∧ y.cls ≠ "java/lang/invoke/VarHandle" := by decide) (hf : rm.frames + 1 ≤ R.frames := by decide) (hl : W + (maxL + 11) + rm.locals ≤ R.locals := by decide) (hW : 2 * g.monitorRoom + (rest.map fun v => v.category).sum ≤ W := by exact Nat.le_of_eq rfl) (hnc : rm.cells = nc := by rfl) (hns : rm.slots = ns := by rfl) :
    ∃ v T' L, Stand p l e R s m args below meth c T' (locs ++ L) (cells + nc) (slots + ns) ∧ Q v T'.heap L ∧ ∀ target, Steps p.tables e below (T'.setTop { g with pc := g.pc + 3, stack := v.toList ++ rest }) target → Steps p.tables e below (T.setTop g) target := by
  subst hnc hns
  obtain ⟨v, _, ⟨T', L', k', n'⟩, -, X', ⟨L, hQ, h1, h2, h3⟩, st⟩ := Jvm.LawKit.callS X hx hown (mvT hZ w1) (mvT hZ w2) (mvT hZ w3) (mvT hZ w4) hy (backOf (W := W) hM hZ w4 w3 hf hl) hg hsize hlen hstack hW hdg (fun _ _ => ⟨has, eT, hc, hs⟩)
  dsimp only [Pt.U, Pt.locs, Pt.cells, Pt.slots] at X' hQ h1 h2 h3 st
  subst h1 h2 h3
  exact ⟨v, T', L, X', hQ, st⟩
theorem own_callI {y : MethodName} {bytes : ByteArray} {maxL : Nat} {rm : Room} {as' : Array Value} {own : String} {index : Nat} (X : Stand p l e R s m args below meth c T locs cells slots) (hx : p.tables.exec = Jvm.exec) (hZ : Z.Warmed39 s.vm) (hown : s.vm.findClass own = some m.cls)
    (w1 : (Jvm.Cond.methodLink own index y).before a0 Z = true) (w2 : (Jvm.Cond.instanceMethod y).before a0 Z = true) (w3 : (Jvm.Cond.initialized y.cls).before a0 Z = true) (w4 : (Jvm.Cond.code y bytes maxL none).before a0 Z = true) (hM : own_Met l Z h y bytes maxL none rm as' Q) (W : Nat) (nc ns : Nat) (hy1 : y.name = "<init>")
    (hc : cells + nc ≤ R.cells) (hs : slots + ns ≤ R.slots) (eT : T.heap = h) {g : JFrame} (hg : g.method = m) (hsize : g.locals.size = c.maxLocals)
    (a : Addr) (argsL rest : List Value) (hlen : ∀ sig, parseMethodDescriptor y.desc = some sig → argsL.length = sig.parameters.length) (hstack : g.stack = argsL.reverse ++ .ref a :: rest) (has : (Value.ref a :: argsL).toArray = as') (hdg : decode c.code g.pc = .ok (.invokespecial index, 3))
    (hy : y.cls ≠ "java/lang/invoke/MethodHandle" ∧ y.cls ≠ "java/lang/invoke/VarHandle" := by decide) (hf : rm.frames + 1 ≤ R.frames := by decide) (hl : W + (maxL + 11) + rm.locals ≤ R.locals := by decide) (hW : 2 * g.monitorRoom + (rest.map fun v => v.category).sum ≤ W := by exact Nat.le_of_eq rfl) (hnc : rm.cells = nc := by rfl) (hns : rm.slots = ns := by rfl) :
    ∃ v T' L, Stand p l e R s m args below meth c T' (locs ++ L) (cells + nc) (slots + ns) ∧ Q v T'.heap L ∧ ∀ target, Steps p.tables e below (T'.setTop { g with pc := g.pc + 3, stack := v.toList ++ rest }) target → Steps p.tables e below (T.setTop g) target := by
  subst hnc hns
  obtain ⟨v, _, ⟨T', L', k', n'⟩, -, X', ⟨L, hQ, h1, h2, h3⟩, st⟩ := X.specialBack hx hy1 hown (mvT hZ w1) (mvT hZ w2) (mvT hZ w4) hy (backOf (W := W) hM hZ w4 w3 hf hl) hg hsize (Steps.refl _) (a := a) (argsL := argsL) (rest := rest) hlen hstack hW hdg (fun _ _ => ⟨has, eT, hc, hs⟩)
  dsimp only [Pt.U, Pt.locs, Pt.cells, Pt.slots] at X' hQ h1 h2 h3 st
  subst h1 h2 h3
  exact ⟨v, T', L, X', hQ, fun _ k => st.trans k⟩
theorem own_callV {y z : MethodName} {bytes : ByteArray} {maxL : Nat} {ret : Option FieldType} {rm : Room} {as' : Array Value} {own C : String} {index : Nat} (X : Stand p l e R s m args below meth c T locs cells slots) (hx : p.tables.exec = Jvm.exec) (hZ : Z.Warmed39 s.vm) (hown : s.vm.findClass own = some m.cls)
    (w1 : (Jvm.Cond.methodLink own index y).before a0 Z = true) (wd : (Jvm.Cond.declares y).before a0 Z = true) (nf : NotFace s y) (wsel : (Jvm.Cond.selects C y z).before a0 Z = true) (w2 : (Jvm.Cond.instanceMethod z).before a0 Z = true) (w3 : (Jvm.Cond.initialized z.cls).before a0 Z = true) (w4 : (Jvm.Cond.code z bytes maxL ret).before a0 Z = true) (hM : own_Met l Z h z bytes maxL ret rm as' Q) (W : Nat) (nc ns : Nat) 
    (hc : cells + nc ≤ R.cells) (hs : slots + ns ≤ R.slots) (eT : T.heap = h) {a : Addr} (E : Exa Z h a C) {g : JFrame} (hg : g.method = m) (hsize : g.locals.size = c.maxLocals)
    (argsL rest : List Value) (hlen : ∀ sig, parseMethodDescriptor y.desc = some sig → argsL.length = sig.parameters.length) (hstack : g.stack = argsL.reverse ++ .ref a :: rest) (has : (Value.ref a :: argsL).toArray = as') (hdg : decode c.code g.pc = .ok (.invokevirtual index, 3))
    (hy : y.cls ≠ "java/lang/invoke/MethodHandle" ∧ y.cls ≠ "java/lang/invoke/VarHandle" := by decide) (hf : rm.frames + 1 ≤ R.frames := by decide) (hl : W + (maxL + 11) + rm.locals ≤ R.locals := by decide) (hW : 2 * g.monitorRoom + (rest.map fun v => v.category).sum ≤ W := by exact Nat.le_of_eq rfl) (hnc : rm.cells = nc := by rfl) (hns : rm.slots = ns := by rfl) :
    ∃ v T' L, Stand p l e R s m args below meth c T' (locs ++ L) (cells + nc) (slots + ns) ∧ Q v T'.heap L ∧ ∀ target, Steps p.tables e below (T'.setTop { g with pc := g.pc + 3, stack := v.toList ++ rest }) target → Steps p.tables e below (T.setTop g) target := by
  subst hnc hns
  obtain ⟨cq, kq, qa, qb, qc⟩ := isOf hZ eT E
  obtain ⟨v, _, ⟨T', L', k', n'⟩, -, X', ⟨L, hQ, h1, h2, h3⟩, st⟩ := X.virtualBack hx hown (mvT hZ w1) (mvT hZ wd) nf (mvT hZ wsel) (mvT hZ w2) hy (backOf (W := W) hM hZ w4 w3 hf hl) qa qc hg hsize (Steps.refl _) (argsL := argsL) (rest := rest) hlen hstack hW hdg (fun _ _ => ⟨has, eT, hc, hs⟩)
  dsimp only [Pt.U, Pt.locs, Pt.cells, Pt.slots] at X' hQ h1 h2 h3 st
  subst h1 h2 h3
  exact ⟨v, T', L, X', hQ, fun _ k => st.trans k⟩
theorem own_callP {y : MethodName} {bytes : ByteArray} {maxL : Nat} {ret : Option FieldType} {rm : Room} {as' : Array Value} {own C : String} {index : Nat} (X : Stand p l e R s m args below meth c T locs cells slots) (hx : p.tables.exec = Jvm.exec) (hZ : Z.Warmed39 s.vm) (hown : s.vm.findClass own = some m.cls)
    (w1 : (Jvm.Cond.methodLink own index y).before a0 Z = true) (w2 : (Jvm.Cond.instanceMethod y).before a0 Z = true) (wsel : (Jvm.Cond.selects y.cls y y).before a0 Z = true) (wp : (Jvm.Cond.privateMethod y).before a0 Z = true) (w3 : (Jvm.Cond.initialized y.cls).before a0 Z = true) (w4 : (Jvm.Cond.code y bytes maxL ret).before a0 Z = true) (hM : own_Met l Z h y bytes maxL ret rm as' Q) (W : Nat) (nc ns : Nat) 
    (hc : cells + nc ≤ R.cells) (hs : slots + ns ≤ R.slots) (eT : T.heap = h) {a : Addr} (E : Exa Z h a C) {g : JFrame} (hg : g.method = m) (hsize : g.locals.size = c.maxLocals)
    (argsL rest : List Value) (hlen : ∀ sig, parseMethodDescriptor y.desc = some sig → argsL.length = sig.parameters.length) (hstack : g.stack = argsL.reverse ++ .ref a :: rest) (has : (Value.ref a :: argsL).toArray = as') (hdg : decode c.code g.pc = .ok (.invokevirtual index, 3))
    (hy : y.cls ≠ "java/lang/invoke/MethodHandle" ∧ y.cls ≠ "java/lang/invoke/VarHandle" := by decide) (hf : rm.frames + 1 ≤ R.frames := by decide) (hl : W + (maxL + 11) + rm.locals ≤ R.locals := by decide) (hW : 2 * g.monitorRoom + (rest.map fun v => v.category).sum ≤ W := by exact Nat.le_of_eq rfl) (hnc : rm.cells = nc := by rfl) (hns : rm.slots = ns := by rfl) :
    ∃ v T' L, Stand p l e R s m args below meth c T' (locs ++ L) (cells + nc) (slots + ns) ∧ Q v T'.heap L ∧ ∀ target, Steps p.tables e below (T'.setTop { g with pc := g.pc + 3, stack := v.toList ++ rest }) target → Steps p.tables e below (T.setTop g) target := by
  subst hnc hns
  obtain ⟨cq, q1, q2⟩ := E.cell
  obtain ⟨v, _, ⟨T', L', k', n'⟩, -, X', ⟨L, hQ, h1, h2, h3⟩, st⟩ := X.privateBack hx hown (mvT hZ w1) (mvT hZ w2) (mvT hZ wsel) (Cond.privateMethod_at (mvP hZ wp (args := #[]))) (mvT hZ w4) hy (backOf (W := W) hM hZ w4 w3 hf hl) hg hsize (Steps.refl _) (a := a) (by rw [eT]; exact q1) q2 (argsL := argsL) (rest := rest) hlen hstack hW hdg (fun _ _ => ⟨has, eT, hc, hs⟩)
  dsimp only [Pt.U, Pt.locs, Pt.cells, Pt.slots] at X' hQ h1 h2 h3 st
  subst h1 h2 h3
  exact ⟨v, T', L, X', hQ, fun _ k => st.trans k⟩
theorem own_callF {xi y : MethodName} {bytes : ByteArray} {maxL : Nat} {ret : Option FieldType} {rm : Room} {as' : Array Value} {own C : String} {index count : Nat} (X : Stand p l e R s m args below meth c T locs cells slots) (hx : p.tables.exec = Jvm.exec) (hZ : Z.Warmed39 s.vm) (hown : s.vm.findClass own = some m.cls)
    (w1 : (Jvm.Cond.methodLink own index xi).before a0 Z = true) (wd : (Jvm.Cond.declares xi).before a0 Z = true) (wfa : (Jvm.Cond.interfaceMethod xi.cls xi.cls xi.name xi.desc).before a0 Z = true) (wsel : (Jvm.Cond.selects C xi y).before a0 Z = true) (w2 : (Jvm.Cond.instanceMethod y).before a0 Z = true) (wp : (Jvm.Cond.publicMethod y).before a0 Z = true) (wu : (Jvm.Cond.unhidden C xi.name xi.desc).before a0 Z = true) (wk : (Jvm.Cond.castable C xi.cls).before a0 Z = true) (w3 : (Jvm.Cond.initialized y.cls).before a0 Z = true) (w4 : (Jvm.Cond.code y bytes maxL ret).before a0 Z = true) (hfk : ((Jvm.Cond.interfaceMethod xi.cls xi.cls xi.name xi.desc).onTables && (Jvm.Cond.interfaceMethod xi.cls xi.cls xi.name xi.desc).keepsFace) = true) (hM : own_Met l Z h y bytes maxL ret rm as' Q) (W : Nat) (nc ns : Nat) 
    (hc : cells + nc ≤ R.cells) (hs : slots + ns ≤ R.slots) (eT : T.heap = h) {a : Addr} (E : Exa Z h a C) {g : JFrame} (hg : g.method = m) (hsize : g.locals.size = c.maxLocals)
    (argsL rest : List Value) (hlen : ∀ sig, parseMethodDescriptor xi.desc = some sig → argsL.length = sig.parameters.length) (hstack : g.stack = argsL.reverse ++ .ref a :: rest) (has : (Value.ref a :: argsL).toArray = as') (hdg : decode c.code g.pc = .ok (.invokeinterface index count, 5))
    (hy : xi.cls ≠ "java/lang/invoke/MethodHandle" ∧ xi.cls ≠ "java/lang/invoke/VarHandle" := by decide) (hf : rm.frames + 1 ≤ R.frames := by decide) (hl : W + (maxL + 11) + rm.locals ≤ R.locals := by decide) (hW : 2 * g.monitorRoom + (rest.map fun v => v.category).sum ≤ W := by exact Nat.le_of_eq rfl) (hnc : rm.cells = nc := by rfl) (hns : rm.slots = ns := by rfl) :
    ∃ v T' L, Stand p l e R s m args below meth c T' (locs ++ L) (cells + nc) (slots + ns) ∧ Q v T'.heap L ∧ ∀ target, Steps p.tables e below (T'.setTop { g with pc := g.pc + 5, stack := v.toList ++ rest }) target → Steps p.tables e below (T.setTop g) target := by
  subst hnc hns
  obtain ⟨cq, kq, qa, qb, qc⟩ := isOf hZ eT E
  obtain ⟨v, _, ⟨T', L', k', n'⟩, -, X', ⟨L, hQ, h1, h2, h3⟩, st⟩ := X.interfaceBack hx hown (mvT hZ w1) (mvT hZ wd) (mvT hZ wfa hfk) (mvT hZ wsel) (mvT hZ w2) (mvT hZ wp) (mvT hZ wu) (mvT hZ wk) hy (backOf (W := W) hM hZ w4 w3 hf hl) qa qb qc hg hsize (Steps.refl _) (argsL := argsL) (rest := rest) hlen hstack hW hdg (fun _ _ => ⟨has, eT, hc, hs⟩)
  dsimp only [Pt.U, Pt.locs, Pt.cells, Pt.slots] at X' hQ h1 h2 h3 st
  subst h1 h2 h3
  exact ⟨v, T', L, X', hQ, fun _ k => st.trans k⟩
theorem own_callU {y z : MethodName} {bytes : ByteArray} {maxL : Nat} {ret : Option FieldType} {rm : Room} {as' : Array Value} {own owner C : String} {index : Nat} (X : Stand p l e R s m args below meth c T locs cells slots) (hx : p.tables.exec = Jvm.exec) (hZ : Z.Warmed39 s.vm) (hown : s.vm.findClass own = some m.cls)
    (w1 : (Jvm.Cond.methodLink own index y).before a0 Z = true) (wsm : (Jvm.Cond.sameMethod y.cls owner y.name y.desc).before a0 Z = true) (wd : (Jvm.Cond.declares ⟨owner, y.name, y.desc⟩).before a0 Z = true) (wsel : (Jvm.Cond.selects C y z).before a0 Z = true) (w2 : (Jvm.Cond.instanceMethod z).before a0 Z = true) (w3 : (Jvm.Cond.initialized z.cls).before a0 Z = true) (w4 : (Jvm.Cond.code z bytes maxL ret).before a0 Z = true) (hM : own_Met l Z h z bytes maxL ret rm as' Q) (W : Nat) (nc ns : Nat) 
    (hc : cells + nc ≤ R.cells) (hs : slots + ns ≤ R.slots) (eT : T.heap = h) {a : Addr} (E : Exa Z h a C) {g : JFrame} (hg : g.method = m) (hsize : g.locals.size = c.maxLocals)
    (argsL rest : List Value) (hlen : ∀ sig, parseMethodDescriptor y.desc = some sig → argsL.length = sig.parameters.length) (hstack : g.stack = argsL.reverse ++ .ref a :: rest) (has : (Value.ref a :: argsL).toArray = as') (hdg : decode c.code g.pc = .ok (.invokevirtual index, 3))
    (howner : owner ≠ "java/lang/invoke/MethodHandle" ∧ owner ≠ "java/lang/invoke/VarHandle" := by decide) (hf : rm.frames + 1 ≤ R.frames := by decide) (hl : W + (maxL + 11) + rm.locals ≤ R.locals := by decide) (hW : 2 * g.monitorRoom + (rest.map fun v => v.category).sum ≤ W := by exact Nat.le_of_eq rfl) (hnc : rm.cells = nc := by rfl) (hns : rm.slots = ns := by rfl) :
    ∃ v T' L, Stand p l e R s m args below meth c T' (locs ++ L) (cells + nc) (slots + ns) ∧ Q v T'.heap L ∧ ∀ target, Steps p.tables e below (T'.setTop { g with pc := g.pc + 3, stack := v.toList ++ rest }) target → Steps p.tables e below (T.setTop g) target := by
  subst hnc hns
  obtain ⟨cq, kq, qa, qb, qc⟩ := isOf hZ eT E
  obtain ⟨v, _, ⟨T', L', k', n'⟩, -, X', ⟨L, hQ, h1, h2, h3⟩, st⟩ := X.virtualBackUp hx hown (mvT hZ w1) (mvT hZ wsm) (mvT hZ wd) howner (mvT hZ wsel) (mvT hZ w2) (backOf (W := W) hM hZ w4 w3 hf hl) qa qc hg hsize (Steps.refl _) (argsL := argsL) (rest := rest) hlen hstack hW hdg (fun _ _ => ⟨has, eT, hc, hs⟩)
  dsimp only [Pt.U, Pt.locs, Pt.cells, Pt.slots] at X' hQ h1 h2 h3 st
  subst h1 h2 h3
  exact ⟨v, T', L, X', hQ, fun _ k => st.trans k⟩
theorem own_callIB {y : MethodName} {bytes : ByteArray} {maxL : Nat} {as' : Array Value} {own : String} {index : Nat} (X : Stand p l e R s m args below meth c T locs cells slots) (hx : p.tables.exec = Jvm.exec) (hZ : Z.Warmed39 s.vm) (hown : s.vm.findClass own = some m.cls)
    (w1 : (Jvm.Cond.methodLink own index y).before a0 Z = true) (w2 : (Jvm.Cond.instanceMethod y).before a0 Z = true) (w3 : (Jvm.Cond.initialized y.cls).before a0 Z = true) (w4 : (Jvm.Cond.code y bytes maxL none).before a0 Z = true) (W nc ns : Nat) (hB : Back l R p e below s args y 3 W (fun A a => a = as' ∧ A.U.heap = h ∧ A.cells + nc ≤ R.cells ∧ A.slots + ns ≤ R.slots) (fun A _ v B => ∃ L, Q v B.U.heap L ∧ B.locs = A.locs ++ L ∧ B.cells = A.cells + nc ∧ B.slots = A.slots + ns)) (hy1 : y.name = "<init>")
    (hc : cells + nc ≤ R.cells) (hs : slots + ns ≤ R.slots) (eT : T.heap = h) {g : JFrame} (hg : g.method = m) (hsize : g.locals.size = c.maxLocals)
    (a : Addr) (argsL rest : List Value) (hlen : ∀ sig, parseMethodDescriptor y.desc = some sig → argsL.length = sig.parameters.length) (hstack : g.stack = argsL.reverse ++ .ref a :: rest) (has : (Value.ref a :: argsL).toArray = as') (hdg : decode c.code g.pc = .ok (.invokespecial index, 3))
    (hy : y.cls ≠ "java/lang/invoke/MethodHandle" ∧ y.cls ≠ "java/lang/invoke/VarHandle" := by decide) (hW : 2 * g.monitorRoom + (rest.map fun v => v.category).sum ≤ W := by exact Nat.le_of_eq rfl) :
    ∃ v T' L, Stand p l e R s m args below meth c T' (locs ++ L) (cells + nc) (slots + ns) ∧ Q v T'.heap L ∧ ∀ target, Steps p.tables e below (T'.setTop { g with pc := g.pc + 3, stack := v.toList ++ rest }) target → Steps p.tables e below (T.setTop g) target := by
  obtain ⟨v, _, ⟨T', L', k', n'⟩, -, X', ⟨L, hQ, h1, h2, h3⟩, st⟩ := X.specialBack hx hy1 hown (mvT hZ w1) (mvT hZ w2) (mvT hZ w4) hy hB hg hsize (Steps.refl _) (a := a) (argsL := argsL) (rest := rest) hlen hstack hW hdg (fun _ _ => ⟨has, eT, hc, hs⟩)
  dsimp only [Pt.U, Pt.locs, Pt.cells, Pt.slots] at X' hQ h1 h2 h3 st
  subst h1 h2 h3
  exact ⟨v, T', L, X', hQ, fun _ k => st.trans k⟩
theorem own_callVB {y z : MethodName} {bytes : ByteArray} {maxL : Nat} {ret : Option FieldType} {as' : Array Value} {own C : String} {index : Nat} (X : Stand p l e R s m args below meth c T locs cells slots) (hx : p.tables.exec = Jvm.exec) (hZ : Z.Warmed39 s.vm) (hown : s.vm.findClass own = some m.cls)
    (w1 : (Jvm.Cond.methodLink own index y).before a0 Z = true) (wd : (Jvm.Cond.declares y).before a0 Z = true) (nf : NotFace s y) (wsel : (Jvm.Cond.selects C y z).before a0 Z = true) (w2 : (Jvm.Cond.instanceMethod z).before a0 Z = true) (w3 : (Jvm.Cond.initialized z.cls).before a0 Z = true) (w4 : (Jvm.Cond.code z bytes maxL ret).before a0 Z = true) (W nc ns : Nat) (hB : Back l R p e below s args z 3 W (fun A a => a = as' ∧ A.U.heap = h ∧ A.cells + nc ≤ R.cells ∧ A.slots + ns ≤ R.slots) (fun A _ v B => ∃ L, Q v B.U.heap L ∧ B.locs = A.locs ++ L ∧ B.cells = A.cells + nc ∧ B.slots = A.slots + ns)) 
    (hc : cells + nc ≤ R.cells) (hs : slots + ns ≤ R.slots) (eT : T.heap = h) {a : Addr} (E : Exa Z h a C) {g : JFrame} (hg : g.method = m) (hsize : g.locals.size = c.maxLocals)
    (argsL rest : List Value) (hlen : ∀ sig, parseMethodDescriptor y.desc = some sig → argsL.length = sig.parameters.length) (hstack : g.stack = argsL.reverse ++ .ref a :: rest) (has : (Value.ref a :: argsL).toArray = as') (hdg : decode c.code g.pc = .ok (.invokevirtual index, 3))
    (hy : y.cls ≠ "java/lang/invoke/MethodHandle" ∧ y.cls ≠ "java/lang/invoke/VarHandle" := by decide) (hW : 2 * g.monitorRoom + (rest.map fun v => v.category).sum ≤ W := by exact Nat.le_of_eq rfl) :
    ∃ v T' L, Stand p l e R s m args below meth c T' (locs ++ L) (cells + nc) (slots + ns) ∧ Q v T'.heap L ∧ ∀ target, Steps p.tables e below (T'.setTop { g with pc := g.pc + 3, stack := v.toList ++ rest }) target → Steps p.tables e below (T.setTop g) target := by
  obtain ⟨cq, kq, qa, qb, qc⟩ := isOf hZ eT E
  obtain ⟨v, _, ⟨T', L', k', n'⟩, -, X', ⟨L, hQ, h1, h2, h3⟩, st⟩ := X.virtualBack hx hown (mvT hZ w1) (mvT hZ wd) nf (mvT hZ wsel) (mvT hZ w2) hy hB qa qc hg hsize (Steps.refl _) (argsL := argsL) (rest := rest) hlen hstack hW hdg (fun _ _ => ⟨has, eT, hc, hs⟩)
  dsimp only [Pt.U, Pt.locs, Pt.cells, Pt.slots] at X' hQ h1 h2 h3 st
  subst h1 h2 h3
  exact ⟨v, T', L, X', hQ, fun _ k => st.trans k⟩
/-- the start's heap stands in h unchanged -/
theorem own_oldExt {h' : Heap} (O : Ext Z.heap h) (E : Ext h h') : Ext Z.heap h' := ⟨Nat.le_trans O.1 E.1, fun x c q => E.2 x c (O.2 x c q)⟩
theorem own_oldKeep {h' : Heap} {ws : List Addr} (O : Ext Z.heap h) (K : Keep h h' ws) (q : ∀ x ∈ ws, Z.heap.size ≤ x) : Ext Z.heap h' :=
  ⟨Nat.le_trans O.1 K.1, fun x c r => K.2.1 x c (O.2 x c r) fun z => absurd (Array.getElem?_eq_some_iff.mp r).1 (Nat.not_lt.mpr (q x z))⟩
theorem own_oldWr {h' : Heap} {a : Addr} {sl : Nat} {v : Value} (O : Ext Z.heap h) (W : Wr h h' a sl v) (q : Z.heap.size ≤ a) : Ext Z.heap h' := own_oldKeep O (Keep.of_wr W) (allS q all0)
theorem own_keepTrans {h0 h' : Heap} {ws : List Addr} (K : Keep h0 h ws) (K' : Keep h h' []) : Keep h0 h' ws := K.trans K' fun x q => nomatch q
theorem own_insKeep {h' : Heap} {ws : List Addr} {a : Addr} {C : String} {b : Bool} (F : Ins Z h a C b) (K : Keep h h' ws) : Ins Z h' a C b := by
  obtain ⟨cell, cT, h1, h2, h3⟩ := F
  obtain ⟨c', q1, q2, q3, -⟩ := K.2.2 a cell h1
  exact ⟨c', cT, q1, h2, by rw [q2, q3]; exact h3⟩
theorem own_cat1 {v : Value} (r : v.isRef = true) : v.category = 1 := by cases v <;> simp [Value.isRef, Value.category] at r ⊢
theorem own_fitsRef {v : Value} (t : FieldType) (r : v.isRef = true) (ht : t.isReference = true) : fits t v = true := by
  cases t <;> first | (cases ht; done) | (rcases ref_cases r with rfl | ⟨_, rfl⟩ <;> rfl)
theorem own_narRef {v : Value} (t : FieldType) (r : v.isRef = true) (ht : t.isReference = true) : narrow t v = v := by
  cases t <;> first | (cases ht; done) | (rcases ref_cases r with rfl | ⟨_, rfl⟩ <;> rfl)
theorem own_keepSub {h0 : Heap} {ws ws' : List Addr} (K : Keep h0 h ws) (q : ∀ x ∈ ws, x ∈ ws') : Keep h0 h ws' := ⟨K.1, fun x c r z => K.2.1 x c r fun u => z (q x u), K.2.2⟩
theorem own_neTy {a b : Addr} {k k' : ClassId} {ty ty' : FieldType} {z z' : Int32} {vs vs' : List Value} {d d' : Value} (F : Arv Z h a k ty z vs d) (G : Arv Z h b k' ty' z' vs' d') (hn : ty ≠ ty') : a ≠ b := by
  rintro rfl
  obtain ⟨c, A, -⟩ := F
  obtain ⟨c', A', -⟩ := G
  cases A.1.symm.trans A'.1
  obtain ⟨-, k1, q1, cm1, r1⟩ := A.2.1
  obtain ⟨-, k2, q2, cm2, r2⟩ := A'.2.1
  cases q1.symm.trans q2
  rw [r1] at r2
  cases r2
  exact hn rfl
theorem own_catR (a : Addr) : (Value.ref a).category = 1 := rfl
theorem own_catN : Value.null.category = 1 := rfl
theorem own_catI (a : Int32) : (Value.int a).category = 1 := rfl
theorem own_catJ (a : Int64) : (Value.long a).category = 2 := rfl
end OwnKit
/-- the state with these tables and this heap -/
abbrev own_at (Z : State) (vm : Vm) (h : Heap) : State := { Z with vm := vm, heap := h }
theorem own_byteV (u : UInt8) : byteValue u = .int u.toInt8.toInt32 := rfl
theorem own_slFacts {Z : State} {vm : Vm} {h : Heap} {a : Addr} {units : Array UInt16} (hW : Z.Warmed39 vm) (H : SlOf (own_at Z vm h) a units) (hlat : units.all (· < 256) = true) :
    ∃ (b : Addr) (k : ClassId), Exa Z h a "java/lang/String" ∧ Fld Z h a "java/lang/String" "coder" "B" (.int 0) ∧ Fld Z h a "java/lang/String" "value" "[B" (.ref b) ∧ Arv Z h b k .byte (Int32.ofNat units.size) (units.toList.map fun u => Value.int u.toUInt8.toInt8.toInt32) (.int 0) := by
  have hal : Z.vm.Alike (own_at Z vm h).vm := hW.alike
  obtain ⟨q, cS, rfl, ⟨⟨s1, s2, s3, ⟨cv, kv, iv', s4, s4'⟩, ⟨cc, kc, ic, s5, s5'⟩, s6, s7, s8, s9, s10, s11, s12, s13, s14, s15, s16⟩, hfS, hcS⟩, ⟨kS, k1, k2, k3⟩, hB, hby⟩ := H
  obtain ⟨kv', z4⟩ := ff_back hal s4
  obtain ⟨kc', z5⟩ := ff_back hal s5
  have hf : Z.vm.findClass "java/lang/String" = some q.sC.cls := by rw [hcS, ← hal.findClass]; exact hfS
  obtain ⟨kz, hkz, -⟩ := Vm.findClass_spec hf
  obtain ⟨kz', hkz', ekz⟩ := hal.2.2 _ _ hkz
  rw [hcS] at hkz'
  cases hkz'.symm.trans k1
  have hBZ : Z.vm.findClass "[B" = some q.SA.cls := by rw [← hal.findClass]; exact hB
  obtain ⟨kb, hkb, -⟩ := Vm.findClass_spec hBZ
  obtain ⟨kb', hkb', ekb⟩ := hal.2.2 _ _ hkb
  obtain ⟨hst, k9, hk9, comp, hkind⟩ := s11
  cases hk9.symm.trans hkb'
  have hsl : q.SA.slots = units.map fun u => byteValue u.toUInt8 := by rw [hby, SBG.stringBytes_lat hlat]
  have hsz : q.SA.slots.size = units.size := by rw [hsl, Array.size_map]
  have hlt : units.size < 2 ^ 31 := by omega
  have hn : (Int32.ofNat units.size).toNatClampNeg = units.size ∧ ¬ (Int32.ofNat units.size) < 0 := by
    have e : (Int32.ofNat units.size).toInt = units.size := by
      exact len_toInt hlt
    refine ⟨by simp [Int32.toNatClampNeg, e], ?_⟩
    rw [Int32.lt_iff_toInt_lt, e]; show ¬ ((units.size : Int) < 0); omega
  have H' : Has q.SA (units.toList.map fun u => Value.int u.toUInt8.toInt8.toInt32) (.int 0) := fun j hj => by
    have hj' : j < units.size := by omega
    rw [hsl]; simp [hj', own_byteV]
  refine ⟨q.sd, q.SA.cls, ⟨q.sC, kz, s1, hf, hkz, s3, fun _ => by rw [k3, ekz]⟩, ⟨q.sC, cc, kc', ic, q.fSC, s1, z5, s7, s2, s3, by rw [← hal.assignable]; exact s5', s9⟩, ⟨q.sC, cv, kv', iv', q.fSV, s1, z4, s6, s2, s3, by rw [← hal.assignable]; exact s4', s8⟩, q.SA, ⟨s10, ⟨hst, kb, hkb, comp, by rw [ekb] at hkind; exact hkind⟩, s12⟩, rfl, by rw [hsz, hn.1], hn.2, H', fun j hj => ?_⟩
  have e1 := s16 j hj
  rw [SBG.getD_of (H' j hj)] at e1
  exact e1
def own_L (Z : State) (a0 : Array Value) : Prop := ∀ e ∈ consts_1, ∃ text, (Jvm.Cond.stringLink e.1 e.2 text).before a0 Z = true
/-- whichever String the JVM holds for a constant of the list, she bears its text -/
def own_J (Z : State) (vm : Vm) (h : Heap) : Prop := ∀ e ∈ consts_1, ConstHeldL (own_at Z vm h) e.1 e.2
theorem own_Jstep {Z : State} {vm vm' : Vm} {h h' : Heap} {a0 : Array Value} (L : own_L Z a0) (hZ : Z.Warmed39 vm) (hJ : own_J Z vm h) (hW : (own_at Z vm h).Warmed39 vm')
    (hmv : ∀ a units, SlOf (own_at Z vm h) a units → SlOf (own_at Z vm' h') a units)
    (hfind : ∀ units a, vm'.interned.find? (fun p => p.1 == units) = some (units, a) → vm.interned.find? (fun p => p.1 == units) = some (units, a) ∨ SlOf (own_at Z vm' h') a units) : own_J Z vm' h' := by
  intro e he c k' cf i units a hc' hk' hcf' hp hu hor
  have hal : vm.Alike vm' := hW.alike
  have hc : vm.findClass e.1 = some c := by rw [← hal.findClass]; exact hc'
  obtain ⟨text, ht⟩ := L e he
  have ht' : (Jvm.Cond.stringLink e.1 e.2 text).before a0 (own_at Z vm h) = true := mvS (s := { Z with heap := h }) hZ ht
  obtain ⟨k, cf0, i0, units0, hk, hcf, hp0, hu0, hnm, -, -⟩ := Cond.stringLink_spec (s := own_at Z vm h) hc ht'
  obtain ⟨k2, hk2, hke, -, ee, -⟩ := hW.2.2.2 c k hk
  cases (show vm'.classes[c]? = some k' from hk').symm.trans hk2
  have hcfe : k'.cf = k.cf := by rw [hke]
  cases (hcfe ▸ hcf').symm.trans hcf
  cases hp.symm.trans hp0
  cases hu.symm.trans hu0
  have H := hJ e he c k cf i units
  rcases ee e.2 with e0 | ⟨hop, r, e1, hr | ⟨a3, t3, si, us, rfl, -, q3, q4, q5⟩⟩
  · rcases hor with h0 | ⟨h0, hf⟩
    · exact hmv _ _ (H a hc hk hcf hp hu (Or.inl (e0 ▸ h0)))
    · rcases hfind units a hf with hf | hs
      · exact hmv _ _ (H a hc hk hcf hp hu (Or.inr ⟨e0 ▸ h0, hf⟩))
      · exact hs
  · exfalso
    cases r <;> simp [State.rightAt, hk, hcf, hnm] at hr
  · have e3 : si = i := by
      rw [hcf] at q3
      have q := q3.symm.trans hp
      simpa using q
    subst e3
    have e4 : us = units := by
      rw [hcf] at q4
      simpa [ConstantPool.utf8?, hu] using q4.symm
    subst e4
    have ea : a3 = a := by
      rcases hor with h0 | ⟨h0, -⟩
      · have q := e1.symm.trans h0; simpa using q
      · have q := e1.symm.trans h0; simp at q
    subst ea
    rcases hfind us a3 q5 with hf | hs
    · exact hmv _ _ (H a3 hc hk hcf hp hu (Or.inr ⟨hop, hf⟩))
    · exact hs
theorem own_Jwarm {Z s : State} {vm vm' : Vm} {h : Heap} {a0 : Array Value} (L : own_L Z a0) (hZ : Z.Warmed39 vm) (hJ : own_J Z vm h) (hW : (s.setVm vm).WarmedH vm') : own_J Z vm' h := by
  have hW1 : (own_at Z vm h).WarmedH vm' := hW
  refine own_Jstep L hZ hJ hW1.wide (fun a u H => H.moved hW1.alike fun _ _ q => q) fun units a hf => Or.inl ?_
  have e : vm'.interned = vm.interned := hW1.interned_eq
  rw [← e]; exact hf
theorem own_Jext {Z : State} {vm : Vm} {h h' : Heap} (hJ : own_J Z vm h) (E : Ext h h') : own_J Z vm h' := fun e he c k cf i units a h1 h2 h3 h4 h5 h6 =>
  (hJ e he c k cf i units a h1 h2 h3 h4 h5 h6).moved (Vm.Alike.refl _) fun b c q => E.2 b c q
/-- the cell at w is no String and no byte[] -/
def own_Far (Z : State) (h : Heap) (w : Addr) : Prop := ∀ cell : Cell, h[w]? = some cell → ¬ Z.vm.findClass "java/lang/String" = some cell.cls ∧ ¬ Z.isArrayOf cell .byte
theorem own_farN {Z : State} {h : Heap} {w : Addr} (q : h.size ≤ w) : own_Far Z h w := fun cell hc => absurd (Array.getElem?_eq_some_iff.mp hc).1 (Nat.not_lt.mpr q)
theorem own_farE {Z : State} {h : Heap} {w : Addr} {C : String} {n : Nat} {a0 : Array Value} (E : Exa Z h w C) (hC : C ≠ "java/lang/String") (wi : (Jvm.Cond.instantiable C n).before a0 Z = true) : own_Far Z h w := fun cell hc => by
  obtain ⟨c1, k, e1, e2, e3, -, -⟩ := E
  cases hc.symm.trans e1
  refine ⟨fun q => ids_ne e2 q hC rfl, fun q => ?_⟩
  obtain ⟨c2, k2, i1, i2, i3, -⟩ := Cond.instantiable_spec wi
  cases e2.symm.trans i1
  cases e3.symm.trans i2
  obtain ⟨-, k3, j1, cm, j2⟩ := q
  cases e3.symm.trans j1
  rw [i3] at j2; cases j2
theorem own_farV {Z : State} {h : Heap} {w : Addr} {k : ClassId} {ty : FieldType} {z : Int32} {vs : List Value} {d : Value} {n : Nat} {a0 : Array Value} (V : Arv Z h w k ty z vs d) (hty : ty ≠ .byte) (wi : (Jvm.Cond.instantiable "java/lang/String" n).before a0 Z = true) : own_Far Z h w := fun cell hc => by
  obtain ⟨c1, A, -⟩ := V
  cases hc.symm.trans A.1
  obtain ⟨-, k3, j1, cm, j2⟩ := A.2.1
  refine ⟨fun q => ?_, fun q => ?_⟩
  · obtain ⟨c2, k2, i1, i2, i3, -⟩ := Cond.instantiable_spec wi
    cases q.symm.trans i1
    cases j1.symm.trans i2
    rw [i3] at j2; cases j2
  · obtain ⟨-, k4, r1, cm', r2⟩ := q
    cases j1.symm.trans r1
    rw [j2] at r2; cases r2
    exact hty rfl
theorem own_slKeep {Z : State} {vm : Vm} {h h' : Heap} {ws : List Addr} {a : Addr} {units : Array UInt16} (hZ : Z.Warmed39 vm) (H : SlOf (own_at Z vm h) a units) (K : Keep h h' ws) (far : ∀ w ∈ ws, own_Far Z h w) : SlOf (own_at Z vm h') a units := by
  obtain ⟨q, cS, h1, h2, h3, h4, h5⟩ := H
  have hal : Z.vm.Alike vm := hZ.alike
  obtain ⟨⟨s1, s2, s3, s4, s5, s6, s7, s8, s9, s10, s11, s12⟩, hfS, hcS⟩ := id h2
  have n1 : q.sa ∉ ws := fun m => (far _ m _ s1).1 (by rw [hcS, ← hal.findClass]; exact hfS)
  have n2 : q.sd ∉ ws := fun m => (far _ m _ s10).2 (by
    obtain ⟨t1, k, t2, cm, t3⟩ := s11
    obtain ⟨kb, hkb⟩ : ∃ kb, Z.vm.classes[q.SA.cls]? = some kb := by
      obtain ⟨kb, hkb, -⟩ := Vm.findClass_spec (show Z.vm.findClass "[B" = some q.SA.cls by rw [← hal.findClass]; exact h4)
      exact ⟨kb, hkb⟩
    obtain ⟨kb', hkb', ekb⟩ := hal.2.2 _ _ hkb
    cases t2.symm.trans hkb'
    exact ⟨t1, kb, hkb, cm, by rw [ekb] at t3; exact t3⟩)
  exact ⟨q, cS, h1, SBG.Sl.carry (U := own_at Z vm h) (U' := own_at Z vm h') (Vm.Alike.refl vm) (K.2.1 _ _ s1 n1) (K.2.1 _ _ s10 n2) h2, h3, h4, h5⟩
theorem own_Jkeep {Z : State} {vm : Vm} {h h' : Heap} {ws : List Addr} (hZ : Z.Warmed39 vm) (hJ : own_J Z vm h) (K : Keep h h' ws) (far : ∀ w ∈ ws, own_Far Z h w) : own_J Z vm h' := fun e he c k cf i units a h1 h2 h3 h4 h5 h6 =>
  own_slKeep hZ (hJ e he c k cf i units a h1 h2 h3 h4 h5 h6) K far
theorem own_Jwr {Z : State} {vm : Vm} {h h' : Heap} {w : Addr} {sl : Nat} {v : Value} (hZ : Z.Warmed39 vm) (hJ : own_J Z vm h) (W : Wr h h' w sl v) (far : own_Far Z h w) : own_J Z vm h' := own_Jkeep hZ hJ (Keep.of_wr W) (allS far all0)
theorem own_unitsEq {u v : Array UInt16} {text : String} (hu : utf16ToString? u = some text) (hv : utf16ToString? v = some text) (ht : ∀ c ∈ text.toList, c.toNat < 256) : u = v :=
  Array.toList_inj.mp ((Jvm.ClassFile.units_of_text hu ht).trans (Jvm.ClassFile.units_of_text hv ht).symm)
theorem own_slIn {lo hi : Nat} {W : State} {a : Addr} {units : Array UInt16} (H : SlIn lo hi W a units) : SlOf W a units := by
  obtain ⟨q, cS, h1, h2, h3, h4, h5, -⟩ := H
  exact ⟨q, cS, h1, h2, h3, h4, h5⟩
theorem own_slState {W W' : State} {a : Addr} {units : Array UInt16} (H : SlOf W a units) (hv : W.vm = W'.vm) (hh : W.heap = W'.heap) : SlOf W' a units :=
  H.moved (by rw [hv]; exact Vm.Alike.refl _) fun b c q => by rw [← hh]; exact q
section OwnLdc
variable {p : Program} {l : Launch} {e : Env} {R : Room} {s : State} {vm0 : Vm} {m : MethodId} {args : Array Value} {below : List Frame} {meth : Method} {c : Code} {T : State} {locs : List Loc} {cells slots : Nat} {Z : State} {a0 : Array Value} {h : Heap}
theorem own_reb (X : Stand p l e R s m args below meth c T locs cells slots) (hc : cells ≤ R.cells) (hl : slots ≤ R.slots) :
    Stand p l e { R with cells := R.cells - cells, slots := R.slots - slots } { s with heap := T.heap, slotsUsed := T.slotsUsed } m args below meth c T [] 0 0 := by
  have hroom : State.hasRoom { s with heap := T.heap, slotsUsed := T.slotsUsed } e.platform { R with cells := R.cells - cells, slots := R.slots - slots } = true := by
    have h := X.room
    have u1 := X.heapSize
    have u2 := X.used
    have u3 := X.book
    simp only [State.hasRoom, Bool.and_eq_true, decide_eq_true_eq] at h ⊢
    obtain ⟨⟨⟨⟨h1, h2⟩, h3⟩, h4⟩, h5⟩ := h
    exact ⟨⟨⟨⟨h1, h2⟩, by omega⟩, by omega⟩, u3⟩
  refine ⟨X.admits, X.cas, X.clock, X.frames, hroom, X.hears, X.method, X.code, X.here, X.tail, X.warmed, X.limits, X.bytes, X.same.1, Nat.le_refl _, Nat.le_refl _, ?_, ?_, fun a c h => ⟨c, h, rfl, rfl, fun _ _ => rfl⟩⟩
  · show T.slotsUsed = T.slotsUsed + ((T.heap.toList.drop T.heap.size).map (·.slots.size)).sum
    rw [List.drop_of_length_le (by simp)]; rfl
  · show ((T.heap.toList.drop T.heap.size).map (·.slots.size)).sum ≤ 0
    rw [List.drop_of_length_le (by simp)]; exact Nat.le_refl _
theorem own_rebBack (X : Stand p l e R s m args below meth c T locs cells slots) {R' : Room} {vm1 : Vm} {T2 : State} {k n : Nat} (hW : s.Warmed39 vm1)
    (X2 : Stand p l e R' (({ s with heap := T.heap, slotsUsed := T.slotsUsed } : State).setVm vm1) m args below meth c T2 [] k n) : Stand p l e R (s.setVm vm1) m args below meth c T2 locs (cells + k) (slots + n) := by
  have Y := X.retabled hW
  have h2 : State.sameButNew (T.setVm vm1) (T2.setVm vm1) [] k n := by
    obtain ⟨q1, q2, q3, q4, q5, q6⟩ := X2.same
    refine ⟨?_, q2, q3, q4, q5, q6⟩
    have e1 : T.setVm vm1 = { (s.setVm vm1).setFrames T.frames with heap := T.heap, slotsUsed := T.slotsUsed } := Y.same.1
    have key : ∀ (F G : List Frame) (A H : Heap) (B U : Nat), ({ ({ (s.setVm vm1).setFrames F with heap := A, slotsUsed := B } : State).setFrames G with heap := H, slotsUsed := U } : State) = { (s.setVm vm1).setFrames G with heap := H, slotsUsed := U } := fun F G A H B U => by
      have e2 : ({ ({ (s.setVm vm1).setFrames F with heap := A, slotsUsed := B } : State).setFrames G with heap := H, slotsUsed := U } : State) = { ((s.setVm vm1).setFrames F).setFrames G with heap := H, slotsUsed := U } := rfl
      rw [e2, State.setFrames_setFrames]
    have e3 : (({ (T.setVm vm1).setFrames T2.frames with heap := T2.heap, slotsUsed := T2.slotsUsed } : State)) = { (s.setVm vm1).setFrames T2.frames with heap := T2.heap, slotsUsed := T2.slotsUsed } := by
      rw [e1]; exact key _ _ _ _ _ _
    exact q1.trans e3.symm
  have h3 := Y.same.trans h2
  rw [List.append_nil] at h3
  exact ⟨X.admits, X.cas, X.clock, X.frames, Y.room, Y.hears, Y.method, X.code, X2.here, X2.tail, X2.warmed, X2.limits, X2.bytes, h3⟩
/-- a load of a literal anywhere: the walk re-based on the state in which it stands -/
theorem own_ldcK (X : Stand p l e R (s.setVm vm0) m args below meth c T locs cells slots) (hS : s.Since vm0 h.size) (hx : p.tables.exec = Jvm.exec) (hZ : Z.Warmed39 (s.setVm vm0).vm) {own text : String} {index : Nat} (hown : (s.setVm vm0).vm.findClass own = some m.cls)
    (L : own_L Z a0) (hmem : (own, index) ∈ consts_1) (w : (Jvm.Cond.stringLink own index text).before a0 Z = true) (wS : ∀ a ∈ Bundle.stringAtoms, a.before a0 Z = true) (eT : T.heap = h)
    (hJ : own_J Z vm0 h) (ht : ∀ c ∈ text.toList, c.toNat < 256)
    {g : JFrame} (hg : g.method = m) (hd : decode c.code g.pc = .ok (.ldc index, 2)) {n : Nat} (hn : 4 * text.toList.length ≤ n) (hbig : n ≤ 536870912) (hc : cells + 2 ≤ R.cells) (hl : slots + (n + 4) ≤ R.slots) :
    ∃ (a : Addr) (T' : State) (h' : Heap) (vm1 : Vm) (units : Array UInt16), Stand p l e R (s.setVm vm1) m args below meth c T' locs (cells + 2) (slots + (n + 4)) ∧ T'.heap = h' ∧ Ext h h' ∧ s.Since vm1 h'.size ∧ Z.Warmed39 (s.setVm vm1).vm ∧ (s.setVm vm1).vm.findClass own = some m.cls ∧ own_J Z vm1 h' ∧
      Lit (s.setVm vm1) own index a ∧ utf16ToString? units = some text ∧ SlOf (own_at Z vm1 h') a units ∧ ∀ target, Steps p.tables e below (T'.setTop { g with pc := g.pc + 2, stack := .ref a :: g.stack }) target → Steps p.tables e below (T.setTop g) target := by
  have w0 : (Jvm.Cond.stringLink own index text).before args (s.setVm vm0) = true := mvS hZ w
  obtain ⟨k, cf, i, units, hk, hcf, hp, hu, hnm, htext, hres⟩ := Cond.stringLink_spec (s := s.setVm vm0) hown w0
  rcases hres with hop | ⟨a, hra⟩
  · subst eT
    have hH : ConstHeldL ({ (s.setVm vm0) with heap := T.heap, slotsUsed := T.slotsUsed } : State) own index := fun c' k' cf' i' u' a' q1 q2 q3 q4 q5 q6 => own_slState (hJ _ hmem c' k' cf' i' u' a' q1 q2 q3 q4 q5 q6) rfl rfl
    have w0' : (Jvm.Cond.stringLink own index text).before args ({ (s.setVm vm0) with heap := T.heap, slotsUsed := T.slotsUsed } : State) = true := mvS (s := { (s.setVm vm0) with heap := T.heap, slotsUsed := T.slotsUsed }) hZ w
    have hZ' : Z.Warmed39 ({ (s.setVm vm0) with heap := T.heap, slotsUsed := T.slotsUsed } : State).vm := hZ
    obtain ⟨a, T2, X2', hS2', ⟨k2, hk2, hr2⟩, hb, -, hint, ⟨u2, ht2, hin⟩, st⟩ := (own_reb X (by omega) (by omega)).ldcColdF (fun _ _ q => q) hx (own := own) hown w0' (fun d hd => by
      have q := wS d hd
      simp only [Bundle.stringAtoms, List.mem_cons, List.not_mem_nil, or_false] at hd
      rcases hd with rfl | rfl | rfl | rfl | rfl | rfl | rfl
      · exact mv hZ' q
      · exact mv hZ' q
      · exact mvA hZ' q
      · exact mv hZ' q
      · exact mv hZ' q
      · exact mv hZ' q
      · exact mv hZ' q) hH (fun u hu => Jvm.ClassFile.lat_of_text hu ht) hg hd hn hbig (by show 0 + 2 ≤ R.cells - cells; omega) (by show 0 + (n + 4) ≤ R.slots - slots; omega)
    have E := ext_of hb
    have hW2 : (s.setVm vm0).Warmed39 T2.vm := hS2'.1
    have hS2 : (s.setVm vm0).Since T2.vm T2.heap.size := ⟨hW2, fun j pr hj hp => ⟨Nat.le_trans X.same.2.1 (hS2'.2 j pr hj hp).1, (hS2'.2 j pr hj hp).2⟩⟩
    have X2 : Stand p l e R ((s.setVm vm0).setVm T2.vm) m args below meth c T2 locs (cells + (0 + 2)) (slots + (0 + (n + 4))) := own_rebBack X hW2 X2'
    rw [Nat.zero_add, Nat.zero_add] at X2
    have hTi : T.vm.interned = vm0.interned := X.warmed.interned_eq
    rw [hTi] at hint
    have hsl : SlOf (own_at Z T2.vm T2.heap) a u2 := own_slState (own_slIn hin) rfl rfl
    have hu2 : u2 = units := own_unitsEq ht2 htext ht
    subst hu2
    have hq5 : T2.vm.interned.find? (fun p => p.1 == u2) = some (u2, a) := by
      obtain ⟨k3, hk3, hke, -, ee, -⟩ := hW2.2.2.2 m.cls k hk
      cases hk3.symm.trans hk2
      rcases ee index with e0 | ⟨-, r, e1, hr | ⟨a3, t3, si, us, rfl, -, q3, q4, q5⟩⟩
      · rw [hr2, hop] at e0; cases e0
      · exfalso
        have hk0 : vm0.classes[m.cls]? = some k := hk
        cases r <;> simp [State.rightAt, hk0, hcf, hnm] at hr
      · rw [hcf] at q3 q4
        have e3 : si = i := by have q := q3.symm.trans hp; simpa using q
        subst e3
        have e4 : us = u2 := by simpa [ConstantPool.utf8?, hu] using q4.symm
        subst e4
        have ea : a3 = a := by have q := e1.symm.trans hr2; simpa using q
        subst ea
        exact q5
    have hZ2 : Z.Warmed39 T2.vm := State.Warmed39.trans (t := s.setVm vm0) hZ hW2
    refine ⟨a, T2, T2.heap, T2.vm, u2, X2, rfl, E, hS.trans hS2 E.1, hZ2, by rw [show (s.setVm T2.vm).vm = T2.vm from rfl, hW2.alike.findClass]; exact hown, ?_, ?_, ht2, hsl, st⟩
    · refine own_Jstep L hZ hJ hW2 (fun a' u' H => H.moved hW2.alike fun b c q => E.2 b c q) fun u' a' hf => ?_
      rcases hint with q | ⟨u3, a3, hu3, q⟩
      · rw [q] at hf; exact Or.inl hf
      · rw [q, Array.find?_push] at hf
        cases hold : vm0.interned.find? (fun p => p.1 == u') with
        | some pr => rw [hold] at hf; simp at hf; exact Or.inl (hold.trans (by rw [hf]))
        | none =>
          rw [hold] at hf
          simp only [Option.none_or] at hf
          split at hf
          · cases hf
            have e5 : u' = u2 := own_unitsEq hu3 ht2 ht
            subst e5
            have e6 : a' = a := by
              rw [q, Array.find?_push, hold] at hq5
              simpa using hq5
            subst e6
            exact Or.inr hsl
          · cases hf
    · have hf : T2.vm.findClass own = some m.cls := by rw [hW2.alike.findClass]; exact hown
      simp [Lit, State.resolvedAt?, hf, hk2, hr2]
  · have hLit : Lit (s.setVm vm0) own index a := by
      have hf : vm0.findClass own = some m.cls := hown
      have hk' : vm0.classes[m.cls]? = some k := hk
      simp [Lit, State.resolvedAt?, hf, hk', hra]
    have hsl : SlOf (own_at Z vm0 h) a units := hJ _ hmem m.cls k cf i units a hown hk hcf hp hu (Or.inl hra)
    refine ⟨a, T, h, vm0, units, X.more (by omega) (by omega), eT, ⟨Nat.le_refl _, fun _ _ q => q⟩, hS, hZ, hown, hJ, hLit, htext, hsl, ldcAgain X hx hZ hown w hLit hg hd⟩
end OwnLdc
/-- no String that the JVM holds for a constant of the list is x -/
def own_Apart (vm : Vm) (x : Addr) : Prop := ∀ e ∈ consts_1, ∀ (c : ClassId) (k : Class) (cf : ClassFile) (i : Nat) (units : Array UInt16) (a : Addr), vm.findClass e.1 = some c → vm.classes[c]? = some k → k.cf = some cf →
    cf.constantPool[e.2]? = some (.string i) → cf.constantPool[i]? = some (.utf8 units) → (k.resolved[e.2]? = some (some (.string a)) ∨ (k.resolved[e.2]? = some none ∧ vm.interned.find? (fun p => p.1 == units) = some (units, a))) → a ≠ x
theorem own_slValue {Z : State} {vm : Vm} {h : Heap} {a : Addr} {units : Array UInt16} (hZ : Z.Warmed39 vm) (H : SlOf (own_at Z vm h) a units) : ∃ b, Fld Z h a "java/lang/String" "value" "[B" (.ref b) := by
  have hal : Z.vm.Alike (own_at Z vm h).vm := hZ.alike
  obtain ⟨q, cS, rfl, ⟨⟨s1, s2, s3, ⟨cv, kv, iv', s4, s4'⟩, -, s6, -, s8, -⟩, -, -⟩, -⟩ := H
  obtain ⟨kv', z4⟩ := ff_back hal s4
  exact ⟨q.sd, q.sC, cv, kv', iv', q.fSV, s1, z4, s6, s2, s3, by rw [← hal.assignable]; exact s4', s8⟩
theorem own_apart {Z : State} {vm : Vm} {h : Heap} {x : Addr} (hZ : Z.Warmed39 vm) (hJ : own_J Z vm h) (F : Fld Z h x "java/lang/String" "value" "[B" .null) : own_Apart vm x := fun e he c k cf i units a h1 h2 h3 h4 h5 h6 => by
  obtain ⟨b, G⟩ := own_slValue hZ (hJ e he c k cf i units a h1 h2 h3 h4 h5 h6)
  exact Fld.ne G F (fun q => nomatch q)
theorem own_JkeepS {Z : State} {vm : Vm} {h h' : Heap} {x : Addr} {n : Nat} {a0 : Array Value} (hZ : Z.Warmed39 vm) (hJ : own_J Z vm h) (K : Keep h h' [x]) (hA : own_Apart vm x) (E : Exa Z h x "java/lang/String") (wi : (Jvm.Cond.instantiable "java/lang/String" n).before a0 Z = true) : own_J Z vm h' := fun e he c k cf i units a h1 h2 h3 h4 h5 h6 => by
  have ha : a ≠ x := hA e he c k cf i units a h1 h2 h3 h4 h5 h6
  obtain ⟨q, cS, e1, g2, g3, g4, g5⟩ := hJ e he c k cf i units a h1 h2 h3 h4 h5 h6
  have hal : Z.vm.Alike vm := hZ.alike
  obtain ⟨⟨s1, s2, s3, s4, s5, s6, s7, s8, s9, s10, s11, s12⟩, hfS, hcS⟩ := id g2
  have n2 : q.sd ≠ x := fun m => by
    obtain ⟨t1, k', t2, cm, t3⟩ := s11
    obtain ⟨kb, hkb, -⟩ := Vm.findClass_spec (show Z.vm.findClass "[B" = some q.SA.cls by rw [← hal.findClass]; exact g4)
    obtain ⟨kb', hkb', ekb⟩ := hal.2.2 _ _ hkb
    cases t2.symm.trans hkb'
    obtain ⟨c1, kx, x1, x2, x3, -, -⟩ := E
    cases (m ▸ s10).symm.trans x1
    obtain ⟨c2, k2, i1, i2, i3, -⟩ := Cond.instantiable_spec wi
    cases x2.symm.trans i1
    cases hkb.symm.trans i2
    rw [ekb] at t3
    rw [i3] at t3; cases t3
  exact ⟨q, cS, e1, SBG.Sl.carry (U := own_at Z vm h) (U' := own_at Z vm h') (Vm.Alike.refl vm) (K.2.1 _ _ s1 (by rw [e1]; simpa using ha)) (K.2.1 _ _ s10 (by simpa using n2)) g2, g3, g4, g5⟩
theorem own_JwrS {Z : State} {vm : Vm} {h h' : Heap} {x : Addr} {n sl : Nat} {v : Value} {a0 : Array Value} (hZ : Z.Warmed39 vm) (hJ : own_J Z vm h) (W : Wr h h' x sl v) (hA : own_Apart vm x) (E : Exa Z h x "java/lang/String") (wi : (Jvm.Cond.instantiable "java/lang/String" n).before a0 Z = true) : own_J Z vm h' := own_JkeepS hZ hJ (Keep.of_wr W) hA E wi
theorem own_litFacts {Z : State} {vm : Vm} {h : Heap} {a : Addr} {units : Array UInt16} {text : String} (hW : Z.Warmed39 vm) (H : SlOf (own_at Z vm h) a units) (hu : utf16ToString? units = some text) (ht : ∀ c ∈ text.toList, c.toNat < 256) :
    ∃ (b : Addr) (k : ClassId), Exa Z h a "java/lang/String" ∧ Fld Z h a "java/lang/String" "coder" "B" (.int 0) ∧ Fld Z h a "java/lang/String" "value" "[B" (.ref b) ∧ Arv Z h b k .byte (Int32.ofNat text.toList.length) (text.toList.map fun c => Value.int c.toNat.toUInt16.toUInt8.toInt8.toInt32) (.int 0) := by
  have e := Jvm.ClassFile.units_of_text hu ht
  obtain ⟨b, k, h1, h2, h3, h4⟩ := own_slFacts hW H (Jvm.ClassFile.lat_of_text hu ht)
  refine ⟨b, k, h1, h2, h3, ?_⟩
  have e2 : units.size = text.toList.length := by rw [← Array.length_toList, e, List.length_map]
  rw [e, List.map_map, e2] at h4
  exact h4
/-- the run from U comes to a return whose value, heap and written places Q takes; it has made at most kc cells of ks slots; String constants may have been resolved on the way -/
def own_GoW (p : Program) (e : Env) (below : List Frame) (s Z : State) (Q : Option Value → Heap → List Loc → Prop) (kc ks : Nat) (U : State) : Prop :=
  ∃ t o, Steps p.tables e below U t ∧ t.status = .running ∧ Ended t below o ∧ ∃ v L, o = .returned v ∧ (Q v t.heap L ∧ own_J Z t.vm t.heap) ∧ ReturnedEndW s o t L kc ks
section OwnKitW
variable {p : Program} {l : Launch} {e : Env} {R : Room} {s : State} {vm0 : Vm} {m : MethodId} {args : Array Value} {below : List Frame} {meth : Method} {c : Code} {T : State} {locs : List Loc} {cells slots kc ks : Nat} {Z : State} {a0 : Array Value} {h : Heap} {Q : Option Value → Heap → List Loc → Prop}
theorem own_since {vm : Vm} {k k' : Nat} (hS : s.Since vm k) (q : k ≤ k') : s.Since vm k' := ⟨hS.1, fun j p hj hp => ⟨(hS.2 j p hj hp).1, Nat.lt_of_lt_of_le (hS.2 j p hj hp).2 q⟩⟩
theorem own_goW {U U' : State} (f : ∀ t, Steps p.tables e below U' t → Steps p.tables e below U t) (g : own_GoW p e below s Z Q kc ks U') : own_GoW p e below s Z Q kc ks U := by
  obtain ⟨t, o, a, r⟩ := g
  exact ⟨t, o, f t a, r⟩
theorem own_sameMono {L : List Loc} {k n : Nat} {t : State} (hq : s.sameButNew t L k n) (hc : k ≤ kc) (hs : n ≤ ks) : s.sameButNew t L kc ks := hq.mono hc hs
theorem own_endW (X : Stand p l e R (s.setVm vm0) m args below meth c T locs cells slots) (hS : s.Since vm0 h.size) (hL : own_L Z a0) (hZ : Z.Warmed39 (s.setVm vm0).vm) (hJ : own_J Z vm0 h) (hlk : meth.locks = false) (eT : T.heap = h) {v : Option Value} (hv : meth.sig.returnType = none → v = none) (hc : cells ≤ kc) (hs : slots ≤ ks) (hq : Q v h locs) {U : State}
    (hst : ∀ fs, (∀ (f : JFrame) (acts : List Action), f.method = m → f.locked = none → f.entered = [] → (doReturn e (T.setTop f) acts v).1 = T.setFrames fs) → Steps p.tables e below U (T.setFrames fs)) : own_GoW p e below s Z Q kc ks U := by
  obtain ⟨fs, hr, hrun, hended, h1, h2, h3, h4⟩ := X.leaveW hS (by rw [eT]; exact Nat.le_refl _) (v := v) hv hlk
  refine ⟨_, _, hst fs hr, hrun, hended, v, locs, rfl, ⟨?_, ?_⟩, h1, h2, h3, own_sameMono h4 hc hs⟩
  · show Q v T.heap locs
    rw [eT]; exact hq
  · show own_J Z T.vm T.heap
    rw [eT]; exact own_Jwarm hL hZ hJ X.warmed
theorem own_retNW (X : Stand p l e R (s.setVm vm0) m args below meth c T locs cells slots) (hS : s.Since vm0 h.size) (hL : own_L Z a0) (hZ : Z.Warmed39 (s.setVm vm0).vm) (hJ : own_J Z vm0 h) (hx : p.tables.exec = Jvm.exec) (hlk : meth.locks = false) (eT : T.heap = h) {pc : Nat} {Ls : Array Slot} {z : Int32} {t : FieldType} {rest : List Value} (hret : meth.sig.returnType = some t) (ht : t = .boolean ∨ t = .byte ∨ t = .char ∨ t = .short)
    (hd : decode c.code pc = .ok (.ireturn, 1)) (hc : cells ≤ kc) (hs : slots ≤ ks) (hq : Q (some (.int (nar t z))) h locs) : own_GoW p e below s Z Q kc ks (T.setTop (mkF m pc Ls (.int z :: rest))) :=
  own_endW X hS hL hZ hJ hlk eT (fun q => by rw [hret] at q; cases q) hc hs hq fun fs hr => retN X hx hret ht hd hr
theorem own_retIW (X : Stand p l e R (s.setVm vm0) m args below meth c T locs cells slots) (hS : s.Since vm0 h.size) (hL : own_L Z a0) (hZ : Z.Warmed39 (s.setVm vm0).vm) (hJ : own_J Z vm0 h) (hx : p.tables.exec = Jvm.exec) (hlk : meth.locks = false) (eT : T.heap = h) {pc : Nat} {Ls : Array Slot} {z : Int32} {rest : List Value} (hret : meth.sig.returnType = some .int)
    (hd : decode c.code pc = .ok (.ireturn, 1)) (hc : cells ≤ kc) (hs : slots ≤ ks) (hq : Q (some (.int z)) h locs) : own_GoW p e below s Z Q kc ks (T.setTop (mkF m pc Ls (.int z :: rest))) :=
  own_endW X hS hL hZ hJ hlk eT (fun q => by rw [hret] at q; cases q) hc hs hq fun fs hr => retOut X hx hret rfl (Or.inl ⟨rfl, Or.inl rfl, z, rfl⟩) hd hr
theorem own_retJW (X : Stand p l e R (s.setVm vm0) m args below meth c T locs cells slots) (hS : s.Since vm0 h.size) (hL : own_L Z a0) (hZ : Z.Warmed39 (s.setVm vm0).vm) (hJ : own_J Z vm0 h) (hx : p.tables.exec = Jvm.exec) (hlk : meth.locks = false) (eT : T.heap = h) {pc : Nat} {Ls : Array Slot} {z : Int64} {rest : List Value} (hret : meth.sig.returnType = some .long)
    (hd : decode c.code pc = .ok (.lreturn, 1)) (hc : cells ≤ kc) (hs : slots ≤ ks) (hq : Q (some (.long z)) h locs) : own_GoW p e below s Z Q kc ks (T.setTop (mkF m pc Ls (.long z :: rest))) :=
  own_endW X hS hL hZ hJ hlk eT (fun q => by rw [hret] at q; cases q) hc hs hq fun fs hr => retOut X hx hret rfl (Or.inr (Or.inl ⟨rfl, rfl, z, rfl⟩)) hd hr
theorem own_retAW (X : Stand p l e R (s.setVm vm0) m args below meth c T locs cells slots) (hS : s.Since vm0 h.size) (hL : own_L Z a0) (hZ : Z.Warmed39 (s.setVm vm0).vm) (hJ : own_J Z vm0 h) (hx : p.tables.exec = Jvm.exec) (hlk : meth.locks = false) (eT : T.heap = h) {pc : Nat} {Ls : Array Slot} {v : Value} {t : FieldType} {rest : List Value} (hret : meth.sig.returnType = some t) (ht : t.isReference = true) (hv : v.isRef = true)
    (hd : decode c.code pc = .ok (.areturn, 1)) (hc : cells ≤ kc) (hs : slots ≤ ks) (hq : Q (some v) h locs) : own_GoW p e below s Z Q kc ks (T.setTop (mkF m pc Ls (v :: rest))) :=
  own_endW X hS hL hZ hJ hlk eT (fun q => by rw [hret] at q; cases q) hc hs hq fun fs hr => retOut X hx hret (by cases t <;> first | (cases ht; done) | (rcases ref_cases hv with rfl | ⟨_, rfl⟩ <;> rfl)) (Or.inr (Or.inr (Or.inr (Or.inr ⟨rfl, ht, hv⟩)))) hd hr
theorem own_retVW (X : Stand p l e R (s.setVm vm0) m args below meth c T locs cells slots) (hS : s.Since vm0 h.size) (hL : own_L Z a0) (hZ : Z.Warmed39 (s.setVm vm0).vm) (hJ : own_J Z vm0 h) (hx : p.tables.exec = Jvm.exec) (hlk : meth.locks = false) (eT : T.heap = h) {pc : Nat} {Ls : Array Slot} (hret : meth.sig.returnType = none)
    (hd : decode c.code pc = .ok (.return_, 1)) (hc : cells ≤ kc) (hs : slots ≤ ks) (hq : Q none h locs) : own_GoW p e below s Z Q kc ks (T.setTop (mkF m pc Ls [])) :=
  own_endW X hS hL hZ hJ hlk eT (fun _ => rfl) hc hs hq fun fs hr => X.returnOut hx hret hd hr
theorem own_metW {y : MethodName} {bytes : ByteArray} {maxL : Nat} {ret : Option FieldType} {ws : List Jvm.Cond} {rm : Room} {as' : Array Value} (kc ks : Nat) (hpl : plainFor y = true)
    (body : ∀ (p : Program) (e : Env) (s : State) (vm0 : Vm) (m : MethodId) (below : List Frame) (meth : Method) (c : Code) (T : State), Stand p l e rm (s.setVm vm0) m as' below meth c T [] 0 0 → s.Since vm0 h.size → own_J Z vm0 h → own_J Z s.vm s.heap → Z.Warmed39 s.vm → IB s vm0 [] → s.heap = h → p.tables.exec = Jvm.exec → c.code = bytes → c.maxLocals = maxL → meth.sig.returnType = ret → meth.locks = false → Z.Warmed39 (s.setVm vm0).vm → (s.setVm vm0).vm.findClass y.cls = some m.cls → meth.name = y.name → T.heap = h →
      own_GoW p e below s Z Q kc ks (T.setTop (entryFrame m as' maxL))) :
    MetFree l y (head1 (Jvm.Cond.code y bytes maxL ret :: ws) rm) (fun a U => a = as' ∧ Z.Warmed39 U.vm ∧ U.heap = h ∧ own_J Z U.vm U.heap) (fun _ _ _ _ _ => True) (fun _ U o U' => ∃ v L, o = .returned v ∧ (Q v U'.heap L ∧ own_J Z U'.vm U'.heap) ∧ ReturnedEndW U o U' L kc ks) := by
  refine MetFree.of_bodySF hpl hisR ?_
  intro p e s m args below meth c s₁ Bd hml hP hK
  obtain ⟨rfl, hZ, hh, hJ⟩ := hP
  obtain ⟨t, o, h1, h2, h3, h4⟩ := body p e s s.vm m below meth c s₁ (Stand.of_body Bd) ((State.WarmedH.refl s).since _) (by rw [← hh]; exact hJ) hJ hZ IB.start hh Bd.exec Bd.bytes hml Bd.returns Bd.notSynchronized hZ (findClass_of_methodNamed Bd.named) (name_of_methodNamed Bd.named Bd.method).1 (by rw [← hh, Bd.state]; rfl)
  exact ⟨t, o, h1, h2, h3, h4⟩
abbrev own_MetW (l : Launch) (Z : State) (h : Heap) (y : MethodName) (bytes : ByteArray) (maxL : Nat) (ret : Option FieldType) (rm : Room) (as' : Array Value) (Q : Option Value → Heap → List Loc → Prop) : Prop :=
  MetFree l y (head1 [Jvm.Cond.code y bytes maxL ret] rm) (fun a U => a = as' ∧ Z.Warmed39 U.vm ∧ U.heap = h ∧ own_J Z U.vm U.heap) (fun _ _ _ _ _ => True) (fun _ U o U' => ∃ v L, o = .returned v ∧ (Q v U'.heap L ∧ own_J Z U'.vm U'.heap) ∧ ReturnedEndW U o U' L rm.cells rm.slots)
end OwnKitW
section OwnBackJ
variable {p : Program} {l : Launch} {e : Env} {R : Room} {s : State} {vm0 : Vm} {m : MethodId} {args : Array Value} {below : List Frame} {meth : Method} {c : Code} {T : State} {locs : List Loc} {cells slots kc ks : Nat} {Z : State} {a0 : Array Value} {h : Heap} {Q : Option Value → Heap → List Loc → Prop}
theorem own_backJ {y : MethodName} {bytes : ByteArray} {maxL : Nat} {ret : Option FieldType} {rm : Room} {len W : Nat} {as' : Array Value} (hM : own_MetW l Z h y bytes maxL ret rm as' Q) (L : own_L Z a0)
    (hZ : Z.Warmed39 s.vm) (hJ : own_J Z s.vm h) (wc : (Jvm.Cond.code y bytes maxL ret).before a0 Z = true) (wz : (Jvm.Cond.initialized y.cls).before a0 Z = true) (hf : rm.frames + 1 ≤ R.frames) (hl : W + (maxL + 11) + rm.locals ≤ R.locals) :
    BackS l R p e below s args y len W (fun A a => a = as' ∧ A.U.heap = h ∧ A.cells + rm.cells ≤ R.cells ∧ A.slots + rm.slots ≤ R.slots)
      (fun A _ v B => ∃ L, (Q v B.U.heap L ∧ own_J Z B.U.vm B.U.heap) ∧ B.locs = A.locs ++ L ∧ B.cells = A.cells + rm.cells ∧ B.slots = A.slots + rm.slots) :=
  BackS.of_freeW (bytes := bytes) (maxL := maxL) (ret := ret) (E := fun _ _ o t L k n => k = rm.cells ∧ n = rm.slots ∧ ∃ v, o = .returned v ∧ (Q v t.heap L ∧ own_J Z t.vm t.heap)) hM hf hl
    (fun m meth c A a Y hp => have hU : Z.Warmed39 A.U.vm := wtrans hZ Y.warmed
      ⟨by show (Jvm.Cond.and _ .tt).before a A.U = true; rw [Cond.before_and, mv hU wc]; rfl, mv hU wc, mv hU wz, hp.2.2.1, hp.2.2.2⟩)
    (fun m meth c A a g mk Y hp => ⟨hp.1, wtrans hZ Y.warmed, hp.2.1, by
      have q : own_J Z A.U.vm h := own_Jwarm (s := s) L hZ hJ Y.warmed
      rw [← hp.2.1] at q; exact q⟩) (fun _ _ _ _ _ _ _ _ _ => trivial)
    (fun _ _ _ _ ⟨v, L, h1, h2, h3⟩ => ⟨L, _, _, h3, rfl, rfl, v, h1, h2⟩)
    (fun m meth c A a g mk v t L k n Y hp _ _ ⟨e1, e2, v', e3, e4⟩ => by cases e3; subst e1 e2; exact ⟨L, e4, rfl, rfl, rfl⟩)
end OwnBackJ
section OwnKitW2
variable {p : Program} {l : Launch} {e : Env} {R : Room} {s : State} {vm0 : Vm} {m : MethodId} {args : Array Value} {below : List Frame} {meth : Method} {c : Code} {T : State} {locs : List Loc} {cells slots kc ks : Nat} {Z : State} {a0 : Array Value} {h : Heap} {Q : Option Value → Heap → List Loc → Prop}
theorem own_callSW {y : MethodName} {bytes : ByteArray} {maxL : Nat} {ret : Option FieldType} {rm : Room} {as' : Array Value} {own : String} {index : Nat} (X : Stand p l e R (s.setVm vm0) m args below meth c T locs cells slots) (hS : s.Since vm0 h.size) (hL : own_L Z a0) (hJ : own_J Z vm0 h) (hx : p.tables.exec = Jvm.exec) (hZ : Z.Warmed39 (s.setVm vm0).vm) (hown : (s.setVm vm0).vm.findClass own = some m.cls)
    (w1 : (Jvm.Cond.methodLink own index y).before a0 Z = true) (w2 : (Jvm.Cond.static y).before a0 Z = true) (w3 : (Jvm.Cond.initialized y.cls).before a0 Z = true) (w4 : (Jvm.Cond.code y bytes maxL ret).before a0 Z = true) (hM : own_MetW l Z h y bytes maxL ret rm as' Q) (W : Nat) (nc ns : Nat) 
    (hc : cells + nc ≤ R.cells) (hs : slots + ns ≤ R.slots) (eT : T.heap = h) {g : JFrame} (hg : g.method = m) (hsize : g.locals.size = c.maxLocals)
    (argsL rest : List Value) (hlen : ∀ sig, parseMethodDescriptor y.desc = some sig → argsL.length = sig.parameters.length) (hstack : g.stack = argsL.reverse ++ rest) (has : argsL.toArray = as') (hdg : decode c.code g.pc = .ok (.invokestatic index, 3))
    (hy : y.cls ≠ "java/lang/invoke/MethodHandle" ∧ y.cls ≠ "java/lang/invoke/VarHandle" := by decide) (hf : rm.frames + 1 ≤ R.frames := by decide) (hl : W + (maxL + 11) + rm.locals ≤ R.locals := by decide) (hW : 2 * g.monitorRoom + (rest.map fun v => v.category).sum ≤ W := by exact Nat.le_of_eq rfl) (hnc : rm.cells = nc := by rfl) (hns : rm.slots = ns := by rfl) :
    ∃ v T' L, Stand p l e R (s.setVm T'.vm) m args below meth c T' (locs ++ L) (cells + nc) (slots + ns) ∧ s.Since T'.vm T'.heap.size ∧ Z.Warmed39 (s.setVm T'.vm).vm ∧ (s.setVm T'.vm).vm.findClass own = some m.cls ∧ Q v T'.heap L ∧ own_J Z T'.vm T'.heap ∧ ∀ target, Steps p.tables e below (T'.setTop { g with pc := g.pc + 3, stack := v.toList ++ rest }) target → Steps p.tables e below (T.setTop g) target := by
  subst hnc hns
  obtain ⟨v, _, ⟨T', L', k', n'⟩, -, X', hS', hgr, ⟨L, ⟨hQ, hJ'⟩, h1, h2, h3⟩, st⟩ := callSS X hx hown (mvT hZ w1) (mvT hZ w2) (mvT hZ w3) (mvT hZ w4) hy (own_backJ (W := W) hM hL hZ hJ w4 w3 hf hl) hg hsize hlen hstack hW hdg (fun _ _ => ⟨has, eT, hc, hs⟩)
  dsimp only [Pt.U, Pt.locs, Pt.cells, Pt.slots] at X' hS' hgr hQ hJ' h1 h2 h3 st
  subst h1 h2 h3
  have hS2 : s.Since T'.vm T'.heap.size := hS.trans hS' (by rw [← eT]; exact hgr)
  exact ⟨v, T', L, X', hS2, State.Warmed39.trans (t := s.setVm vm0) hZ hS'.1, by rw [show (s.setVm T'.vm).vm = T'.vm from rfl, hS'.1.alike.findClass]; exact hown, hQ, hJ', fun _ k => st.trans k⟩
theorem own_callIW {y : MethodName} {bytes : ByteArray} {maxL : Nat} {rm : Room} {as' : Array Value} {own : String} {index : Nat} (X : Stand p l e R (s.setVm vm0) m args below meth c T locs cells slots) (hS : s.Since vm0 h.size) (hL : own_L Z a0) (hJ : own_J Z vm0 h) (hx : p.tables.exec = Jvm.exec) (hZ : Z.Warmed39 (s.setVm vm0).vm) (hown : (s.setVm vm0).vm.findClass own = some m.cls)
    (w1 : (Jvm.Cond.methodLink own index y).before a0 Z = true) (w2 : (Jvm.Cond.instanceMethod y).before a0 Z = true) (w3 : (Jvm.Cond.initialized y.cls).before a0 Z = true) (w4 : (Jvm.Cond.code y bytes maxL none).before a0 Z = true) (hM : own_MetW l Z h y bytes maxL none rm as' Q) (W : Nat) (nc ns : Nat) (hy1 : y.name = "<init>")
    (hc : cells + nc ≤ R.cells) (hs : slots + ns ≤ R.slots) (eT : T.heap = h) {g : JFrame} (hg : g.method = m) (hsize : g.locals.size = c.maxLocals)
    (a : Addr) (argsL rest : List Value) (hlen : ∀ sig, parseMethodDescriptor y.desc = some sig → argsL.length = sig.parameters.length) (hstack : g.stack = argsL.reverse ++ .ref a :: rest) (has : (Value.ref a :: argsL).toArray = as') (hdg : decode c.code g.pc = .ok (.invokespecial index, 3))
    (hy : y.cls ≠ "java/lang/invoke/MethodHandle" ∧ y.cls ≠ "java/lang/invoke/VarHandle" := by decide) (hf : rm.frames + 1 ≤ R.frames := by decide) (hl : W + (maxL + 11) + rm.locals ≤ R.locals := by decide) (hW : 2 * g.monitorRoom + (rest.map fun v => v.category).sum ≤ W := by exact Nat.le_of_eq rfl) (hnc : rm.cells = nc := by rfl) (hns : rm.slots = ns := by rfl) :
    ∃ v T' L, Stand p l e R (s.setVm T'.vm) m args below meth c T' (locs ++ L) (cells + nc) (slots + ns) ∧ s.Since T'.vm T'.heap.size ∧ Z.Warmed39 (s.setVm T'.vm).vm ∧ (s.setVm T'.vm).vm.findClass own = some m.cls ∧ Q v T'.heap L ∧ own_J Z T'.vm T'.heap ∧ ∀ target, Steps p.tables e below (T'.setTop { g with pc := g.pc + 3, stack := v.toList ++ rest }) target → Steps p.tables e below (T.setTop g) target := by
  subst hnc hns
  obtain ⟨v, _, ⟨T', L', k', n'⟩, -, X', hS', hgr, ⟨L, ⟨hQ, hJ'⟩, h1, h2, h3⟩, st⟩ := X.specialBackS hx hy1 hown (mvT hZ w1) (mvT hZ w2) (mvT hZ w4) hy (own_backJ (W := W) hM hL hZ hJ w4 w3 hf hl) hg hsize (Steps.refl _) (a := a) (argsL := argsL) (rest := rest) hlen hstack hW hdg (fun _ _ => ⟨has, eT, hc, hs⟩)
  dsimp only [Pt.U, Pt.locs, Pt.cells, Pt.slots] at X' hS' hgr hQ hJ' h1 h2 h3 st
  subst h1 h2 h3
  have hS2 : s.Since T'.vm T'.heap.size := hS.trans hS' (by rw [← eT]; exact hgr)
  exact ⟨v, T', L, X', hS2, State.Warmed39.trans (t := s.setVm vm0) hZ hS'.1, by rw [show (s.setVm T'.vm).vm = T'.vm from rfl, hS'.1.alike.findClass]; exact hown, hQ, hJ', fun _ k => st.trans k⟩
theorem own_callVW {y z : MethodName} {bytes : ByteArray} {maxL : Nat} {ret : Option FieldType} {rm : Room} {as' : Array Value} {own C : String} {index : Nat} (X : Stand p l e R (s.setVm vm0) m args below meth c T locs cells slots) (hS : s.Since vm0 h.size) (hL : own_L Z a0) (hJ : own_J Z vm0 h) (hx : p.tables.exec = Jvm.exec) (hZ : Z.Warmed39 (s.setVm vm0).vm) (hown : (s.setVm vm0).vm.findClass own = some m.cls)
    (w1 : (Jvm.Cond.methodLink own index y).before a0 Z = true) (wd : (Jvm.Cond.declares y).before a0 Z = true) (nf : NotFace (s.setVm vm0) y) (wsel : (Jvm.Cond.selects C y z).before a0 Z = true) (w2 : (Jvm.Cond.instanceMethod z).before a0 Z = true) (w3 : (Jvm.Cond.initialized z.cls).before a0 Z = true) (w4 : (Jvm.Cond.code z bytes maxL ret).before a0 Z = true) (hM : own_MetW l Z h z bytes maxL ret rm as' Q) (W : Nat) (nc ns : Nat) 
    (hc : cells + nc ≤ R.cells) (hs : slots + ns ≤ R.slots) (eT : T.heap = h) {a : Addr} (E : Exa Z h a C) {g : JFrame} (hg : g.method = m) (hsize : g.locals.size = c.maxLocals)
    (argsL rest : List Value) (hlen : ∀ sig, parseMethodDescriptor y.desc = some sig → argsL.length = sig.parameters.length) (hstack : g.stack = argsL.reverse ++ .ref a :: rest) (has : (Value.ref a :: argsL).toArray = as') (hdg : decode c.code g.pc = .ok (.invokevirtual index, 3))
    (hy : y.cls ≠ "java/lang/invoke/MethodHandle" ∧ y.cls ≠ "java/lang/invoke/VarHandle" := by decide) (hf : rm.frames + 1 ≤ R.frames := by decide) (hl : W + (maxL + 11) + rm.locals ≤ R.locals := by decide) (hW : 2 * g.monitorRoom + (rest.map fun v => v.category).sum ≤ W := by exact Nat.le_of_eq rfl) (hnc : rm.cells = nc := by rfl) (hns : rm.slots = ns := by rfl) :
    ∃ v T' L, Stand p l e R (s.setVm T'.vm) m args below meth c T' (locs ++ L) (cells + nc) (slots + ns) ∧ s.Since T'.vm T'.heap.size ∧ Z.Warmed39 (s.setVm T'.vm).vm ∧ (s.setVm T'.vm).vm.findClass own = some m.cls ∧ Q v T'.heap L ∧ own_J Z T'.vm T'.heap ∧ ∀ target, Steps p.tables e below (T'.setTop { g with pc := g.pc + 3, stack := v.toList ++ rest }) target → Steps p.tables e below (T.setTop g) target := by
  subst hnc hns
  obtain ⟨cq, kq, qa, qb, qc⟩ := isOf hZ eT E
  obtain ⟨v, _, ⟨T', L', k', n'⟩, -, X', hS', hgr, ⟨L, ⟨hQ, hJ'⟩, h1, h2, h3⟩, st⟩ := X.virtualBackS hx hown (mvT hZ w1) (mvT hZ wd) nf (mvT hZ wsel) (mvT hZ w2) hy (own_backJ (W := W) hM hL hZ hJ w4 w3 hf hl) qa qc hg hsize (Steps.refl _) (argsL := argsL) (rest := rest) hlen hstack hW hdg (fun _ _ => ⟨has, eT, hc, hs⟩)
  dsimp only [Pt.U, Pt.locs, Pt.cells, Pt.slots] at X' hS' hgr hQ hJ' h1 h2 h3 st
  subst h1 h2 h3
  have hS2 : s.Since T'.vm T'.heap.size := hS.trans hS' (by rw [← eT]; exact hgr)
  exact ⟨v, T', L, X', hS2, State.Warmed39.trans (t := s.setVm vm0) hZ hS'.1, by rw [show (s.setVm T'.vm).vm = T'.vm from rfl, hS'.1.alike.findClass]; exact hown, hQ, hJ', fun _ k => st.trans k⟩
theorem own_callPW {y : MethodName} {bytes : ByteArray} {maxL : Nat} {ret : Option FieldType} {rm : Room} {as' : Array Value} {own C : String} {index : Nat} (X : Stand p l e R (s.setVm vm0) m args below meth c T locs cells slots) (hS : s.Since vm0 h.size) (hL : own_L Z a0) (hJ : own_J Z vm0 h) (hx : p.tables.exec = Jvm.exec) (hZ : Z.Warmed39 (s.setVm vm0).vm) (hown : (s.setVm vm0).vm.findClass own = some m.cls)
    (w1 : (Jvm.Cond.methodLink own index y).before a0 Z = true) (w2 : (Jvm.Cond.instanceMethod y).before a0 Z = true) (wsel : (Jvm.Cond.selects y.cls y y).before a0 Z = true) (wp : (Jvm.Cond.privateMethod y).before a0 Z = true) (w3 : (Jvm.Cond.initialized y.cls).before a0 Z = true) (w4 : (Jvm.Cond.code y bytes maxL ret).before a0 Z = true) (hM : own_MetW l Z h y bytes maxL ret rm as' Q) (W : Nat) (nc ns : Nat) 
    (hc : cells + nc ≤ R.cells) (hs : slots + ns ≤ R.slots) (eT : T.heap = h) {a : Addr} (E : Exa Z h a C) {g : JFrame} (hg : g.method = m) (hsize : g.locals.size = c.maxLocals)
    (argsL rest : List Value) (hlen : ∀ sig, parseMethodDescriptor y.desc = some sig → argsL.length = sig.parameters.length) (hstack : g.stack = argsL.reverse ++ .ref a :: rest) (has : (Value.ref a :: argsL).toArray = as') (hdg : decode c.code g.pc = .ok (.invokevirtual index, 3))
    (hy : y.cls ≠ "java/lang/invoke/MethodHandle" ∧ y.cls ≠ "java/lang/invoke/VarHandle" := by decide) (hf : rm.frames + 1 ≤ R.frames := by decide) (hl : W + (maxL + 11) + rm.locals ≤ R.locals := by decide) (hW : 2 * g.monitorRoom + (rest.map fun v => v.category).sum ≤ W := by exact Nat.le_of_eq rfl) (hnc : rm.cells = nc := by rfl) (hns : rm.slots = ns := by rfl) :
    ∃ v T' L, Stand p l e R (s.setVm T'.vm) m args below meth c T' (locs ++ L) (cells + nc) (slots + ns) ∧ s.Since T'.vm T'.heap.size ∧ Z.Warmed39 (s.setVm T'.vm).vm ∧ (s.setVm T'.vm).vm.findClass own = some m.cls ∧ Q v T'.heap L ∧ own_J Z T'.vm T'.heap ∧ ∀ target, Steps p.tables e below (T'.setTop { g with pc := g.pc + 3, stack := v.toList ++ rest }) target → Steps p.tables e below (T.setTop g) target := by
  subst hnc hns
  obtain ⟨cq, q1, q2⟩ := E.cell
  obtain ⟨v, _, ⟨T', L', k', n'⟩, -, X', hS', hgr, ⟨L, ⟨hQ, hJ'⟩, h1, h2, h3⟩, st⟩ := X.privateBackS hx hown (mvT hZ w1) (mvT hZ w2) (mvT hZ wsel) (Cond.privateMethod_at (mvP hZ wp (args := #[]))) (mvT hZ w4) hy (own_backJ (W := W) hM hL hZ hJ w4 w3 hf hl) hg hsize (Steps.refl _) (a := a) (by rw [eT]; exact q1) q2 (argsL := argsL) (rest := rest) hlen hstack hW hdg (fun _ _ => ⟨has, eT, hc, hs⟩)
  dsimp only [Pt.U, Pt.locs, Pt.cells, Pt.slots] at X' hS' hgr hQ hJ' h1 h2 h3 st
  subst h1 h2 h3
  have hS2 : s.Since T'.vm T'.heap.size := hS.trans hS' (by rw [← eT]; exact hgr)
  exact ⟨v, T', L, X', hS2, State.Warmed39.trans (t := s.setVm vm0) hZ hS'.1, by rw [show (s.setVm T'.vm).vm = T'.vm from rfl, hS'.1.alike.findClass]; exact hown, hQ, hJ', fun _ k => st.trans k⟩
theorem own_callFW {xi y : MethodName} {bytes : ByteArray} {maxL : Nat} {ret : Option FieldType} {rm : Room} {as' : Array Value} {own C : String} {index count : Nat} (X : Stand p l e R (s.setVm vm0) m args below meth c T locs cells slots) (hS : s.Since vm0 h.size) (hL : own_L Z a0) (hJ : own_J Z vm0 h) (hx : p.tables.exec = Jvm.exec) (hZ : Z.Warmed39 (s.setVm vm0).vm) (hown : (s.setVm vm0).vm.findClass own = some m.cls)
    (w1 : (Jvm.Cond.methodLink own index xi).before a0 Z = true) (wd : (Jvm.Cond.declares xi).before a0 Z = true) (wfa : (Jvm.Cond.interfaceMethod xi.cls xi.cls xi.name xi.desc).before a0 Z = true) (wsel : (Jvm.Cond.selects C xi y).before a0 Z = true) (w2 : (Jvm.Cond.instanceMethod y).before a0 Z = true) (wp : (Jvm.Cond.publicMethod y).before a0 Z = true) (wu : (Jvm.Cond.unhidden C xi.name xi.desc).before a0 Z = true) (wk : (Jvm.Cond.castable C xi.cls).before a0 Z = true) (w3 : (Jvm.Cond.initialized y.cls).before a0 Z = true) (w4 : (Jvm.Cond.code y bytes maxL ret).before a0 Z = true) (hfk : ((Jvm.Cond.interfaceMethod xi.cls xi.cls xi.name xi.desc).onTables && (Jvm.Cond.interfaceMethod xi.cls xi.cls xi.name xi.desc).keepsFace) = true) (hM : own_MetW l Z h y bytes maxL ret rm as' Q) (W : Nat) (nc ns : Nat) 
    (hc : cells + nc ≤ R.cells) (hs : slots + ns ≤ R.slots) (eT : T.heap = h) {a : Addr} (E : Exa Z h a C) {g : JFrame} (hg : g.method = m) (hsize : g.locals.size = c.maxLocals)
    (argsL rest : List Value) (hlen : ∀ sig, parseMethodDescriptor xi.desc = some sig → argsL.length = sig.parameters.length) (hstack : g.stack = argsL.reverse ++ .ref a :: rest) (has : (Value.ref a :: argsL).toArray = as') (hdg : decode c.code g.pc = .ok (.invokeinterface index count, 5))
    (hy : xi.cls ≠ "java/lang/invoke/MethodHandle" ∧ xi.cls ≠ "java/lang/invoke/VarHandle" := by decide) (hf : rm.frames + 1 ≤ R.frames := by decide) (hl : W + (maxL + 11) + rm.locals ≤ R.locals := by decide) (hW : 2 * g.monitorRoom + (rest.map fun v => v.category).sum ≤ W := by exact Nat.le_of_eq rfl) (hnc : rm.cells = nc := by rfl) (hns : rm.slots = ns := by rfl) :
    ∃ v T' L, Stand p l e R (s.setVm T'.vm) m args below meth c T' (locs ++ L) (cells + nc) (slots + ns) ∧ s.Since T'.vm T'.heap.size ∧ Z.Warmed39 (s.setVm T'.vm).vm ∧ (s.setVm T'.vm).vm.findClass own = some m.cls ∧ Q v T'.heap L ∧ own_J Z T'.vm T'.heap ∧ ∀ target, Steps p.tables e below (T'.setTop { g with pc := g.pc + 5, stack := v.toList ++ rest }) target → Steps p.tables e below (T.setTop g) target := by
  subst hnc hns
  obtain ⟨cq, kq, qa, qb, qc⟩ := isOf hZ eT E
  obtain ⟨v, _, ⟨T', L', k', n'⟩, -, X', hS', hgr, ⟨L, ⟨hQ, hJ'⟩, h1, h2, h3⟩, st⟩ := X.interfaceBackS hx hown (mvT hZ w1) (mvT hZ wd) (mvT hZ wfa hfk) (mvT hZ wsel) (mvT hZ w2) (mvT hZ wp) (mvT hZ wu) (mvT hZ wk) hy (own_backJ (W := W) hM hL hZ hJ w4 w3 hf hl) qa qb qc hg hsize (Steps.refl _) (argsL := argsL) (rest := rest) hlen hstack hW hdg (fun _ _ => ⟨has, eT, hc, hs⟩)
  dsimp only [Pt.U, Pt.locs, Pt.cells, Pt.slots] at X' hS' hgr hQ hJ' h1 h2 h3 st
  subst h1 h2 h3
  have hS2 : s.Since T'.vm T'.heap.size := hS.trans hS' (by rw [← eT]; exact hgr)
  exact ⟨v, T', L, X', hS2, State.Warmed39.trans (t := s.setVm vm0) hZ hS'.1, by rw [show (s.setVm T'.vm).vm = T'.vm from rfl, hS'.1.alike.findClass]; exact hown, hQ, hJ', fun _ k => st.trans k⟩
theorem own_callUW {y z : MethodName} {bytes : ByteArray} {maxL : Nat} {ret : Option FieldType} {rm : Room} {as' : Array Value} {own owner C : String} {index : Nat} (X : Stand p l e R (s.setVm vm0) m args below meth c T locs cells slots) (hS : s.Since vm0 h.size) (hL : own_L Z a0) (hJ : own_J Z vm0 h) (hx : p.tables.exec = Jvm.exec) (hZ : Z.Warmed39 (s.setVm vm0).vm) (hown : (s.setVm vm0).vm.findClass own = some m.cls)
    (w1 : (Jvm.Cond.methodLink own index y).before a0 Z = true) (wsm : (Jvm.Cond.sameMethod y.cls owner y.name y.desc).before a0 Z = true) (wd : (Jvm.Cond.declares ⟨owner, y.name, y.desc⟩).before a0 Z = true) (wsel : (Jvm.Cond.selects C y z).before a0 Z = true) (w2 : (Jvm.Cond.instanceMethod z).before a0 Z = true) (w3 : (Jvm.Cond.initialized z.cls).before a0 Z = true) (w4 : (Jvm.Cond.code z bytes maxL ret).before a0 Z = true) (hM : own_MetW l Z h z bytes maxL ret rm as' Q) (W : Nat) (nc ns : Nat) 
    (hc : cells + nc ≤ R.cells) (hs : slots + ns ≤ R.slots) (eT : T.heap = h) {a : Addr} (E : Exa Z h a C) {g : JFrame} (hg : g.method = m) (hsize : g.locals.size = c.maxLocals)
    (argsL rest : List Value) (hlen : ∀ sig, parseMethodDescriptor y.desc = some sig → argsL.length = sig.parameters.length) (hstack : g.stack = argsL.reverse ++ .ref a :: rest) (has : (Value.ref a :: argsL).toArray = as') (hdg : decode c.code g.pc = .ok (.invokevirtual index, 3))
    (howner : owner ≠ "java/lang/invoke/MethodHandle" ∧ owner ≠ "java/lang/invoke/VarHandle" := by decide) (hf : rm.frames + 1 ≤ R.frames := by decide) (hl : W + (maxL + 11) + rm.locals ≤ R.locals := by decide) (hW : 2 * g.monitorRoom + (rest.map fun v => v.category).sum ≤ W := by exact Nat.le_of_eq rfl) (hnc : rm.cells = nc := by rfl) (hns : rm.slots = ns := by rfl) :
    ∃ v T' L, Stand p l e R (s.setVm T'.vm) m args below meth c T' (locs ++ L) (cells + nc) (slots + ns) ∧ s.Since T'.vm T'.heap.size ∧ Z.Warmed39 (s.setVm T'.vm).vm ∧ (s.setVm T'.vm).vm.findClass own = some m.cls ∧ Q v T'.heap L ∧ own_J Z T'.vm T'.heap ∧ ∀ target, Steps p.tables e below (T'.setTop { g with pc := g.pc + 3, stack := v.toList ++ rest }) target → Steps p.tables e below (T.setTop g) target := by
  subst hnc hns
  obtain ⟨cq, kq, qa, qb, qc⟩ := isOf hZ eT E
  obtain ⟨v, _, ⟨T', L', k', n'⟩, -, X', hS', hgr, ⟨L, ⟨hQ, hJ'⟩, h1, h2, h3⟩, st⟩ := X.virtualBackUpS hx hown (mvT hZ w1) (mvT hZ wsm) (mvT hZ wd) howner (mvT hZ wsel) (mvT hZ w2) (own_backJ (W := W) hM hL hZ hJ w4 w3 hf hl) qa qc hg hsize (Steps.refl _) (argsL := argsL) (rest := rest) hlen hstack hW hdg (fun _ _ => ⟨has, eT, hc, hs⟩)
  dsimp only [Pt.U, Pt.locs, Pt.cells, Pt.slots] at X' hS' hgr hQ hJ' h1 h2 h3 st
  subst h1 h2 h3
  have hS2 : s.Since T'.vm T'.heap.size := hS.trans hS' (by rw [← eT]; exact hgr)
  exact ⟨v, T', L, X', hS2, State.Warmed39.trans (t := s.setVm vm0) hZ hS'.1, by rw [show (s.setVm T'.vm).vm = T'.vm from rfl, hS'.1.alike.findClass]; exact hown, hQ, hJ', fun _ k => st.trans k⟩
end OwnKitW2
theorem own_fd0 : parseFieldDescriptor "[B" = some (.array .byte) := by decide +kernel
theorem own_fd1 : parseFieldDescriptor "B" = some .byte := by decide +kernel
theorem own_fd2 : parseFieldDescriptor "Lcom/example/ratification/ratification/model/Category;" = some (.object "com/example/ratification/ratification/model/Category") := by decide +kernel
theorem own_fd3 : parseFieldDescriptor "Ljava/lang/String;" = some (.object "java/lang/String") := by decide +kernel
abbrev own_W (Z : State) (a0 : Array Value) : Prop := ∀ d ∈ tables_1, d.before a0 Z = true
abbrev own_y0 : MethodName := ⟨"java/lang/String", "<init>", "([CIILjava/lang/Void;)V"⟩
abbrev own_y1 : MethodName := ⟨"java/lang/String", "<init>", "([C)V"⟩
abbrev own_y2 : MethodName := ⟨"com/example/ratification/ratification/model/AttributeEqualsPinLaw", "cat", "(I)Lcom/example/ratification/ratification/model/Category;"⟩
abbrev own_y3 : MethodName := ⟨"java/lang/StringLatin1", "canEncode", "(C)Z"⟩
abbrev own_y4 : MethodName := ⟨"java/lang/StringLatin1", "toBytes", "(C)[B"⟩
abbrev own_y5 : MethodName := ⟨"java/lang/String", "<init>", "([BB)V"⟩
abbrev own_y6 : MethodName := ⟨"java/lang/String", "valueOf", "(C)Ljava/lang/String;"⟩
abbrev own_y7 : MethodName := ⟨"com/example/ratification/ratification/model/AttributeEqualsPinLaw", "name", "(ICC)Ljava/lang/String;"⟩
abbrev own_y8 : MethodName := ⟨"java/util/Objects", "requireNonNull", "(Ljava/lang/Object;Ljava/lang/String;)Ljava/lang/Object;"⟩
abbrev own_y9 : MethodName := ⟨"com/example/ratification/ratification/model/Attribute", "<init>", "(Lcom/example/ratification/ratification/model/Category;Ljava/lang/String;)V"⟩
abbrev own_y10 : MethodName := ⟨"java/lang/String", "equals", "(Ljava/lang/Object;)Z"⟩
abbrev own_y11 : MethodName := ⟨"com/example/ratification/ratification/model/Attribute", "equals", "(Ljava/lang/Object;)Z"⟩
abbrev own_y12 : MethodName := ⟨"java/lang/Object", "<init>", "()V"⟩
theorem ow0 {Z : State} {a0 : Array Value} (hw : own_W Z a0) : (Cond.constant "com/example/ratification/ratification/model/AttributeEqualsPinLaw" (28 : Nat) (2147483647 : Int32)).before a0 Z = true := hw _ (List.mem_of_getElem? (i := 0) rfl)
theorem ow1 {Z : State} {a0 : Array Value} (hw : own_W Z a0) : (Cond.methodLink "com/example/ratification/ratification/model/AttributeEqualsPinLaw" (29 : Nat) own_y2).before a0 Z = true := hw _ (List.mem_of_getElem? (i := 1) rfl)
theorem ow2 {Z : State} {a0 : Array Value} (hw : own_W Z a0) : (Cond.static own_y2).before a0 Z = true := hw _ (List.mem_of_getElem? (i := 2) rfl)
theorem ow3 {Z : State} {a0 : Array Value} (hw : own_W Z a0) : (Cond.initialized "com/example/ratification/ratification/model/AttributeEqualsPinLaw").before a0 Z = true := hw _ (List.mem_of_getElem? (i := 3) rfl)
theorem ow4 {Z : State} {a0 : Array Value} (hw : own_W Z a0) : (Cond.code own_y2 method_2_code (1 : Nat) (Option.some (Jvm.ClassFile.FieldType.object "com/example/ratification/ratification/model/Category"))).before a0 Z = true := hw _ (List.mem_of_getElem? (i := 4) rfl)
theorem ow5 {Z : State} {a0 : Array Value} (hw : own_W Z a0) : (Cond.fieldLink "com/example/ratification/ratification/model/AttributeEqualsPinLaw" (7 : Nat) "com/example/ratification/ratification/model/Category" "SUBJECT" "Lcom/example/ratification/ratification/model/Category;").before a0 Z = true := hw _ (List.mem_of_getElem? (i := 5) rfl)
theorem ow6 {Z : State} {a0 : Array Value} (hw : own_W Z a0) : (Cond.initialized "com/example/ratification/ratification/model/Category").before a0 Z = true := hw _ (List.mem_of_getElem? (i := 6) rfl)
theorem ow7 {Z : State} {a0 : Array Value} (hw : own_W Z a0) : (Cond.laysStatic "com/example/ratification/ratification/model/Category" "SUBJECT" "Lcom/example/ratification/ratification/model/Category;").before a0 Z = true := hw _ (List.mem_of_getElem? (i := 7) rfl)
theorem ow8 {Z : State} {a0 : Array Value} (hw : own_W Z a0) : (Cond.methodLink "com/example/ratification/ratification/model/AttributeEqualsPinLaw" (35 : Nat) own_y7).before a0 Z = true := hw _ (List.mem_of_getElem? (i := 8) rfl)
theorem ow9 {Z : State} {a0 : Array Value} (hw : own_W Z a0) : (Cond.static own_y7).before a0 Z = true := hw _ (List.mem_of_getElem? (i := 9) rfl)
theorem ow10 {Z : State} {a0 : Array Value} (hw : own_W Z a0) : (Cond.code own_y7 method_3_code (4 : Nat) (Option.some (Jvm.ClassFile.FieldType.object "java/lang/String"))).before a0 Z = true := hw _ (List.mem_of_getElem? (i := 10) rfl)
theorem ow11 {Z : State} {a0 : Array Value} (hw : own_W Z a0) : (Cond.classLink "com/example/ratification/ratification/model/AttributeEqualsPinLaw" (19 : Nat) "java/lang/String").before a0 Z = true := hw _ (List.mem_of_getElem? (i := 11) rfl)
theorem ow12 {Z : State} {a0 : Array Value} (hw : own_W Z a0) : (Cond.instantiable "java/lang/String" (4 : Nat)).before a0 Z = true := hw _ (List.mem_of_getElem? (i := 12) rfl)
theorem ow13 {Z : State} {a0 : Array Value} (hw : own_W Z a0) : (Cond.initialized "java/lang/String").before a0 Z = true := hw _ (List.mem_of_getElem? (i := 13) rfl)
theorem ow14 {Z : State} {a0 : Array Value} (hw : own_W Z a0) : (Cond.arrayClass Jvm.ClassFile.FieldType.char).before a0 Z = true := hw _ (List.mem_of_getElem? (i := 14) rfl)
theorem ow15 {Z : State} {a0 : Array Value} (hw : own_W Z a0) : (Cond.methodLink "com/example/ratification/ratification/model/AttributeEqualsPinLaw" (21 : Nat) own_y1).before a0 Z = true := hw _ (List.mem_of_getElem? (i := 15) rfl)
theorem ow16 {Z : State} {a0 : Array Value} (hw : own_W Z a0) : (Cond.instanceMethod own_y1).before a0 Z = true := hw _ (List.mem_of_getElem? (i := 16) rfl)
theorem ow17 {Z : State} {a0 : Array Value} (hw : own_W Z a0) : (Cond.code own_y1 jdk_42_method_3_code (2 : Nat) (Option.none : Option Jvm.ClassFile.FieldType)).before a0 Z = true := hw _ (List.mem_of_getElem? (i := 17) rfl)
theorem ow18 {Z : State} {a0 : Array Value} (hw : own_W Z a0) : (Cond.methodLink "java/lang/String" (27 : Nat) own_y0).before a0 Z = true := hw _ (List.mem_of_getElem? (i := 18) rfl)
theorem ow19 {Z : State} {a0 : Array Value} (hw : own_W Z a0) : (Cond.instanceMethod own_y0).before a0 Z = true := hw _ (List.mem_of_getElem? (i := 19) rfl)
theorem ow21 {Z : State} {a0 : Array Value} (hw : own_W Z a0) : (Cond.code own_y0 jdk_42_method_149_code (6 : Nat) (Option.none : Option Jvm.ClassFile.FieldType)).before a0 Z = true := hw _ (List.mem_of_getElem? (i := 21) rfl)
theorem ow22 {Z : State} {a0 : Array Value} (hw : own_W Z a0) : (Cond.methodLink "java/lang/String" (1 : Nat) own_y12).before a0 Z = true := hw _ (List.mem_of_getElem? (i := 22) rfl)
theorem ow23 {Z : State} {a0 : Array Value} (hw : own_W Z a0) : (Cond.instanceMethod own_y12).before a0 Z = true := hw _ (List.mem_of_getElem? (i := 23) rfl)
theorem ow24 {Z : State} {a0 : Array Value} (hw : own_W Z a0) : (Cond.code own_y12 object_method_1_code (1 : Nat) (Option.none : Option Jvm.ClassFile.FieldType)).before a0 Z = true := hw _ (List.mem_of_getElem? (i := 24) rfl)
theorem ow25 {Z : State} {a0 : Array Value} (hw : own_W Z a0) : (Cond.stringLink "java/lang/String" (7 : Nat) "").before a0 Z = true := hw _ (List.mem_of_getElem? (i := 25) rfl)
theorem ow26 {Z : State} {a0 : Array Value} (hw : own_W Z a0) : (Cond.arrayClass Jvm.ClassFile.FieldType.byte).before a0 Z = true := hw _ (List.mem_of_getElem? (i := 26) rfl)
theorem ow27 {Z : State} {a0 : Array Value} (hw : own_W Z a0) : (Cond.laysFinal "java/lang/String" "java/lang/String" "value" "[B").before a0 Z = true := hw _ (List.mem_of_getElem? (i := 27) rfl)
theorem ow28 {Z : State} {a0 : Array Value} (hw : own_W Z a0) : (Cond.laysFinal "java/lang/String" "java/lang/String" "coder" "B").before a0 Z = true := hw _ (List.mem_of_getElem? (i := 28) rfl)
theorem ow29 {Z : State} {a0 : Array Value} (hw : own_W Z a0) : (Cond.soleField "java/lang/String" "value").before a0 Z = true := hw _ (List.mem_of_getElem? (i := 29) rfl)
theorem ow30 {Z : State} {a0 : Array Value} (hw : own_W Z a0) : (Cond.soleField "java/lang/String" "coder").before a0 Z = true := hw _ (List.mem_of_getElem? (i := 30) rfl)
theorem ow31 {Z : State} {a0 : Array Value} (hw : own_W Z a0) : (Cond.fieldLink "java/lang/String" (9 : Nat) "java/lang/String" "value" "[B").before a0 Z = true := hw _ (List.mem_of_getElem? (i := 31) rfl)
theorem ow32 {Z : State} {a0 : Array Value} (hw : own_W Z a0) : (Cond.fieldLink "java/lang/String" (15 : Nat) "java/lang/String" "coder" "B").before a0 Z = true := hw _ (List.mem_of_getElem? (i := 32) rfl)
theorem ow33 {Z : State} {a0 : Array Value} (hw : own_W Z a0) : (Cond.classLink "com/example/ratification/ratification/model/AttributeEqualsPinLaw" (39 : Nat) "com/example/ratification/ratification/model/Attribute").before a0 Z = true := hw _ (List.mem_of_getElem? (i := 33) rfl)
theorem ow34 {Z : State} {a0 : Array Value} (hw : own_W Z a0) : (Cond.instantiable "com/example/ratification/ratification/model/Attribute" (2 : Nat)).before a0 Z = true := hw _ (List.mem_of_getElem? (i := 34) rfl)
theorem ow35 {Z : State} {a0 : Array Value} (hw : own_W Z a0) : (Cond.initialized "com/example/ratification/ratification/model/Attribute").before a0 Z = true := hw _ (List.mem_of_getElem? (i := 35) rfl)
theorem ow36 {Z : State} {a0 : Array Value} (hw : own_W Z a0) : (Cond.methodLink "com/example/ratification/ratification/model/AttributeEqualsPinLaw" (41 : Nat) own_y9).before a0 Z = true := hw _ (List.mem_of_getElem? (i := 36) rfl)
theorem ow37 {Z : State} {a0 : Array Value} (hw : own_W Z a0) : (Cond.instanceMethod own_y9).before a0 Z = true := hw _ (List.mem_of_getElem? (i := 37) rfl)
theorem ow38 {Z : State} {a0 : Array Value} (hw : own_W Z a0) : (Cond.code own_y9 prog_50_method_1_code (3 : Nat) (Option.none : Option Jvm.ClassFile.FieldType)).before a0 Z = true := hw _ (List.mem_of_getElem? (i := 38) rfl)
theorem ow39 {Z : State} {a0 : Array Value} (hw : own_W Z a0) : (Cond.methodLink "com/example/ratification/ratification/model/Attribute" (1 : Nat) own_y12).before a0 Z = true := hw _ (List.mem_of_getElem? (i := 39) rfl)
theorem ow40 {Z : State} {a0 : Array Value} (hw : own_W Z a0) : (Cond.stringLink "com/example/ratification/ratification/model/Attribute" (7 : Nat) "category").before a0 Z = true := hw _ (List.mem_of_getElem? (i := 40) rfl)
theorem ow41 {Z : State} {a0 : Array Value} (hw : own_W Z a0) : (Cond.methodLink "com/example/ratification/ratification/model/Attribute" (9 : Nat) own_y8).before a0 Z = true := hw _ (List.mem_of_getElem? (i := 41) rfl)
theorem ow42 {Z : State} {a0 : Array Value} (hw : own_W Z a0) : (Cond.static own_y8).before a0 Z = true := hw _ (List.mem_of_getElem? (i := 42) rfl)
theorem ow43 {Z : State} {a0 : Array Value} (hw : own_W Z a0) : (Cond.initialized "java/util/Objects").before a0 Z = true := hw _ (List.mem_of_getElem? (i := 43) rfl)
theorem ow44 {Z : State} {a0 : Array Value} (hw : own_W Z a0) : (Cond.code own_y8 jdk_31_method_11_code (2 : Nat) (Option.some (Jvm.ClassFile.FieldType.object "java/lang/Object"))).before a0 Z = true := hw _ (List.mem_of_getElem? (i := 44) rfl)
theorem ow45 {Z : State} {a0 : Array Value} (hw : own_W Z a0) : (Cond.classLink "com/example/ratification/ratification/model/Attribute" (15 : Nat) "com/example/ratification/ratification/model/Category").before a0 Z = true := hw _ (List.mem_of_getElem? (i := 45) rfl)
theorem ow47 {Z : State} {a0 : Array Value} (hw : own_W Z a0) : (Cond.fieldLink "com/example/ratification/ratification/model/Attribute" (17 : Nat) "com/example/ratification/ratification/model/Attribute" "category" "Lcom/example/ratification/ratification/model/Category;").before a0 Z = true := hw _ (List.mem_of_getElem? (i := 47) rfl)
theorem ow48 {Z : State} {a0 : Array Value} (hw : own_W Z a0) : (Cond.laysFinal "com/example/ratification/ratification/model/Attribute" "com/example/ratification/ratification/model/Attribute" "category" "Lcom/example/ratification/ratification/model/Category;").before a0 Z = true := hw _ (List.mem_of_getElem? (i := 48) rfl)
theorem ow49 {Z : State} {a0 : Array Value} (hw : own_W Z a0) : (Cond.stringLink "com/example/ratification/ratification/model/Attribute" (22 : Nat) "name").before a0 Z = true := hw _ (List.mem_of_getElem? (i := 49) rfl)
theorem ow50 {Z : State} {a0 : Array Value} (hw : own_W Z a0) : (Cond.classLink "com/example/ratification/ratification/model/Attribute" (24 : Nat) "java/lang/String").before a0 Z = true := hw _ (List.mem_of_getElem? (i := 50) rfl)
theorem ow51 {Z : State} {a0 : Array Value} (hw : own_W Z a0) : (Cond.fieldLink "com/example/ratification/ratification/model/Attribute" (26 : Nat) "com/example/ratification/ratification/model/Attribute" "name" "Ljava/lang/String;").before a0 Z = true := hw _ (List.mem_of_getElem? (i := 51) rfl)
theorem ow52 {Z : State} {a0 : Array Value} (hw : own_W Z a0) : (Cond.laysFinal "com/example/ratification/ratification/model/Attribute" "com/example/ratification/ratification/model/Attribute" "name" "Ljava/lang/String;").before a0 Z = true := hw _ (List.mem_of_getElem? (i := 52) rfl)
theorem ow53 {Z : State} {a0 : Array Value} (hw : own_W Z a0) : (Cond.methodLink "com/example/ratification/ratification/model/AttributeEqualsPinLaw" (44 : Nat) own_y11).before a0 Z = true := hw _ (List.mem_of_getElem? (i := 53) rfl)
theorem ow54 {Z : State} {a0 : Array Value} (hw : own_W Z a0) : (Cond.declares own_y11).before a0 Z = true := hw _ (List.mem_of_getElem? (i := 54) rfl)
theorem ow55 {Z : State} {a0 : Array Value} (hw : own_W Z a0) : (Cond.instanceMethod own_y11).before a0 Z = true := hw _ (List.mem_of_getElem? (i := 55) rfl)
theorem ow56 {Z : State} {a0 : Array Value} (hw : own_W Z a0) : (Cond.selects "com/example/ratification/ratification/model/Attribute" own_y11 own_y11).before a0 Z = true := hw _ (List.mem_of_getElem? (i := 56) rfl)
theorem ow57 {Z : State} {a0 : Array Value} (hw : own_W Z a0) : (Cond.code own_y11 prog_50_method_4_code (2 : Nat) (Option.some Jvm.ClassFile.FieldType.boolean)).before a0 Z = true := hw _ (List.mem_of_getElem? (i := 57) rfl)
theorem ow58 {Z : State} {a0 : Array Value} (hw : own_W Z a0) : (Cond.classLink "com/example/ratification/ratification/model/Attribute" (18 : Nat) "com/example/ratification/ratification/model/Attribute").before a0 Z = true := hw _ (List.mem_of_getElem? (i := 58) rfl)
theorem ow60 {Z : State} {a0 : Array Value} (hw : own_W Z a0) : (Cond.methodLink "com/example/ratification/ratification/model/Attribute" (29 : Nat) own_y10).before a0 Z = true := hw _ (List.mem_of_getElem? (i := 60) rfl)
theorem ow61 {Z : State} {a0 : Array Value} (hw : own_W Z a0) : (Cond.declares own_y10).before a0 Z = true := hw _ (List.mem_of_getElem? (i := 61) rfl)
theorem ow62 {Z : State} {a0 : Array Value} (hw : own_W Z a0) : (Cond.instanceMethod own_y10).before a0 Z = true := hw _ (List.mem_of_getElem? (i := 62) rfl)
theorem ow63 {Z : State} {a0 : Array Value} (hw : own_W Z a0) : (Cond.selects "java/lang/String" own_y10 own_y10).before a0 Z = true := hw _ (List.mem_of_getElem? (i := 63) rfl)
theorem ow64 {Z : State} {a0 : Array Value} (hw : own_W Z a0) : (Cond.code own_y10 jdk_42_method_66_code (3 : Nat) (Option.some Jvm.ClassFile.FieldType.boolean)).before a0 Z = true := hw _ (List.mem_of_getElem? (i := 64) rfl)
theorem ow65 {Z : State} {a0 : Array Value} (hw : own_W Z a0) : (Cond.classLink "java/lang/String" (10 : Nat) "java/lang/String").before a0 Z = true := hw _ (List.mem_of_getElem? (i := 65) rfl)
theorem ow66 {Z : State} {a0 : Array Value} (hw : own_W Z a0) : (Cond.fieldLink "java/lang/String" (38 : Nat) "java/lang/String" "COMPACT_STRINGS" "Z").before a0 Z = true := hw _ (List.mem_of_getElem? (i := 66) rfl)
theorem ow69 {Z : State} {a0 : Array Value} (hw : own_W Z a0) : (Cond.initialized "java/lang/StringLatin1").before a0 Z = true := hw _ (List.mem_of_getElem? (i := 69) rfl)
theorem ow71 {Z : State} {a0 : Array Value} (hw : own_W Z a0) : (Cond.superclass "java/lang/String" "java/lang/Object").before a0 Z = true := hw _ (List.mem_of_getElem? (i := 71) rfl)
theorem ow72 {Z : State} {a0 : Array Value} (hw : own_W Z a0) : (Cond.noSuperclass "java/lang/Object").before a0 Z = true := hw _ (List.mem_of_getElem? (i := 72) rfl)
theorem ow73 {Z : State} {a0 : Array Value} (hw : own_W Z a0) : (Cond.superclass "com/example/ratification/ratification/model/Category" "java/lang/Enum").before a0 Z = true := hw _ (List.mem_of_getElem? (i := 73) rfl)
theorem ow74 {Z : State} {a0 : Array Value} (hw : own_W Z a0) : (Cond.superclass "java/lang/Enum" "java/lang/Object").before a0 Z = true := hw _ (List.mem_of_getElem? (i := 74) rfl)
theorem ow75 {Z : State} {a0 : Array Value} (hw : own_W Z a0) : (Cond.fieldLink "com/example/ratification/ratification/model/AttributeEqualsPinLaw" (13 : Nat) "com/example/ratification/ratification/model/Category" "OBJECT" "Lcom/example/ratification/ratification/model/Category;").before a0 Z = true := hw _ (List.mem_of_getElem? (i := 75) rfl)
theorem ow76 {Z : State} {a0 : Array Value} (hw : own_W Z a0) : (Cond.laysStatic "com/example/ratification/ratification/model/Category" "OBJECT" "Lcom/example/ratification/ratification/model/Category;").before a0 Z = true := hw _ (List.mem_of_getElem? (i := 76) rfl)
theorem ow77 {Z : State} {a0 : Array Value} (hw : own_W Z a0) : (Cond.methodLink "com/example/ratification/ratification/model/AttributeEqualsPinLaw" (24 : Nat) own_y6).before a0 Z = true := hw _ (List.mem_of_getElem? (i := 77) rfl)
theorem ow78 {Z : State} {a0 : Array Value} (hw : own_W Z a0) : (Cond.static own_y6).before a0 Z = true := hw _ (List.mem_of_getElem? (i := 78) rfl)
theorem ow79 {Z : State} {a0 : Array Value} (hw : own_W Z a0) : (Cond.code own_y6 jdk_42_method_139_code (1 : Nat) (Option.some (Jvm.ClassFile.FieldType.object "java/lang/String"))).before a0 Z = true := hw _ (List.mem_of_getElem? (i := 79) rfl)
theorem ow80 {Z : State} {a0 : Array Value} (hw : own_W Z a0) : (Cond.methodLink "java/lang/String" (1015 : Nat) own_y3).before a0 Z = true := hw _ (List.mem_of_getElem? (i := 80) rfl)
theorem ow81 {Z : State} {a0 : Array Value} (hw : own_W Z a0) : (Cond.static own_y3).before a0 Z = true := hw _ (List.mem_of_getElem? (i := 81) rfl)
theorem ow82 {Z : State} {a0 : Array Value} (hw : own_W Z a0) : (Cond.code own_y3 jdk_43_method_3_code (1 : Nat) (Option.some Jvm.ClassFile.FieldType.boolean)).before a0 Z = true := hw _ (List.mem_of_getElem? (i := 82) rfl)
theorem ow83 {Z : State} {a0 : Array Value} (hw : own_W Z a0) : (Cond.methodLink "java/lang/String" (1018 : Nat) own_y4).before a0 Z = true := hw _ (List.mem_of_getElem? (i := 83) rfl)
theorem ow84 {Z : State} {a0 : Array Value} (hw : own_W Z a0) : (Cond.static own_y4).before a0 Z = true := hw _ (List.mem_of_getElem? (i := 84) rfl)
theorem ow85 {Z : State} {a0 : Array Value} (hw : own_W Z a0) : (Cond.code own_y4 jdk_43_method_46_code (1 : Nat) (Option.some (Jvm.ClassFile.FieldType.array Jvm.ClassFile.FieldType.byte))).before a0 Z = true := hw _ (List.mem_of_getElem? (i := 85) rfl)
theorem ow86 {Z : State} {a0 : Array Value} (hw : own_W Z a0) : (Cond.methodLink "java/lang/String" (209 : Nat) own_y5).before a0 Z = true := hw _ (List.mem_of_getElem? (i := 86) rfl)
theorem ow87 {Z : State} {a0 : Array Value} (hw : own_W Z a0) : (Cond.instanceMethod own_y5).before a0 Z = true := hw _ (List.mem_of_getElem? (i := 87) rfl)
theorem ow88 {Z : State} {a0 : Array Value} (hw : own_W Z a0) : (Cond.code own_y5 jdk_42_method_151_code (3 : Nat) (Option.none : Option Jvm.ClassFile.FieldType)).before a0 Z = true := hw _ (List.mem_of_getElem? (i := 88) rfl)
theorem ow89 {Z : State} {a0 : Array Value} (hw : own_W Z a0) : (Cond.fieldLink "com/example/ratification/ratification/model/AttributeEqualsPinLaw" (16 : Nat) "com/example/ratification/ratification/model/Category" "CONTEXT" "Lcom/example/ratification/ratification/model/Category;").before a0 Z = true := hw _ (List.mem_of_getElem? (i := 89) rfl)
theorem ow90 {Z : State} {a0 : Array Value} (hw : own_W Z a0) : (Cond.laysStatic "com/example/ratification/ratification/model/Category" "CONTEXT" "Lcom/example/ratification/ratification/model/Category;").before a0 Z = true := hw _ (List.mem_of_getElem? (i := 90) rfl)
theorem own_sn0 {Z : State} {a0 : Array Value} (hw : own_W Z a0) : Jvm.RoadKit.slotOf Z "java/lang/String" "coder" "B" ≠ Jvm.RoadKit.slotOf Z "java/lang/String" "value" "[B" := slot_ne (Or.inr (ow28 hw)) (Or.inr (ow27 hw)) (by decide +kernel) (t := .byte) (t' := (.array .byte)) own_fd1 own_fd0
theorem own_sn1 {Z : State} {a0 : Array Value} (hw : own_W Z a0) : Jvm.RoadKit.slotOf Z "com/example/ratification/ratification/model/Attribute" "name" "Ljava/lang/String;" ≠ Jvm.RoadKit.slotOf Z "com/example/ratification/ratification/model/Attribute" "category" "Lcom/example/ratification/ratification/model/Category;" := slot_ne (Or.inr (ow52 hw)) (Or.inr (ow48 hw)) (by decide +kernel) (t := (.object "java/lang/String")) (t' := (.object "com/example/ratification/ratification/model/Category")) own_fd3 own_fd2
theorem own_Lhw {Z : State} {a0 : Array Value} (hw : own_W Z a0) : own_L Z a0 := by
  intro e he
  simp only [consts_1, List.mem_cons, List.not_mem_nil, or_false] at he
  rcases he with rfl | rfl | rfl
  · exact ⟨_, hw _ (List.mem_of_getElem? (i := 40) rfl)⟩
  · exact ⟨_, hw _ (List.mem_of_getElem? (i := 49) rfl)⟩
  · exact ⟨_, hw _ (List.mem_of_getElem? (i := 25) rfl)⟩
theorem own_Jstart {s : State} {a0 args : Array Value} {tb : Tables} {e : Env} (hw : ∀ d ∈ tables_1, d.before a0 s = true) (hcw : (Jvm.Cond.not (Jvm.Cond.eq (Jvm.Term.static "java/lang/String" "COMPACT_STRINGS" "Z") (Jvm.Term.int (0 : Int32)))).before a0 s = true) (hc : Calls_1 tb e args s) : own_J s s.vm s.heap := by
  intro e he
  have hh := hc.1 e he
  simp only [consts_1, List.mem_cons, List.not_mem_nil, or_false] at he
  rcases he with rfl | rfl | rfl
  · exact heldStart hh (hw _ (List.mem_of_getElem? (i := 40) rfl)) (by decide) hcw (hw _ (List.mem_of_getElem? (i := 26) rfl)) (hw _ (List.mem_of_getElem? (i := 12) rfl))
  · exact heldStart hh (hw _ (List.mem_of_getElem? (i := 49) rfl)) (by decide) hcw (hw _ (List.mem_of_getElem? (i := 26) rfl)) (hw _ (List.mem_of_getElem? (i := 12) rfl))
  · exact heldStart hh (hw _ (List.mem_of_getElem? (i := 25) rfl)) (by decide) hcw (hw _ (List.mem_of_getElem? (i := 26) rfl)) (hw _ (List.mem_of_getElem? (i := 12) rfl))
theorem own_pd_0 : parseMethodDescriptor "([CIILjava/lang/Void;)V" = some ⟨[(.array .char), .int, .int, (.object "java/lang/Void")], none⟩ := by decide +kernel
theorem own_pd_1 : parseMethodDescriptor "(C)Z" = some ⟨[.char], some .boolean⟩ := by decide +kernel
theorem own_pd_2 : parseMethodDescriptor "(C)[B" = some ⟨[.char], some (.array .byte)⟩ := by decide +kernel
theorem own_pd_3 : parseMethodDescriptor "([BB)V" = some ⟨[(.array .byte), .byte], none⟩ := by decide +kernel
theorem own_pd_4 : parseMethodDescriptor "([C)V" = some ⟨[(.array .char)], none⟩ := by decide +kernel
theorem own_pd_5 : parseMethodDescriptor "(C)Ljava/lang/String;" = some ⟨[.char], some (.object "java/lang/String")⟩ := by decide +kernel
theorem own_pd_6 : parseMethodDescriptor "(Ljava/lang/Object;Ljava/lang/String;)Ljava/lang/Object;" = some ⟨[(.object "java/lang/Object"), (.object "java/lang/String")], some (.object "java/lang/Object")⟩ := by decide +kernel
theorem own_pd_7 : parseMethodDescriptor "(Ljava/lang/Object;)Z" = some ⟨[(.object "java/lang/Object")], some .boolean⟩ := by decide +kernel
theorem own_pd_8 : parseMethodDescriptor "(I)Lcom/example/ratification/ratification/model/Category;" = some ⟨[.int], some (.object "com/example/ratification/ratification/model/Category")⟩ := by decide +kernel
theorem own_pd_9 : parseMethodDescriptor "(ICC)Ljava/lang/String;" = some ⟨[.int, .char, .char], some (.object "java/lang/String")⟩ := by decide +kernel
theorem own_pd_10 : parseMethodDescriptor "(Lcom/example/ratification/ratification/model/Category;Ljava/lang/String;)V" = some ⟨[(.object "com/example/ratification/ratification/model/Category"), (.object "java/lang/String")], none⟩ := by decide +kernel
theorem own_pn_0 : plainName "java/lang/String" = true := by first | (simp [plainName, overriddenIn]; done) | decide +kernel
theorem own_pn_1 : plainName "com/example/ratification/ratification/model/AttributeEqualsPinLaw" = true := by first | (simp [plainName, overriddenIn]; done) | decide +kernel
theorem own_pn_2 : plainName "java/lang/StringLatin1" = true := by first | (simp [plainName, overriddenIn]; done) | decide +kernel
theorem own_pn_3 : plainName "java/util/Objects" = true := by first | (simp [plainName, overriddenIn]; done) | decide +kernel
theorem own_pn_4 : plainName "com/example/ratification/ratification/model/Attribute" = true := by first | (simp [plainName, overriddenIn]; done) | decide +kernel
theorem own_wS {Z : State} {a0 : Array Value} (hw : ∀ d ∈ tables_1, d.before a0 Z = true) : ∀ a ∈ Bundle.stringAtoms, a.before a0 Z = true := by
  intro d hd
  simp only [Bundle.stringAtoms, List.mem_cons, List.not_mem_nil, or_false] at hd
  rcases hd with rfl | rfl | rfl | rfl | rfl | rfl | rfl
  · exact (ow13 hw)
  · exact (ow12 hw)
  · exact (ow26 hw)
  · exact (ow27 hw)
  · exact (ow28 hw)
  · exact (ow29 hw)
  · exact (ow30 hw)
def own_C8 (c : Int32) : Prop := ¬ c < 0 ∧ ¬ (255 : Int32) < c
theorem own_c8m (x : Int32) : own_C8 (x &&& (255 : Int32)) := by
  have a1 := c_and x 255 (by decide)
  have a2 : (255 : Int32).toInt = 255 := by decide
  have a3 : (0 : Int32).toInt = 0 := by decide
  exact ⟨by rw [Int32.lt_iff_toInt_lt]; omega, by rw [Int32.lt_iff_toInt_lt]; omega⟩
theorem own_narM (x : Int32) : nar .char (x &&& (255 : Int32)) = (x &&& (255 : Int32)) := i2c_mask x
theorem own_nar8 {c : Int32} (h : own_C8 c) : nar .char c = c := by
  have a1 := c_i2c c
  have a2 : (255 : Int32).toInt = 255 := by decide
  have a3 : (0 : Int32).toInt = 0 := by decide
  have a4 := mt Int32.lt_iff_toInt_lt.mpr h.1
  have a5 := mt Int32.lt_iff_toInt_lt.mpr h.2
  exact Int32.toInt_inj.mp (by show c.toUInt32.toUInt16.toUInt32.toInt32.toInt = c.toInt; omega)
theorem own_shr0 (x : Int32) : x >>> ((0 : Int32) &&& 31) = x := by
  have a := c_ishr x 0 0 (by decide)
  exact Int32.toInt_inj.mp (by rw [a]; simp)
theorem own_shl0 (x : Int32) : x <<< ((0 : Int32) &&& 31) = x := by
  have a := c_ishl x 0 0 (by decide)
  have b := rng32 x
  have c := rng32 (x <<< ((0 : Int32) &&& 31))
  have e : ((2 ^ 0 : Nat) : Int) = 1 := rfl
  rw [e, Int.mul_one] at a
  exact Int32.toInt_inj.mp (by omega)
theorem own_narB (x : Int32) : nar .byte x.toInt8.toInt32 = x.toInt8.toInt32 := by
  have a1 := c_i2b x
  have a2 := c_i2b x.toInt8.toInt32
  exact Int32.toInt_inj.mp (by show x.toInt8.toInt32.toInt8.toInt32.toInt = x.toInt8.toInt32.toInt; omega)
theorem own_c8n {c : Int32} (h : own_C8 c) : own_C8 (nar .char c) := by rw [own_nar8 h]; exact h
theorem own_c8l (x : Int64) : own_C8 (((x &&& (255 : Int64)).toInt32).toUInt32.toUInt16.toUInt32.toInt32) := by
  have a1 := c_i2c ((x &&& (255 : Int64)).toInt32)
  have a2 : (255 : Int32).toInt = 255 := by decide
  have a3 : (0 : Int32).toInt = 0 := by decide
  have a4 := c_maskL x 255 8 (by decide) (by decide)
  have a5 := c_l2i (x &&& (255 : Int64))
  have a6 := rng32 ((x &&& (255 : Int64)).toInt32)
  exact ⟨by rw [Int32.lt_iff_toInt_lt]; omega, by rw [Int32.lt_iff_toInt_lt]; omega⟩
theorem own_b8 {c k : Int32} (h : own_C8 c) (k0 : 0 ≤ k.toInt) (k1 : k.toInt < 128) : c.toInt8.toInt32 = k ↔ c = k := by
  have a1 := c_i2b c
  have a2 : (255 : Int32).toInt = 255 := by decide
  have a3 : (0 : Int32).toInt = 0 := by decide
  have a4 := mt Int32.lt_iff_toInt_lt.mpr h.1
  have a5 := mt Int32.lt_iff_toInt_lt.mpr h.2
  constructor
  · intro q; have q' := congrArg Int32.toInt q; exact Int32.toInt_inj.mp (by omega)
  · intro q; have q' := congrArg Int32.toInt q; exact Int32.toInt_inj.mp (by omega)
theorem own_cN : ∀ c ∈ ([] : List Int32), own_C8 c := fun _ q => nomatch q
theorem own_cC {a : Int32} {l : List Int32} (h : own_C8 a) (t : ∀ c ∈ l, own_C8 c) : ∀ c ∈ a :: l, own_C8 c := fun c q => (List.mem_cons.mp q).elim (fun e => e ▸ h) (t c)
theorem own_sw1 {Z : State} {a0 : Array Value} (hw : ∀ d ∈ tables_1, d.before a0 Z = true) : ∀ d ∈ StrChars.Road.words, d.before a0 Z = true := fun d hd => hw d ((by decide +kernel : ∀ d ∈ StrChars.Road.words, d ∈ tables_1) d hd)
def own_Afar (Z : State) (h : Heap) (w : Addr) : Prop := (∀ a, Exa Z h a "java/lang/String" → a ≠ w) ∧ (∀ t k n vs d, Arv Z h t k .byte n vs d → t ≠ w)
theorem own_afE {Z : State} {h : Heap} {w : Addr} {C : String} {n : Nat} {a0 : Array Value} (E : Exa Z h w C) (hC : C ≠ "java/lang/String") (wi : (Jvm.Cond.instantiable C n).before a0 Z = true) : own_Afar Z h w := ⟨fun a F => ne_exa F E hC.symm, fun t k n vs d V => (Exa.neArv E V wi).symm⟩
theorem own_afV {Z : State} {h : Heap} {w : Addr} {k : ClassId} {ty : FieldType} {z : Int32} {vs : List Value} {d : Value} {n : Nat} {a0 : Array Value} (V : Arv Z h w k ty z vs d) (hty : ty ≠ .byte) (wi : (Jvm.Cond.instantiable "java/lang/String" n).before a0 Z = true) : own_Afar Z h w := ⟨fun a F => Exa.neArv F V wi, fun t k n vs d W => own_neTy W V hty.symm⟩
def own_Sl (Z : State) (h : Heap) (a : Addr) (cs : List Int32) : Prop := Exa Z h a "java/lang/String" ∧ Fld Z h a "java/lang/String" "coder" "B" (.int (0 : Int32)) ∧ ∃ (t : Addr) (k : ClassId), Fld Z h a "java/lang/String" "value" "[B" (.ref t) ∧ Arv Z h t k .byte (Int32.ofNat cs.length) (cs.map fun c => Value.int c.toInt8.toInt32) (.int (0 : Int32)) ∧ (∀ c ∈ cs, own_C8 c) ∧ cs.length ≤ 4000
theorem own_SlExt {Z : State} {h h' : Heap} {a : Addr} {cs : List Int32} (N : own_Sl Z h a cs) (X : Ext h h') : own_Sl Z h' a cs := by
  obtain ⟨g1, g2, t, k, g3, g4, g5⟩ := N
  exact ⟨g1.ext X, g2.ext X, t, k, g3.ext X, g4.ext X, g5⟩
theorem own_SlKeep {Z : State} {h h' : Heap} {a : Addr} {cs : List Int32} {ws : List Addr} (N : own_Sl Z h a cs) (K : Keep h h' ws) (q : ∀ w ∈ ws, own_Afar Z h w) : own_Sl Z h' a cs := by
  obtain ⟨g1, g2, t, k, g3, g4, g5⟩ := N
  have qa : a ∉ ws := fun hm => (q a hm).1 a g1 rfl
  exact ⟨g1.keep K, g2.keep K qa, t, k, g3.keep K qa, g4.keep K (fun hm => (q t hm).2 _ _ _ _ _ g4 rfl), g5⟩
theorem own_mkSl {Z : State} {h : Heap} {a t : Addr} {k : ClassId} {N : Int32} {vs : List Value} {cs : List Int32} (g1 : Exa Z h a "java/lang/String") (g2 : Fld Z h a "java/lang/String" "coder" "B" (.int (0 : Int32))) (g3 : Fld Z h a "java/lang/String" "value" "[B" (.ref t)) (g4 : Arv Z h t k .byte N vs (.int (0 : Int32)))
    (hN : N = Int32.ofNat cs.length) (hv : vs = cs.map fun c => Value.int c.toInt8.toInt32) (h8 : ∀ c ∈ cs, own_C8 c) (hl : cs.length ≤ 4000) : own_Sl Z h a cs := ⟨g1, g2, t, k, g3, hN ▸ hv ▸ g4, h8, hl⟩
def own_Qeq (cs ds : List Int32) (h : Heap) (v : Option Value) (h' : Heap) (L : List Loc) : Prop := ((v = some (.int 1) ∧ cs = ds) ∨ (v = some (.int 0) ∧ ¬ cs = ds)) ∧ L = [] ∧ h' = h
theorem own_c64 {cs : List Int32} (h : ∀ c ∈ cs, own_C8 c) : ∀ c ∈ cs, ¬ c < 0 ∧ ¬ (65535 : Int32) < c := fun c q => by
  have a := h c q
  have a1 := mt Int32.lt_iff_toInt_lt.mpr a.2
  have a2 : (255 : Int32).toInt = 255 := by decide
  have a3 : (65535 : Int32).toInt = 65535 := by decide
  exact ⟨a.1, by rw [Int32.lt_iff_toInt_lt]; omega⟩
theorem own_eqB {p : Program} {l : Launch} {e : Env} {R : Room} {s : State} {args : Array Value} {below : List Frame} {len W : Nat} {Z : State} {a0 : Array Value} {h : Heap} (hZ : Z.Warmed39 s.vm) (hw : ∀ d ∈ StrChars.Road.wordsEq, d.before a0 Z = true) {kI : Nat} (wi : (Jvm.Cond.instantiable "java/lang/String" kI).before a0 Z = true)
    {x y : Addr} {cs ds : List Int32} (H : own_Sl Z h x cs) (H' : own_Sl Z h y ds) {z : Int32} (S : Sta Z h "java/lang/String" "COMPACT_STRINGS" "Z" (.int z)) (hz : ¬ z = 0) (hfr : 2 ≤ R.frames) (hlo : W + 28 ≤ R.locals) :
    Back l R p e below s args (⟨"java/lang/String", "equals", "(Ljava/lang/Object;)Z"⟩ : MethodName) len W (fun P a => a = #[.ref x, .ref y] ∧ P.U.heap = h ∧ P.cells + 0 ≤ R.cells ∧ P.slots + 0 ≤ R.slots)
      (fun P _ v B => ∃ L, own_Qeq cs ds h v B.U.heap L ∧ B.locs = P.locs ++ L ∧ B.cells = P.cells + 0 ∧ B.slots = P.slots + 0) := by
  obtain ⟨g1, g2, t, k, g3, g4, g5, g6⟩ := H
  obtain ⟨f1, f2, u, k', f3, f4, f5, f6⟩ := H'
  exact StrChars.Road.eqW hZ hw wi g1 g3 g2 g4 (Or.inl ⟨rfl, rfl, rfl, fun c q => (g5 c q).2⟩) (own_c64 g5) g6 f1 f3 f2 f4 (Or.inl ⟨rfl, rfl, rfl, fun c q => (f5 c q).2⟩) (own_c64 f5) f6 S hz hfr hlo
theorem own_sw2 {Z : State} {a0 : Array Value} (hw : ∀ d ∈ tables_1, d.before a0 Z = true) : ∀ d ∈ StrChars.Road.wordsEq, d.before a0 Z = true := fun d hd => hw d ((by decide +kernel : ∀ d ∈ StrChars.Road.wordsEq, d ∈ tables_1) d hd)
theorem own_rootI {Z : State} {a0 : Array Value} {O K : String} {n : Nat} (w : (Jvm.Cond.noSuperclass O).before a0 Z = true) (wk : (Jvm.Cond.instantiable K n).before a0 Z = true) (hn : O ≠ K) : NS Z O K := by
  obtain ⟨c, k, h1, h2, h3, -, -⟩ := Cond.noSuperclass_spec w
  obtain ⟨t, kt, g1, -⟩ := Cond.instantiable_spec wk
  have ne := ids_ne h1 g1 hn
  refine ⟨c, t, h1, g1, fun fuel => ?_⟩
  cases fuel with
  | zero => rfl
  | succ f => simp [Vm.isSubclassAux, ne, h2, h3]
theorem own_noI {Z : State} {a0 : Array Value} {C S K : String} {m : Nat} (w : (Jvm.Cond.superclass C S).before a0 Z = true) (wk : (Jvm.Cond.instantiable K m).before a0 Z = true) (n : NS Z C K) (hn : C ≠ K) : ∃ c t, Z.vm.findClass C = some c ∧ Z.vm.findClass K = some t ∧ Z.vm.assignable c t = false := by
  obtain ⟨c, t, h0, g0, n3⟩ := n
  obtain ⟨p, k, kp, h1, h2, h3, h4, h5, -, h7⟩ := Cond.superclass_spec h0 w
  obtain ⟨t', k', g1, g2, g5, g7, -⟩ := Cond.instantiable_spec wk
  cases g0.symm.trans g1
  have ne := ids_ne h0 g0 hn
  have g8 : k'.isInterface = false := by
    cases q : k'.isInterface with
    | false => rfl
    | true => rw [q] at g7; simp at g7
  refine ⟨c, t, h0, g0, ?_⟩
  show Z.vm.assignableAux (255 + 1) c t = false
  simp [Vm.assignableAux, ne, h2, g2, h5, g5, g8, Vm.isSubclass, n3]
def own_Cat (p : Int32) (b w0 w1 w2 : Addr) : Prop := (p = (0 : Int32) ∧ b = w0) ∨ (p = (1 : Int32) ∧ b = w1) ∨ (¬ p = (0 : Int32) ∧ ¬ p = (1 : Int32) ∧ b = w2)
def own_V3 (x : Int32) : Prop := x = (0 : Int32) ∨ x = (1 : Int32) ∨ x = (2 : Int32)
theorem own_CatEq {p q : Int32} {a b w0 w1 w2 : Addr} (h : own_Cat p a w0 w1 w2) (g : own_Cat q b w0 w1 w2) (hp : own_V3 p) (hq : own_V3 q) (n1 : w0 ≠ w1) (n2 : w0 ≠ w2) (n3 : w1 ≠ w2) : a = b ↔ p = q := by
  have v3 : ∀ {z : Int32}, own_V3 z → ¬ z = (0 : Int32) → ¬ z = (1 : Int32) → z = (2 : Int32) := fun h a b => h.elim (fun q => absurd q a) fun q => q.elim (fun q => absurd q b) id
  rcases h with ⟨rfl, rfl⟩ | ⟨rfl, rfl⟩ | ⟨h1, h2, rfl⟩
  · rcases g with ⟨rfl, rfl⟩ | ⟨rfl, rfl⟩ | ⟨g1, g2, rfl⟩
    · exact ⟨fun _ => rfl, fun _ => rfl⟩
    · exact ⟨fun e => absurd e n1, fun e => absurd e (by decide)⟩
    · exact ⟨fun e => absurd e n2, fun e => absurd e.symm g1⟩
  · rcases g with ⟨rfl, rfl⟩ | ⟨rfl, rfl⟩ | ⟨g1, g2, rfl⟩
    · exact ⟨fun e => absurd e.symm n1, fun e => absurd e (by decide)⟩
    · exact ⟨fun _ => rfl, fun _ => rfl⟩
    · exact ⟨fun e => absurd e n3, fun e => absurd e.symm g2⟩
  · rcases g with ⟨rfl, rfl⟩ | ⟨rfl, rfl⟩ | ⟨g1, g2, rfl⟩
    · exact ⟨fun e => absurd e.symm n2, fun e => absurd e h1⟩
    · exact ⟨fun e => absurd e.symm n3, fun e => absurd e h2⟩
    · exact ⟨fun _ => (v3 hp h1 h2).trans (v3 hq g1 g2).symm, fun _ => rfl⟩
def own_B (v : Int32) (P : Prop) : Prop := (v = (1 : Int32) ∧ P) ∨ (v = (0 : Int32) ∧ ¬ P)
theorem own_B1 {v : Int32} {P : Prop} (h : own_B v P) (q : P) : v = (1 : Int32) := h.elim (fun z => z.1) (fun z => absurd q z.2)
theorem own_B0 {v : Int32} {P : Prop} (h : own_B v P) (q : ¬ P) : v = (0 : Int32) := h.elim (fun z => absurd z.2 q) (fun z => z.1)
theorem own_ltT {j k x : Int32} (h : x < j) (hjk : j.toInt < k.toInt) : x < k := by
  have a2 := Int32.lt_iff_toInt_lt.mp h
  rw [Int32.lt_iff_toInt_lt]
  omega
theorem own_V3r {x : Int32} (h0 : 0 ≤ x.toInt) (h1 : x.toInt < 3) : own_V3 x := by
  have a5 : (0 : Int32).toInt = 0 := by decide
  have a6 : (1 : Int32).toInt = 1 := by decide
  have a7 : (2 : Int32).toInt = 2 := by decide
  have h : x.toInt = 0 ∨ x.toInt = 1 ∨ x.toInt = 2 := by omega
  rcases h with h | h | h
  · exact Or.inl (Int32.toInt_inj.mp (h.trans a5.symm))
  · exact Or.inr (Or.inl (Int32.toInt_inj.mp (h.trans a6.symm)))
  · exact Or.inr (Or.inr (Int32.toInt_inj.mp (h.trans a7.symm)))
theorem own_V3m3 (x : Int32) : own_V3 ((x &&& (3 : Int32)) % (3 : Int32)) := by
  have a1 := c_mask x 3 2 (by decide) (by decide)
  have a2 := c_irem (x &&& 3) 3 3 (by decide)
  exact own_V3r (by omega) (by omega)
theorem own_V3mx (x : Int32) : own_V3 ((x &&& (2147483647 : Int32)) % (3 : Int32)) := by
  have a1 := c_mask x 2147483647 31 (by decide) (by decide)
  have a2 := c_irem (x &&& 2147483647) 3 3 (by decide)
  exact own_V3r (by omega) (by omega)
def own_cn (l a b : Int32) : List Int32 := if l = (0 : Int32) then [] else if l = (1 : Int32) then [a] else [a, b]
theorem own_cn_0 {l a b : Int32} (h : l = (0 : Int32)) : own_cn l a b = [] := by unfold own_cn; rw [if_pos h]
theorem own_cn_1 {l a b : Int32} (h : l = (1 : Int32)) : own_cn l a b = [a] := by unfold own_cn; rw [if_neg (by rw [h]; decide), if_pos h]
theorem own_cn_2 {l a b : Int32} (h0 : ¬ l = (0 : Int32)) (h1 : ¬ l = (1 : Int32)) : own_cn l a b = [a, b] := by unfold own_cn; rw [if_neg h0, if_neg h1]
theorem own_cnL {l k a b c d : Int32} (hl : own_V3 l) (hk : own_V3 k) (h : ¬ l = k) : ¬ own_cn l a b = own_cn k c d := by
  rcases hl with rfl | rfl | rfl <;> rcases hk with rfl | rfl | rfl <;> simp_all [own_cn]
theorem own_cnA {l k a b c d : Int32} (hl : l = k) (h1 : ¬ l < (1 : Int32)) (h : ¬ a = c) : ¬ own_cn l a b = own_cn k c d := by
  subst hl
  have n0 : ¬ l = (0 : Int32) := fun q => h1 (by rw [q]; decide)
  intro e
  unfold own_cn at e
  rw [if_neg n0, if_neg n0] at e
  split at e
  · exact h (by injection e)
  · exact h (by injection e)
theorem own_cnB {l k a b c d : Int32} (hl : l = k) (h1 : ¬ l < (2 : Int32)) (h : ¬ b = d) : ¬ own_cn l a b = own_cn k c d := by
  subst hl
  have n0 : ¬ l = (0 : Int32) := fun q => h1 (by rw [q]; decide)
  have n1 : ¬ l = (1 : Int32) := fun q => h1 (by rw [q]; decide)
  intro e
  rw [own_cn_2 n0 n1, own_cn_2 n0 n1] at e
  exact h (congrArg (fun z => z.getD 1 0) e)
theorem own_cnT {l k a b c d : Int32} (hv : own_V3 l) (hl : l = k) (h1 : l < (1 : Int32) ∨ a = c) (h2 : l < (2 : Int32) ∨ b = d) : own_cn l a b = own_cn k c d := by
  subst hl
  rcases hv with rfl | rfl | rfl
  · rfl
  · rcases h1 with h | rfl
    · exact absurd h (by decide)
    · rfl
  · rcases h1 with h | rfl
    · exact absurd h (by decide)
    · rcases h2 with h | rfl
      · exact absurd h (by decide)
      · rfl
theorem own_neOrdK {args : Array Value} {s : State} {t1 t2 : Term} {wx wy : Addr} {C f : String} {k1 k2 : Int32} (hk : k1 ≠ k2) (n3 : (Jvm.Cond.eq (Term.field t1 C f "I") (Term.int k1)).value args s none s [] = some true) (n4 : (Jvm.Cond.eq (Term.field t2 C f "I") (Term.int k2)).value args s none s [] = some true)
    (e1 : t1.eval args s none [] s = some (.ref wx)) (e2 : t2.eval args s none [] s = some (.ref wy)) : wx ≠ wy := by
  rintro rfl
  have h1 := (fld_at e1).symm.trans (eqv_i (Term.int_eval k1) n3)
  have h2 := (fld_at e2).symm.trans (eqv_i (Term.int_eval k2) n4)
  rw [h1] at h2
  exact hk (by simpa using h2)
def own_Olds (Z : State) (zc : Int32) (ws0 : Addr) (ws1 : Addr) (ws2 : Addr) : Prop := Sta Z Z.heap "java/lang/String" "COMPACT_STRINGS" "Z" (.int zc) ∧ ¬ zc = (0 : Int32) ∧ Sta Z Z.heap "com/example/ratification/ratification/model/Category" "SUBJECT" "Lcom/example/ratification/ratification/model/Category;" (.ref ws0) ∧ Sta Z Z.heap "com/example/ratification/ratification/model/Category" "OBJECT" "Lcom/example/ratification/ratification/model/Category;" (.ref ws1) ∧ Sta Z Z.heap "com/example/ratification/ratification/model/Category" "CONTEXT" "Lcom/example/ratification/ratification/model/Category;" (.ref ws2) ∧ Exa Z Z.heap ws0 "com/example/ratification/ratification/model/Category" ∧ Exa Z Z.heap ws1 "com/example/ratification/ratification/model/Category" ∧ Exa Z Z.heap ws2 "com/example/ratification/ratification/model/Category" ∧ ws0 ≠ ws1 ∧ ws0 ≠ ws2 ∧ ws1 ≠ ws2
theorem d4_0 : decode jdk_42_method_149_code 0 = .ok (.aload_n 0, 1) := by decide +kernel
theorem d4_1 : decode jdk_42_method_149_code 1 = .ok (.invokespecial 1, 3) := by decide +kernel
theorem d4_4 : decode jdk_42_method_149_code 4 = .ok (.iload_n 3, 1) := by decide +kernel
theorem d4_5 : decode jdk_42_method_149_code 5 = .ok (.ifCond .ne 22, 3) := by decide +kernel
theorem d4_8 : decode jdk_42_method_149_code 8 = .ok (.aload_n 0, 1) := by decide +kernel
theorem d4_9 : decode jdk_42_method_149_code 9 = .ok (.ldc 7, 2) := by decide +kernel
theorem d4_11 : decode jdk_42_method_149_code 11 = .ok (.getfield 9, 3) := by decide +kernel
theorem d4_14 : decode jdk_42_method_149_code 14 = .ok (.putfield 9, 3) := by decide +kernel
theorem d4_17 : decode jdk_42_method_149_code 17 = .ok (.aload_n 0, 1) := by decide +kernel
theorem d4_18 : decode jdk_42_method_149_code 18 = .ok (.ldc 7, 2) := by decide +kernel
theorem d4_20 : decode jdk_42_method_149_code 20 = .ok (.getfield 15, 3) := by decide +kernel
theorem d4_23 : decode jdk_42_method_149_code 23 = .ok (.putfield 15, 3) := by decide +kernel
theorem d4_26 : decode jdk_42_method_149_code 26 = .ok (.return_, 1) := by decide +kernel
def Q_st2E (Z : State) (zc : Int32) (ws0 : Addr) (ws1 : Addr) (ws2 : Addr) (a1 : Addr) (a2 : Addr) (k : ClassId) (h0 : Heap) (v : Option Value) (h : Heap) (L : List Loc) : Prop := (∃ t : Addr, ∃ kt : ClassId, v = none ∧ Fr Z.heap.size L ∧ Keep h0 h [a1] ∧ Exa Z h a1 "java/lang/String" ∧ Fld Z h a1 "java/lang/String" "coder" "B" (.int (0 : Int32)) ∧ Fld Z h a1 "java/lang/String" "value" "[B" (.ref t) ∧ Arv Z h t kt .byte (0 : Int32) [] (.int (0 : Int32)))
theorem ef_st2E (m : MethodId) (x0 : Addr) (x1 : Addr) : entryFrame m #[(.ref x0), (.ref x1), (.int (0 : Int32)), (.int (0 : Int32)), .null] 6 = mkF m 0 #[rv x0, rv x1, iv (0 : Int32), iv (0 : Int32), .val .null, .unset] [] := by first | (simp [entryFrame, mkF, argsToLocals, Value.category]; done) | rfl
set_option maxRecDepth 65536 in
set_option maxHeartbeats 40000000 in
theorem rm_st2E (l : Launch) (Z : State) (a0 : Array Value) (hw : own_W Z a0) {zc : Int32} {ws0 : Addr} {ws1 : Addr} {ws2 : Addr} (hO : own_Olds Z zc ws0 ws1 ws2) (ws : List Jvm.Cond) (a1 : Addr) (a2 : Addr) (k : ClassId) (h0 : Heap) (O0 : Ext Z.heap h0) (fp0 : Exa Z h0 a1 "java/lang/String") (fp1 : Fld Z h0 a1 "java/lang/String" "value" "[B" .null) (fp2 : Fld Z h0 a1 "java/lang/String" "coder" "B" (.int (0 : Int32))) (fp3 : Arv Z h0 a2 k .char (0 : Int32) [] (.int (0 : Int32))) (big_a1 : Z.heap.size ≤ a1) :
    MetFree l own_y0 (head1 (Jvm.Cond.code own_y0 jdk_42_method_149_code 6 none :: ws) ({ frames := 1, cells := 2, slots := 4, locals := 12 } : Room)) (fun a U => a = #[(.ref a1), (.ref a2), (.int (0 : Int32)), (.int (0 : Int32)), .null] ∧ Z.Warmed39 U.vm ∧ U.heap = h0 ∧ own_J Z U.vm U.heap) (fun _ _ _ _ _ => True) (fun _ U o U' => ∃ v L, o = .returned v ∧ ((Q_st2E Z zc ws0 ws1 ws2 a1 a2 k h0) v U'.heap L ∧ own_J Z U'.vm U'.heap) ∧ ReturnedEndW U o U' L ({ frames := 1, cells := 2, slots := 4, locals := 12 } : Room).cells ({ frames := 1, cells := 2, slots := 4, locals := 12 } : Room).slots) := by
  refine own_metW (Q := (Q_st2E Z zc ws0 ws1 ws2 a1 a2 k h0)) _ _ (plainFor_of_name own_pn_0) ?_
  intro p e s vm0 m below meth c T X0 hS hJ hJ0 hZ0 hI hs0 hx hby hml hret hlk hZ hown hnm e0
  replace hown : (s.setVm vm0).vm.findClass "java/lang/String" = some m.cls := hown
  replace hnm : meth.name = "<init>" := hnm
  have hml : c.maxLocals = 6 := hml
  obtain ⟨oCS, oCz, oS0, oS1, oS2, oSE0, oSE1, oSE2, oN01, oN02, oN12⟩ := id hO
  have N0 := Fr.nil Z.heap.size
  have hL := own_Lhw hw
  have K0 := Keep.refl h0 [a1]
  refine own_goW (fun _ k => castTop (ef_st2E m a1 a2) k) ?_
  have ne1 : a2 ≠ a1 := (Ne.symm (Exa.neArv fp0 fp3 (ow12 hw)))
  show own_GoW p e below s _ _ _ _ (T.setTop (mkF m 0 #[rv a1, rv a2, iv (0 : Int32), iv (0 : Int32), .val .null, .unset] []))
  refine own_goW (fun _ k => XS.aloadN X0.here hx rfl (hb hby d4_0) rfl rfl k) ?_
  obtain ⟨T2, X2, e2, st2⟩ := initO X0 hx hZ hown (ow22 hw) (ow23 hw) (ow24 hw) e0 (g := (mkF m 1 #[rv a1, rv a2, iv (0 : Int32), iv (0 : Int32), .val .null, .unset] [(.ref a1)])) rfl (by rw [hml]; rfl) rfl (hb hby d4_1) (by decide) (W := 0) (by show 2 * 0 + _ ≤ _; exact Nat.le_of_eq rfl) (by decide)
  refine own_goW st2 ?_
  clear st2 X0 e0
  refine own_goW (fun _ k => XS.iloadN X2.here hx rfl (hb hby d4_4) rfl (XS.ifNo X2.here hx rfl (hb hby d4_5) rfl ((if0 _ _).trans (teq (by decide : (0 : Int32) = (0 : Int32))).2) k)) ?_
  show own_GoW p e below s _ _ _ _ (T2.setTop (mkF m 8 #[rv a1, rv a2, iv (0 : Int32), iv (0 : Int32), .val .null, .unset] []))
  refine own_goW (fun _ k => XS.aloadN X2.here hx rfl (hb hby d4_8) rfl rfl k) ?_
  obtain ⟨b3, T3, h3, vm3, u3, X3, e3, E3, hSn, hZn, hownn, hJn, li3, tx3, sl3, st3⟩ := own_ldcK X2 hS hx hZ hown hL (List.mem_of_getElem? (i := 2) rfl) (ow25 hw) (own_wS hw) e2 hJ (by decide) (g := (mkF m 9 #[rv a1, rv a2, iv (0 : Int32), iv (0 : Int32), .val .null, .unset] [(.ref a1)])) rfl (hb hby d4_9) (n := 0) (by decide) (by decide) (by show _ ≤ 2; omega) (by show _ ≤ 4; omega)
  refine own_goW st3 ?_
  clear st3 X2 e2
  replace hS := hSn
  replace hZ := hZn
  replace hown := hownn
  replace hJ := hJn
  clear hSn hZn hownn hJn
  replace fp0 := fp0.ext E3
  replace fp1 := fp1.ext E3
  replace fp2 := fp2.ext E3
  replace O0 := own_oldExt O0 E3
  replace K0 := K0.ext E3
  clear E3
  obtain ⟨t3, kt3, g13, g23, g33, g43⟩ := own_litFacts hZ sl3 tx3 (by decide)
  clear sl3 tx3
  replace g43 : Arv Z h3 t3 kt3 .byte (0 : Int32) [] (.int (0 : Int32)) := g43
  obtain ⟨T4, X4, e4, st4⟩ := getF X3 hx hZ hown (host := "") (Or.inl (ow31 hw)) Via.refl e3 g33 (g := (mkF m 11 #[rv a1, rv a2, iv (0 : Int32), iv (0 : Int32), .val .null, .unset] [(.ref b3), (.ref a1)])) rfl rfl (hb hby d4_11)
  refine own_goW st4 ?_
  clear st4 X3 e3
  obtain ⟨T5, h5, X5, e5, W5, st5⟩ := putF X4 hx hZ hown (host := "") (Or.inl (ow31 hw)) Via.refl e4 fp1 fp0 (Or.inr ⟨(ow27 hw), rfl, hnm⟩) (ow12 hw) (ty := (.array .byte)) own_fd0 rfl rfl (g := (mkF m 14 #[rv a1, rv a2, iv (0 : Int32), iv (0 : Int32), .val .null, .unset] [(.ref t3), (.ref a1)])) rfl rfl (hb hby d4_14)
  refine own_goW st5 ?_
  clear st5 X4 e4
  replace N0 := Fr.snoc X5 N0 big_a1
  have hAp_a1 := own_apart hZ hJ fp1
  replace hJ := own_JwrS hZ hJ W5 hAp_a1 fp0 (ow12 hw)
  have ne6 : b3 ≠ a1 := (Fld.ne g33 fp1 (fun q => nomatch q))
  have ne7 : t3 ≠ a1 := (Ne.symm (Exa.neArv fp0 g43 (ow12 hw)))
  replace fp0 := fp0.wr W5
  replace fp1 := fp1.same W5
  replace fp2 := fp2.other W5 (.inr (own_sn0 hw))
  replace g13 := g13.wr W5
  replace g23 := g23.other W5 (Or.inl ne6)
  replace g33 := g33.other W5 (Or.inl ne6)
  replace g43 := g43.other W5 ne7
  replace O0 := own_oldWr O0 W5 big_a1
  replace K0 := K0.wr W5 (Or.inl (List.mem_of_getElem? (i := 0) rfl))
  replace hS := own_since hS (Nat.le_of_eq W5.size.symm)
  clear W5
  show own_GoW p e below s _ _ _ _ (T5.setTop (mkF m 17 #[rv a1, rv a2, iv (0 : Int32), iv (0 : Int32), .val .null, .unset] []))
  refine own_goW (fun _ k => XS.aloadN X5.here hx rfl (hb hby d4_17) rfl rfl k) ?_
  refine own_goW (ldcAgain X5 hx hZ hown (ow25 hw) li3 (g := (mkF m 18 #[rv a1, rv a2, iv (0 : Int32), iv (0 : Int32), .val .null, .unset] [(.ref a1)])) rfl (hb hby d4_18)) ?_
  obtain ⟨T9, X9, e9, st9⟩ := getF X5 hx hZ hown (host := "") (Or.inl (ow32 hw)) Via.refl e5 g23 (g := (mkF m 20 #[rv a1, rv a2, iv (0 : Int32), iv (0 : Int32), .val .null, .unset] [(.ref b3), (.ref a1)])) rfl rfl (hb hby d4_20)
  refine own_goW st9 ?_
  clear st9 X5 e5
  obtain ⟨T10, h10, X10, e10, W10, st10⟩ := putFN X9 hx hZ hown (ow32 hw) Via.refl e9 fp2 fp0 (Or.inr ⟨(ow28 hw), rfl, hnm⟩) (ow12 hw) (ty := .byte) (v' := (.int (0 : Int32))) own_fd1 rfl (by decide) (g := (mkF m 23 #[rv a1, rv a2, iv (0 : Int32), iv (0 : Int32), .val .null, .unset] [(.int (0 : Int32)), (.ref a1)])) rfl rfl (hb hby d4_23)
  refine own_goW st10 ?_
  clear st10 X9 e9
  replace N0 := Fr.snoc X10 N0 big_a1
  replace hJ := own_JwrS hZ hJ W10 hAp_a1 fp0 (ow12 hw)
  replace fp0 := fp0.wr W10
  replace fp1 := fp1.other W10 (.inr (own_sn0 hw).symm)
  replace fp2 := fp2.same W10
  replace g13 := g13.wr W10
  replace g23 := g23.other W10 (Or.inl ne6)
  replace g33 := g33.other W10 (Or.inl ne6)
  replace g43 := g43.other W10 ne7
  replace O0 := own_oldWr O0 W10 big_a1
  replace K0 := K0.wr W10 (Or.inl (List.mem_of_getElem? (i := 0) rfl))
  replace hS := own_since hS (Nat.le_of_eq W10.size.symm)
  clear W10
  show own_GoW p e below s _ _ _ _ (T10.setTop (mkF m 26 #[rv a1, rv a2, iv (0 : Int32), iv (0 : Int32), .val .null, .unset] []))
  refine own_retVW X10 hS hL hZ hJ hx hlk e10 hret (hb hby d4_26) (by show _ ≤ 2; omega) (by show _ ≤ 4; omega) ?_
  exact ⟨t3, kt3, rfl, N0, K0, fp0, fp2, fp1, g43⟩
theorem d3_0 : decode jdk_42_method_3_code 0 = .ok (.aload_n 0, 1) := by decide +kernel
theorem d3_1 : decode jdk_42_method_3_code 1 = .ok (.aload_n 1, 1) := by decide +kernel
theorem d3_2 : decode jdk_42_method_3_code 2 = .ok (.iconst 0, 1) := by decide +kernel
theorem d3_3 : decode jdk_42_method_3_code 3 = .ok (.aload_n 1, 1) := by decide +kernel
theorem d3_4 : decode jdk_42_method_3_code 4 = .ok (.arraylength, 1) := by decide +kernel
theorem d3_5 : decode jdk_42_method_3_code 5 = .ok (.aconst_null, 1) := by decide +kernel
theorem d3_6 : decode jdk_42_method_3_code 6 = .ok (.invokespecial 27, 3) := by decide +kernel
theorem d3_9 : decode jdk_42_method_3_code 9 = .ok (.return_, 1) := by decide +kernel
def Q_st1E (Z : State) (zc : Int32) (ws0 : Addr) (ws1 : Addr) (ws2 : Addr) (a1 : Addr) (a2 : Addr) (k : ClassId) (h0 : Heap) (v : Option Value) (h : Heap) (L : List Loc) : Prop := (∃ t : Addr, ∃ kt : ClassId, v = none ∧ Fr Z.heap.size L ∧ Keep h0 h [a1] ∧ Exa Z h a1 "java/lang/String" ∧ Fld Z h a1 "java/lang/String" "coder" "B" (.int (0 : Int32)) ∧ Fld Z h a1 "java/lang/String" "value" "[B" (.ref t) ∧ Arv Z h t kt .byte (0 : Int32) [] (.int (0 : Int32)))
theorem ef_st1E (m : MethodId) (x0 : Addr) (x1 : Addr) : entryFrame m #[(.ref x0), (.ref x1)] 2 = mkF m 0 #[rv x0, rv x1] [] := by first | (simp [entryFrame, mkF, argsToLocals, Value.category]; done) | rfl
set_option maxRecDepth 65536 in
set_option maxHeartbeats 40000000 in
theorem rm_st1E (l : Launch) (Z : State) (a0 : Array Value) (hw : own_W Z a0) {zc : Int32} {ws0 : Addr} {ws1 : Addr} {ws2 : Addr} (hO : own_Olds Z zc ws0 ws1 ws2) (ws : List Jvm.Cond) (a1 : Addr) (a2 : Addr) (k : ClassId) (h0 : Heap) (O0 : Ext Z.heap h0) (fp0 : Exa Z h0 a1 "java/lang/String") (fp1 : Fld Z h0 a1 "java/lang/String" "value" "[B" .null) (fp2 : Fld Z h0 a1 "java/lang/String" "coder" "B" (.int (0 : Int32))) (fp3 : Arv Z h0 a2 k .char (0 : Int32) [] (.int (0 : Int32))) (big_a1 : Z.heap.size ≤ a1) :
    MetFree l own_y1 (head1 (Jvm.Cond.code own_y1 jdk_42_method_3_code 2 none :: ws) ({ frames := 2, cells := 2, slots := 4, locals := 29 } : Room)) (fun a U => a = #[(.ref a1), (.ref a2)] ∧ Z.Warmed39 U.vm ∧ U.heap = h0 ∧ own_J Z U.vm U.heap) (fun _ _ _ _ _ => True) (fun _ U o U' => ∃ v L, o = .returned v ∧ ((Q_st1E Z zc ws0 ws1 ws2 a1 a2 k h0) v U'.heap L ∧ own_J Z U'.vm U'.heap) ∧ ReturnedEndW U o U' L ({ frames := 2, cells := 2, slots := 4, locals := 29 } : Room).cells ({ frames := 2, cells := 2, slots := 4, locals := 29 } : Room).slots) := by
  refine own_metW (Q := (Q_st1E Z zc ws0 ws1 ws2 a1 a2 k h0)) _ _ (plainFor_of_name own_pn_0) ?_
  intro p e s vm0 m below meth c T X0 hS hJ hJ0 hZ0 hI hs0 hx hby hml hret hlk hZ hown hnm e0
  replace hown : (s.setVm vm0).vm.findClass "java/lang/String" = some m.cls := hown
  replace hnm : meth.name = "<init>" := hnm
  have hml : c.maxLocals = 2 := hml
  obtain ⟨oCS, oCz, oS0, oS1, oS2, oSE0, oSE1, oSE2, oN01, oN02, oN12⟩ := id hO
  have N0 := Fr.nil Z.heap.size
  have hL := own_Lhw hw
  have K0 := Keep.refl h0 [a1]
  refine own_goW (fun _ k => castTop (ef_st1E m a1 a2) k) ?_
  have ne1 : a2 ≠ a1 := (Ne.symm (Exa.neArv fp0 fp3 (ow12 hw)))
  show own_GoW p e below s _ _ _ _ (T.setTop (mkF m 0 #[rv a1, rv a2] []))
  refine own_goW (fun _ k => XS.aloadN X0.here hx rfl (hb hby d3_0) rfl rfl (XS.aloadN X0.here hx rfl (hb hby d3_1) rfl rfl (XS.iconst X0.here hx rfl (hb hby d3_2) (XS.aloadN X0.here hx rfl (hb hby d3_3) rfl rfl k)))) ?_
  show own_GoW p e below s _ _ _ _ (T.setTop (mkF m 4 #[rv a1, rv a2] [(.ref a2), (.int (0 : Int32)), (.ref a2), (.ref a1)]))
  obtain ⟨cl2, Ar2, -, S2, M2, -, -⟩ := id (fp3.keep K0 (ninS ne1 nin0))
  refine own_goW (X0.arraylength hx (by rw [e0]; exact Ar2.1) (State.isArrayOf_alike hZ.alike Ar2.2.1) (g := (mkF m 4 #[rv a1, rv a2] [(.ref a2), (.int (0 : Int32)), (.ref a2), (.ref a1)])) rfl rfl (hb hby d3_4)) ?_
  rw [len_of S2 M2]
  refine own_goW (fun _ k => XS.aconstNull X0.here hx rfl (hb hby d3_5) k) ?_
  obtain ⟨v3, T3, L3, X3, hSn, hZn, hownn, hQ3, hJn, st3⟩ := own_callIW (y := own_y0) X0 hS hL hJ hx hZ hown (ow18 hw) (ow19 hw) (ow13 hw) (ow21 hw) (rm_st2E l Z a0 hw hO [] a1 a2 k h0 O0 fp0 fp1 fp2 (fp3.keep K0 (ninS ne1 nin0)) big_a1) 0 2 4 rfl (by show _ ≤ 2; omega) (by show _ ≤ 4; omega) e0 (g := (mkF m 6 #[rv a1, rv a2] [.null, (.int (0 : Int32)), (.int (0 : Int32)), (.ref a2), (.ref a1)])) rfl (by rw [hml]; rfl) a1 [(.ref a2), (.int (0 : Int32)), (.int (0 : Int32)), .null] [] (lenOf own_pd_0 rfl) rfl rfl (hb hby d3_6)
  replace hS := hSn
  replace hZ := hZn
  replace hown := hownn
  replace hJ := hJn
  clear hSn hZn hownn hJn
  obtain ⟨w4, w5, rfl, Nc11, Kc10, f6, f7, f8, f9⟩ := hQ3
  refine own_goW st3 ?_
  clear st3 X0 e0
  replace N0 := Fr.app N0 Nc11
  clear Nc11
  replace fp0 := fp0.keep Kc10
  clear fp1
  clear fp2
  replace O0 := own_oldKeep O0 Kc10 (allS big_a1 all0)
  replace K0 := K0.trans Kc10 (allS (Or.inl (List.mem_of_getElem? (i := 0) rfl)) all0)
  clear Kc10
  show own_GoW p e below s _ _ _ _ (T3.setTop (mkF m 9 #[rv a1, rv a2] []))
  refine own_retVW X3 hS hL hZ hJ hx hlk (rfl : T3.heap = T3.heap) hret (hb hby d3_9) (by show _ ≤ 2; omega) (by show _ ≤ 4; omega) ?_
  exact ⟨w4, w5, rfl, N0, K0, f6, f7, f8, f9⟩
theorem d1_0 : decode method_2_code 0 = .ok (.iload_n 0, 1) := by decide +kernel
theorem d1_1 : decode method_2_code 1 = .ok (.ifCond .ne 7, 3) := by decide +kernel
theorem d1_4 : decode method_2_code 4 = .ok (.getstatic 7, 3) := by decide +kernel
theorem d1_7 : decode method_2_code 7 = .ok (.areturn, 1) := by decide +kernel
theorem d1_8 : decode method_2_code 8 = .ok (.iload_n 0, 1) := by decide +kernel
theorem d1_9 : decode method_2_code 9 = .ok (.iconst 1, 1) := by decide +kernel
theorem d1_10 : decode method_2_code 10 = .ok (.if_icmp .ne 7, 3) := by decide +kernel
theorem d1_13 : decode method_2_code 13 = .ok (.getstatic 13, 3) := by decide +kernel
theorem d1_16 : decode method_2_code 16 = .ok (.areturn, 1) := by decide +kernel
theorem d1_17 : decode method_2_code 17 = .ok (.getstatic 16, 3) := by decide +kernel
theorem d1_20 : decode method_2_code 20 = .ok (.areturn, 1) := by decide +kernel
def Q_cat (Z : State) (zc : Int32) (ws0 : Addr) (ws1 : Addr) (ws2 : Addr) (p1 : Int32) (h0 : Heap) (v : Option Value) (h : Heap) (L : List Loc) : Prop := (∃ b : Addr, v = some (.ref b) ∧ Fr Z.heap.size L ∧ own_Cat p1 b ws0 ws1 ws2 ∧ Keep h0 h [] ∧ Exa Z h b "com/example/ratification/ratification/model/Category")
theorem ef_cat (m : MethodId) (x0 : Int32) : entryFrame m #[(.int x0)] 1 = mkF m 0 #[iv x0] [] := by first | (simp [entryFrame, mkF, argsToLocals, Value.category]; done) | rfl
set_option maxRecDepth 65536 in
set_option maxHeartbeats 40000000 in
theorem rm_cat (l : Launch) (Z : State) (a0 : Array Value) (hw : own_W Z a0) {zc : Int32} {ws0 : Addr} {ws1 : Addr} {ws2 : Addr} (hO : own_Olds Z zc ws0 ws1 ws2) (ws : List Jvm.Cond) (p1 : Int32) (h0 : Heap) (O0 : Ext Z.heap h0) :
    own_MF l Z h0 own_y2 method_2_code 1 (some (.object "com/example/ratification/ratification/model/Category")) ({ frames := 0, cells := 0, slots := 0, locals := 0 } : Room) #[(.int p1)] (Q_cat Z zc ws0 ws1 ws2 p1 h0) ws := by
  refine own_met (Q := (Q_cat Z zc ws0 ws1 ws2 p1 h0)) _ _ (plainFor_of_name own_pn_1) ?_
  intro p e s m below meth c T X0 hx hby hml hret hlk hZ hown hnm e0
  replace hown : s.vm.findClass "com/example/ratification/ratification/model/AttributeEqualsPinLaw" = some m.cls := hown
  replace hnm : meth.name = "cat" := hnm
  have hml : c.maxLocals = 1 := hml
  obtain ⟨oCS, oCz, oS0, oS1, oS2, oSE0, oSE1, oSE2, oN01, oN02, oN12⟩ := id hO
  have N0 := Fr.nil Z.heap.size
  have K0 := Keep.refl h0 []
  refine own_go (fun _ k => castTop (ef_cat m p1) k) ?_
  show own_Go p e below s _ _ _ (T.setTop (mkF m 0 #[iv p1] []))
  refine own_go (fun _ k => XS.iloadN X0.here hx rfl (hb hby d1_0) rfl k) ?_
  by_cases hc1 : p1 = (0 : Int32)
  · refine own_go (fun _ k => XS.ifNo X0.here hx rfl (hb hby d1_1) rfl ((if0 _ _).trans (teq hc1).2) k) ?_
    show own_Go p e below s _ _ _ (T.setTop (mkF m 4 #[iv p1] []))
    obtain ⟨T2, X2, e2, st2⟩ := getS2 X0 hx hZ hown (host := "") (Or.inl (ow5 hw)) Via.refl e0 (oS0.ext O0) (g := (mkF m 4 #[iv p1] [])) rfl (hb hby d1_4)
    refine own_go st2 ?_
    clear st2 X0 e0
    show own_Go p e below s _ _ _ (T2.setTop (mkF m 7 #[iv p1] [(.ref ws0)]))
    refine own_retA X2 hx hlk e2 hret rfl rfl (hb hby d1_7) (by show _ ≤ 0; omega) (by show _ ≤ 0; omega) ?_
    exact ⟨ws0, rfl, N0, (Or.inl ⟨hc1, rfl⟩), K0, (oSE0.ext O0)⟩
  · refine own_go (fun _ k => XS.ifYes X0.here hx rfl (pc0 := 1) (pc' := 8) rfl (hb hby d1_1) rfl ((if0 _ _).trans (feq hc1).2) (by decide) (by decide) k) ?_
    show own_Go p e below s _ _ _ (T.setTop (mkF m 8 #[iv p1] []))
    refine own_go (fun _ k => XS.iloadN X0.here hx rfl (hb hby d1_8) rfl (XS.iconst X0.here hx rfl (hb hby d1_9) k)) ?_
    by_cases hc3 : p1 = (1 : Int32)
    · refine own_go (fun _ k => XS.icmpNo X0.here hx rfl (hb hby d1_10) rfl (teq hc3).2 k) ?_
      show own_Go p e below s _ _ _ (T.setTop (mkF m 13 #[iv p1] []))
      obtain ⟨T4, X4, e4, st4⟩ := getS2 X0 hx hZ hown (host := "") (Or.inl (ow75 hw)) Via.refl e0 (oS1.ext O0) (g := (mkF m 13 #[iv p1] [])) rfl (hb hby d1_13)
      refine own_go st4 ?_
      clear st4 X0 e0
      show own_Go p e below s _ _ _ (T4.setTop (mkF m 16 #[iv p1] [(.ref ws1)]))
      refine own_retA X4 hx hlk e4 hret rfl rfl (hb hby d1_16) (by show _ ≤ 0; omega) (by show _ ≤ 0; omega) ?_
      exact ⟨ws1, rfl, N0, (Or.inr (Or.inl ⟨hc3, rfl⟩)), K0, (oSE1.ext O0)⟩
    · refine own_go (fun _ k => XS.icmpYes X0.here hx rfl (pc0 := 10) (pc' := 17) rfl (hb hby d1_10) rfl (feq hc3).2 (by decide) (by decide) k) ?_
      show own_Go p e below s _ _ _ (T.setTop (mkF m 17 #[iv p1] []))
      obtain ⟨T5, X5, e5, st5⟩ := getS2 X0 hx hZ hown (host := "") (Or.inl (ow89 hw)) Via.refl e0 (oS2.ext O0) (g := (mkF m 17 #[iv p1] [])) rfl (hb hby d1_17)
      refine own_go st5 ?_
      clear st5 X0 e0
      show own_Go p e below s _ _ _ (T5.setTop (mkF m 20 #[iv p1] [(.ref ws2)]))
      refine own_retA X5 hx hlk e5 hret rfl rfl (hb hby d1_20) (by show _ ≤ 0; omega) (by show _ ≤ 0; omega) ?_
      exact ⟨ws2, rfl, N0, (Or.inr (Or.inr ⟨hc1, hc3, rfl⟩)), K0, (oSE2.ext O0)⟩
theorem d12_0 : decode jdk_43_method_3_code 0 = .ok (.iload_n 0, 1) := by decide +kernel
theorem d12_1 : decode jdk_43_method_3_code 1 = .ok (.sipush 255, 3) := by decide +kernel
theorem d12_4 : decode jdk_43_method_3_code 4 = .ok (.if_icmp .gt 7, 3) := by decide +kernel
theorem d12_7 : decode jdk_43_method_3_code 7 = .ok (.iconst 1, 1) := by decide +kernel
theorem d12_8 : decode jdk_43_method_3_code 8 = .ok (.goto 4, 3) := by decide +kernel
theorem d12_12 : decode jdk_43_method_3_code 12 = .ok (.ireturn, 1) := by decide +kernel
def Q_canEnc (Z : State) (zc : Int32) (ws0 : Addr) (ws1 : Addr) (ws2 : Addr) (p1 : Int32) (h0 : Heap) (v : Option Value) (h : Heap) (L : List Loc) : Prop := (v = some (.int (1 : Int32)) ∧ Fr Z.heap.size L ∧ h = h0)
theorem ef_canEnc (m : MethodId) (x0 : Int32) : entryFrame m #[(.int x0)] 1 = mkF m 0 #[iv x0] [] := by first | (simp [entryFrame, mkF, argsToLocals, Value.category]; done) | rfl
set_option maxRecDepth 65536 in
set_option maxHeartbeats 40000000 in
theorem rm_canEnc (l : Launch) (Z : State) (a0 : Array Value) (hw : own_W Z a0) {zc : Int32} {ws0 : Addr} {ws1 : Addr} {ws2 : Addr} (hO : own_Olds Z zc ws0 ws1 ws2) (ws : List Jvm.Cond) (p1 : Int32) (h0 : Heap) (O0 : Ext Z.heap h0) (hp1 : own_C8 p1) :
    own_MF l Z h0 own_y3 jdk_43_method_3_code 1 (some .boolean) ({ frames := 0, cells := 0, slots := 0, locals := 0 } : Room) #[(.int p1)] (Q_canEnc Z zc ws0 ws1 ws2 p1 h0) ws := by
  refine own_met (Q := (Q_canEnc Z zc ws0 ws1 ws2 p1 h0)) _ _ (plainFor_of_name own_pn_2) ?_
  intro p e s m below meth c T X0 hx hby hml hret hlk hZ hown hnm e0
  replace hown : s.vm.findClass "java/lang/StringLatin1" = some m.cls := hown
  replace hnm : meth.name = "canEncode" := hnm
  have hml : c.maxLocals = 1 := hml
  obtain ⟨oCS, oCz, oS0, oS1, oS2, oSE0, oSE1, oSE2, oN01, oN02, oN12⟩ := id hO
  have N0 := Fr.nil Z.heap.size
  have K0 := Keep.refl h0 []
  refine own_go (fun _ k => castTop (ef_canEnc m p1) k) ?_
  show own_Go p e below s _ _ _ (T.setTop (mkF m 0 #[iv p1] []))
  refine own_go (fun _ k => XS.iloadN X0.here hx rfl (hb hby d12_0) rfl (XS.sipush X0.here hx rfl (hb hby d12_1) (XS.icmpNo X0.here hx rfl (hb hby d12_4) rfl (flt hp1.2).2.2.1 (XS.iconst X0.here hx rfl (hb hby d12_7) k)))) ?_
  show own_Go p e below s _ _ _ (T.setTop (mkF m 8 #[iv p1] [(.int (1 : Int32))]))
  refine own_go (fun _ k => XS.goto X0.here hx rfl (pc0 := 8) (pc' := 12) rfl (hb hby d12_8) (by decide) (by decide) k) ?_
  show own_Go p e below s _ _ _ (T.setTop (mkF m 12 #[iv p1] [(.int (1 : Int32))]))
  refine own_retN X0 hx hlk e0 (t := .boolean) hret (by simp) (hb hby d12_12) (by show _ ≤ 0; omega) (by show _ ≤ 0; omega) ?_
  exact ⟨rfl, N0, rfl⟩
theorem d13_0 : decode jdk_43_method_46_code 0 = .ok (.iconst 1, 1) := by decide +kernel
theorem d13_1 : decode jdk_43_method_46_code 1 = .ok (.newarray .byte, 2) := by decide +kernel
theorem d13_3 : decode jdk_43_method_46_code 3 = .ok (.dup, 1) := by decide +kernel
theorem d13_4 : decode jdk_43_method_46_code 4 = .ok (.iconst 0, 1) := by decide +kernel
theorem d13_5 : decode jdk_43_method_46_code 5 = .ok (.iload_n 0, 1) := by decide +kernel
theorem d13_6 : decode jdk_43_method_46_code 6 = .ok (.i2b, 1) := by decide +kernel
theorem d13_7 : decode jdk_43_method_46_code 7 = .ok (.bastore, 1) := by decide +kernel
theorem d13_8 : decode jdk_43_method_46_code 8 = .ok (.areturn, 1) := by decide +kernel
def Q_toBytes (Z : State) (zc : Int32) (ws0 : Addr) (ws1 : Addr) (ws2 : Addr) (p1 : Int32) (h0 : Heap) (v : Option Value) (h : Heap) (L : List Loc) : Prop := (∃ b : Addr, ∃ k : ClassId, v = some (.ref b) ∧ Fr Z.heap.size L ∧ Keep h0 h [] ∧ h0.size ≤ b ∧ Arv Z h b k .byte (1 : Int32) [(.int (p1.toInt8.toInt32))] (.int (0 : Int32)))
theorem ef_toBytes (m : MethodId) (x0 : Int32) : entryFrame m #[(.int x0)] 1 = mkF m 0 #[iv x0] [] := by first | (simp [entryFrame, mkF, argsToLocals, Value.category]; done) | rfl
set_option maxRecDepth 65536 in
set_option maxHeartbeats 40000000 in
theorem rm_toBytes (l : Launch) (Z : State) (a0 : Array Value) (hw : own_W Z a0) {zc : Int32} {ws0 : Addr} {ws1 : Addr} {ws2 : Addr} (hO : own_Olds Z zc ws0 ws1 ws2) (ws : List Jvm.Cond) (p1 : Int32) (h0 : Heap) (O0 : Ext Z.heap h0) :
    own_MF l Z h0 own_y4 jdk_43_method_46_code 1 (some (.array .byte)) ({ frames := 0, cells := 1, slots := 1, locals := 0 } : Room) #[(.int p1)] (Q_toBytes Z zc ws0 ws1 ws2 p1 h0) ws := by
  refine own_met (Q := (Q_toBytes Z zc ws0 ws1 ws2 p1 h0)) _ _ (plainFor_of_name own_pn_2) ?_
  intro p e s m below meth c T X0 hx hby hml hret hlk hZ hown hnm e0
  replace hown : s.vm.findClass "java/lang/StringLatin1" = some m.cls := hown
  replace hnm : meth.name = "toBytes" := hnm
  have hml : c.maxLocals = 1 := hml
  obtain ⟨oCS, oCz, oS0, oS1, oS2, oSE0, oSE1, oSE2, oN01, oN02, oN12⟩ := id hO
  have N0 := Fr.nil Z.heap.size
  have K0 := Keep.refl h0 []
  refine own_go (fun _ k => castTop (ef_toBytes m p1) k) ?_
  show own_Go p e below s _ _ _ (T.setTop (mkF m 0 #[iv p1] []))
  refine own_go (fun _ k => XS.iconst X0.here hx rfl (hb hby d13_0) k) ?_
  obtain ⟨T1, h1, k1, X1, e1, E1, A1, st1⟩ := newP (aty := .byte) X0 hx hZ (ow26 hw) e0 (g := (mkF m 1 #[iv p1] [(.int (1 : Int32))])) rfl (hb hby d13_1) rfl (by decide) (cap := 1) (by decide) (by decide) (by show _ ≤ 1; omega) (by show _ ≤ 1; omega)
  obtain ⟨b1, g1⟩ : ∃ z, z = h0.size := ⟨_, rfl⟩
  rw [← g1] at A1 st1
  refine own_go st1 ?_
  clear st1 X0 e0
  have ge1 := Nat.le_of_eq g1.symm
  have big2 : Z.heap.size ≤ b1 := Nat.le_trans O0.1 ge1
  have sz3 : h0.size ≤ b1 := Nat.le_trans K0.1 ge1
  replace O0 := own_oldExt O0 E1
  replace K0 := K0.ext E1
  clear E1
  have f4 : Arv Z h1 b1 k1 .byte (1 : Int32) [(.int (0 : Int32))] (.int (0 : Int32)) := (Arv.new A1 (by decide)).pad (pad_rep [] (.int (0 : Int32)) 1)
  refine own_go (fun _ k => XS.dup X1.here hx rfl (hb hby d13_3) rfl rfl (XS.iconst X1.here hx rfl (hb hby d13_4) k)) ?_
  show own_Go p e below s _ _ _ (T1.setTop (mkF m 5 #[iv p1] [(.int (0 : Int32)), (.ref b1), (.ref b1)]))
  refine own_go (fun _ k => XS.iloadN X1.here hx rfl (hb hby d13_5) rfl (XS.i2b X1.here hx rfl (hb hby d13_6) rfl k)) ?_
  obtain ⟨cl5, Ar5, q5, S5, M5, P5, G5⟩ := id f4
  have hin5 : ¬ ((0 : Int32) < 0 ∨ cl5.slots.size ≤ ((0 : Int32)).toNatClampNeg) := inb_of S5 ⟨by decide, by decide⟩
  obtain ⟨T6, h6, X6, e6, W6, st6⟩ := stB X1 hx hZ e1 Ar5 (j := (0 : Int32)) hin5 (g := (mkF m 7 #[iv p1] [(.int (p1.toInt8.toInt32)), (.int (0 : Int32)), (.ref b1), (.ref b1)])) rfl rfl (hb hby d13_7)
  refine own_go st6 ?_
  clear st6 X1 e1
  rw [own_narB p1] at W6
  have f7 : Arv Z h6 b1 k1 .byte (1 : Int32) [(.int (p1.toInt8.toInt32))] (.int (0 : Int32)) := Arv.set Ar5 q5 S5 M5 P5 G5 (fits_nar_byte p1) W6 0 rfl (Nat.le_of_ble_eq_true rfl)
  replace N0 := Fr.snoc X6 N0 big2
  clear f4
  replace O0 := own_oldWr O0 W6 big2
  replace K0 := K0.wr W6 (Or.inr sz3)
  clear W6
  clear Ar5 q5 S5 M5 P5 G5 hin5
  show own_Go p e below s _ _ _ (T6.setTop (mkF m 8 #[iv p1] [(.ref b1)]))
  refine own_retA X6 hx hlk e6 hret rfl rfl (hb hby d13_8) (by show _ ≤ 1; omega) (by show _ ≤ 1; omega) ?_
  exact ⟨b1, k1, rfl, N0, K0, sz3, f7⟩
theorem d14_0 : decode jdk_42_method_151_code 0 = .ok (.aload_n 0, 1) := by decide +kernel
theorem d14_1 : decode jdk_42_method_151_code 1 = .ok (.invokespecial 1, 3) := by decide +kernel
theorem d14_4 : decode jdk_42_method_151_code 4 = .ok (.aload_n 0, 1) := by decide +kernel
theorem d14_5 : decode jdk_42_method_151_code 5 = .ok (.aload_n 1, 1) := by decide +kernel
theorem d14_6 : decode jdk_42_method_151_code 6 = .ok (.putfield 9, 3) := by decide +kernel
theorem d14_9 : decode jdk_42_method_151_code 9 = .ok (.aload_n 0, 1) := by decide +kernel
theorem d14_10 : decode jdk_42_method_151_code 10 = .ok (.iload_n 2, 1) := by decide +kernel
theorem d14_11 : decode jdk_42_method_151_code 11 = .ok (.putfield 15, 3) := by decide +kernel
theorem d14_14 : decode jdk_42_method_151_code 14 = .ok (.return_, 1) := by decide +kernel
def Q_stBB (Z : State) (zc : Int32) (ws0 : Addr) (ws1 : Addr) (ws2 : Addr) (a1 : Addr) (a2 : Addr) (h0 : Heap) (v : Option Value) (h : Heap) (L : List Loc) : Prop := (v = none ∧ Fr Z.heap.size L ∧ Keep h0 h [a1] ∧ Exa Z h a1 "java/lang/String" ∧ Fld Z h a1 "java/lang/String" "value" "[B" (.ref a2) ∧ Fld Z h a1 "java/lang/String" "coder" "B" (.int (0 : Int32)))
theorem ef_stBB (m : MethodId) (x0 : Addr) (x1 : Addr) : entryFrame m #[(.ref x0), (.ref x1), (.int (0 : Int32))] 3 = mkF m 0 #[rv x0, rv x1, iv (0 : Int32)] [] := by first | (simp [entryFrame, mkF, argsToLocals, Value.category]; done) | rfl
set_option maxRecDepth 65536 in
set_option maxHeartbeats 40000000 in
theorem rm_stBB (l : Launch) (Z : State) (a0 : Array Value) (hw : own_W Z a0) {zc : Int32} {ws0 : Addr} {ws1 : Addr} {ws2 : Addr} (hO : own_Olds Z zc ws0 ws1 ws2) (ws : List Jvm.Cond) (a1 : Addr) (a2 : Addr) (h0 : Heap) (O0 : Ext Z.heap h0) (fp0 : Exa Z h0 a1 "java/lang/String") (fp1 : Fld Z h0 a1 "java/lang/String" "value" "[B" .null) (fp2 : Fld Z h0 a1 "java/lang/String" "coder" "B" (.int (0 : Int32))) (big_a1 : Z.heap.size ≤ a1) :
    own_MF l Z h0 own_y5 jdk_42_method_151_code 3 none ({ frames := 1, cells := 0, slots := 0, locals := 12 } : Room) #[(.ref a1), (.ref a2), (.int (0 : Int32))] (Q_stBB Z zc ws0 ws1 ws2 a1 a2 h0) ws := by
  refine own_met (Q := (Q_stBB Z zc ws0 ws1 ws2 a1 a2 h0)) _ _ (plainFor_of_name own_pn_0) ?_
  intro p e s m below meth c T X0 hx hby hml hret hlk hZ hown hnm e0
  replace hown : s.vm.findClass "java/lang/String" = some m.cls := hown
  replace hnm : meth.name = "<init>" := hnm
  have hml : c.maxLocals = 3 := hml
  obtain ⟨oCS, oCz, oS0, oS1, oS2, oSE0, oSE1, oSE2, oN01, oN02, oN12⟩ := id hO
  have N0 := Fr.nil Z.heap.size
  have K0 := Keep.refl h0 [a1]
  refine own_go (fun _ k => castTop (ef_stBB m a1 a2) k) ?_
  show own_Go p e below s _ _ _ (T.setTop (mkF m 0 #[rv a1, rv a2, iv (0 : Int32)] []))
  refine own_go (fun _ k => XS.aloadN X0.here hx rfl (hb hby d14_0) rfl rfl k) ?_
  obtain ⟨T1, X1, e1, st1⟩ := initO X0 hx hZ hown (ow22 hw) (ow23 hw) (ow24 hw) e0 (g := (mkF m 1 #[rv a1, rv a2, iv (0 : Int32)] [(.ref a1)])) rfl (by rw [hml]; rfl) rfl (hb hby d14_1) (by decide) (W := 0) (by show 2 * 0 + _ ≤ _; exact Nat.le_of_eq rfl) (by decide)
  refine own_go st1 ?_
  clear st1 X0 e0
  refine own_go (fun _ k => XS.aloadN X1.here hx rfl (hb hby d14_4) rfl rfl (XS.aloadN X1.here hx rfl (hb hby d14_5) rfl rfl k)) ?_
  show own_Go p e below s _ _ _ (T1.setTop (mkF m 6 #[rv a1, rv a2, iv (0 : Int32)] [(.ref a2), (.ref a1)]))
  obtain ⟨T2, h2, X2, e2, W2, st2⟩ := putF X1 hx hZ hown (host := "") (Or.inl (ow31 hw)) Via.refl e1 fp1 fp0 (Or.inr ⟨(ow27 hw), rfl, hnm⟩) (ow12 hw) (ty := (.array .byte)) own_fd0 rfl rfl (g := (mkF m 6 #[rv a1, rv a2, iv (0 : Int32)] [(.ref a2), (.ref a1)])) rfl rfl (hb hby d14_6)
  refine own_go st2 ?_
  clear st2 X1 e1
  replace N0 := Fr.snoc X2 N0 big_a1
  replace fp0 := fp0.wr W2
  replace fp1 := fp1.same W2
  replace fp2 := fp2.other W2 (.inr (own_sn0 hw))
  replace O0 := own_oldWr O0 W2 big_a1
  replace K0 := K0.wr W2 (Or.inl (List.mem_of_getElem? (i := 0) rfl))
  clear W2
  refine own_go (fun _ k => XS.aloadN X2.here hx rfl (hb hby d14_9) rfl rfl (XS.iloadN X2.here hx rfl (hb hby d14_10) rfl k)) ?_
  obtain ⟨T3, h3, X3, e3, W3, st3⟩ := putFN X2 hx hZ hown (ow32 hw) Via.refl e2 fp2 fp0 (Or.inr ⟨(ow28 hw), rfl, hnm⟩) (ow12 hw) (ty := .byte) (v' := (.int (0 : Int32))) own_fd1 rfl (by decide) (g := (mkF m 11 #[rv a1, rv a2, iv (0 : Int32)] [(.int (0 : Int32)), (.ref a1)])) rfl rfl (hb hby d14_11)
  refine own_go st3 ?_
  clear st3 X2 e2
  replace N0 := Fr.snoc X3 N0 big_a1
  replace fp0 := fp0.wr W3
  replace fp1 := fp1.other W3 (.inr (own_sn0 hw).symm)
  replace fp2 := fp2.same W3
  replace O0 := own_oldWr O0 W3 big_a1
  replace K0 := K0.wr W3 (Or.inl (List.mem_of_getElem? (i := 0) rfl))
  clear W3
  show own_Go p e below s _ _ _ (T3.setTop (mkF m 14 #[rv a1, rv a2, iv (0 : Int32)] []))
  refine own_retV X3 hx hlk e3 hret (hb hby d14_14) (by show _ ≤ 0; omega) (by show _ ≤ 0; omega) ?_
  exact ⟨rfl, N0, K0, fp0, fp1, fp2⟩
theorem d11_0 : decode jdk_42_method_139_code 0 = .ok (.getstatic 38, 3) := by decide +kernel
theorem d11_3 : decode jdk_42_method_139_code 3 = .ok (.ifCond .eq 23, 3) := by decide +kernel
theorem d11_6 : decode jdk_42_method_139_code 6 = .ok (.iload_n 0, 1) := by decide +kernel
theorem d11_7 : decode jdk_42_method_139_code 7 = .ok (.invokestatic 1015, 3) := by decide +kernel
theorem d11_10 : decode jdk_42_method_139_code 10 = .ok (.ifCond .eq 16, 3) := by decide +kernel
theorem d11_13 : decode jdk_42_method_139_code 13 = .ok (.new 10, 3) := by decide +kernel
theorem d11_16 : decode jdk_42_method_139_code 16 = .ok (.dup, 1) := by decide +kernel
theorem d11_17 : decode jdk_42_method_139_code 17 = .ok (.iload_n 0, 1) := by decide +kernel
theorem d11_18 : decode jdk_42_method_139_code 18 = .ok (.invokestatic 1018, 3) := by decide +kernel
theorem d11_21 : decode jdk_42_method_139_code 21 = .ok (.iconst 0, 1) := by decide +kernel
theorem d11_22 : decode jdk_42_method_139_code 22 = .ok (.invokespecial 209, 3) := by decide +kernel
theorem d11_25 : decode jdk_42_method_139_code 25 = .ok (.areturn, 1) := by decide +kernel
def Q_valueOfC (Z : State) (zc : Int32) (ws0 : Addr) (ws1 : Addr) (ws2 : Addr) (p1 : Int32) (h0 : Heap) (v : Option Value) (h : Heap) (L : List Loc) : Prop := (∃ b : Addr, ∃ t : Addr, ∃ k : ClassId, v = some (.ref b) ∧ Fr Z.heap.size L ∧ Keep h0 h [] ∧ h0.size ≤ b ∧ Exa Z h b "java/lang/String" ∧ Fld Z h b "java/lang/String" "value" "[B" (.ref t) ∧ Fld Z h b "java/lang/String" "coder" "B" (.int (0 : Int32)) ∧ Arv Z h t k .byte (1 : Int32) [(.int (p1.toInt8.toInt32))] (.int (0 : Int32)))
theorem ef_valueOfC (m : MethodId) (x0 : Int32) : entryFrame m #[(.int x0)] 1 = mkF m 0 #[iv x0] [] := by first | (simp [entryFrame, mkF, argsToLocals, Value.category]; done) | rfl
set_option maxRecDepth 65536 in
set_option maxHeartbeats 40000000 in
theorem rm_valueOfC (l : Launch) (Z : State) (a0 : Array Value) (hw : own_W Z a0) {zc : Int32} {ws0 : Addr} {ws1 : Addr} {ws2 : Addr} (hO : own_Olds Z zc ws0 ws1 ws2) (ws : List Jvm.Cond) (p1 : Int32) (h0 : Heap) (O0 : Ext Z.heap h0) (hp1 : own_C8 p1) :
    own_MF l Z h0 own_y6 jdk_42_method_139_code 1 (some (.object "java/lang/String")) ({ frames := 2, cells := 2, slots := 5, locals := 27 } : Room) #[(.int p1)] (Q_valueOfC Z zc ws0 ws1 ws2 p1 h0) ws := by
  refine own_met (Q := (Q_valueOfC Z zc ws0 ws1 ws2 p1 h0)) _ _ (plainFor_of_name own_pn_0) ?_
  intro p e s m below meth c T X0 hx hby hml hret hlk hZ hown hnm e0
  replace hown : s.vm.findClass "java/lang/String" = some m.cls := hown
  replace hnm : meth.name = "valueOf" := hnm
  have hml : c.maxLocals = 1 := hml
  obtain ⟨oCS, oCz, oS0, oS1, oS2, oSE0, oSE1, oSE2, oN01, oN02, oN12⟩ := id hO
  have N0 := Fr.nil Z.heap.size
  have K0 := Keep.refl h0 []
  refine own_go (fun _ k => castTop (ef_valueOfC m p1) k) ?_
  show own_Go p e below s _ _ _ (T.setTop (mkF m 0 #[iv p1] []))
  obtain ⟨T1, X1, e1, st1⟩ := getS2 X0 hx hZ hown (host := "") (Or.inl (ow66 hw)) Via.refl e0 (oCS.ext O0) (g := (mkF m 0 #[iv p1] [])) rfl (hb hby d11_0)
  refine own_go st1 ?_
  clear st1 X0 e0
  refine own_go (fun _ k => XS.ifNo X1.here hx rfl (hb hby d11_3) rfl ((if0 _ _).trans (feq oCz).1) (XS.iloadN X1.here hx rfl (hb hby d11_6) rfl k)) ?_
  obtain ⟨v2, T2, L2, X2, hQ2, st2⟩ := own_callS (y := own_y3) X1 hx hZ hown (ow80 hw) (ow81 hw) (ow69 hw) (ow82 hw) (rm_canEnc l Z a0 hw hO [] p1 h0 O0 hp1) 0 0 0 (by show _ ≤ 2; omega) (by show _ ≤ 5; omega) e1 (g := (mkF m 7 #[iv p1] [(.int p1)])) rfl (by rw [hml]; rfl) [(.int p1)] [] (lenOf own_pd_1 rfl) rfl rfl (hb hby d11_7)
  obtain ⟨rfl, Nc4, Kc3⟩ := hQ2
  refine own_go st2 ?_
  clear st2 X1 e1
  replace N0 := Fr.app N0 Nc4
  clear Nc4
  show own_Go p e below s _ _ _ (T2.setTop (mkF m 10 #[iv p1] [(.int (1 : Int32))]))
  refine own_go (fun _ k => XS.ifNo X2.here hx rfl (hb hby d11_10) rfl ((if0 _ _).trans (feq (by decide : ¬ ((1 : Int32) = (0 : Int32)))).1) k) ?_
  obtain ⟨T5, h5, X5, e5, E5, A5, D5, -, st5⟩ := newO X2 hx hZ hown (ow65 hw) (ow12 hw) (ow13 hw) Kc3 (g := (mkF m 13 #[iv p1] [])) rfl (hb hby d11_13) (by show _ ≤ 2; omega) (by show _ ≤ 5; omega)
  obtain ⟨b5, g5⟩ : ∃ z, z = h0.size := ⟨_, rfl⟩
  rw [← g5] at A5 D5 st5
  refine own_go st5 ?_
  clear st5 X2 Kc3
  have ge5 := Nat.le_of_eq g5.symm
  have big6 : Z.heap.size ≤ b5 := Nat.le_trans O0.1 ge5
  have sz7 : h0.size ≤ b5 := Nat.le_trans K0.1 ge5
  replace O0 := own_oldExt O0 E5
  replace K0 := K0.ext E5
  clear E5
  have f8 : Fld Z h5 b5 "java/lang/String" "value" "[B" .null := D5 (Or.inr (ow27 hw)) (ty := (.array .byte)) own_fd0
  have f9 : Fld Z h5 b5 "java/lang/String" "coder" "B" (.int (0 : Int32)) := D5 (Or.inr (ow28 hw)) (ty := .byte) own_fd1
  refine own_go (fun _ k => XS.dup X5.here hx rfl (hb hby d11_16) rfl rfl (XS.iloadN X5.here hx rfl (hb hby d11_17) rfl k)) ?_
  show own_Go p e below s _ _ _ (T5.setTop (mkF m 18 #[iv p1] [(.int p1), (.ref b5), (.ref b5)]))
  obtain ⟨v10, T10, L10, X10, hQ10, st10⟩ := own_callS (y := own_y4) X5 hx hZ hown (ow83 hw) (ow84 hw) (ow69 hw) (ow85 hw) (rm_toBytes l Z a0 hw hO [] p1 h5 O0) 2 1 1 (by show _ ≤ 2; omega) (by show _ ≤ 5; omega) e5 (g := (mkF m 18 #[iv p1] [(.int p1), (.ref b5), (.ref b5)])) rfl (by rw [hml]; rfl) [(.int p1)] [(.ref b5), (.ref b5)] (lenOf own_pd_2 rfl) rfl rfl (hb hby d11_18)
  obtain ⟨w11, w12, rfl, Nc16, Kc15, hb13, f14⟩ := hQ10
  refine own_go st10 ?_
  clear st10 X5 e5
  replace N0 := Fr.app N0 Nc16
  clear Nc16
  have ne17 : b5 ≠ w11 := Nat.ne_of_lt (Nat.lt_of_lt_of_le A5.lt hb13)
  have big18 : Z.heap.size ≤ w11 := Nat.le_trans O0.1 hb13
  have sz19 : h0.size ≤ w11 := Nat.le_trans K0.1 hb13
  replace A5 := A5.keep Kc15
  replace f8 := f8.keep Kc15 nin0
  replace f9 := f9.keep Kc15 nin0
  replace O0 := own_oldKeep O0 Kc15 all0
  replace K0 := K0.trans Kc15 all0
  clear Kc15
  refine own_go (fun _ k => XS.iconst X10.here hx rfl (hb hby d11_21) k) ?_
  obtain ⟨v20, T20, L20, X20, hQ20, st20⟩ := own_callI (y := own_y5) X10 hx hZ hown (ow86 hw) (ow87 hw) (ow13 hw) (ow88 hw) (rm_stBB l Z a0 hw hO [] b5 w11 T10.heap O0 A5 f8 f9 big6) 1 0 0 rfl (by show _ ≤ 2; omega) (by show _ ≤ 5; omega) (rfl : T10.heap = T10.heap) (g := (mkF m 22 #[iv p1] [(.int (0 : Int32)), (.ref w11), (.ref b5), (.ref b5)])) rfl (by rw [hml]; rfl) b5 [(.ref w11), (.int (0 : Int32))] [(.ref b5)] (lenOf own_pd_3 rfl) rfl rfl (hb hby d11_22)
  obtain ⟨rfl, Nc25, Kc24, f21, f22, f23⟩ := hQ20
  refine own_go st20 ?_
  clear st20 X10
  replace N0 := Fr.app N0 Nc25
  clear Nc25
  replace A5 := A5.keep Kc24
  clear f8
  clear f9
  replace f14 := f14.keep Kc24 (ninS ne17.symm nin0)
  replace O0 := own_oldKeep O0 Kc24 (allS big6 all0)
  replace K0 := K0.trans Kc24 (allS (Or.inr sz7) all0)
  clear Kc24
  show own_Go p e below s _ _ _ (T20.setTop (mkF m 25 #[iv p1] [(.ref b5)]))
  refine own_retA X20 hx hlk (rfl : T20.heap = T20.heap) hret rfl rfl (hb hby d11_25) (by show _ ≤ 2; omega) (by show _ ≤ 5; omega) ?_
  exact ⟨b5, w11, w12, rfl, N0, K0, sz7, f21, f22, f23, f14⟩
theorem d2_0 : decode method_3_code 0 = .ok (.iload_n 0, 1) := by decide +kernel
theorem d2_1 : decode method_3_code 1 = .ok (.ifCond .ne 14, 3) := by decide +kernel
theorem d2_4 : decode method_3_code 4 = .ok (.new 19, 3) := by decide +kernel
theorem d2_7 : decode method_3_code 7 = .ok (.dup, 1) := by decide +kernel
theorem d2_8 : decode method_3_code 8 = .ok (.iconst 0, 1) := by decide +kernel
theorem d2_9 : decode method_3_code 9 = .ok (.newarray .char, 2) := by decide +kernel
theorem d2_11 : decode method_3_code 11 = .ok (.invokespecial 21, 3) := by decide +kernel
theorem d2_14 : decode method_3_code 14 = .ok (.areturn, 1) := by decide +kernel
theorem d2_15 : decode method_3_code 15 = .ok (.iload_n 0, 1) := by decide +kernel
theorem d2_16 : decode method_3_code 16 = .ok (.iconst 1, 1) := by decide +kernel
theorem d2_17 : decode method_3_code 17 = .ok (.if_icmp .ne 8, 3) := by decide +kernel
theorem d2_20 : decode method_3_code 20 = .ok (.iload_n 1, 1) := by decide +kernel
theorem d2_21 : decode method_3_code 21 = .ok (.invokestatic 24, 3) := by decide +kernel
theorem d2_24 : decode method_3_code 24 = .ok (.areturn, 1) := by decide +kernel
theorem d2_25 : decode method_3_code 25 = .ok (.iconst 2, 1) := by decide +kernel
theorem d2_26 : decode method_3_code 26 = .ok (.newarray .char, 2) := by decide +kernel
theorem d2_28 : decode method_3_code 28 = .ok (.astore_n 3, 1) := by decide +kernel
theorem d2_29 : decode method_3_code 29 = .ok (.aload_n 3, 1) := by decide +kernel
theorem d2_30 : decode method_3_code 30 = .ok (.iconst 0, 1) := by decide +kernel
theorem d2_31 : decode method_3_code 31 = .ok (.iload_n 1, 1) := by decide +kernel
theorem d2_32 : decode method_3_code 32 = .ok (.castore, 1) := by decide +kernel
theorem d2_33 : decode method_3_code 33 = .ok (.aload_n 3, 1) := by decide +kernel
theorem d2_34 : decode method_3_code 34 = .ok (.iconst 1, 1) := by decide +kernel
theorem d2_35 : decode method_3_code 35 = .ok (.iload_n 2, 1) := by decide +kernel
theorem d2_36 : decode method_3_code 36 = .ok (.castore, 1) := by decide +kernel
theorem d2_37 : decode method_3_code 37 = .ok (.new 19, 3) := by decide +kernel
theorem d2_40 : decode method_3_code 40 = .ok (.dup, 1) := by decide +kernel
theorem d2_41 : decode method_3_code 41 = .ok (.aload_n 3, 1) := by decide +kernel
theorem d2_42 : decode method_3_code 42 = .ok (.invokespecial 21, 3) := by decide +kernel
theorem d2_45 : decode method_3_code 45 = .ok (.areturn, 1) := by decide +kernel
def Q_name (Z : State) (zc : Int32) (ws0 : Addr) (ws1 : Addr) (ws2 : Addr) (p1 : Int32) (p2 : Int32) (p3 : Int32) (h0 : Heap) (v : Option Value) (h : Heap) (L : List Loc) : Prop := (∃ b : Addr, v = some (.ref b) ∧ Fr Z.heap.size L ∧ Keep h0 h [] ∧ h0.size ≤ b ∧ Exa Z h b "java/lang/String" ∧ own_Sl Z h b (own_cn p1 p2 p3))
theorem ef_name (m : MethodId) (x0 : Int32) (x1 : Int32) (x2 : Int32) : entryFrame m #[(.int x0), (.int x1), (.int x2)] 4 = mkF m 0 #[iv x0, iv x1, iv x2, .unset] [] := by first | (simp [entryFrame, mkF, argsToLocals, Value.category]; done) | rfl
set_option maxRecDepth 65536 in
set_option maxHeartbeats 40000000 in
theorem rm_name (l : Launch) (Z : State) (a0 : Array Value) (hw : own_W Z a0) {zc : Int32} {ws0 : Addr} {ws1 : Addr} {ws2 : Addr} (hO : own_Olds Z zc ws0 ws1 ws2) (ws : List Jvm.Cond) (p1 : Int32) (p2 : Int32) (p3 : Int32) (h0 : Heap) (O0 : Ext Z.heap h0) (hp2 : own_C8 p2) (hp3 : own_C8 p3) :
    MetFree l own_y7 (head1 (Jvm.Cond.code own_y7 method_3_code 4 (some (.object "java/lang/String")) :: ws) ({ frames := 4, cells := 4, slots := 8, locals := 66 } : Room)) (fun a U => a = #[(.int p1), (.int p2), (.int p3)] ∧ Z.Warmed39 U.vm ∧ U.heap = h0 ∧ own_J Z U.vm U.heap) (fun _ _ _ _ _ => True) (fun _ U o U' => ∃ v L, o = .returned v ∧ ((Q_name Z zc ws0 ws1 ws2 p1 p2 p3 h0) v U'.heap L ∧ own_J Z U'.vm U'.heap) ∧ ReturnedEndW U o U' L ({ frames := 4, cells := 4, slots := 8, locals := 66 } : Room).cells ({ frames := 4, cells := 4, slots := 8, locals := 66 } : Room).slots) := by
  refine own_metW (Q := (Q_name Z zc ws0 ws1 ws2 p1 p2 p3 h0)) _ _ (plainFor_of_name own_pn_1) ?_
  intro p e s vm0 m below meth c T X0 hS hJ hJ0 hZ0 hI hs0 hx hby hml hret hlk hZ hown hnm e0
  replace hown : (s.setVm vm0).vm.findClass "com/example/ratification/ratification/model/AttributeEqualsPinLaw" = some m.cls := hown
  replace hnm : meth.name = "name" := hnm
  have hml : c.maxLocals = 4 := hml
  obtain ⟨oCS, oCz, oS0, oS1, oS2, oSE0, oSE1, oSE2, oN01, oN02, oN12⟩ := id hO
  have N0 := Fr.nil Z.heap.size
  have hL := own_Lhw hw
  have K0 := Keep.refl h0 []
  refine own_goW (fun _ k => castTop (ef_name m p1 p2 p3) k) ?_
  show own_GoW p e below s _ _ _ _ (T.setTop (mkF m 0 #[iv p1, iv p2, iv p3, .unset] []))
  refine own_goW (fun _ k => XS.iloadN X0.here hx rfl (hb hby d2_0) rfl k) ?_
  by_cases hc1 : p1 = (0 : Int32)
  · refine own_goW (fun _ k => XS.ifNo X0.here hx rfl (hb hby d2_1) rfl ((if0 _ _).trans (teq hc1).2) k) ?_
    show own_GoW p e below s _ _ _ _ (T.setTop (mkF m 4 #[iv p1, iv p2, iv p3, .unset] []))
    obtain ⟨T2, h2, X2, e2, E2, A2, D2, -, st2⟩ := newO X0 hx hZ hown (ow11 hw) (ow12 hw) (ow13 hw) e0 (g := (mkF m 4 #[iv p1, iv p2, iv p3, .unset] [])) rfl (hb hby d2_4) (by show _ ≤ 4; omega) (by show _ ≤ 8; omega)
    obtain ⟨b2, g2⟩ : ∃ z, z = h0.size := ⟨_, rfl⟩
    rw [← g2] at A2 D2 st2
    refine own_goW st2 ?_
    clear st2 X0 e0
    have ge2 := Nat.le_of_eq g2.symm
    have big3 : Z.heap.size ≤ b2 := Nat.le_trans O0.1 ge2
    have sz4 : h0.size ≤ b2 := Nat.le_trans K0.1 ge2
    replace O0 := own_oldExt O0 E2
    replace K0 := K0.ext E2
    replace hS := own_since hS E2.1
    replace hJ := own_Jext hJ E2
    clear E2
    have f5 : Fld Z h2 b2 "java/lang/String" "value" "[B" .null := D2 (Or.inr (ow27 hw)) (ty := (.array .byte)) own_fd0
    have f6 : Fld Z h2 b2 "java/lang/String" "coder" "B" (.int (0 : Int32)) := D2 (Or.inr (ow28 hw)) (ty := .byte) own_fd1
    refine own_goW (fun _ k => XS.dup X2.here hx rfl (hb hby d2_7) rfl rfl (XS.iconst X2.here hx rfl (hb hby d2_8) k)) ?_
    obtain ⟨T7, h7, k7, X7, e7, E7, A7, st7⟩ := newP (aty := .char) X2 hx hZ (ow14 hw) e2 (g := (mkF m 9 #[iv p1, iv p2, iv p3, .unset] [(.int (0 : Int32)), (.ref b2), (.ref b2)])) rfl (hb hby d2_9) rfl (by decide) (cap := 0) (by decide) (by decide) (by show _ ≤ 4; omega) (by show _ ≤ 8; omega)
    obtain ⟨b7, g7⟩ : ∃ z, z = h2.size := ⟨_, rfl⟩
    rw [← g7] at A7 st7
    refine own_goW st7 ?_
    clear st7 X2 e2
    have ge7 := Nat.le_of_eq g7.symm
    have ne8 : b2 ≠ b7 := Nat.ne_of_lt (Nat.lt_of_lt_of_le A2.lt ge7)
    have big9 : Z.heap.size ≤ b7 := Nat.le_trans O0.1 ge7
    have sz10 : h0.size ≤ b7 := Nat.le_trans K0.1 ge7
    replace A2 := A2.ext E7
    replace f5 := f5.ext E7
    replace f6 := f6.ext E7
    replace O0 := own_oldExt O0 E7
    replace K0 := K0.ext E7
    replace hS := own_since hS E7.1
    replace hJ := own_Jext hJ E7
    clear E7
    have f11 : Arv Z h7 b7 k7 .char (0 : Int32) [] (.int (0 : Int32)) := (Arv.new A7 (by decide)).pad (pad_rep [] (.int (0 : Int32)) 0)
    show own_GoW p e below s _ _ _ _ (T7.setTop (mkF m 11 #[iv p1, iv p2, iv p3, .unset] [(.ref b7), (.ref b2), (.ref b2)]))
    obtain ⟨v12, T12, L12, X12, hSn, hZn, hownn, hQ12, hJn, st12⟩ := own_callIW (y := own_y1) X7 hS hL hJ hx hZ hown (ow15 hw) (ow16 hw) (ow13 hw) (ow17 hw) (rm_st1E l Z a0 hw hO [] b2 b7 k7 h7 O0 A2 f5 f6 f11 big3) 1 2 4 rfl (by show _ ≤ 4; omega) (by show _ ≤ 8; omega) e7 (g := (mkF m 11 #[iv p1, iv p2, iv p3, .unset] [(.ref b7), (.ref b2), (.ref b2)])) rfl (by rw [hml]; rfl) b2 [(.ref b7)] [(.ref b2)] (lenOf own_pd_4 rfl) rfl rfl (hb hby d2_11)
    replace hS := hSn
    replace hZ := hZn
    replace hown := hownn
    replace hJ := hJn
    clear hSn hZn hownn hJn
    obtain ⟨w13, w14, rfl, Nc20, Kc19, f15, f16, f17, f18⟩ := hQ12
    refine own_goW st12 ?_
    clear st12 X7 e7
    replace N0 := Fr.app N0 Nc20
    clear Nc20
    replace A2 := A2.keep Kc19
    clear f5
    clear f6
    replace f11 := f11.keep Kc19 (ninS ne8.symm nin0)
    replace O0 := own_oldKeep O0 Kc19 (allS big3 all0)
    replace K0 := K0.trans Kc19 (allS (Or.inr sz4) all0)
    clear Kc19
    show own_GoW p e below s _ _ _ _ (T12.setTop (mkF m 14 #[iv p1, iv p2, iv p3, .unset] [(.ref b2)]))
    have sl21 : own_Sl Z T12.heap b2 (own_cn p1 p2 p3) := by
      rw [own_cn_0 hc1]
      exact own_mkSl (cs := []) f15 f16 f17 f18 rfl rfl own_cN (Nat.le_of_ble_eq_true rfl)
    refine own_retAW X12 hS hL hZ hJ hx hlk (rfl : T12.heap = T12.heap) hret rfl rfl (hb hby d2_14) (by show _ ≤ 4; omega) (by show _ ≤ 8; omega) ?_
    exact ⟨b2, rfl, N0, K0, sz4, f15, sl21⟩
  · refine own_goW (fun _ k => XS.ifYes X0.here hx rfl (pc0 := 1) (pc' := 15) rfl (hb hby d2_1) rfl ((if0 _ _).trans (feq hc1).2) (by decide) (by decide) k) ?_
    show own_GoW p e below s _ _ _ _ (T.setTop (mkF m 15 #[iv p1, iv p2, iv p3, .unset] []))
    refine own_goW (fun _ k => XS.iloadN X0.here hx rfl (hb hby d2_15) rfl (XS.iconst X0.here hx rfl (hb hby d2_16) k)) ?_
    by_cases hc22 : p1 = (1 : Int32)
    · refine own_goW (fun _ k => XS.icmpNo X0.here hx rfl (hb hby d2_17) rfl (teq hc22).2 k) ?_
      show own_GoW p e below s _ _ _ _ (T.setTop (mkF m 20 #[iv p1, iv p2, iv p3, .unset] []))
      refine own_goW (fun _ k => XS.iloadN X0.here hx rfl (hb hby d2_20) rfl k) ?_
      obtain ⟨v23, T23, L23, X23, hQ23, st23⟩ := own_callS (y := own_y6) X0 hx hZ hown (ow77 hw) (ow78 hw) (ow13 hw) (ow79 hw) (rm_valueOfC l Z a0 hw hO [] p2 h0 O0 hp2) 0 2 5 (by show _ ≤ 4; omega) (by show _ ≤ 8; omega) e0 (g := (mkF m 21 #[iv p1, iv p2, iv p3, .unset] [(.int p2)])) rfl (by rw [hml]; rfl) [(.int p2)] [] (lenOf own_pd_5 rfl) rfl rfl (hb hby d2_21)
      obtain ⟨w24, w25, w26, rfl, Nc33, Kc32, hb27, f28, f29, f30, f31⟩ := hQ23
      refine own_goW st23 ?_
      clear st23 X0 e0
      replace N0 := Fr.app N0 Nc33
      clear Nc33
      have big34 : Z.heap.size ≤ w24 := Nat.le_trans O0.1 hb27
      have sz35 : h0.size ≤ w24 := Nat.le_trans K0.1 hb27
      replace hS := own_since hS Kc32.1
      replace hJ := own_Jkeep hZ hJ Kc32 all0
      replace O0 := own_oldKeep O0 Kc32 all0
      replace K0 := K0.trans Kc32 all0
      clear Kc32
      show own_GoW p e below s _ _ _ _ (T23.setTop (mkF m 24 #[iv p1, iv p2, iv p3, .unset] [(.ref w24)]))
      have sl36 : own_Sl Z T23.heap w24 (own_cn p1 p2 p3) := by
        rw [own_cn_1 hc22]
        exact own_mkSl (cs := [p2]) f28 f30 f29 f31 rfl rfl (own_cC hp2 own_cN) (Nat.le_of_ble_eq_true rfl)
      refine own_retAW X23 hS hL hZ hJ hx hlk (rfl : T23.heap = T23.heap) hret rfl rfl (hb hby d2_24) (by show _ ≤ 4; omega) (by show _ ≤ 8; omega) ?_
      exact ⟨w24, rfl, N0, K0, sz35, f28, sl36⟩
    · refine own_goW (fun _ k => XS.icmpYes X0.here hx rfl (pc0 := 17) (pc' := 25) rfl (hb hby d2_17) rfl (feq hc22).2 (by decide) (by decide) k) ?_
      show own_GoW p e below s _ _ _ _ (T.setTop (mkF m 25 #[iv p1, iv p2, iv p3, .unset] []))
      refine own_goW (fun _ k => XS.iconst X0.here hx rfl (hb hby d2_25) k) ?_
      obtain ⟨T37, h37, k37, X37, e37, E37, A37, st37⟩ := newP (aty := .char) X0 hx hZ (ow14 hw) e0 (g := (mkF m 26 #[iv p1, iv p2, iv p3, .unset] [(.int (2 : Int32))])) rfl (hb hby d2_26) rfl (by decide) (cap := 2) (by decide) (by decide) (by show _ ≤ 4; omega) (by show _ ≤ 8; omega)
      obtain ⟨b37, g37⟩ : ∃ z, z = h0.size := ⟨_, rfl⟩
      rw [← g37] at A37 st37
      refine own_goW st37 ?_
      clear st37 X0 e0
      have ge37 := Nat.le_of_eq g37.symm
      have big38 : Z.heap.size ≤ b37 := Nat.le_trans O0.1 ge37
      have sz39 : h0.size ≤ b37 := Nat.le_trans K0.1 ge37
      replace O0 := own_oldExt O0 E37
      replace K0 := K0.ext E37
      replace hS := own_since hS E37.1
      replace hJ := own_Jext hJ E37
      clear E37
      have f40 : Arv Z h37 b37 k37 .char (2 : Int32) [(.int (0 : Int32)), (.int (0 : Int32))] (.int (0 : Int32)) := (Arv.new A37 (by decide)).pad (pad_rep [] (.int (0 : Int32)) 2)
      refine own_goW (fun _ k => XS.astoreN X37.here hx rfl (hb hby d2_28) rfl rfl (l' := #[iv p1, iv p2, iv p3, rv b37]) rfl (XS.aloadN X37.here hx rfl (hb hby d2_29) rfl rfl k)) ?_
      show own_GoW p e below s _ _ _ _ (T37.setTop (mkF m 30 #[iv p1, iv p2, iv p3, rv b37] [(.ref b37)]))
      refine own_goW (fun _ k => XS.iconst X37.here hx rfl (hb hby d2_30) (XS.iloadN X37.here hx rfl (hb hby d2_31) rfl k)) ?_
      obtain ⟨cl41, Ar41, q41, S41, M41, P41, G41⟩ := id f40
      have hin41 : ¬ ((0 : Int32) < 0 ∨ cl41.slots.size ≤ ((0 : Int32)).toNatClampNeg) := inb_of S41 ⟨by decide, by decide⟩
      obtain ⟨T42, h42, X42, e42, W42, st42⟩ := stC X37 hx hZ e37 Ar41 (j := (0 : Int32)) hin41 (g := (mkF m 32 #[iv p1, iv p2, iv p3, rv b37] [(.int p2), (.int (0 : Int32)), (.ref b37)])) rfl rfl (hb hby d2_32)
      refine own_goW st42 ?_
      clear st42 X37 e37
      rw [own_nar8 hp2] at W42
      have f43 : Arv Z h42 b37 k37 .char (2 : Int32) [(.int p2), (.int (0 : Int32))] (.int (0 : Int32)) := Arv.set Ar41 q41 S41 M41 P41 G41 (by have q := fits_nar_char p2; rw [own_nar8 hp2] at q; exact q) W42 0 rfl (Nat.le_of_ble_eq_true rfl)
      replace N0 := Fr.snoc X42 N0 big38
      replace hJ := own_Jwr hZ hJ W42 (own_farV f40 (by decide) (ow12 hw))
      clear f40
      replace O0 := own_oldWr O0 W42 big38
      replace K0 := K0.wr W42 (Or.inr sz39)
      replace hS := own_since hS (Nat.le_of_eq W42.size.symm)
      clear W42
      clear Ar41 q41 S41 M41 P41 G41 hin41
      refine own_goW (fun _ k => XS.aloadN X42.here hx rfl (hb hby d2_33) rfl rfl k) ?_
      show own_GoW p e below s _ _ _ _ (T42.setTop (mkF m 34 #[iv p1, iv p2, iv p3, rv b37] [(.ref b37)]))
      refine own_goW (fun _ k => XS.iconst X42.here hx rfl (hb hby d2_34) (XS.iloadN X42.here hx rfl (hb hby d2_35) rfl k)) ?_
      obtain ⟨cl44, Ar44, q44, S44, M44, P44, G44⟩ := id f43
      have hin44 : ¬ ((1 : Int32) < 0 ∨ cl44.slots.size ≤ ((1 : Int32)).toNatClampNeg) := inb_of S44 ⟨by decide, by decide⟩
      obtain ⟨T45, h45, X45, e45, W45, st45⟩ := stC X42 hx hZ e42 Ar44 (j := (1 : Int32)) hin44 (g := (mkF m 36 #[iv p1, iv p2, iv p3, rv b37] [(.int p3), (.int (1 : Int32)), (.ref b37)])) rfl rfl (hb hby d2_36)
      refine own_goW st45 ?_
      clear st45 X42 e42
      rw [own_nar8 hp3] at W45
      have f46 : Arv Z h45 b37 k37 .char (2 : Int32) [(.int p2), (.int p3)] (.int (0 : Int32)) := Arv.set Ar44 q44 S44 M44 P44 G44 (by have q := fits_nar_char p3; rw [own_nar8 hp3] at q; exact q) W45 1 rfl (Nat.le_of_ble_eq_true rfl)
      replace N0 := Fr.snoc X45 N0 big38
      replace hJ := own_Jwr hZ hJ W45 (own_farV f43 (by decide) (ow12 hw))
      clear f43
      replace O0 := own_oldWr O0 W45 big38
      replace K0 := K0.wr W45 (Or.inr sz39)
      replace hS := own_since hS (Nat.le_of_eq W45.size.symm)
      clear W45
      clear Ar44 q44 S44 M44 P44 G44 hin44
      obtain ⟨T47, h47, X47, e47, E47, A47, D47, -, st47⟩ := newO X45 hx hZ hown (ow11 hw) (ow12 hw) (ow13 hw) e45 (g := (mkF m 37 #[iv p1, iv p2, iv p3, rv b37] [])) rfl (hb hby d2_37) (by show _ ≤ 4; omega) (by show _ ≤ 8; omega)
      obtain ⟨b47, g47⟩ : ∃ z, z = h45.size := ⟨_, rfl⟩
      rw [← g47] at A47 D47 st47
      refine own_goW st47 ?_
      clear st47 X45 e45
      have ge47 := Nat.le_of_eq g47.symm
      have ne48 : b37 ≠ b47 := Nat.ne_of_lt (Nat.lt_of_lt_of_le f46.lt ge47)
      have big49 : Z.heap.size ≤ b47 := Nat.le_trans O0.1 ge47
      have sz50 : h0.size ≤ b47 := Nat.le_trans K0.1 ge47
      replace f46 := f46.ext E47
      replace O0 := own_oldExt O0 E47
      replace K0 := K0.ext E47
      replace hS := own_since hS E47.1
      replace hJ := own_Jext hJ E47
      clear E47
      have f51 : Fld Z h47 b47 "java/lang/String" "value" "[B" .null := D47 (Or.inr (ow27 hw)) (ty := (.array .byte)) own_fd0
      have f52 : Fld Z h47 b47 "java/lang/String" "coder" "B" (.int (0 : Int32)) := D47 (Or.inr (ow28 hw)) (ty := .byte) own_fd1
      show own_GoW p e below s _ _ _ _ (T47.setTop (mkF m 40 #[iv p1, iv p2, iv p3, rv b37] [(.ref b47)]))
      refine own_goW (fun _ k => XS.dup X47.here hx rfl (hb hby d2_40) rfl rfl (XS.aloadN X47.here hx rfl (hb hby d2_41) rfl rfl k)) ?_
      obtain ⟨v53, T53, L53, X53, hQ53, st53⟩ := own_callIB (y := own_y1) X47 hx hZ hown (ow15 hw) (ow16 hw) (ow13 hw) (ow17 hw) 1 1 2 (StrChars.Road.backV (W := 1) hZ (own_sw1 hw) (kI := 4) (ow12 hw) (cs := ([p2, p3] : List Int32)) (bs := ([p2, p3] : List Int32).map (fun c => c.toInt8.toInt32)) (n := 2) (n0 := Z.heap.size) big49 (Nat.le_trans O0.1 (Nat.le_refl _)) A47 f51 f52 f46 (oCS.ext O0) oCz rfl rfl (by decide) (by decide) (own_cC hp2 (own_cC hp3 own_cN)) rfl (by decide) (by decide)) rfl (by show _ ≤ 4; omega) (by show _ ≤ 8; omega) e47 (g := (mkF m 42 #[iv p1, iv p2, iv p3, rv b37] [(.ref b37), (.ref b47), (.ref b47)])) rfl (by rw [hml]; rfl) b47 [(.ref b37)] [(.ref b47)] (lenOf own_pd_4 rfl) rfl rfl (hb hby d2_42)
      obtain ⟨rfl, Nc53, Kc53, f153, f253, t53, kb53, tb53, ts53, tn53, f353, f453⟩ := hQ53
      refine own_goW st53 ?_
      clear st53 X47 e47
      replace N0 := Fr.app N0 Nc53
      clear Nc53
      replace hS := own_since hS Kc53.1
      have ne54 : b37 ≠ t53 := Nat.ne_of_lt (Nat.lt_of_lt_of_le f46.lt ts53)
      have ne55 : b47 ≠ t53 := Nat.ne_of_lt (Nat.lt_of_lt_of_le A47.lt ts53)
      have big56 : Z.heap.size ≤ t53 := Nat.le_trans O0.1 ts53
      have sz57 : h0.size ≤ t53 := Nat.le_trans K0.1 ts53
      have hAp_b47 := own_apart hZ hJ f51
      replace hJ := own_JkeepS hZ hJ Kc53 hAp_b47 A47 (ow12 hw)
      replace f46 := f46.keep Kc53 (ninS ne48 nin0)
      replace A47 := A47.keep Kc53
      clear f51
      clear f52
      replace O0 := own_oldKeep O0 Kc53 (allS big49 all0)
      replace K0 := K0.trans Kc53 (allS (Or.inr sz50) all0)
      clear Kc53
      replace f453 : Arv Z T53.heap t53 kb53 .byte (2 : Int32) [(.int (p2.toInt8.toInt32)), (.int (p3.toInt8.toInt32))] (.int (0 : Int32)) := f453
      show own_GoW p e below s _ _ _ _ (T53.setTop (mkF m 45 #[iv p1, iv p2, iv p3, rv b37] [(.ref b47)]))
      have sl58 : own_Sl Z T53.heap b47 (own_cn p1 p2 p3) := by
        rw [own_cn_2 hc1 hc22]
        exact own_mkSl (cs := [p2, p3]) f153 f253 f353 f453 rfl rfl (own_cC hp2 (own_cC hp3 own_cN)) (Nat.le_of_ble_eq_true rfl)
      refine own_retAW X53 hS hL hZ hJ hx hlk (rfl : T53.heap = T53.heap) hret rfl rfl (hb hby d2_45) (by show _ ≤ 4; omega) (by show _ ≤ 8; omega) ?_
      exact ⟨b47, rfl, N0, K0, sz50, f153, sl58⟩
theorem d7_0 : decode jdk_31_method_11_code 0 = .ok (.aload_n 0, 1) := by decide +kernel
theorem d7_1 : decode jdk_31_method_11_code 1 = .ok (.ifnonnull 12, 3) := by decide +kernel
theorem d7_13 : decode jdk_31_method_11_code 13 = .ok (.aload_n 0, 1) := by decide +kernel
theorem d7_14 : decode jdk_31_method_11_code 14 = .ok (.areturn, 1) := by decide +kernel
def Q_rnn2 (Z : State) (zc : Int32) (ws0 : Addr) (ws1 : Addr) (ws2 : Addr) (a1 : Addr) (a2 : Addr) (h0 : Heap) (v : Option Value) (h : Heap) (L : List Loc) : Prop := (v = some (.ref a1) ∧ Fr Z.heap.size L ∧ h = h0)
theorem ef_rnn2 (m : MethodId) (x0 : Addr) (x1 : Addr) : entryFrame m #[(.ref x0), (.ref x1)] 2 = mkF m 0 #[rv x0, rv x1] [] := by first | (simp [entryFrame, mkF, argsToLocals, Value.category]; done) | rfl
set_option maxRecDepth 65536 in
set_option maxHeartbeats 40000000 in
theorem rm_rnn2 (l : Launch) (Z : State) (a0 : Array Value) (hw : own_W Z a0) {zc : Int32} {ws0 : Addr} {ws1 : Addr} {ws2 : Addr} (hO : own_Olds Z zc ws0 ws1 ws2) (ws : List Jvm.Cond) (a1 : Addr) (a2 : Addr) (h0 : Heap) (O0 : Ext Z.heap h0) :
    own_MF l Z h0 own_y8 jdk_31_method_11_code 2 (some (.object "java/lang/Object")) ({ frames := 0, cells := 0, slots := 0, locals := 0 } : Room) #[(.ref a1), (.ref a2)] (Q_rnn2 Z zc ws0 ws1 ws2 a1 a2 h0) ws := by
  refine own_met (Q := (Q_rnn2 Z zc ws0 ws1 ws2 a1 a2 h0)) _ _ (plainFor_of_name own_pn_3) ?_
  intro p e s m below meth c T X0 hx hby hml hret hlk hZ hown hnm e0
  replace hown : s.vm.findClass "java/util/Objects" = some m.cls := hown
  replace hnm : meth.name = "requireNonNull" := hnm
  have hml : c.maxLocals = 2 := hml
  obtain ⟨oCS, oCz, oS0, oS1, oS2, oSE0, oSE1, oSE2, oN01, oN02, oN12⟩ := id hO
  have N0 := Fr.nil Z.heap.size
  have K0 := Keep.refl h0 []
  refine own_go (fun _ k => castTop (ef_rnn2 m a1 a2) k) ?_
  show own_Go p e below s _ _ _ (T.setTop (mkF m 0 #[rv a1, rv a2] []))
  refine own_go (fun _ k => XS.aloadN X0.here hx rfl (hb hby d7_0) rfl rfl (XS.ifnonnullYes X0.here hx rfl (pc0 := 1) (pc' := 13) rfl (hb hby d7_1) rfl (by decide) (by decide) (XS.aloadN X0.here hx rfl (hb hby d7_13) rfl rfl k))) ?_
  show own_Go p e below s _ _ _ (T.setTop (mkF m 14 #[rv a1, rv a2] [(.ref a1)]))
  refine own_retA X0 hx hlk e0 hret rfl rfl (hb hby d7_14) (by show _ ≤ 0; omega) (by show _ ≤ 0; omega) ?_
  exact ⟨rfl, N0, rfl⟩
theorem d6_0 : decode prog_50_method_1_code 0 = .ok (.aload_n 0, 1) := by decide +kernel
theorem d6_1 : decode prog_50_method_1_code 1 = .ok (.invokespecial 1, 3) := by decide +kernel
theorem d6_4 : decode prog_50_method_1_code 4 = .ok (.aload_n 0, 1) := by decide +kernel
theorem d6_5 : decode prog_50_method_1_code 5 = .ok (.aload_n 1, 1) := by decide +kernel
theorem d6_6 : decode prog_50_method_1_code 6 = .ok (.ldc 7, 2) := by decide +kernel
theorem d6_8 : decode prog_50_method_1_code 8 = .ok (.invokestatic 9, 3) := by decide +kernel
theorem d6_11 : decode prog_50_method_1_code 11 = .ok (.checkcast 15, 3) := by decide +kernel
theorem d6_14 : decode prog_50_method_1_code 14 = .ok (.putfield 17, 3) := by decide +kernel
theorem d6_17 : decode prog_50_method_1_code 17 = .ok (.aload_n 0, 1) := by decide +kernel
theorem d6_18 : decode prog_50_method_1_code 18 = .ok (.aload_n 2, 1) := by decide +kernel
theorem d6_19 : decode prog_50_method_1_code 19 = .ok (.ldc 22, 2) := by decide +kernel
theorem d6_21 : decode prog_50_method_1_code 21 = .ok (.invokestatic 9, 3) := by decide +kernel
theorem d6_24 : decode prog_50_method_1_code 24 = .ok (.checkcast 24, 3) := by decide +kernel
theorem d6_27 : decode prog_50_method_1_code 27 = .ok (.putfield 26, 3) := by decide +kernel
theorem d6_30 : decode prog_50_method_1_code 30 = .ok (.return_, 1) := by decide +kernel
def Q_ainit (Z : State) (zc : Int32) (ws0 : Addr) (ws1 : Addr) (ws2 : Addr) (a1 : Addr) (a2 : Addr) (a3 : Addr) (h0 : Heap) (v : Option Value) (h : Heap) (L : List Loc) : Prop := (v = none ∧ Fr Z.heap.size L ∧ Keep h0 h [a1] ∧ Exa Z h a1 "com/example/ratification/ratification/model/Attribute" ∧ Fld Z h a1 "com/example/ratification/ratification/model/Attribute" "category" "Lcom/example/ratification/ratification/model/Category;" (.ref a2) ∧ Fld Z h a1 "com/example/ratification/ratification/model/Attribute" "name" "Ljava/lang/String;" (.ref a3))
theorem ef_ainit (m : MethodId) (x0 : Addr) (x1 : Addr) (x2 : Addr) : entryFrame m #[(.ref x0), (.ref x1), (.ref x2)] 3 = mkF m 0 #[rv x0, rv x1, rv x2] [] := by first | (simp [entryFrame, mkF, argsToLocals, Value.category]; done) | rfl
set_option maxRecDepth 65536 in
set_option maxHeartbeats 40000000 in
theorem rm_ainit (l : Launch) (Z : State) (a0 : Array Value) (hw : own_W Z a0) {zc : Int32} {ws0 : Addr} {ws1 : Addr} {ws2 : Addr} (hO : own_Olds Z zc ws0 ws1 ws2) (ws : List Jvm.Cond) (a1 : Addr) (a2 : Addr) (a3 : Addr) (h0 : Heap) (O0 : Ext Z.heap h0) (fp0 : Exa Z h0 a1 "com/example/ratification/ratification/model/Attribute") (fp1 : Fld Z h0 a1 "com/example/ratification/ratification/model/Attribute" "category" "Lcom/example/ratification/ratification/model/Category;" .null) (fp2 : Fld Z h0 a1 "com/example/ratification/ratification/model/Attribute" "name" "Ljava/lang/String;" .null) (fp3 : Exa Z h0 a2 "com/example/ratification/ratification/model/Category") (fp4 : Exa Z h0 a3 "java/lang/String") (big_a1 : Z.heap.size ≤ a1) :
    MetFree l own_y9 (head1 (Jvm.Cond.code own_y9 prog_50_method_1_code 3 none :: ws) ({ frames := 1, cells := 4, slots := 56, locals := 14 } : Room)) (fun a U => a = #[(.ref a1), (.ref a2), (.ref a3)] ∧ Z.Warmed39 U.vm ∧ U.heap = h0 ∧ own_J Z U.vm U.heap) (fun _ _ _ _ _ => True) (fun _ U o U' => ∃ v L, o = .returned v ∧ ((Q_ainit Z zc ws0 ws1 ws2 a1 a2 a3 h0) v U'.heap L ∧ own_J Z U'.vm U'.heap) ∧ ReturnedEndW U o U' L ({ frames := 1, cells := 4, slots := 56, locals := 14 } : Room).cells ({ frames := 1, cells := 4, slots := 56, locals := 14 } : Room).slots) := by
  refine own_metW (Q := (Q_ainit Z zc ws0 ws1 ws2 a1 a2 a3 h0)) _ _ (plainFor_of_name own_pn_4) ?_
  intro p e s vm0 m below meth c T X0 hS hJ hJ0 hZ0 hI hs0 hx hby hml hret hlk hZ hown hnm e0
  replace hown : (s.setVm vm0).vm.findClass "com/example/ratification/ratification/model/Attribute" = some m.cls := hown
  replace hnm : meth.name = "<init>" := hnm
  have hml : c.maxLocals = 3 := hml
  obtain ⟨oCS, oCz, oS0, oS1, oS2, oSE0, oSE1, oSE2, oN01, oN02, oN12⟩ := id hO
  have N0 := Fr.nil Z.heap.size
  have hL := own_Lhw hw
  have K0 := Keep.refl h0 [a1]
  refine own_goW (fun _ k => castTop (ef_ainit m a1 a2 a3) k) ?_
  show own_GoW p e below s _ _ _ _ (T.setTop (mkF m 0 #[rv a1, rv a2, rv a3] []))
  refine own_goW (fun _ k => XS.aloadN X0.here hx rfl (hb hby d6_0) rfl rfl k) ?_
  obtain ⟨T1, X1, e1, st1⟩ := initO X0 hx hZ hown (ow39 hw) (ow23 hw) (ow24 hw) e0 (g := (mkF m 1 #[rv a1, rv a2, rv a3] [(.ref a1)])) rfl (by rw [hml]; rfl) rfl (hb hby d6_1) (by decide) (W := 0) (by show 2 * 0 + _ ≤ _; exact Nat.le_of_eq rfl) (by decide)
  refine own_goW st1 ?_
  clear st1 X0 e0
  refine own_goW (fun _ k => XS.aloadN X1.here hx rfl (hb hby d6_4) rfl rfl (XS.aloadN X1.here hx rfl (hb hby d6_5) rfl rfl k)) ?_
  show own_GoW p e below s _ _ _ _ (T1.setTop (mkF m 6 #[rv a1, rv a2, rv a3] [(.ref a2), (.ref a1)]))
  obtain ⟨b2, T2, h2, vm2, u2, X2, e2, E2, hSn, hZn, hownn, hJn, li2, tx2, sl2, st2⟩ := own_ldcK X1 hS hx hZ hown hL (List.mem_of_getElem? (i := 0) rfl) (ow40 hw) (own_wS hw) e1 hJ (by decide) (g := (mkF m 6 #[rv a1, rv a2, rv a3] [(.ref a2), (.ref a1)])) rfl (hb hby d6_6) (n := 32) (by decide) (by decide) (by show _ ≤ 4; omega) (by show _ ≤ 56; omega)
  refine own_goW st2 ?_
  clear st2 X1 e1
  replace hS := hSn
  replace hZ := hZn
  replace hown := hownn
  replace hJ := hJn
  clear hSn hZn hownn hJn
  replace fp0 := fp0.ext E2
  replace fp1 := fp1.ext E2
  replace fp2 := fp2.ext E2
  replace O0 := own_oldExt O0 E2
  replace K0 := K0.ext E2
  clear E2
  obtain ⟨t2, kt2, g12, g22, g32, g42⟩ := own_litFacts hZ sl2 tx2 (by decide)
  clear sl2 tx2
  replace g42 : Arv Z h2 t2 kt2 .byte (8 : Int32) [(.int (99 : Int32)), (.int (97 : Int32)), (.int (116 : Int32)), (.int (101 : Int32)), (.int (103 : Int32)), (.int (111 : Int32)), (.int (114 : Int32)), (.int (121 : Int32))] (.int (0 : Int32)) := g42
  obtain ⟨v3, T3, L3, X3, hQ3, st3⟩ := own_callS (y := own_y8) X2 hx hZ hown (ow41 hw) (ow42 hw) (ow43 hw) (ow44 hw) (rm_rnn2 l Z a0 hw hO [] a2 b2 h2 O0) 1 0 0 (by show _ ≤ 4; omega) (by show _ ≤ 56; omega) e2 (g := (mkF m 8 #[rv a1, rv a2, rv a3] [(.ref b2), (.ref a2), (.ref a1)])) rfl (by rw [hml]; rfl) [(.ref a2), (.ref b2)] [(.ref a1)] (lenOf own_pd_6 rfl) rfl rfl (hb hby d6_8)
  obtain ⟨rfl, Nc5, Kc4⟩ := hQ3
  refine own_goW st3 ?_
  clear st3 X2 e2
  replace N0 := Fr.app N0 Nc5
  clear Nc5
  obtain ⟨T6, X6, e6, st6⟩ := castY X3 hx hZ hown (ow45 hw) Kc4 (Ins.self (fp3.keep K0)) (g := (mkF m 11 #[rv a1, rv a2, rv a3] [(.ref a2), (.ref a1)])) rfl rfl (hb hby d6_11)
  refine own_goW st6 ?_
  clear st6 X3 Kc4
  obtain ⟨T7, h7, X7, e7, W7, st7⟩ := putF X6 hx hZ hown (host := "") (Or.inl (ow47 hw)) Via.refl e6 fp1 fp0 (Or.inr ⟨(ow48 hw), rfl, hnm⟩) (ow34 hw) (ty := (.object "com/example/ratification/ratification/model/Category")) own_fd2 rfl rfl (g := (mkF m 14 #[rv a1, rv a2, rv a3] [(.ref a2), (.ref a1)])) rfl rfl (hb hby d6_14)
  refine own_goW st7 ?_
  clear st7 X6 e6
  replace N0 := Fr.snoc X7 N0 big_a1
  replace hJ := own_Jwr hZ hJ W7 (own_farE fp0 (by decide) (ow34 hw))
  have ne8 : b2 ≠ a1 := (ne_exa g12 fp0 (by decide))
  have ne9 : t2 ≠ a1 := (Ne.symm (Exa.neArv fp0 g42 (ow34 hw)))
  replace fp0 := fp0.wr W7
  replace fp1 := fp1.same W7
  replace fp2 := fp2.other W7 (.inr (own_sn1 hw))
  replace g12 := g12.wr W7
  replace g22 := g22.other W7 (Or.inl ne8)
  replace g32 := g32.other W7 (Or.inl ne8)
  replace g42 := g42.other W7 ne9
  replace O0 := own_oldWr O0 W7 big_a1
  replace K0 := K0.wr W7 (Or.inl (List.mem_of_getElem? (i := 0) rfl))
  replace hS := own_since hS (Nat.le_of_eq W7.size.symm)
  clear W7
  show own_GoW p e below s _ _ _ _ (T7.setTop (mkF m 17 #[rv a1, rv a2, rv a3] []))
  refine own_goW (fun _ k => XS.aloadN X7.here hx rfl (hb hby d6_17) rfl rfl (XS.aloadN X7.here hx rfl (hb hby d6_18) rfl rfl k)) ?_
  obtain ⟨b10, T10, h10, vm10, u10, X10, e10, E10, hSn, hZn, hownn, hJn, li10, tx10, sl10, st10⟩ := own_ldcK X7 hS hx hZ hown hL (List.mem_of_getElem? (i := 1) rfl) (ow49 hw) (own_wS hw) e7 hJ (by decide) (g := (mkF m 19 #[rv a1, rv a2, rv a3] [(.ref a3), (.ref a1)])) rfl (hb hby d6_19) (n := 16) (by decide) (by decide) (by show _ ≤ 4; omega) (by show _ ≤ 56; omega)
  refine own_goW st10 ?_
  clear st10 X7 e7
  replace hS := hSn
  replace hZ := hZn
  replace hown := hownn
  replace hJ := hJn
  clear hSn hZn hownn hJn
  replace fp0 := fp0.ext E10
  replace fp1 := fp1.ext E10
  replace fp2 := fp2.ext E10
  replace g12 := g12.ext E10
  replace g22 := g22.ext E10
  replace g32 := g32.ext E10
  replace g42 := g42.ext E10
  replace O0 := own_oldExt O0 E10
  replace K0 := K0.ext E10
  clear E10
  obtain ⟨t10, kt10, g110, g210, g310, g410⟩ := own_litFacts hZ sl10 tx10 (by decide)
  clear sl10 tx10
  replace g410 : Arv Z h10 t10 kt10 .byte (4 : Int32) [(.int (110 : Int32)), (.int (97 : Int32)), (.int (109 : Int32)), (.int (101 : Int32))] (.int (0 : Int32)) := g410
  obtain ⟨v11, T11, L11, X11, hQ11, st11⟩ := own_callS (y := own_y8) X10 hx hZ hown (ow41 hw) (ow42 hw) (ow43 hw) (ow44 hw) (rm_rnn2 l Z a0 hw hO [] a3 b10 h10 O0) 1 0 0 (by show _ ≤ 4; omega) (by show _ ≤ 56; omega) e10 (g := (mkF m 21 #[rv a1, rv a2, rv a3] [(.ref b10), (.ref a3), (.ref a1)])) rfl (by rw [hml]; rfl) [(.ref a3), (.ref b10)] [(.ref a1)] (lenOf own_pd_6 rfl) rfl rfl (hb hby d6_21)
  obtain ⟨rfl, Nc13, Kc12⟩ := hQ11
  refine own_goW st11 ?_
  clear st11 X10 e10
  replace N0 := Fr.app N0 Nc13
  clear Nc13
  show own_GoW p e below s _ _ _ _ (T11.setTop (mkF m 24 #[rv a1, rv a2, rv a3] [(.ref a3), (.ref a1)]))
  obtain ⟨T14, X14, e14, st14⟩ := castY X11 hx hZ hown (ow50 hw) Kc12 (Ins.self (fp4.keep K0)) (g := (mkF m 24 #[rv a1, rv a2, rv a3] [(.ref a3), (.ref a1)])) rfl rfl (hb hby d6_24)
  refine own_goW st14 ?_
  clear st14 X11 Kc12
  obtain ⟨T15, h15, X15, e15, W15, st15⟩ := putF X14 hx hZ hown (host := "") (Or.inl (ow51 hw)) Via.refl e14 fp2 fp0 (Or.inr ⟨(ow52 hw), rfl, hnm⟩) (ow34 hw) (ty := (.object "java/lang/String")) own_fd3 rfl rfl (g := (mkF m 27 #[rv a1, rv a2, rv a3] [(.ref a3), (.ref a1)])) rfl rfl (hb hby d6_27)
  refine own_goW st15 ?_
  clear st15 X14 e14
  replace N0 := Fr.snoc X15 N0 big_a1
  replace hJ := own_Jwr hZ hJ W15 (own_farE fp0 (by decide) (ow34 hw))
  have ne16 : b10 ≠ a1 := (ne_exa g110 fp0 (by decide))
  have ne17 : t10 ≠ a1 := (Ne.symm (Exa.neArv fp0 g410 (ow34 hw)))
  replace fp0 := fp0.wr W15
  replace fp1 := fp1.other W15 (.inr (own_sn1 hw).symm)
  replace fp2 := fp2.same W15
  replace g12 := g12.wr W15
  replace g22 := g22.other W15 (Or.inl ne8)
  replace g32 := g32.other W15 (Or.inl ne8)
  replace g42 := g42.other W15 ne9
  replace g110 := g110.wr W15
  replace g210 := g210.other W15 (Or.inl ne16)
  replace g310 := g310.other W15 (Or.inl ne16)
  replace g410 := g410.other W15 ne17
  replace O0 := own_oldWr O0 W15 big_a1
  replace K0 := K0.wr W15 (Or.inl (List.mem_of_getElem? (i := 0) rfl))
  replace hS := own_since hS (Nat.le_of_eq W15.size.symm)
  clear W15
  show own_GoW p e below s _ _ _ _ (T15.setTop (mkF m 30 #[rv a1, rv a2, rv a3] []))
  refine own_retVW X15 hS hL hZ hJ hx hlk e15 hret (hb hby d6_30) (by show _ ≤ 4; omega) (by show _ ≤ 56; omega) ?_
  exact ⟨rfl, N0, K0, fp0, fp1, fp2⟩
theorem d8_0 : decode prog_50_method_4_code 0 = .ok (.aload_n 1, 1) := by decide +kernel
theorem d8_1 : decode prog_50_method_4_code 1 = .ok (.instanceof 18, 3) := by decide +kernel
theorem d8_4 : decode prog_50_method_4_code 4 = .ok (.ifCond .eq 38, 3) := by decide +kernel
theorem d8_7 : decode prog_50_method_4_code 7 = .ok (.aload_n 0, 1) := by decide +kernel
theorem d8_8 : decode prog_50_method_4_code 8 = .ok (.getfield 17, 3) := by decide +kernel
theorem d8_11 : decode prog_50_method_4_code 11 = .ok (.aload_n 1, 1) := by decide +kernel
theorem d8_12 : decode prog_50_method_4_code 12 = .ok (.checkcast 18, 3) := by decide +kernel
theorem d8_15 : decode prog_50_method_4_code 15 = .ok (.getfield 17, 3) := by decide +kernel
theorem d8_18 : decode prog_50_method_4_code 18 = .ok (.if_acmp .ne 24, 3) := by decide +kernel
theorem d8_21 : decode prog_50_method_4_code 21 = .ok (.aload_n 0, 1) := by decide +kernel
theorem d8_22 : decode prog_50_method_4_code 22 = .ok (.getfield 26, 3) := by decide +kernel
theorem d8_25 : decode prog_50_method_4_code 25 = .ok (.aload_n 1, 1) := by decide +kernel
theorem d8_26 : decode prog_50_method_4_code 26 = .ok (.checkcast 18, 3) := by decide +kernel
theorem d8_29 : decode prog_50_method_4_code 29 = .ok (.getfield 26, 3) := by decide +kernel
theorem d8_32 : decode prog_50_method_4_code 32 = .ok (.invokevirtual 29, 3) := by decide +kernel
theorem d8_35 : decode prog_50_method_4_code 35 = .ok (.ifCond .eq 7, 3) := by decide +kernel
theorem d8_38 : decode prog_50_method_4_code 38 = .ok (.iconst 1, 1) := by decide +kernel
theorem d8_39 : decode prog_50_method_4_code 39 = .ok (.goto 4, 3) := by decide +kernel
theorem d8_42 : decode prog_50_method_4_code 42 = .ok (.iconst 0, 1) := by decide +kernel
theorem d8_43 : decode prog_50_method_4_code 43 = .ok (.ireturn, 1) := by decide +kernel
def Q_eqA (Z : State) (zc : Int32) (ws0 : Addr) (ws1 : Addr) (ws2 : Addr) (a1 : Addr) (a2 : Addr) (ka1_ : Addr) (ka2_ : Addr) (sn1_ : Addr) (sn2_ : Addr) (cs_ : List Int32) (ds_ : List Int32) (h0 : Heap) (v : Option Value) (h : Heap) (L : List Loc) : Prop := (v = some (.int (1 : Int32)) ∧ Fr Z.heap.size L ∧ ka1_ = ka2_ ∧ cs_ = ds_ ∧ h = h0) ∨ (v = some (.int (0 : Int32)) ∧ Fr Z.heap.size L ∧ ¬ (ka1_ = ka2_) ∧ h = h0) ∨ (v = some (.int (0 : Int32)) ∧ Fr Z.heap.size L ∧ ka1_ = ka2_ ∧ ¬ (cs_ = ds_) ∧ h = h0)
theorem ef_eqA (m : MethodId) (x0 : Addr) (x1 : Addr) : entryFrame m #[(.ref x0), (.ref x1)] 2 = mkF m 0 #[rv x0, rv x1] [] := by first | (simp [entryFrame, mkF, argsToLocals, Value.category]; done) | rfl
set_option maxRecDepth 65536 in
set_option maxHeartbeats 40000000 in
theorem rm_eqA (l : Launch) (Z : State) (a0 : Array Value) (hw : own_W Z a0) {zc : Int32} {ws0 : Addr} {ws1 : Addr} {ws2 : Addr} (hO : own_Olds Z zc ws0 ws1 ws2) (ws : List Jvm.Cond) (a1 : Addr) (a2 : Addr) (ka1_ : Addr) (ka2_ : Addr) (sn1_ : Addr) (sn2_ : Addr) (cs_ : List Int32) (ds_ : List Int32) (h0 : Heap) (O0 : Ext Z.heap h0) (fp0 : Exa Z h0 a1 "com/example/ratification/ratification/model/Attribute") (fp1 : Fld Z h0 a1 "com/example/ratification/ratification/model/Attribute" "category" "Lcom/example/ratification/ratification/model/Category;" (.ref ka1_)) (fp2 : Fld Z h0 a1 "com/example/ratification/ratification/model/Attribute" "name" "Ljava/lang/String;" (.ref sn1_)) (fp3 : Exa Z h0 a2 "com/example/ratification/ratification/model/Attribute") (fp4 : Fld Z h0 a2 "com/example/ratification/ratification/model/Attribute" "category" "Lcom/example/ratification/ratification/model/Category;" (.ref ka2_)) (fp5 : Fld Z h0 a2 "com/example/ratification/ratification/model/Attribute" "name" "Ljava/lang/String;" (.ref sn2_)) (fp6 : Exa Z h0 sn1_ "java/lang/String") (fp7 : Exa Z h0 sn2_ "java/lang/String") (fp8 : own_Sl Z h0 sn1_ cs_) (fp9 : own_Sl Z h0 sn2_ ds_) :
    own_MF l Z h0 own_y11 prog_50_method_4_code 2 (some .boolean) ({ frames := 3, cells := 0, slots := 0, locals := 28 } : Room) #[(.ref a1), (.ref a2)] (Q_eqA Z zc ws0 ws1 ws2 a1 a2 ka1_ ka2_ sn1_ sn2_ cs_ ds_ h0) ws := by
  refine own_met (Q := (Q_eqA Z zc ws0 ws1 ws2 a1 a2 ka1_ ka2_ sn1_ sn2_ cs_ ds_ h0)) _ _ (plainFor_of_name own_pn_4) ?_
  intro p e s m below meth c T X0 hx hby hml hret hlk hZ hown hnm e0
  replace hown : s.vm.findClass "com/example/ratification/ratification/model/Attribute" = some m.cls := hown
  replace hnm : meth.name = "equals" := hnm
  have hml : c.maxLocals = 2 := hml
  obtain ⟨oCS, oCz, oS0, oS1, oS2, oSE0, oSE1, oSE2, oN01, oN02, oN12⟩ := id hO
  have N0 := Fr.nil Z.heap.size
  have K0 := Keep.refl h0 []
  refine own_go (fun _ k => castTop (ef_eqA m a1 a2) k) ?_
  show own_Go p e below s _ _ _ (T.setTop (mkF m 0 #[rv a1, rv a2] []))
  refine own_go (fun _ k => XS.aloadN X0.here hx rfl (hb hby d8_0) rfl rfl k) ?_
  obtain ⟨T1, X1, e1, st1⟩ := instY X0 hx hZ hown (ow58 hw) e0 (Ins.self (fp3.keep K0)) (g := (mkF m 1 #[rv a1, rv a2] [(.ref a2)])) rfl rfl (hb hby d8_1)
  refine own_go st1 ?_
  clear st1 X0 e0
  refine own_go (fun _ k => XS.ifNo X1.here hx rfl (hb hby d8_4) rfl ((if0 _ _).trans (feq (by decide : ¬ ((1 : Int32) = (0 : Int32)))).1) (XS.aloadN X1.here hx rfl (hb hby d8_7) rfl rfl k)) ?_
  show own_Go p e below s _ _ _ (T1.setTop (mkF m 8 #[rv a1, rv a2] [(.ref a1)]))
  obtain ⟨T2, X2, e2, st2⟩ := getF X1 hx hZ hown (host := "") (Or.inl (ow47 hw)) Via.refl e1 (fp1.keep K0 nin0) (g := (mkF m 8 #[rv a1, rv a2] [(.ref a1)])) rfl rfl (hb hby d8_8)
  refine own_go st2 ?_
  clear st2 X1 e1
  refine own_go (fun _ k => XS.aloadN X2.here hx rfl (hb hby d8_11) rfl rfl k) ?_
  obtain ⟨T3, X3, e3, st3⟩ := castY X2 hx hZ hown (ow58 hw) e2 (Ins.self (fp3.keep K0)) (g := (mkF m 12 #[rv a1, rv a2] [(.ref a2), (.ref ka1_)])) rfl rfl (hb hby d8_12)
  refine own_go st3 ?_
  clear st3 X2 e2
  obtain ⟨T4, X4, e4, st4⟩ := getF X3 hx hZ hown (host := "") (Or.inl (ow47 hw)) Via.refl e3 (fp4.keep K0 nin0) (g := (mkF m 15 #[rv a1, rv a2] [(.ref a2), (.ref ka1_)])) rfl rfl (hb hby d8_15)
  refine own_go st4 ?_
  clear st4 X3 e3
  show own_Go p e below s _ _ _ (T4.setTop (mkF m 18 #[rv a1, rv a2] [(.ref ka2_), (.ref ka1_)]))
  by_cases hc5 : ka1_ = ka2_
  · refine own_go (fun _ k => Jvm.RoadKit.acmp (g := (mkF m 18 #[rv a1, rv a2] [(.ref ka2_), (.ref ka1_)])) X4 hx rfl rfl rfl (pc0 := 18) (pc' := 21) (same := true) rfl (hb hby d8_18) rfl (decide_eq_true (congrArg Value.ref hc5)) (by decide) (by decide) k) ?_
    show own_Go p e below s _ _ _ (T4.setTop (mkF m 21 #[rv a1, rv a2] []))
    refine own_go (fun _ k => XS.aloadN X4.here hx rfl (hb hby d8_21) rfl rfl k) ?_
    obtain ⟨T6, X6, e6, st6⟩ := getF X4 hx hZ hown (host := "") (Or.inl (ow51 hw)) Via.refl e4 (fp2.keep K0 nin0) (g := (mkF m 22 #[rv a1, rv a2] [(.ref a1)])) rfl rfl (hb hby d8_22)
    refine own_go st6 ?_
    clear st6 X4 e4
    refine own_go (fun _ k => XS.aloadN X6.here hx rfl (hb hby d8_25) rfl rfl k) ?_
    obtain ⟨T7, X7, e7, st7⟩ := castY X6 hx hZ hown (ow58 hw) e6 (Ins.self (fp3.keep K0)) (g := (mkF m 26 #[rv a1, rv a2] [(.ref a2), (.ref sn1_)])) rfl rfl (hb hby d8_26)
    refine own_go st7 ?_
    clear st7 X6 e6
    show own_Go p e below s _ _ _ (T7.setTop (mkF m 29 #[rv a1, rv a2] [(.ref a2), (.ref sn1_)]))
    obtain ⟨T8, X8, e8, st8⟩ := getF X7 hx hZ hown (host := "") (Or.inl (ow51 hw)) Via.refl e7 (fp5.keep K0 nin0) (g := (mkF m 29 #[rv a1, rv a2] [(.ref a2), (.ref sn1_)])) rfl rfl (hb hby d8_29)
    refine own_go st8 ?_
    clear st8 X7 e7
    obtain ⟨v9, T9, L9, X9, hQ9, st9⟩ := own_callVB (y := own_y10) (z := own_y10) X8 hx hZ hown (ow60 hw) (ow61 hw) (notFace_of_selects (args := #[]) (mvT hZ (ow63 hw))) (ow63 hw) (ow62 hw) (ow13 hw) (ow64 hw) 0 0 0 (own_eqB (W := 0) hZ (own_sw2 hw) (kI := 4) (ow12 hw) (own_SlKeep fp8 K0 all0) (own_SlKeep fp9 K0 all0) (oCS.ext O0) oCz (by decide) (by decide)) (by show _ ≤ 0; omega) (by show _ ≤ 0; omega) e8 (fp6.keep K0) (g := (mkF m 32 #[rv a1, rv a2] [(.ref sn2_), (.ref sn1_)])) rfl (by rw [hml]; rfl) [(.ref sn2_)] [] (lenOf own_pd_7 rfl) rfl rfl (hb hby d8_32)
    obtain ⟨hv9, rfl, eh9⟩ := hQ9
    rcases hv9 with ⟨rfl, hc9⟩ | ⟨rfl, hc9⟩
    · refine own_go st9 ?_
      clear st9 X8 e8
      replace N0 := Fr.app N0 (Fr.nil Z.heap.size)
      show own_Go p e below s _ _ _ (T9.setTop (mkF m 35 #[rv a1, rv a2] [(.int (1 : Int32))]))
      refine own_go (fun _ k => XS.ifNo X9.here hx rfl (hb hby d8_35) rfl ((if0 _ _).trans (feq (by decide : ¬ ((1 : Int32) = (0 : Int32)))).1) (XS.iconst X9.here hx rfl (hb hby d8_38) (XS.goto X9.here hx rfl (pc0 := 39) (pc' := 43) rfl (hb hby d8_39) (by decide) (by decide) k))) ?_
      show own_Go p e below s _ _ _ (T9.setTop (mkF m 43 #[rv a1, rv a2] [(.int (1 : Int32))]))
      refine own_retN X9 hx hlk eh9 (t := .boolean) hret (by simp) (hb hby d8_43) (by show _ ≤ 0; omega) (by show _ ≤ 0; omega) ?_
      exact Or.inl ⟨rfl, N0, hc5, hc9, rfl⟩
    · refine own_go st9 ?_
      clear st9 X8 e8
      replace N0 := Fr.app N0 (Fr.nil Z.heap.size)
      show own_Go p e below s _ _ _ (T9.setTop (mkF m 35 #[rv a1, rv a2] [(.int (0 : Int32))]))
      refine own_go (fun _ k => XS.ifYes X9.here hx rfl (pc0 := 35) (pc' := 42) rfl (hb hby d8_35) rfl ((if0 _ _).trans (teq (by decide : (0 : Int32) = (0 : Int32))).1) (by decide) (by decide) (XS.iconst X9.here hx rfl (hb hby d8_42) k)) ?_
      show own_Go p e below s _ _ _ (T9.setTop (mkF m 43 #[rv a1, rv a2] [(.int (0 : Int32))]))
      refine own_retN X9 hx hlk eh9 (t := .boolean) hret (by simp) (hb hby d8_43) (by show _ ≤ 0; omega) (by show _ ≤ 0; omega) ?_
      exact Or.inr (Or.inr (⟨rfl, N0, hc5, hc9, rfl⟩))
  · refine own_go (fun _ k => Jvm.RoadKit.acmp (g := (mkF m 18 #[rv a1, rv a2] [(.ref ka2_), (.ref ka1_)])) X4 hx rfl rfl rfl (pc0 := 18) (pc' := 42) (same := false) rfl (hb hby d8_18) rfl (decide_eq_false fun q => hc5 (Value.ref.inj q)) (by decide) (by decide) k) ?_
    show own_Go p e below s _ _ _ (T4.setTop (mkF m 42 #[rv a1, rv a2] []))
    refine own_go (fun _ k => XS.iconst X4.here hx rfl (hb hby d8_42) k) ?_
    show own_Go p e below s _ _ _ (T4.setTop (mkF m 43 #[rv a1, rv a2] [(.int (0 : Int32))]))
    refine own_retN X4 hx hlk e4 (t := .boolean) hret (by simp) (hb hby d8_43) (by show _ ≤ 0; omega) (by show _ ≤ 0; omega) ?_
    exact Or.inr (Or.inl ⟨rfl, N0, hc5, rfl⟩)
def Q_eqN (Z : State) (zc : Int32) (ws0 : Addr) (ws1 : Addr) (ws2 : Addr) (a1 : Addr) (h0 : Heap) (v : Option Value) (h : Heap) (L : List Loc) : Prop := (v = some (.int (0 : Int32)) ∧ Fr Z.heap.size L ∧ h = h0)
theorem ef_eqN (m : MethodId) (x0 : Addr) : entryFrame m #[(.ref x0), .null] 2 = mkF m 0 #[rv x0, .val .null] [] := by first | (simp [entryFrame, mkF, argsToLocals, Value.category]; done) | rfl
set_option maxRecDepth 65536 in
set_option maxHeartbeats 40000000 in
theorem rm_eqN (l : Launch) (Z : State) (a0 : Array Value) (hw : own_W Z a0) {zc : Int32} {ws0 : Addr} {ws1 : Addr} {ws2 : Addr} (hO : own_Olds Z zc ws0 ws1 ws2) (ws : List Jvm.Cond) (a1 : Addr) (h0 : Heap) (O0 : Ext Z.heap h0) :
    own_MF l Z h0 own_y11 prog_50_method_4_code 2 (some .boolean) ({ frames := 0, cells := 0, slots := 0, locals := 0 } : Room) #[(.ref a1), .null] (Q_eqN Z zc ws0 ws1 ws2 a1 h0) ws := by
  refine own_met (Q := (Q_eqN Z zc ws0 ws1 ws2 a1 h0)) _ _ (plainFor_of_name own_pn_4) ?_
  intro p e s m below meth c T X0 hx hby hml hret hlk hZ hown hnm e0
  replace hown : s.vm.findClass "com/example/ratification/ratification/model/Attribute" = some m.cls := hown
  replace hnm : meth.name = "equals" := hnm
  have hml : c.maxLocals = 2 := hml
  obtain ⟨oCS, oCz, oS0, oS1, oS2, oSE0, oSE1, oSE2, oN01, oN02, oN12⟩ := id hO
  have N0 := Fr.nil Z.heap.size
  have K0 := Keep.refl h0 []
  refine own_go (fun _ k => castTop (ef_eqN m a1) k) ?_
  show own_Go p e below s _ _ _ (T.setTop (mkF m 0 #[rv a1, .val .null] []))
  refine own_go (fun _ k => XS.aloadN X0.here hx rfl (hb hby d8_0) rfl rfl k) ?_
  refine own_go (X0.instanceofNull hx (g := (mkF m 1 #[rv a1, .val .null] [.null])) rfl rfl (hb hby d8_1)) ?_
  refine own_go (fun _ k => XS.ifYes X0.here hx rfl (pc0 := 4) (pc' := 42) rfl (hb hby d8_4) rfl ((if0 _ _).trans (teq (by decide : (0 : Int32) = (0 : Int32))).1) (by decide) (by decide) (XS.iconst X0.here hx rfl (hb hby d8_42) k)) ?_
  show own_Go p e below s _ _ _ (T.setTop (mkF m 43 #[rv a1, .val .null] [(.int (0 : Int32))]))
  refine own_retN X0 hx hlk e0 (t := .boolean) hret (by simp) (hb hby d8_43) (by show _ ≤ 0; omega) (by show _ ≤ 0; omega) ?_
  exact ⟨rfl, N0, rfl⟩
def Q_eqS (Z : State) (zc : Int32) (ws0 : Addr) (ws1 : Addr) (ws2 : Addr) (a1 : Addr) (a2 : Addr) (h0 : Heap) (v : Option Value) (h : Heap) (L : List Loc) : Prop := (v = some (.int (0 : Int32)) ∧ Fr Z.heap.size L ∧ h = h0)
theorem ef_eqS (m : MethodId) (x0 : Addr) (x1 : Addr) : entryFrame m #[(.ref x0), (.ref x1)] 2 = mkF m 0 #[rv x0, rv x1] [] := by first | (simp [entryFrame, mkF, argsToLocals, Value.category]; done) | rfl
set_option maxRecDepth 65536 in
set_option maxHeartbeats 40000000 in
theorem rm_eqS (l : Launch) (Z : State) (a0 : Array Value) (hw : own_W Z a0) {zc : Int32} {ws0 : Addr} {ws1 : Addr} {ws2 : Addr} (hO : own_Olds Z zc ws0 ws1 ws2) (ws : List Jvm.Cond) (a1 : Addr) (a2 : Addr) (h0 : Heap) (O0 : Ext Z.heap h0) (fp0 : Exa Z h0 a2 "java/lang/String") :
    own_MF l Z h0 own_y11 prog_50_method_4_code 2 (some .boolean) ({ frames := 0, cells := 0, slots := 0, locals := 0 } : Room) #[(.ref a1), (.ref a2)] (Q_eqS Z zc ws0 ws1 ws2 a1 a2 h0) ws := by
  refine own_met (Q := (Q_eqS Z zc ws0 ws1 ws2 a1 a2 h0)) _ _ (plainFor_of_name own_pn_4) ?_
  intro p e s m below meth c T X0 hx hby hml hret hlk hZ hown hnm e0
  replace hown : s.vm.findClass "com/example/ratification/ratification/model/Attribute" = some m.cls := hown
  replace hnm : meth.name = "equals" := hnm
  have hml : c.maxLocals = 2 := hml
  obtain ⟨oCS, oCz, oS0, oS1, oS2, oSE0, oSE1, oSE2, oN01, oN02, oN12⟩ := id hO
  have N0 := Fr.nil Z.heap.size
  have K0 := Keep.refl h0 []
  refine own_go (fun _ k => castTop (ef_eqS m a1 a2) k) ?_
  show own_Go p e below s _ _ _ (T.setTop (mkF m 0 #[rv a1, rv a2] []))
  refine own_go (fun _ k => XS.aloadN X0.here hx rfl (hb hby d8_0) rfl rfl k) ?_
  obtain ⟨T1, X1, e1, st1⟩ := instNo X0 hx hZ hown (ow58 hw) e0 (fp0.keep K0) (own_noI (ow71 hw) (ow34 hw) (NS.step (ow71 hw) (own_rootI (ow72 hw) (ow34 hw) (by decide)) (by decide)) (by decide)) (g := (mkF m 1 #[rv a1, rv a2] [(.ref a2)])) rfl rfl (hb hby d8_1)
  refine own_go st1 ?_
  clear st1 X0 e0
  refine own_go (fun _ k => XS.ifYes X1.here hx rfl (pc0 := 4) (pc' := 42) rfl (hb hby d8_4) rfl ((if0 _ _).trans (teq (by decide : (0 : Int32) = (0 : Int32))).1) (by decide) (by decide) (XS.iconst X1.here hx rfl (hb hby d8_42) k)) ?_
  show own_Go p e below s _ _ _ (T1.setTop (mkF m 43 #[rv a1, rv a2] [(.int (0 : Int32))]))
  refine own_retN X1 hx hlk e1 (t := .boolean) hret (by simp) (hb hby d8_43) (by show _ ≤ 0; omega) (by show _ ≤ 0; omega) ?_
  exact ⟨rfl, N0, rfl⟩
def Q_eqC (Z : State) (zc : Int32) (ws0 : Addr) (ws1 : Addr) (ws2 : Addr) (a1 : Addr) (a2 : Addr) (h0 : Heap) (v : Option Value) (h : Heap) (L : List Loc) : Prop := (v = some (.int (0 : Int32)) ∧ Fr Z.heap.size L ∧ h = h0)
theorem ef_eqC (m : MethodId) (x0 : Addr) (x1 : Addr) : entryFrame m #[(.ref x0), (.ref x1)] 2 = mkF m 0 #[rv x0, rv x1] [] := by first | (simp [entryFrame, mkF, argsToLocals, Value.category]; done) | rfl
set_option maxRecDepth 65536 in
set_option maxHeartbeats 40000000 in
theorem rm_eqC (l : Launch) (Z : State) (a0 : Array Value) (hw : own_W Z a0) {zc : Int32} {ws0 : Addr} {ws1 : Addr} {ws2 : Addr} (hO : own_Olds Z zc ws0 ws1 ws2) (ws : List Jvm.Cond) (a1 : Addr) (a2 : Addr) (h0 : Heap) (O0 : Ext Z.heap h0) (fp0 : Exa Z h0 a2 "com/example/ratification/ratification/model/Category") :
    own_MF l Z h0 own_y11 prog_50_method_4_code 2 (some .boolean) ({ frames := 0, cells := 0, slots := 0, locals := 0 } : Room) #[(.ref a1), (.ref a2)] (Q_eqC Z zc ws0 ws1 ws2 a1 a2 h0) ws := by
  refine own_met (Q := (Q_eqC Z zc ws0 ws1 ws2 a1 a2 h0)) _ _ (plainFor_of_name own_pn_4) ?_
  intro p e s m below meth c T X0 hx hby hml hret hlk hZ hown hnm e0
  replace hown : s.vm.findClass "com/example/ratification/ratification/model/Attribute" = some m.cls := hown
  replace hnm : meth.name = "equals" := hnm
  have hml : c.maxLocals = 2 := hml
  obtain ⟨oCS, oCz, oS0, oS1, oS2, oSE0, oSE1, oSE2, oN01, oN02, oN12⟩ := id hO
  have N0 := Fr.nil Z.heap.size
  have K0 := Keep.refl h0 []
  refine own_go (fun _ k => castTop (ef_eqC m a1 a2) k) ?_
  show own_Go p e below s _ _ _ (T.setTop (mkF m 0 #[rv a1, rv a2] []))
  refine own_go (fun _ k => XS.aloadN X0.here hx rfl (hb hby d8_0) rfl rfl k) ?_
  obtain ⟨T1, X1, e1, st1⟩ := instNo X0 hx hZ hown (ow58 hw) e0 (fp0.keep K0) (own_noI (ow73 hw) (ow34 hw) (NS.step (ow73 hw) (NS.step (ow74 hw) (own_rootI (ow72 hw) (ow34 hw) (by decide)) (by decide)) (by decide)) (by decide)) (g := (mkF m 1 #[rv a1, rv a2] [(.ref a2)])) rfl rfl (hb hby d8_1)
  refine own_go st1 ?_
  clear st1 X0 e0
  refine own_go (fun _ k => XS.ifYes X1.here hx rfl (pc0 := 4) (pc' := 42) rfl (hb hby d8_4) rfl ((if0 _ _).trans (teq (by decide : (0 : Int32) = (0 : Int32))).1) (by decide) (by decide) (XS.iconst X1.here hx rfl (hb hby d8_42) k)) ?_
  show own_Go p e below s _ _ _ (T1.setTop (mkF m 43 #[rv a1, rv a2] [(.int (0 : Int32))]))
  refine own_retN X1 hx hlk e1 (t := .boolean) hret (by simp) (hb hby d8_43) (by show _ ≤ 0; omega) (by show _ ≤ 0; omega) ?_
  exact ⟨rfl, N0, rfl⟩
def Q_law (Z : State) (zc : Int32) (ws0 : Addr) (ws1 : Addr) (ws2 : Addr) (p1 : Int32) (p2 : Int32) (p3 : Int32) (p4 : Int32) (p5 : Int32) (h0 : Heap) (v : Option Value) (h : Heap) (L : List Loc) : Prop := (v = some (.int (1 : Int32)) ∧ Fr Z.heap.size L ∧ Keep h0 h [])
set_option maxRecDepth 65536 in
set_option maxHeartbeats 40000000 in
theorem sg_s251 {l : Launch} {Z : State} {a0 : Array Value} (hw : own_W Z a0) {zc : Int32} {ws0 : Addr} {ws1 : Addr} {ws2 : Addr} (hO : own_Olds Z zc ws0 ws1 ws2) {p : Program} {e : Env} {s : State} {vm0 : Vm} {m : MethodId} {args : Array Value} {below : List Frame} {meth : Method} {c : Code} {T : State} {locs : List Loc} {cells slots : Nat} (p1 : Int32) (p2 : Int32) (p3 : Int32) (p4 : Int32) (p5 : Int32) (uj : Int32) (ui : Int32) (um : Int32) (ul : Int32) (xa : Int32) (xb : Int32) (ya : Int32) (yb : Int32) (ve : Int32) (yc : Slot) (yd : Slot) (ye : Slot) (yf : Slot) (kb1_ : Addr) (kb2_ : Addr) (sb1_ : Addr) (sb2_ : Addr) (ax : Addr) (ay : Addr) (h0 hs1 : Heap)
    (X0 : Stand p l e room_1 (s.setVm vm0) m args below meth c T locs cells slots) (hS : s.Since vm0 hs1.size) (hL : own_L Z a0) (hJ : own_J Z vm0 hs1) (hx : p.tables.exec = Jvm.exec) (hby : c.code = code) (hml : c.maxLocals = 23) (hret : meth.sig.returnType = some .boolean) (hlk : meth.locks = false) (hZ : Z.Warmed39 (s.setVm vm0).vm) (hown : (s.setVm vm0).vm.findClass "com/example/ratification/ratification/model/AttributeEqualsPinLaw" = some m.cls) (hnm : meth.name = "law") (e0 : T.heap = hs1) (N0 : Fr Z.heap.size locs) (O0 : Ext Z.heap hs1) (K0 : Keep h0 hs1 []) (fp0 : Exa Z hs1 ax "com/example/ratification/ratification/model/Attribute") (fp1 : Fld Z hs1 ax "com/example/ratification/ratification/model/Attribute" "category" "Lcom/example/ratification/ratification/model/Category;" (.ref kb1_)) (fp2 : Fld Z hs1 ax "com/example/ratification/ratification/model/Attribute" "name" "Ljava/lang/String;" (.ref sb1_)) (fp3 : Exa Z hs1 ay "com/example/ratification/ratification/model/Attribute") (fp4 : Fld Z hs1 ay "com/example/ratification/ratification/model/Attribute" "category" "Lcom/example/ratification/ratification/model/Category;" (.ref kb2_)) (fp5 : Fld Z hs1 ay "com/example/ratification/ratification/model/Attribute" "name" "Ljava/lang/String;" (.ref sb2_)) (fp6 : Exa Z hs1 kb1_ "com/example/ratification/ratification/model/Category") (fp7 : Exa Z hs1 sb1_ "java/lang/String") (fp8 : Exa Z hs1 sb2_ "java/lang/String") (fp9 : own_Sl Z hs1 sb1_ (own_cn um xa xb)) (fp10 : own_Sl Z hs1 sb2_ (own_cn ul ya yb)) (huj : own_V3 uj) (hui : own_V3 ui) (hk1 : own_Cat uj kb1_ ws0 ws1 ws2) (hk2 : own_Cat ui kb2_ ws0 ws1 ws2) (hve : own_B ve (uj = ui ∧ (own_cn um xa xb) = (own_cn ul ya yb))) (hcells : cells ≤ 28) (hslots : slots ≤ 3000) :
    own_GoW p e below s Z (Q_law Z zc ws0 ws1 ws2 p1 p2 p3 p4 p5 h0) room_1.cells room_1.slots (T.setTop (mkF m 251 #[iv p1, iv p2, iv p3, iv p4, iv p5, iv uj, yc, iv ui, yd, iv um, iv ul, iv xa, iv xb, iv ya, iv yb, rv kb1_, ye, rv sb1_, yf, rv ax, rv ay, .unset, .unset] [(.int ve)])) := by
  obtain ⟨oCS, oCz, oS0, oS1, oS2, oSE0, oSE1, oSE2, oN01, oN02, oN12⟩ := id hO
  have K1 := Keep.refl hs1 []
  show own_GoW p e below s _ _ _ _ (T.setTop (mkF m 251 #[iv p1, iv p2, iv p3, iv p4, iv p5, iv uj, yc, iv ui, yd, iv um, iv ul, iv xa, iv xb, iv ya, iv yb, rv kb1_, ye, rv sb1_, yf, rv ax, rv ay, .unset, .unset] [(.int ve)]))
  refine own_goW (fun _ k => XS.istore X0.here hx rfl (hb hby at_251) rfl (l' := #[iv p1, iv p2, iv p3, iv p4, iv p5, iv uj, yc, iv ui, yd, iv um, iv ul, iv xa, iv xb, iv ya, iv yb, rv kb1_, ye, rv sb1_, yf, rv ax, rv ay, iv ve, .unset]) rfl (XS.aload X0.here hx rfl (hb hby at_253) rfl rfl (XS.aload X0.here hx rfl (hb hby at_255) rfl rfl k))) ?_
  obtain ⟨v1, T1, L1, X1, hQ1, st1⟩ := own_callV (y := own_y11) (z := own_y11) X0 hx hZ hown (ow53 hw) (ow54 hw) (notFace_of_selects (args := #[]) (mvT hZ (ow56 hw))) (ow56 hw) (ow55 hw) (ow35 hw) (ow57 hw) (rm_eqA l Z a0 hw hO [] ax ay kb1_ kb2_ sb1_ sb2_ (own_cn um xa xb) (own_cn ul ya yb) hs1 O0 (fp0.keep K1) (fp1.keep K1 nin0) (fp2.keep K1 nin0) (fp3.keep K1) (fp4.keep K1 nin0) (fp5.keep K1 nin0) (fp7.keep K1) (fp8.keep K1) (own_SlKeep fp9 K1 all0) (own_SlKeep fp10 K1 all0)) 0 0 0 (by show _ ≤ 32; omega) (by show _ ≤ 3200; omega) e0 (fp0.keep K1) (g := (mkF m 257 #[iv p1, iv p2, iv p3, iv p4, iv p5, iv uj, yc, iv ui, yd, iv um, iv ul, iv xa, iv xb, iv ya, iv yb, rv kb1_, ye, rv sb1_, yf, rv ax, rv ay, iv ve, .unset] [(.ref ay), (.ref ax)])) rfl (by rw [hml]; rfl) [(.ref ay)] [] (lenOf own_pd_7 rfl) rfl rfl (hb hby at_257)
  rcases hQ1 with hQ1 | hQ1 | hQ1
  · obtain ⟨rfl, Nc5, hp2, hp3, Kc4⟩ := hQ1
    refine own_goW st1 ?_
    clear st1 X0 e0
    replace N0 := Fr.app N0 Nc5
    clear Nc5
    show own_GoW p e below s _ _ _ _ (T1.setTop (mkF m 260 #[iv p1, iv p2, iv p3, iv p4, iv p5, iv uj, yc, iv ui, yd, iv um, iv ul, iv xa, iv xb, iv ya, iv yb, rv kb1_, ye, rv sb1_, yf, rv ax, rv ay, iv ve, .unset] [(.int (1 : Int32))]))
    refine own_goW (fun _ k => XS.iload X1.here hx rfl (hb hby at_260) rfl (XS.icmpNo X1.here hx rfl (hb hby at_262) rfl (teq (own_B1 hve ⟨(own_CatEq hk1 hk2 huj hui oN01 oN02 oN12).mp hp2, hp3⟩).symm).2 (XS.iconst X1.here hx rfl (hb hby at_265) (XS.goto X1.here hx rfl (pc0 := 266) (pc' := 270) rfl (hb hby at_266) (by decide) (by decide) k)))) ?_
    show own_GoW p e below s _ _ _ _ (T1.setTop (mkF m 270 #[iv p1, iv p2, iv p3, iv p4, iv p5, iv uj, yc, iv ui, yd, iv um, iv ul, iv xa, iv xb, iv ya, iv yb, rv kb1_, ye, rv sb1_, yf, rv ax, rv ay, iv ve, .unset] [(.int (1 : Int32))]))
    refine own_goW (fun _ k => XS.istore X1.here hx rfl (hb hby at_270) rfl (l' := #[iv p1, iv p2, iv p3, iv p4, iv p5, iv uj, yc, iv ui, yd, iv um, iv ul, iv xa, iv xb, iv ya, iv yb, rv kb1_, ye, rv sb1_, yf, rv ax, rv ay, iv ve, iv (1 : Int32)]) rfl (XS.iload X1.here hx rfl (hb hby at_272) rfl (XS.ifNo X1.here hx rfl (hb hby at_274) rfl ((if0 _ _).trans (feq (by decide : ¬ ((1 : Int32) = (0 : Int32)))).1) (XS.aload X1.here hx rfl (hb hby at_277) rfl rfl k)))) ?_
    show own_GoW p e below s _ _ _ _ (T1.setTop (mkF m 279 #[iv p1, iv p2, iv p3, iv p4, iv p5, iv uj, yc, iv ui, yd, iv um, iv ul, iv xa, iv xb, iv ya, iv yb, rv kb1_, ye, rv sb1_, yf, rv ax, rv ay, iv ve, iv (1 : Int32)] [(.ref ay)]))
    refine own_goW (fun _ k => XS.aload X1.here hx rfl (hb hby at_279) rfl rfl k) ?_
    obtain ⟨v6, T6, L6, X6, hQ6, st6⟩ := own_callV (y := own_y11) (z := own_y11) X1 hx hZ hown (ow53 hw) (ow54 hw) (notFace_of_selects (args := #[]) (mvT hZ (ow56 hw))) (ow56 hw) (ow55 hw) (ow35 hw) (ow57 hw) (rm_eqA l Z a0 hw hO [] ay ax kb2_ kb1_ sb2_ sb1_ (own_cn ul ya yb) (own_cn um xa xb) hs1 O0 (fp3.keep K1) (fp4.keep K1 nin0) (fp5.keep K1 nin0) (fp0.keep K1) (fp1.keep K1 nin0) (fp2.keep K1 nin0) (fp8.keep K1) (fp7.keep K1) (own_SlKeep fp10 K1 all0) (own_SlKeep fp9 K1 all0)) 0 0 0 (by show _ ≤ 32; omega) (by show _ ≤ 3200; omega) Kc4 (fp3.keep K1) (g := (mkF m 281 #[iv p1, iv p2, iv p3, iv p4, iv p5, iv uj, yc, iv ui, yd, iv um, iv ul, iv xa, iv xb, iv ya, iv yb, rv kb1_, ye, rv sb1_, yf, rv ax, rv ay, iv ve, iv (1 : Int32)] [(.ref ax), (.ref ay)])) rfl (by rw [hml]; rfl) [(.ref ax)] [] (lenOf own_pd_7 rfl) rfl rfl (hb hby at_281)
    rcases hQ6 with hQ6 | hQ6 | hQ6
    · obtain ⟨rfl, Nc10, hp7, hp8, Kc9⟩ := hQ6
      refine own_goW st6 ?_
      clear st6 X1 Kc4
      replace N0 := Fr.app N0 Nc10
      clear Nc10
      show own_GoW p e below s _ _ _ _ (T6.setTop (mkF m 284 #[iv p1, iv p2, iv p3, iv p4, iv p5, iv uj, yc, iv ui, yd, iv um, iv ul, iv xa, iv xb, iv ya, iv yb, rv kb1_, ye, rv sb1_, yf, rv ax, rv ay, iv ve, iv (1 : Int32)] [(.int (1 : Int32))]))
      refine own_goW (fun _ k => XS.iload X6.here hx rfl (hb hby at_284) rfl (XS.icmpNo X6.here hx rfl (hb hby at_286) rfl (teq (own_B1 hve ⟨(own_CatEq hk1 hk2 huj hui oN01 oN02 oN12).mp hp2, hp3⟩).symm).2 (XS.iconst X6.here hx rfl (hb hby at_289) (XS.goto X6.here hx rfl (pc0 := 290) (pc' := 294) rfl (hb hby at_290) (by decide) (by decide) k)))) ?_
      show own_GoW p e below s _ _ _ _ (T6.setTop (mkF m 294 #[iv p1, iv p2, iv p3, iv p4, iv p5, iv uj, yc, iv ui, yd, iv um, iv ul, iv xa, iv xb, iv ya, iv yb, rv kb1_, ye, rv sb1_, yf, rv ax, rv ay, iv ve, iv (1 : Int32)] [(.int (1 : Int32))]))
      refine own_goW (fun _ k => XS.istore X6.here hx rfl (hb hby at_294) rfl (l' := #[iv p1, iv p2, iv p3, iv p4, iv p5, iv uj, yc, iv ui, yd, iv um, iv ul, iv xa, iv xb, iv ya, iv yb, rv kb1_, ye, rv sb1_, yf, rv ax, rv ay, iv ve, iv (1 : Int32)]) rfl (XS.iload X6.here hx rfl (hb hby at_296) rfl (XS.ifNo X6.here hx rfl (hb hby at_298) rfl ((if0 _ _).trans (feq (by decide : ¬ ((1 : Int32) = (0 : Int32)))).1) (XS.aload X6.here hx rfl (hb hby at_301) rfl rfl k)))) ?_
      show own_GoW p e below s _ _ _ _ (T6.setTop (mkF m 303 #[iv p1, iv p2, iv p3, iv p4, iv p5, iv uj, yc, iv ui, yd, iv um, iv ul, iv xa, iv xb, iv ya, iv yb, rv kb1_, ye, rv sb1_, yf, rv ax, rv ay, iv ve, iv (1 : Int32)] [(.ref ax)]))
      refine own_goW (fun _ k => XS.aload X6.here hx rfl (hb hby at_303) rfl rfl k) ?_
      obtain ⟨v11, T11, L11, X11, hQ11, st11⟩ := own_callV (y := own_y11) (z := own_y11) X6 hx hZ hown (ow53 hw) (ow54 hw) (notFace_of_selects (args := #[]) (mvT hZ (ow56 hw))) (ow56 hw) (ow55 hw) (ow35 hw) (ow57 hw) (rm_eqA l Z a0 hw hO [] ax ax kb1_ kb1_ sb1_ sb1_ (own_cn um xa xb) (own_cn um xa xb) hs1 O0 (fp0.keep K1) (fp1.keep K1 nin0) (fp2.keep K1 nin0) (fp0.keep K1) (fp1.keep K1 nin0) (fp2.keep K1 nin0) (fp7.keep K1) (fp7.keep K1) (own_SlKeep fp9 K1 all0) (own_SlKeep fp9 K1 all0)) 0 0 0 (by show _ ≤ 32; omega) (by show _ ≤ 3200; omega) Kc9 (fp0.keep K1) (g := (mkF m 305 #[iv p1, iv p2, iv p3, iv p4, iv p5, iv uj, yc, iv ui, yd, iv um, iv ul, iv xa, iv xb, iv ya, iv yb, rv kb1_, ye, rv sb1_, yf, rv ax, rv ay, iv ve, iv (1 : Int32)] [(.ref ax), (.ref ax)])) rfl (by rw [hml]; rfl) [(.ref ax)] [] (lenOf own_pd_7 rfl) rfl rfl (hb hby at_305)
      rcases hQ11 with hQ11 | hQ11 | hQ11
      · obtain ⟨rfl, Nc15, hp12, hp13, Kc14⟩ := hQ11
        refine own_goW st11 ?_
        clear st11 X6 Kc9
        replace N0 := Fr.app N0 Nc15
        clear Nc15
        show own_GoW p e below s _ _ _ _ (T11.setTop (mkF m 308 #[iv p1, iv p2, iv p3, iv p4, iv p5, iv uj, yc, iv ui, yd, iv um, iv ul, iv xa, iv xb, iv ya, iv yb, rv kb1_, ye, rv sb1_, yf, rv ax, rv ay, iv ve, iv (1 : Int32)] [(.int (1 : Int32))]))
        refine own_goW (fun _ k => XS.ifNo X11.here hx rfl (hb hby at_308) rfl ((if0 _ _).trans (feq (by decide : ¬ ((1 : Int32) = (0 : Int32)))).1) (XS.iconst X11.here hx rfl (hb hby at_311) (XS.goto X11.here hx rfl (pc0 := 312) (pc' := 316) rfl (hb hby at_312) (by decide) (by decide) (XS.istore X11.here hx rfl (hb hby at_316) rfl (l' := #[iv p1, iv p2, iv p3, iv p4, iv p5, iv uj, yc, iv ui, yd, iv um, iv ul, iv xa, iv xb, iv ya, iv yb, rv kb1_, ye, rv sb1_, yf, rv ax, rv ay, iv ve, iv (1 : Int32)]) rfl k)))) ?_
        show own_GoW p e below s _ _ _ _ (T11.setTop (mkF m 318 #[iv p1, iv p2, iv p3, iv p4, iv p5, iv uj, yc, iv ui, yd, iv um, iv ul, iv xa, iv xb, iv ya, iv yb, rv kb1_, ye, rv sb1_, yf, rv ax, rv ay, iv ve, iv (1 : Int32)] []))
        refine own_goW (fun _ k => XS.iload X11.here hx rfl (hb hby at_318) rfl (XS.ifNo X11.here hx rfl (hb hby at_320) rfl ((if0 _ _).trans (feq (by decide : ¬ ((1 : Int32) = (0 : Int32)))).1) (XS.aload X11.here hx rfl (hb hby at_323) rfl rfl (XS.aconstNull X11.here hx rfl (hb hby at_325) k)))) ?_
        show own_GoW p e below s _ _ _ _ (T11.setTop (mkF m 326 #[iv p1, iv p2, iv p3, iv p4, iv p5, iv uj, yc, iv ui, yd, iv um, iv ul, iv xa, iv xb, iv ya, iv yb, rv kb1_, ye, rv sb1_, yf, rv ax, rv ay, iv ve, iv (1 : Int32)] [.null, (.ref ax)]))
        obtain ⟨v16, T16, L16, X16, hQ16, st16⟩ := own_callV (y := own_y11) (z := own_y11) X11 hx hZ hown (ow53 hw) (ow54 hw) (notFace_of_selects (args := #[]) (mvT hZ (ow56 hw))) (ow56 hw) (ow55 hw) (ow35 hw) (ow57 hw) (rm_eqN l Z a0 hw hO [] ax hs1 O0) 0 0 0 (by show _ ≤ 32; omega) (by show _ ≤ 3200; omega) Kc14 (fp0.keep K1) (g := (mkF m 326 #[iv p1, iv p2, iv p3, iv p4, iv p5, iv uj, yc, iv ui, yd, iv um, iv ul, iv xa, iv xb, iv ya, iv yb, rv kb1_, ye, rv sb1_, yf, rv ax, rv ay, iv ve, iv (1 : Int32)] [.null, (.ref ax)])) rfl (by rw [hml]; rfl) [.null] [] (lenOf own_pd_7 rfl) rfl rfl (hb hby at_326)
        obtain ⟨rfl, Nc18, Kc17⟩ := hQ16
        refine own_goW st16 ?_
        clear st16 X11 Kc14
        replace N0 := Fr.app N0 Nc18
        clear Nc18
        refine own_goW (fun _ k => XS.ifNo X16.here hx rfl (hb hby at_329) rfl ((if0 _ _).trans (teq (by decide : (0 : Int32) = (0 : Int32))).2) (XS.iconst X16.here hx rfl (hb hby at_332) (XS.goto X16.here hx rfl (pc0 := 333) (pc' := 337) rfl (hb hby at_333) (by decide) (by decide) k))) ?_
        show own_GoW p e below s _ _ _ _ (T16.setTop (mkF m 337 #[iv p1, iv p2, iv p3, iv p4, iv p5, iv uj, yc, iv ui, yd, iv um, iv ul, iv xa, iv xb, iv ya, iv yb, rv kb1_, ye, rv sb1_, yf, rv ax, rv ay, iv ve, iv (1 : Int32)] [(.int (1 : Int32))]))
        refine own_goW (fun _ k => XS.istore X16.here hx rfl (hb hby at_337) rfl (l' := #[iv p1, iv p2, iv p3, iv p4, iv p5, iv uj, yc, iv ui, yd, iv um, iv ul, iv xa, iv xb, iv ya, iv yb, rv kb1_, ye, rv sb1_, yf, rv ax, rv ay, iv ve, iv (1 : Int32)]) rfl (XS.iload X16.here hx rfl (hb hby at_339) rfl (XS.ifNo X16.here hx rfl (hb hby at_341) rfl ((if0 _ _).trans (feq (by decide : ¬ ((1 : Int32) = (0 : Int32)))).1) (XS.aload X16.here hx rfl (hb hby at_344) rfl rfl k)))) ?_
        show own_GoW p e below s _ _ _ _ (T16.setTop (mkF m 346 #[iv p1, iv p2, iv p3, iv p4, iv p5, iv uj, yc, iv ui, yd, iv um, iv ul, iv xa, iv xb, iv ya, iv yb, rv kb1_, ye, rv sb1_, yf, rv ax, rv ay, iv ve, iv (1 : Int32)] [(.ref ax)]))
        refine own_goW (fun _ k => XS.aload X16.here hx rfl (hb hby at_346) rfl rfl k) ?_
        obtain ⟨v19, T19, L19, X19, hQ19, st19⟩ := own_callV (y := own_y11) (z := own_y11) X16 hx hZ hown (ow53 hw) (ow54 hw) (notFace_of_selects (args := #[]) (mvT hZ (ow56 hw))) (ow56 hw) (ow55 hw) (ow35 hw) (ow57 hw) (rm_eqS l Z a0 hw hO [] ax sb1_ hs1 O0 (fp7.keep K1)) 0 0 0 (by show _ ≤ 32; omega) (by show _ ≤ 3200; omega) Kc17 (fp0.keep K1) (g := (mkF m 348 #[iv p1, iv p2, iv p3, iv p4, iv p5, iv uj, yc, iv ui, yd, iv um, iv ul, iv xa, iv xb, iv ya, iv yb, rv kb1_, ye, rv sb1_, yf, rv ax, rv ay, iv ve, iv (1 : Int32)] [(.ref sb1_), (.ref ax)])) rfl (by rw [hml]; rfl) [(.ref sb1_)] [] (lenOf own_pd_7 rfl) rfl rfl (hb hby at_348)
        obtain ⟨rfl, Nc21, Kc20⟩ := hQ19
        refine own_goW st19 ?_
        clear st19 X16 Kc17
        replace N0 := Fr.app N0 Nc21
        clear Nc21
        refine own_goW (fun _ k => XS.ifNo X19.here hx rfl (hb hby at_351) rfl ((if0 _ _).trans (teq (by decide : (0 : Int32) = (0 : Int32))).2) (XS.iconst X19.here hx rfl (hb hby at_354) k)) ?_
        show own_GoW p e below s _ _ _ _ (T19.setTop (mkF m 355 #[iv p1, iv p2, iv p3, iv p4, iv p5, iv uj, yc, iv ui, yd, iv um, iv ul, iv xa, iv xb, iv ya, iv yb, rv kb1_, ye, rv sb1_, yf, rv ax, rv ay, iv ve, iv (1 : Int32)] [(.int (1 : Int32))]))
        refine own_goW (fun _ k => XS.goto X19.here hx rfl (pc0 := 355) (pc' := 359) rfl (hb hby at_355) (by decide) (by decide) (XS.istore X19.here hx rfl (hb hby at_359) rfl (l' := #[iv p1, iv p2, iv p3, iv p4, iv p5, iv uj, yc, iv ui, yd, iv um, iv ul, iv xa, iv xb, iv ya, iv yb, rv kb1_, ye, rv sb1_, yf, rv ax, rv ay, iv ve, iv (1 : Int32)]) rfl (XS.iload X19.here hx rfl (hb hby at_361) rfl (XS.ifNo X19.here hx rfl (hb hby at_363) rfl ((if0 _ _).trans (feq (by decide : ¬ ((1 : Int32) = (0 : Int32)))).1) k)))) ?_
        show own_GoW p e below s _ _ _ _ (T19.setTop (mkF m 366 #[iv p1, iv p2, iv p3, iv p4, iv p5, iv uj, yc, iv ui, yd, iv um, iv ul, iv xa, iv xb, iv ya, iv yb, rv kb1_, ye, rv sb1_, yf, rv ax, rv ay, iv ve, iv (1 : Int32)] []))
        refine own_goW (fun _ k => XS.aload X19.here hx rfl (hb hby at_366) rfl rfl (XS.aload X19.here hx rfl (hb hby at_368) rfl rfl k)) ?_
        obtain ⟨v22, T22, L22, X22, hQ22, st22⟩ := own_callV (y := own_y11) (z := own_y11) X19 hx hZ hown (ow53 hw) (ow54 hw) (notFace_of_selects (args := #[]) (mvT hZ (ow56 hw))) (ow56 hw) (ow55 hw) (ow35 hw) (ow57 hw) (rm_eqC l Z a0 hw hO [] ax kb1_ hs1 O0 (fp6.keep K1)) 0 0 0 (by show _ ≤ 32; omega) (by show _ ≤ 3200; omega) Kc20 (fp0.keep K1) (g := (mkF m 370 #[iv p1, iv p2, iv p3, iv p4, iv p5, iv uj, yc, iv ui, yd, iv um, iv ul, iv xa, iv xb, iv ya, iv yb, rv kb1_, ye, rv sb1_, yf, rv ax, rv ay, iv ve, iv (1 : Int32)] [(.ref kb1_), (.ref ax)])) rfl (by rw [hml]; rfl) [(.ref kb1_)] [] (lenOf own_pd_7 rfl) rfl rfl (hb hby at_370)
        obtain ⟨rfl, Nc24, Kc23⟩ := hQ22
        refine own_goW st22 ?_
        clear st22 X19 Kc20
        replace N0 := Fr.app N0 Nc24
        clear Nc24
        refine own_goW (fun _ k => XS.ifNo X22.here hx rfl (hb hby at_373) rfl ((if0 _ _).trans (teq (by decide : (0 : Int32) = (0 : Int32))).2) k) ?_
        show own_GoW p e below s _ _ _ _ (T22.setTop (mkF m 376 #[iv p1, iv p2, iv p3, iv p4, iv p5, iv uj, yc, iv ui, yd, iv um, iv ul, iv xa, iv xb, iv ya, iv yb, rv kb1_, ye, rv sb1_, yf, rv ax, rv ay, iv ve, iv (1 : Int32)] []))
        refine own_goW (fun _ k => XS.iconst X22.here hx rfl (hb hby at_376) (XS.goto X22.here hx rfl (pc0 := 377) (pc' := 381) rfl (hb hby at_377) (by decide) (by decide) (XS.istore X22.here hx rfl (hb hby at_381) rfl (l' := #[iv p1, iv p2, iv p3, iv p4, iv p5, iv uj, yc, iv ui, yd, iv um, iv ul, iv xa, iv xb, iv ya, iv yb, rv kb1_, ye, rv sb1_, yf, rv ax, rv ay, iv ve, iv (1 : Int32)]) rfl (XS.iload X22.here hx rfl (hb hby at_383) rfl k)))) ?_
        show own_GoW p e below s _ _ _ _ (T22.setTop (mkF m 385 #[iv p1, iv p2, iv p3, iv p4, iv p5, iv uj, yc, iv ui, yd, iv um, iv ul, iv xa, iv xb, iv ya, iv yb, rv kb1_, ye, rv sb1_, yf, rv ax, rv ay, iv ve, iv (1 : Int32)] [(.int (1 : Int32))]))
        refine own_retNW X22 hS hL hZ hJ hx hlk Kc23 (t := .boolean) hret (by simp) (hb hby at_385) (by show _ ≤ 32; omega) (by show _ ≤ 3200; omega) ?_
        exact ⟨rfl, N0, K0⟩
      · obtain ⟨rfl, Nc27, hp25, Kc26⟩ := hQ11
        refine own_goW st11 ?_
        clear st11 X6 Kc9
        replace N0 := Fr.app N0 Nc27
        clear Nc27
        exact absurd (rfl : kb1_ = kb1_) hp25
      · obtain ⟨rfl, Nc31, hp28, hp29, Kc30⟩ := hQ11
        refine own_goW st11 ?_
        clear st11 X6 Kc9
        replace N0 := Fr.app N0 Nc31
        clear Nc31
        exact absurd (rfl : (own_cn um xa xb) = (own_cn um xa xb)) hp29
    · obtain ⟨rfl, Nc34, hp32, Kc33⟩ := hQ6
      refine own_goW st6 ?_
      clear st6 X1 Kc4
      replace N0 := Fr.app N0 Nc34
      clear Nc34
      exact absurd (Eq.symm hp2) hp32
    · obtain ⟨rfl, Nc38, hp35, hp36, Kc37⟩ := hQ6
      refine own_goW st6 ?_
      clear st6 X1 Kc4
      replace N0 := Fr.app N0 Nc38
      clear Nc38
      exact absurd (Eq.symm hp3) hp36
  · obtain ⟨rfl, Nc41, hp39, Kc40⟩ := hQ1
    refine own_goW st1 ?_
    clear st1 X0 e0
    replace N0 := Fr.app N0 Nc41
    clear Nc41
    show own_GoW p e below s _ _ _ _ (T1.setTop (mkF m 260 #[iv p1, iv p2, iv p3, iv p4, iv p5, iv uj, yc, iv ui, yd, iv um, iv ul, iv xa, iv xb, iv ya, iv yb, rv kb1_, ye, rv sb1_, yf, rv ax, rv ay, iv ve, .unset] [(.int (0 : Int32))]))
    refine own_goW (fun _ k => XS.iload X1.here hx rfl (hb hby at_260) rfl (XS.icmpNo X1.here hx rfl (hb hby at_262) rfl (teq (own_B0 hve (fun h => hp39 ((own_CatEq hk1 hk2 huj hui oN01 oN02 oN12).mpr h.1))).symm).2 (XS.iconst X1.here hx rfl (hb hby at_265) (XS.goto X1.here hx rfl (pc0 := 266) (pc' := 270) rfl (hb hby at_266) (by decide) (by decide) k)))) ?_
    show own_GoW p e below s _ _ _ _ (T1.setTop (mkF m 270 #[iv p1, iv p2, iv p3, iv p4, iv p5, iv uj, yc, iv ui, yd, iv um, iv ul, iv xa, iv xb, iv ya, iv yb, rv kb1_, ye, rv sb1_, yf, rv ax, rv ay, iv ve, .unset] [(.int (1 : Int32))]))
    refine own_goW (fun _ k => XS.istore X1.here hx rfl (hb hby at_270) rfl (l' := #[iv p1, iv p2, iv p3, iv p4, iv p5, iv uj, yc, iv ui, yd, iv um, iv ul, iv xa, iv xb, iv ya, iv yb, rv kb1_, ye, rv sb1_, yf, rv ax, rv ay, iv ve, iv (1 : Int32)]) rfl (XS.iload X1.here hx rfl (hb hby at_272) rfl (XS.ifNo X1.here hx rfl (hb hby at_274) rfl ((if0 _ _).trans (feq (by decide : ¬ ((1 : Int32) = (0 : Int32)))).1) (XS.aload X1.here hx rfl (hb hby at_277) rfl rfl k)))) ?_
    show own_GoW p e below s _ _ _ _ (T1.setTop (mkF m 279 #[iv p1, iv p2, iv p3, iv p4, iv p5, iv uj, yc, iv ui, yd, iv um, iv ul, iv xa, iv xb, iv ya, iv yb, rv kb1_, ye, rv sb1_, yf, rv ax, rv ay, iv ve, iv (1 : Int32)] [(.ref ay)]))
    refine own_goW (fun _ k => XS.aload X1.here hx rfl (hb hby at_279) rfl rfl k) ?_
    obtain ⟨v42, T42, L42, X42, hQ42, st42⟩ := own_callV (y := own_y11) (z := own_y11) X1 hx hZ hown (ow53 hw) (ow54 hw) (notFace_of_selects (args := #[]) (mvT hZ (ow56 hw))) (ow56 hw) (ow55 hw) (ow35 hw) (ow57 hw) (rm_eqA l Z a0 hw hO [] ay ax kb2_ kb1_ sb2_ sb1_ (own_cn ul ya yb) (own_cn um xa xb) hs1 O0 (fp3.keep K1) (fp4.keep K1 nin0) (fp5.keep K1 nin0) (fp0.keep K1) (fp1.keep K1 nin0) (fp2.keep K1 nin0) (fp8.keep K1) (fp7.keep K1) (own_SlKeep fp10 K1 all0) (own_SlKeep fp9 K1 all0)) 0 0 0 (by show _ ≤ 32; omega) (by show _ ≤ 3200; omega) Kc40 (fp3.keep K1) (g := (mkF m 281 #[iv p1, iv p2, iv p3, iv p4, iv p5, iv uj, yc, iv ui, yd, iv um, iv ul, iv xa, iv xb, iv ya, iv yb, rv kb1_, ye, rv sb1_, yf, rv ax, rv ay, iv ve, iv (1 : Int32)] [(.ref ax), (.ref ay)])) rfl (by rw [hml]; rfl) [(.ref ax)] [] (lenOf own_pd_7 rfl) rfl rfl (hb hby at_281)
    rcases hQ42 with hQ42 | hQ42 | hQ42
    · obtain ⟨rfl, Nc46, hp43, hp44, Kc45⟩ := hQ42
      refine own_goW st42 ?_
      clear st42 X1 Kc40
      replace N0 := Fr.app N0 Nc46
      clear Nc46
      exact absurd hp43 (fun q => hp39 q.symm)
    · obtain ⟨rfl, Nc49, hp47, Kc48⟩ := hQ42
      refine own_goW st42 ?_
      clear st42 X1 Kc40
      replace N0 := Fr.app N0 Nc49
      clear Nc49
      show own_GoW p e below s _ _ _ _ (T42.setTop (mkF m 284 #[iv p1, iv p2, iv p3, iv p4, iv p5, iv uj, yc, iv ui, yd, iv um, iv ul, iv xa, iv xb, iv ya, iv yb, rv kb1_, ye, rv sb1_, yf, rv ax, rv ay, iv ve, iv (1 : Int32)] [(.int (0 : Int32))]))
      refine own_goW (fun _ k => XS.iload X42.here hx rfl (hb hby at_284) rfl (XS.icmpNo X42.here hx rfl (hb hby at_286) rfl (teq (own_B0 hve (fun h => hp39 ((own_CatEq hk1 hk2 huj hui oN01 oN02 oN12).mpr h.1))).symm).2 (XS.iconst X42.here hx rfl (hb hby at_289) (XS.goto X42.here hx rfl (pc0 := 290) (pc' := 294) rfl (hb hby at_290) (by decide) (by decide) k)))) ?_
      show own_GoW p e below s _ _ _ _ (T42.setTop (mkF m 294 #[iv p1, iv p2, iv p3, iv p4, iv p5, iv uj, yc, iv ui, yd, iv um, iv ul, iv xa, iv xb, iv ya, iv yb, rv kb1_, ye, rv sb1_, yf, rv ax, rv ay, iv ve, iv (1 : Int32)] [(.int (1 : Int32))]))
      refine own_goW (fun _ k => XS.istore X42.here hx rfl (hb hby at_294) rfl (l' := #[iv p1, iv p2, iv p3, iv p4, iv p5, iv uj, yc, iv ui, yd, iv um, iv ul, iv xa, iv xb, iv ya, iv yb, rv kb1_, ye, rv sb1_, yf, rv ax, rv ay, iv ve, iv (1 : Int32)]) rfl (XS.iload X42.here hx rfl (hb hby at_296) rfl (XS.ifNo X42.here hx rfl (hb hby at_298) rfl ((if0 _ _).trans (feq (by decide : ¬ ((1 : Int32) = (0 : Int32)))).1) (XS.aload X42.here hx rfl (hb hby at_301) rfl rfl k)))) ?_
      show own_GoW p e below s _ _ _ _ (T42.setTop (mkF m 303 #[iv p1, iv p2, iv p3, iv p4, iv p5, iv uj, yc, iv ui, yd, iv um, iv ul, iv xa, iv xb, iv ya, iv yb, rv kb1_, ye, rv sb1_, yf, rv ax, rv ay, iv ve, iv (1 : Int32)] [(.ref ax)]))
      refine own_goW (fun _ k => XS.aload X42.here hx rfl (hb hby at_303) rfl rfl k) ?_
      obtain ⟨v50, T50, L50, X50, hQ50, st50⟩ := own_callV (y := own_y11) (z := own_y11) X42 hx hZ hown (ow53 hw) (ow54 hw) (notFace_of_selects (args := #[]) (mvT hZ (ow56 hw))) (ow56 hw) (ow55 hw) (ow35 hw) (ow57 hw) (rm_eqA l Z a0 hw hO [] ax ax kb1_ kb1_ sb1_ sb1_ (own_cn um xa xb) (own_cn um xa xb) hs1 O0 (fp0.keep K1) (fp1.keep K1 nin0) (fp2.keep K1 nin0) (fp0.keep K1) (fp1.keep K1 nin0) (fp2.keep K1 nin0) (fp7.keep K1) (fp7.keep K1) (own_SlKeep fp9 K1 all0) (own_SlKeep fp9 K1 all0)) 0 0 0 (by show _ ≤ 32; omega) (by show _ ≤ 3200; omega) Kc48 (fp0.keep K1) (g := (mkF m 305 #[iv p1, iv p2, iv p3, iv p4, iv p5, iv uj, yc, iv ui, yd, iv um, iv ul, iv xa, iv xb, iv ya, iv yb, rv kb1_, ye, rv sb1_, yf, rv ax, rv ay, iv ve, iv (1 : Int32)] [(.ref ax), (.ref ax)])) rfl (by rw [hml]; rfl) [(.ref ax)] [] (lenOf own_pd_7 rfl) rfl rfl (hb hby at_305)
      rcases hQ50 with hQ50 | hQ50 | hQ50
      · obtain ⟨rfl, Nc54, hp51, hp52, Kc53⟩ := hQ50
        refine own_goW st50 ?_
        clear st50 X42 Kc48
        replace N0 := Fr.app N0 Nc54
        clear Nc54
        show own_GoW p e below s _ _ _ _ (T50.setTop (mkF m 308 #[iv p1, iv p2, iv p3, iv p4, iv p5, iv uj, yc, iv ui, yd, iv um, iv ul, iv xa, iv xb, iv ya, iv yb, rv kb1_, ye, rv sb1_, yf, rv ax, rv ay, iv ve, iv (1 : Int32)] [(.int (1 : Int32))]))
        refine own_goW (fun _ k => XS.ifNo X50.here hx rfl (hb hby at_308) rfl ((if0 _ _).trans (feq (by decide : ¬ ((1 : Int32) = (0 : Int32)))).1) (XS.iconst X50.here hx rfl (hb hby at_311) (XS.goto X50.here hx rfl (pc0 := 312) (pc' := 316) rfl (hb hby at_312) (by decide) (by decide) (XS.istore X50.here hx rfl (hb hby at_316) rfl (l' := #[iv p1, iv p2, iv p3, iv p4, iv p5, iv uj, yc, iv ui, yd, iv um, iv ul, iv xa, iv xb, iv ya, iv yb, rv kb1_, ye, rv sb1_, yf, rv ax, rv ay, iv ve, iv (1 : Int32)]) rfl k)))) ?_
        show own_GoW p e below s _ _ _ _ (T50.setTop (mkF m 318 #[iv p1, iv p2, iv p3, iv p4, iv p5, iv uj, yc, iv ui, yd, iv um, iv ul, iv xa, iv xb, iv ya, iv yb, rv kb1_, ye, rv sb1_, yf, rv ax, rv ay, iv ve, iv (1 : Int32)] []))
        refine own_goW (fun _ k => XS.iload X50.here hx rfl (hb hby at_318) rfl (XS.ifNo X50.here hx rfl (hb hby at_320) rfl ((if0 _ _).trans (feq (by decide : ¬ ((1 : Int32) = (0 : Int32)))).1) (XS.aload X50.here hx rfl (hb hby at_323) rfl rfl (XS.aconstNull X50.here hx rfl (hb hby at_325) k)))) ?_
        show own_GoW p e below s _ _ _ _ (T50.setTop (mkF m 326 #[iv p1, iv p2, iv p3, iv p4, iv p5, iv uj, yc, iv ui, yd, iv um, iv ul, iv xa, iv xb, iv ya, iv yb, rv kb1_, ye, rv sb1_, yf, rv ax, rv ay, iv ve, iv (1 : Int32)] [.null, (.ref ax)]))
        obtain ⟨v55, T55, L55, X55, hQ55, st55⟩ := own_callV (y := own_y11) (z := own_y11) X50 hx hZ hown (ow53 hw) (ow54 hw) (notFace_of_selects (args := #[]) (mvT hZ (ow56 hw))) (ow56 hw) (ow55 hw) (ow35 hw) (ow57 hw) (rm_eqN l Z a0 hw hO [] ax hs1 O0) 0 0 0 (by show _ ≤ 32; omega) (by show _ ≤ 3200; omega) Kc53 (fp0.keep K1) (g := (mkF m 326 #[iv p1, iv p2, iv p3, iv p4, iv p5, iv uj, yc, iv ui, yd, iv um, iv ul, iv xa, iv xb, iv ya, iv yb, rv kb1_, ye, rv sb1_, yf, rv ax, rv ay, iv ve, iv (1 : Int32)] [.null, (.ref ax)])) rfl (by rw [hml]; rfl) [.null] [] (lenOf own_pd_7 rfl) rfl rfl (hb hby at_326)
        obtain ⟨rfl, Nc57, Kc56⟩ := hQ55
        refine own_goW st55 ?_
        clear st55 X50 Kc53
        replace N0 := Fr.app N0 Nc57
        clear Nc57
        refine own_goW (fun _ k => XS.ifNo X55.here hx rfl (hb hby at_329) rfl ((if0 _ _).trans (teq (by decide : (0 : Int32) = (0 : Int32))).2) (XS.iconst X55.here hx rfl (hb hby at_332) (XS.goto X55.here hx rfl (pc0 := 333) (pc' := 337) rfl (hb hby at_333) (by decide) (by decide) k))) ?_
        show own_GoW p e below s _ _ _ _ (T55.setTop (mkF m 337 #[iv p1, iv p2, iv p3, iv p4, iv p5, iv uj, yc, iv ui, yd, iv um, iv ul, iv xa, iv xb, iv ya, iv yb, rv kb1_, ye, rv sb1_, yf, rv ax, rv ay, iv ve, iv (1 : Int32)] [(.int (1 : Int32))]))
        refine own_goW (fun _ k => XS.istore X55.here hx rfl (hb hby at_337) rfl (l' := #[iv p1, iv p2, iv p3, iv p4, iv p5, iv uj, yc, iv ui, yd, iv um, iv ul, iv xa, iv xb, iv ya, iv yb, rv kb1_, ye, rv sb1_, yf, rv ax, rv ay, iv ve, iv (1 : Int32)]) rfl (XS.iload X55.here hx rfl (hb hby at_339) rfl (XS.ifNo X55.here hx rfl (hb hby at_341) rfl ((if0 _ _).trans (feq (by decide : ¬ ((1 : Int32) = (0 : Int32)))).1) (XS.aload X55.here hx rfl (hb hby at_344) rfl rfl k)))) ?_
        show own_GoW p e below s _ _ _ _ (T55.setTop (mkF m 346 #[iv p1, iv p2, iv p3, iv p4, iv p5, iv uj, yc, iv ui, yd, iv um, iv ul, iv xa, iv xb, iv ya, iv yb, rv kb1_, ye, rv sb1_, yf, rv ax, rv ay, iv ve, iv (1 : Int32)] [(.ref ax)]))
        refine own_goW (fun _ k => XS.aload X55.here hx rfl (hb hby at_346) rfl rfl k) ?_
        obtain ⟨v58, T58, L58, X58, hQ58, st58⟩ := own_callV (y := own_y11) (z := own_y11) X55 hx hZ hown (ow53 hw) (ow54 hw) (notFace_of_selects (args := #[]) (mvT hZ (ow56 hw))) (ow56 hw) (ow55 hw) (ow35 hw) (ow57 hw) (rm_eqS l Z a0 hw hO [] ax sb1_ hs1 O0 (fp7.keep K1)) 0 0 0 (by show _ ≤ 32; omega) (by show _ ≤ 3200; omega) Kc56 (fp0.keep K1) (g := (mkF m 348 #[iv p1, iv p2, iv p3, iv p4, iv p5, iv uj, yc, iv ui, yd, iv um, iv ul, iv xa, iv xb, iv ya, iv yb, rv kb1_, ye, rv sb1_, yf, rv ax, rv ay, iv ve, iv (1 : Int32)] [(.ref sb1_), (.ref ax)])) rfl (by rw [hml]; rfl) [(.ref sb1_)] [] (lenOf own_pd_7 rfl) rfl rfl (hb hby at_348)
        obtain ⟨rfl, Nc60, Kc59⟩ := hQ58
        refine own_goW st58 ?_
        clear st58 X55 Kc56
        replace N0 := Fr.app N0 Nc60
        clear Nc60
        refine own_goW (fun _ k => XS.ifNo X58.here hx rfl (hb hby at_351) rfl ((if0 _ _).trans (teq (by decide : (0 : Int32) = (0 : Int32))).2) (XS.iconst X58.here hx rfl (hb hby at_354) k)) ?_
        show own_GoW p e below s _ _ _ _ (T58.setTop (mkF m 355 #[iv p1, iv p2, iv p3, iv p4, iv p5, iv uj, yc, iv ui, yd, iv um, iv ul, iv xa, iv xb, iv ya, iv yb, rv kb1_, ye, rv sb1_, yf, rv ax, rv ay, iv ve, iv (1 : Int32)] [(.int (1 : Int32))]))
        refine own_goW (fun _ k => XS.goto X58.here hx rfl (pc0 := 355) (pc' := 359) rfl (hb hby at_355) (by decide) (by decide) (XS.istore X58.here hx rfl (hb hby at_359) rfl (l' := #[iv p1, iv p2, iv p3, iv p4, iv p5, iv uj, yc, iv ui, yd, iv um, iv ul, iv xa, iv xb, iv ya, iv yb, rv kb1_, ye, rv sb1_, yf, rv ax, rv ay, iv ve, iv (1 : Int32)]) rfl (XS.iload X58.here hx rfl (hb hby at_361) rfl (XS.ifNo X58.here hx rfl (hb hby at_363) rfl ((if0 _ _).trans (feq (by decide : ¬ ((1 : Int32) = (0 : Int32)))).1) k)))) ?_
        show own_GoW p e below s _ _ _ _ (T58.setTop (mkF m 366 #[iv p1, iv p2, iv p3, iv p4, iv p5, iv uj, yc, iv ui, yd, iv um, iv ul, iv xa, iv xb, iv ya, iv yb, rv kb1_, ye, rv sb1_, yf, rv ax, rv ay, iv ve, iv (1 : Int32)] []))
        refine own_goW (fun _ k => XS.aload X58.here hx rfl (hb hby at_366) rfl rfl (XS.aload X58.here hx rfl (hb hby at_368) rfl rfl k)) ?_
        obtain ⟨v61, T61, L61, X61, hQ61, st61⟩ := own_callV (y := own_y11) (z := own_y11) X58 hx hZ hown (ow53 hw) (ow54 hw) (notFace_of_selects (args := #[]) (mvT hZ (ow56 hw))) (ow56 hw) (ow55 hw) (ow35 hw) (ow57 hw) (rm_eqC l Z a0 hw hO [] ax kb1_ hs1 O0 (fp6.keep K1)) 0 0 0 (by show _ ≤ 32; omega) (by show _ ≤ 3200; omega) Kc59 (fp0.keep K1) (g := (mkF m 370 #[iv p1, iv p2, iv p3, iv p4, iv p5, iv uj, yc, iv ui, yd, iv um, iv ul, iv xa, iv xb, iv ya, iv yb, rv kb1_, ye, rv sb1_, yf, rv ax, rv ay, iv ve, iv (1 : Int32)] [(.ref kb1_), (.ref ax)])) rfl (by rw [hml]; rfl) [(.ref kb1_)] [] (lenOf own_pd_7 rfl) rfl rfl (hb hby at_370)
        obtain ⟨rfl, Nc63, Kc62⟩ := hQ61
        refine own_goW st61 ?_
        clear st61 X58 Kc59
        replace N0 := Fr.app N0 Nc63
        clear Nc63
        refine own_goW (fun _ k => XS.ifNo X61.here hx rfl (hb hby at_373) rfl ((if0 _ _).trans (teq (by decide : (0 : Int32) = (0 : Int32))).2) k) ?_
        show own_GoW p e below s _ _ _ _ (T61.setTop (mkF m 376 #[iv p1, iv p2, iv p3, iv p4, iv p5, iv uj, yc, iv ui, yd, iv um, iv ul, iv xa, iv xb, iv ya, iv yb, rv kb1_, ye, rv sb1_, yf, rv ax, rv ay, iv ve, iv (1 : Int32)] []))
        refine own_goW (fun _ k => XS.iconst X61.here hx rfl (hb hby at_376) (XS.goto X61.here hx rfl (pc0 := 377) (pc' := 381) rfl (hb hby at_377) (by decide) (by decide) (XS.istore X61.here hx rfl (hb hby at_381) rfl (l' := #[iv p1, iv p2, iv p3, iv p4, iv p5, iv uj, yc, iv ui, yd, iv um, iv ul, iv xa, iv xb, iv ya, iv yb, rv kb1_, ye, rv sb1_, yf, rv ax, rv ay, iv ve, iv (1 : Int32)]) rfl (XS.iload X61.here hx rfl (hb hby at_383) rfl k)))) ?_
        show own_GoW p e below s _ _ _ _ (T61.setTop (mkF m 385 #[iv p1, iv p2, iv p3, iv p4, iv p5, iv uj, yc, iv ui, yd, iv um, iv ul, iv xa, iv xb, iv ya, iv yb, rv kb1_, ye, rv sb1_, yf, rv ax, rv ay, iv ve, iv (1 : Int32)] [(.int (1 : Int32))]))
        refine own_retNW X61 hS hL hZ hJ hx hlk Kc62 (t := .boolean) hret (by simp) (hb hby at_385) (by show _ ≤ 32; omega) (by show _ ≤ 3200; omega) ?_
        exact ⟨rfl, N0, K0⟩
      · obtain ⟨rfl, Nc66, hp64, Kc65⟩ := hQ50
        refine own_goW st50 ?_
        clear st50 X42 Kc48
        replace N0 := Fr.app N0 Nc66
        clear Nc66
        exact absurd (rfl : kb1_ = kb1_) hp64
      · obtain ⟨rfl, Nc70, hp67, hp68, Kc69⟩ := hQ50
        refine own_goW st50 ?_
        clear st50 X42 Kc48
        replace N0 := Fr.app N0 Nc70
        clear Nc70
        exact absurd (rfl : (own_cn um xa xb) = (own_cn um xa xb)) hp68
    · obtain ⟨rfl, Nc74, hp71, hp72, Kc73⟩ := hQ42
      refine own_goW st42 ?_
      clear st42 X1 Kc40
      replace N0 := Fr.app N0 Nc74
      clear Nc74
      exact absurd hp71 (fun q => hp39 q.symm)
  · obtain ⟨rfl, Nc78, hp75, hp76, Kc77⟩ := hQ1
    refine own_goW st1 ?_
    clear st1 X0 e0
    replace N0 := Fr.app N0 Nc78
    clear Nc78
    show own_GoW p e below s _ _ _ _ (T1.setTop (mkF m 260 #[iv p1, iv p2, iv p3, iv p4, iv p5, iv uj, yc, iv ui, yd, iv um, iv ul, iv xa, iv xb, iv ya, iv yb, rv kb1_, ye, rv sb1_, yf, rv ax, rv ay, iv ve, .unset] [(.int (0 : Int32))]))
    refine own_goW (fun _ k => XS.iload X1.here hx rfl (hb hby at_260) rfl (XS.icmpNo X1.here hx rfl (hb hby at_262) rfl (teq (own_B0 hve (fun h => hp76 h.2)).symm).2 (XS.iconst X1.here hx rfl (hb hby at_265) (XS.goto X1.here hx rfl (pc0 := 266) (pc' := 270) rfl (hb hby at_266) (by decide) (by decide) k)))) ?_
    show own_GoW p e below s _ _ _ _ (T1.setTop (mkF m 270 #[iv p1, iv p2, iv p3, iv p4, iv p5, iv uj, yc, iv ui, yd, iv um, iv ul, iv xa, iv xb, iv ya, iv yb, rv kb1_, ye, rv sb1_, yf, rv ax, rv ay, iv ve, .unset] [(.int (1 : Int32))]))
    refine own_goW (fun _ k => XS.istore X1.here hx rfl (hb hby at_270) rfl (l' := #[iv p1, iv p2, iv p3, iv p4, iv p5, iv uj, yc, iv ui, yd, iv um, iv ul, iv xa, iv xb, iv ya, iv yb, rv kb1_, ye, rv sb1_, yf, rv ax, rv ay, iv ve, iv (1 : Int32)]) rfl (XS.iload X1.here hx rfl (hb hby at_272) rfl (XS.ifNo X1.here hx rfl (hb hby at_274) rfl ((if0 _ _).trans (feq (by decide : ¬ ((1 : Int32) = (0 : Int32)))).1) (XS.aload X1.here hx rfl (hb hby at_277) rfl rfl k)))) ?_
    show own_GoW p e below s _ _ _ _ (T1.setTop (mkF m 279 #[iv p1, iv p2, iv p3, iv p4, iv p5, iv uj, yc, iv ui, yd, iv um, iv ul, iv xa, iv xb, iv ya, iv yb, rv kb1_, ye, rv sb1_, yf, rv ax, rv ay, iv ve, iv (1 : Int32)] [(.ref ay)]))
    refine own_goW (fun _ k => XS.aload X1.here hx rfl (hb hby at_279) rfl rfl k) ?_
    obtain ⟨v79, T79, L79, X79, hQ79, st79⟩ := own_callV (y := own_y11) (z := own_y11) X1 hx hZ hown (ow53 hw) (ow54 hw) (notFace_of_selects (args := #[]) (mvT hZ (ow56 hw))) (ow56 hw) (ow55 hw) (ow35 hw) (ow57 hw) (rm_eqA l Z a0 hw hO [] ay ax kb2_ kb1_ sb2_ sb1_ (own_cn ul ya yb) (own_cn um xa xb) hs1 O0 (fp3.keep K1) (fp4.keep K1 nin0) (fp5.keep K1 nin0) (fp0.keep K1) (fp1.keep K1 nin0) (fp2.keep K1 nin0) (fp8.keep K1) (fp7.keep K1) (own_SlKeep fp10 K1 all0) (own_SlKeep fp9 K1 all0)) 0 0 0 (by show _ ≤ 32; omega) (by show _ ≤ 3200; omega) Kc77 (fp3.keep K1) (g := (mkF m 281 #[iv p1, iv p2, iv p3, iv p4, iv p5, iv uj, yc, iv ui, yd, iv um, iv ul, iv xa, iv xb, iv ya, iv yb, rv kb1_, ye, rv sb1_, yf, rv ax, rv ay, iv ve, iv (1 : Int32)] [(.ref ax), (.ref ay)])) rfl (by rw [hml]; rfl) [(.ref ax)] [] (lenOf own_pd_7 rfl) rfl rfl (hb hby at_281)
    rcases hQ79 with hQ79 | hQ79 | hQ79
    · obtain ⟨rfl, Nc83, hp80, hp81, Kc82⟩ := hQ79
      refine own_goW st79 ?_
      clear st79 X1 Kc77
      replace N0 := Fr.app N0 Nc83
      clear Nc83
      exact absurd hp81 (fun q => hp76 q.symm)
    · obtain ⟨rfl, Nc86, hp84, Kc85⟩ := hQ79
      refine own_goW st79 ?_
      clear st79 X1 Kc77
      replace N0 := Fr.app N0 Nc86
      clear Nc86
      exact absurd (Eq.symm hp75) hp84
    · obtain ⟨rfl, Nc90, hp87, hp88, Kc89⟩ := hQ79
      refine own_goW st79 ?_
      clear st79 X1 Kc77
      replace N0 := Fr.app N0 Nc90
      clear Nc90
      show own_GoW p e below s _ _ _ _ (T79.setTop (mkF m 284 #[iv p1, iv p2, iv p3, iv p4, iv p5, iv uj, yc, iv ui, yd, iv um, iv ul, iv xa, iv xb, iv ya, iv yb, rv kb1_, ye, rv sb1_, yf, rv ax, rv ay, iv ve, iv (1 : Int32)] [(.int (0 : Int32))]))
      refine own_goW (fun _ k => XS.iload X79.here hx rfl (hb hby at_284) rfl (XS.icmpNo X79.here hx rfl (hb hby at_286) rfl (teq (own_B0 hve (fun h => hp76 h.2)).symm).2 (XS.iconst X79.here hx rfl (hb hby at_289) (XS.goto X79.here hx rfl (pc0 := 290) (pc' := 294) rfl (hb hby at_290) (by decide) (by decide) k)))) ?_
      show own_GoW p e below s _ _ _ _ (T79.setTop (mkF m 294 #[iv p1, iv p2, iv p3, iv p4, iv p5, iv uj, yc, iv ui, yd, iv um, iv ul, iv xa, iv xb, iv ya, iv yb, rv kb1_, ye, rv sb1_, yf, rv ax, rv ay, iv ve, iv (1 : Int32)] [(.int (1 : Int32))]))
      refine own_goW (fun _ k => XS.istore X79.here hx rfl (hb hby at_294) rfl (l' := #[iv p1, iv p2, iv p3, iv p4, iv p5, iv uj, yc, iv ui, yd, iv um, iv ul, iv xa, iv xb, iv ya, iv yb, rv kb1_, ye, rv sb1_, yf, rv ax, rv ay, iv ve, iv (1 : Int32)]) rfl (XS.iload X79.here hx rfl (hb hby at_296) rfl (XS.ifNo X79.here hx rfl (hb hby at_298) rfl ((if0 _ _).trans (feq (by decide : ¬ ((1 : Int32) = (0 : Int32)))).1) (XS.aload X79.here hx rfl (hb hby at_301) rfl rfl k)))) ?_
      show own_GoW p e below s _ _ _ _ (T79.setTop (mkF m 303 #[iv p1, iv p2, iv p3, iv p4, iv p5, iv uj, yc, iv ui, yd, iv um, iv ul, iv xa, iv xb, iv ya, iv yb, rv kb1_, ye, rv sb1_, yf, rv ax, rv ay, iv ve, iv (1 : Int32)] [(.ref ax)]))
      refine own_goW (fun _ k => XS.aload X79.here hx rfl (hb hby at_303) rfl rfl k) ?_
      obtain ⟨v91, T91, L91, X91, hQ91, st91⟩ := own_callV (y := own_y11) (z := own_y11) X79 hx hZ hown (ow53 hw) (ow54 hw) (notFace_of_selects (args := #[]) (mvT hZ (ow56 hw))) (ow56 hw) (ow55 hw) (ow35 hw) (ow57 hw) (rm_eqA l Z a0 hw hO [] ax ax kb1_ kb1_ sb1_ sb1_ (own_cn um xa xb) (own_cn um xa xb) hs1 O0 (fp0.keep K1) (fp1.keep K1 nin0) (fp2.keep K1 nin0) (fp0.keep K1) (fp1.keep K1 nin0) (fp2.keep K1 nin0) (fp7.keep K1) (fp7.keep K1) (own_SlKeep fp9 K1 all0) (own_SlKeep fp9 K1 all0)) 0 0 0 (by show _ ≤ 32; omega) (by show _ ≤ 3200; omega) Kc89 (fp0.keep K1) (g := (mkF m 305 #[iv p1, iv p2, iv p3, iv p4, iv p5, iv uj, yc, iv ui, yd, iv um, iv ul, iv xa, iv xb, iv ya, iv yb, rv kb1_, ye, rv sb1_, yf, rv ax, rv ay, iv ve, iv (1 : Int32)] [(.ref ax), (.ref ax)])) rfl (by rw [hml]; rfl) [(.ref ax)] [] (lenOf own_pd_7 rfl) rfl rfl (hb hby at_305)
      rcases hQ91 with hQ91 | hQ91 | hQ91
      · obtain ⟨rfl, Nc95, hp92, hp93, Kc94⟩ := hQ91
        refine own_goW st91 ?_
        clear st91 X79 Kc89
        replace N0 := Fr.app N0 Nc95
        clear Nc95
        show own_GoW p e below s _ _ _ _ (T91.setTop (mkF m 308 #[iv p1, iv p2, iv p3, iv p4, iv p5, iv uj, yc, iv ui, yd, iv um, iv ul, iv xa, iv xb, iv ya, iv yb, rv kb1_, ye, rv sb1_, yf, rv ax, rv ay, iv ve, iv (1 : Int32)] [(.int (1 : Int32))]))
        refine own_goW (fun _ k => XS.ifNo X91.here hx rfl (hb hby at_308) rfl ((if0 _ _).trans (feq (by decide : ¬ ((1 : Int32) = (0 : Int32)))).1) (XS.iconst X91.here hx rfl (hb hby at_311) (XS.goto X91.here hx rfl (pc0 := 312) (pc' := 316) rfl (hb hby at_312) (by decide) (by decide) (XS.istore X91.here hx rfl (hb hby at_316) rfl (l' := #[iv p1, iv p2, iv p3, iv p4, iv p5, iv uj, yc, iv ui, yd, iv um, iv ul, iv xa, iv xb, iv ya, iv yb, rv kb1_, ye, rv sb1_, yf, rv ax, rv ay, iv ve, iv (1 : Int32)]) rfl k)))) ?_
        show own_GoW p e below s _ _ _ _ (T91.setTop (mkF m 318 #[iv p1, iv p2, iv p3, iv p4, iv p5, iv uj, yc, iv ui, yd, iv um, iv ul, iv xa, iv xb, iv ya, iv yb, rv kb1_, ye, rv sb1_, yf, rv ax, rv ay, iv ve, iv (1 : Int32)] []))
        refine own_goW (fun _ k => XS.iload X91.here hx rfl (hb hby at_318) rfl (XS.ifNo X91.here hx rfl (hb hby at_320) rfl ((if0 _ _).trans (feq (by decide : ¬ ((1 : Int32) = (0 : Int32)))).1) (XS.aload X91.here hx rfl (hb hby at_323) rfl rfl (XS.aconstNull X91.here hx rfl (hb hby at_325) k)))) ?_
        show own_GoW p e below s _ _ _ _ (T91.setTop (mkF m 326 #[iv p1, iv p2, iv p3, iv p4, iv p5, iv uj, yc, iv ui, yd, iv um, iv ul, iv xa, iv xb, iv ya, iv yb, rv kb1_, ye, rv sb1_, yf, rv ax, rv ay, iv ve, iv (1 : Int32)] [.null, (.ref ax)]))
        obtain ⟨v96, T96, L96, X96, hQ96, st96⟩ := own_callV (y := own_y11) (z := own_y11) X91 hx hZ hown (ow53 hw) (ow54 hw) (notFace_of_selects (args := #[]) (mvT hZ (ow56 hw))) (ow56 hw) (ow55 hw) (ow35 hw) (ow57 hw) (rm_eqN l Z a0 hw hO [] ax hs1 O0) 0 0 0 (by show _ ≤ 32; omega) (by show _ ≤ 3200; omega) Kc94 (fp0.keep K1) (g := (mkF m 326 #[iv p1, iv p2, iv p3, iv p4, iv p5, iv uj, yc, iv ui, yd, iv um, iv ul, iv xa, iv xb, iv ya, iv yb, rv kb1_, ye, rv sb1_, yf, rv ax, rv ay, iv ve, iv (1 : Int32)] [.null, (.ref ax)])) rfl (by rw [hml]; rfl) [.null] [] (lenOf own_pd_7 rfl) rfl rfl (hb hby at_326)
        obtain ⟨rfl, Nc98, Kc97⟩ := hQ96
        refine own_goW st96 ?_
        clear st96 X91 Kc94
        replace N0 := Fr.app N0 Nc98
        clear Nc98
        refine own_goW (fun _ k => XS.ifNo X96.here hx rfl (hb hby at_329) rfl ((if0 _ _).trans (teq (by decide : (0 : Int32) = (0 : Int32))).2) (XS.iconst X96.here hx rfl (hb hby at_332) (XS.goto X96.here hx rfl (pc0 := 333) (pc' := 337) rfl (hb hby at_333) (by decide) (by decide) k))) ?_
        show own_GoW p e below s _ _ _ _ (T96.setTop (mkF m 337 #[iv p1, iv p2, iv p3, iv p4, iv p5, iv uj, yc, iv ui, yd, iv um, iv ul, iv xa, iv xb, iv ya, iv yb, rv kb1_, ye, rv sb1_, yf, rv ax, rv ay, iv ve, iv (1 : Int32)] [(.int (1 : Int32))]))
        refine own_goW (fun _ k => XS.istore X96.here hx rfl (hb hby at_337) rfl (l' := #[iv p1, iv p2, iv p3, iv p4, iv p5, iv uj, yc, iv ui, yd, iv um, iv ul, iv xa, iv xb, iv ya, iv yb, rv kb1_, ye, rv sb1_, yf, rv ax, rv ay, iv ve, iv (1 : Int32)]) rfl (XS.iload X96.here hx rfl (hb hby at_339) rfl (XS.ifNo X96.here hx rfl (hb hby at_341) rfl ((if0 _ _).trans (feq (by decide : ¬ ((1 : Int32) = (0 : Int32)))).1) (XS.aload X96.here hx rfl (hb hby at_344) rfl rfl k)))) ?_
        show own_GoW p e below s _ _ _ _ (T96.setTop (mkF m 346 #[iv p1, iv p2, iv p3, iv p4, iv p5, iv uj, yc, iv ui, yd, iv um, iv ul, iv xa, iv xb, iv ya, iv yb, rv kb1_, ye, rv sb1_, yf, rv ax, rv ay, iv ve, iv (1 : Int32)] [(.ref ax)]))
        refine own_goW (fun _ k => XS.aload X96.here hx rfl (hb hby at_346) rfl rfl k) ?_
        obtain ⟨v99, T99, L99, X99, hQ99, st99⟩ := own_callV (y := own_y11) (z := own_y11) X96 hx hZ hown (ow53 hw) (ow54 hw) (notFace_of_selects (args := #[]) (mvT hZ (ow56 hw))) (ow56 hw) (ow55 hw) (ow35 hw) (ow57 hw) (rm_eqS l Z a0 hw hO [] ax sb1_ hs1 O0 (fp7.keep K1)) 0 0 0 (by show _ ≤ 32; omega) (by show _ ≤ 3200; omega) Kc97 (fp0.keep K1) (g := (mkF m 348 #[iv p1, iv p2, iv p3, iv p4, iv p5, iv uj, yc, iv ui, yd, iv um, iv ul, iv xa, iv xb, iv ya, iv yb, rv kb1_, ye, rv sb1_, yf, rv ax, rv ay, iv ve, iv (1 : Int32)] [(.ref sb1_), (.ref ax)])) rfl (by rw [hml]; rfl) [(.ref sb1_)] [] (lenOf own_pd_7 rfl) rfl rfl (hb hby at_348)
        obtain ⟨rfl, Nc101, Kc100⟩ := hQ99
        refine own_goW st99 ?_
        clear st99 X96 Kc97
        replace N0 := Fr.app N0 Nc101
        clear Nc101
        refine own_goW (fun _ k => XS.ifNo X99.here hx rfl (hb hby at_351) rfl ((if0 _ _).trans (teq (by decide : (0 : Int32) = (0 : Int32))).2) (XS.iconst X99.here hx rfl (hb hby at_354) k)) ?_
        show own_GoW p e below s _ _ _ _ (T99.setTop (mkF m 355 #[iv p1, iv p2, iv p3, iv p4, iv p5, iv uj, yc, iv ui, yd, iv um, iv ul, iv xa, iv xb, iv ya, iv yb, rv kb1_, ye, rv sb1_, yf, rv ax, rv ay, iv ve, iv (1 : Int32)] [(.int (1 : Int32))]))
        refine own_goW (fun _ k => XS.goto X99.here hx rfl (pc0 := 355) (pc' := 359) rfl (hb hby at_355) (by decide) (by decide) (XS.istore X99.here hx rfl (hb hby at_359) rfl (l' := #[iv p1, iv p2, iv p3, iv p4, iv p5, iv uj, yc, iv ui, yd, iv um, iv ul, iv xa, iv xb, iv ya, iv yb, rv kb1_, ye, rv sb1_, yf, rv ax, rv ay, iv ve, iv (1 : Int32)]) rfl (XS.iload X99.here hx rfl (hb hby at_361) rfl (XS.ifNo X99.here hx rfl (hb hby at_363) rfl ((if0 _ _).trans (feq (by decide : ¬ ((1 : Int32) = (0 : Int32)))).1) k)))) ?_
        show own_GoW p e below s _ _ _ _ (T99.setTop (mkF m 366 #[iv p1, iv p2, iv p3, iv p4, iv p5, iv uj, yc, iv ui, yd, iv um, iv ul, iv xa, iv xb, iv ya, iv yb, rv kb1_, ye, rv sb1_, yf, rv ax, rv ay, iv ve, iv (1 : Int32)] []))
        refine own_goW (fun _ k => XS.aload X99.here hx rfl (hb hby at_366) rfl rfl (XS.aload X99.here hx rfl (hb hby at_368) rfl rfl k)) ?_
        obtain ⟨v102, T102, L102, X102, hQ102, st102⟩ := own_callV (y := own_y11) (z := own_y11) X99 hx hZ hown (ow53 hw) (ow54 hw) (notFace_of_selects (args := #[]) (mvT hZ (ow56 hw))) (ow56 hw) (ow55 hw) (ow35 hw) (ow57 hw) (rm_eqC l Z a0 hw hO [] ax kb1_ hs1 O0 (fp6.keep K1)) 0 0 0 (by show _ ≤ 32; omega) (by show _ ≤ 3200; omega) Kc100 (fp0.keep K1) (g := (mkF m 370 #[iv p1, iv p2, iv p3, iv p4, iv p5, iv uj, yc, iv ui, yd, iv um, iv ul, iv xa, iv xb, iv ya, iv yb, rv kb1_, ye, rv sb1_, yf, rv ax, rv ay, iv ve, iv (1 : Int32)] [(.ref kb1_), (.ref ax)])) rfl (by rw [hml]; rfl) [(.ref kb1_)] [] (lenOf own_pd_7 rfl) rfl rfl (hb hby at_370)
        obtain ⟨rfl, Nc104, Kc103⟩ := hQ102
        refine own_goW st102 ?_
        clear st102 X99 Kc100
        replace N0 := Fr.app N0 Nc104
        clear Nc104
        refine own_goW (fun _ k => XS.ifNo X102.here hx rfl (hb hby at_373) rfl ((if0 _ _).trans (teq (by decide : (0 : Int32) = (0 : Int32))).2) k) ?_
        show own_GoW p e below s _ _ _ _ (T102.setTop (mkF m 376 #[iv p1, iv p2, iv p3, iv p4, iv p5, iv uj, yc, iv ui, yd, iv um, iv ul, iv xa, iv xb, iv ya, iv yb, rv kb1_, ye, rv sb1_, yf, rv ax, rv ay, iv ve, iv (1 : Int32)] []))
        refine own_goW (fun _ k => XS.iconst X102.here hx rfl (hb hby at_376) (XS.goto X102.here hx rfl (pc0 := 377) (pc' := 381) rfl (hb hby at_377) (by decide) (by decide) (XS.istore X102.here hx rfl (hb hby at_381) rfl (l' := #[iv p1, iv p2, iv p3, iv p4, iv p5, iv uj, yc, iv ui, yd, iv um, iv ul, iv xa, iv xb, iv ya, iv yb, rv kb1_, ye, rv sb1_, yf, rv ax, rv ay, iv ve, iv (1 : Int32)]) rfl (XS.iload X102.here hx rfl (hb hby at_383) rfl k)))) ?_
        show own_GoW p e below s _ _ _ _ (T102.setTop (mkF m 385 #[iv p1, iv p2, iv p3, iv p4, iv p5, iv uj, yc, iv ui, yd, iv um, iv ul, iv xa, iv xb, iv ya, iv yb, rv kb1_, ye, rv sb1_, yf, rv ax, rv ay, iv ve, iv (1 : Int32)] [(.int (1 : Int32))]))
        refine own_retNW X102 hS hL hZ hJ hx hlk Kc103 (t := .boolean) hret (by simp) (hb hby at_385) (by show _ ≤ 32; omega) (by show _ ≤ 3200; omega) ?_
        exact ⟨rfl, N0, K0⟩
      · obtain ⟨rfl, Nc107, hp105, Kc106⟩ := hQ91
        refine own_goW st91 ?_
        clear st91 X79 Kc89
        replace N0 := Fr.app N0 Nc107
        clear Nc107
        exact absurd (rfl : kb1_ = kb1_) hp105
      · obtain ⟨rfl, Nc111, hp108, hp109, Kc110⟩ := hQ91
        refine own_goW st91 ?_
        clear st91 X79 Kc89
        replace N0 := Fr.app N0 Nc111
        clear Nc111
        exact absurd (rfl : (own_cn um xa xb) = (own_cn um xa xb)) hp109
set_option maxRecDepth 65536 in
set_option maxHeartbeats 40000000 in
theorem sg_s142 {l : Launch} {Z : State} {a0 : Array Value} (hw : own_W Z a0) {zc : Int32} {ws0 : Addr} {ws1 : Addr} {ws2 : Addr} (hO : own_Olds Z zc ws0 ws1 ws2) {p : Program} {e : Env} {s : State} {vm0 : Vm} {m : MethodId} {args : Array Value} {below : List Frame} {meth : Method} {c : Code} {T : State} {locs : List Loc} {cells slots : Nat} (p1 : Int32) (p2 : Int32) (p3 : Int32) (p4 : Int32) (p5 : Int32) (uj : Int32) (ui : Int32) (um : Int32) (ul : Int32) (xa : Int32) (xb : Int32) (ya : Int32) (yb : Int32) (yc : Slot) (yd : Slot) (h0 hs1 : Heap)
    (X0 : Stand p l e room_1 (s.setVm vm0) m args below meth c T locs cells slots) (hS : s.Since vm0 hs1.size) (hL : own_L Z a0) (hJ : own_J Z vm0 hs1) (hx : p.tables.exec = Jvm.exec) (hby : c.code = code) (hml : c.maxLocals = 23) (hret : meth.sig.returnType = some .boolean) (hlk : meth.locks = false) (hZ : Z.Warmed39 (s.setVm vm0).vm) (hown : (s.setVm vm0).vm.findClass "com/example/ratification/ratification/model/AttributeEqualsPinLaw" = some m.cls) (hnm : meth.name = "law") (e0 : T.heap = hs1) (N0 : Fr Z.heap.size locs) (O0 : Ext Z.heap hs1) (K0 : Keep h0 hs1 []) (huj : own_V3 uj) (hui : own_V3 ui) (hum : own_V3 um) (hul : own_V3 ul) (hxa : own_C8 xa) (hxb : own_C8 xb) (hya : own_C8 ya) (hyb : own_C8 yb) (hcells : cells ≤ 0) (hslots : slots ≤ 0) :
    own_GoW p e below s Z (Q_law Z zc ws0 ws1 ws2 p1 p2 p3 p4 p5 h0) room_1.cells room_1.slots (T.setTop (mkF m 142 #[iv p1, iv p2, iv p3, iv p4, iv p5, iv uj, yc, iv ui, yd, iv um, iv ul, iv xa, iv xb, iv ya, .unset, .unset, .unset, .unset, .unset, .unset, .unset, .unset, .unset] [(.int yb)])) := by
  obtain ⟨oCS, oCz, oS0, oS1, oS2, oSE0, oSE1, oSE2, oN01, oN02, oN12⟩ := id hO
  have K1 := Keep.refl hs1 []
  show own_GoW p e below s _ _ _ _ (T.setTop (mkF m 142 #[iv p1, iv p2, iv p3, iv p4, iv p5, iv uj, yc, iv ui, yd, iv um, iv ul, iv xa, iv xb, iv ya, .unset, .unset, .unset, .unset, .unset, .unset, .unset, .unset, .unset] [(.int yb)]))
  refine own_goW (fun _ k => XS.istore X0.here hx rfl (hb hby at_142) rfl (l' := #[iv p1, iv p2, iv p3, iv p4, iv p5, iv uj, yc, iv ui, yd, iv um, iv ul, iv xa, iv xb, iv ya, iv yb, .unset, .unset, .unset, .unset, .unset, .unset, .unset, .unset]) rfl (XS.iload X0.here hx rfl (hb hby at_144) rfl k)) ?_
  obtain ⟨v112, T112, L112, X112, hQ112, st112⟩ := own_callS (y := own_y2) X0 hx hZ hown (ow1 hw) (ow2 hw) (ow3 hw) (ow4 hw) (rm_cat l Z a0 hw hO [] uj hs1 O0) 0 0 0 (by show _ ≤ 32; omega) (by show _ ≤ 3200; omega) e0 (g := (mkF m 146 #[iv p1, iv p2, iv p3, iv p4, iv p5, iv uj, yc, iv ui, yd, iv um, iv ul, iv xa, iv xb, iv ya, iv yb, .unset, .unset, .unset, .unset, .unset, .unset, .unset, .unset] [(.int uj)])) rfl (by rw [hml]; rfl) [(.int uj)] [] (lenOf own_pd_8 rfl) rfl rfl (hb hby at_146)
  obtain ⟨w113, rfl, Nc117, hp114, Kc116, f115⟩ := hQ112
  refine own_goW st112 ?_
  clear st112 X0 e0
  replace N0 := Fr.app N0 Nc117
  clear Nc117
  replace hS := own_since hS Kc116.1
  replace hJ := own_Jkeep hZ hJ Kc116 all0
  replace O0 := own_oldKeep O0 Kc116 all0
  replace K0 := K0.trans Kc116 all0
  replace K1 := K1.trans Kc116 all0
  clear Kc116
  refine own_goW (fun _ k => XS.astore X112.here hx rfl (hb hby at_149) rfl rfl (l' := #[iv p1, iv p2, iv p3, iv p4, iv p5, iv uj, yc, iv ui, yd, iv um, iv ul, iv xa, iv xb, iv ya, iv yb, rv w113, .unset, .unset, .unset, .unset, .unset, .unset, .unset]) rfl k) ?_
  show own_GoW p e below s _ _ _ _ (T112.setTop (mkF m 151 #[iv p1, iv p2, iv p3, iv p4, iv p5, iv uj, yc, iv ui, yd, iv um, iv ul, iv xa, iv xb, iv ya, iv yb, rv w113, .unset, .unset, .unset, .unset, .unset, .unset, .unset] []))
  refine own_goW (fun _ k => XS.iload X112.here hx rfl (hb hby at_151) rfl k) ?_
  obtain ⟨v118, T118, L118, X118, hQ118, st118⟩ := own_callS (y := own_y2) X112 hx hZ hown (ow1 hw) (ow2 hw) (ow3 hw) (ow4 hw) (rm_cat l Z a0 hw hO [] ui T112.heap O0) 0 0 0 (by show _ ≤ 32; omega) (by show _ ≤ 3200; omega) (rfl : T112.heap = T112.heap) (g := (mkF m 153 #[iv p1, iv p2, iv p3, iv p4, iv p5, iv uj, yc, iv ui, yd, iv um, iv ul, iv xa, iv xb, iv ya, iv yb, rv w113, .unset, .unset, .unset, .unset, .unset, .unset, .unset] [(.int ui)])) rfl (by rw [hml]; rfl) [(.int ui)] [] (lenOf own_pd_8 rfl) rfl rfl (hb hby at_153)
  obtain ⟨w119, rfl, Nc123, hp120, Kc122, f121⟩ := hQ118
  refine own_goW st118 ?_
  clear st118 X112
  replace N0 := Fr.app N0 Nc123
  clear Nc123
  replace hS := own_since hS Kc122.1
  replace hJ := own_Jkeep hZ hJ Kc122 all0
  replace f115 := f115.keep Kc122
  replace O0 := own_oldKeep O0 Kc122 all0
  replace K0 := K0.trans Kc122 all0
  replace K1 := K1.trans Kc122 all0
  clear Kc122
  refine own_goW (fun _ k => XS.astore X118.here hx rfl (hb hby at_156) rfl rfl (l' := #[iv p1, iv p2, iv p3, iv p4, iv p5, iv uj, yc, iv ui, yd, iv um, iv ul, iv xa, iv xb, iv ya, iv yb, rv w113, rv w119, .unset, .unset, .unset, .unset, .unset, .unset]) rfl (XS.iload X118.here hx rfl (hb hby at_158) rfl k)) ?_
  show own_GoW p e below s _ _ _ _ (T118.setTop (mkF m 160 #[iv p1, iv p2, iv p3, iv p4, iv p5, iv uj, yc, iv ui, yd, iv um, iv ul, iv xa, iv xb, iv ya, iv yb, rv w113, rv w119, .unset, .unset, .unset, .unset, .unset, .unset] [(.int um)]))
  refine own_goW (fun _ k => XS.iload X118.here hx rfl (hb hby at_160) rfl (XS.iload X118.here hx rfl (hb hby at_162) rfl k)) ?_
  obtain ⟨v124, T124, L124, X124, hSn, hZn, hownn, hQ124, hJn, st124⟩ := own_callSW (y := own_y7) X118 hS hL hJ hx hZ hown (ow8 hw) (ow9 hw) (ow3 hw) (ow10 hw) (rm_name l Z a0 hw hO [] um xa xb T118.heap O0 hxa hxb) 0 4 8 (by show _ ≤ 32; omega) (by show _ ≤ 3200; omega) (rfl : T118.heap = T118.heap) (g := (mkF m 164 #[iv p1, iv p2, iv p3, iv p4, iv p5, iv uj, yc, iv ui, yd, iv um, iv ul, iv xa, iv xb, iv ya, iv yb, rv w113, rv w119, .unset, .unset, .unset, .unset, .unset, .unset] [(.int xb), (.int xa), (.int um)])) rfl (by rw [hml]; rfl) [(.int um), (.int xa), (.int xb)] [] (lenOf own_pd_9 rfl) rfl rfl (hb hby at_164)
  replace hS := hSn
  replace hZ := hZn
  replace hown := hownn
  replace hJ := hJn
  clear hSn hZn hownn hJn
  obtain ⟨w125, rfl, Nc130, Kc129, hb126, f127, f128⟩ := hQ124
  refine own_goW st124 ?_
  clear st124 X118
  replace N0 := Fr.app N0 Nc130
  clear Nc130
  have ne131 : w113 ≠ w125 := Nat.ne_of_lt (Nat.lt_of_lt_of_le f115.lt hb126)
  have ne132 : w119 ≠ w125 := Nat.ne_of_lt (Nat.lt_of_lt_of_le f121.lt hb126)
  have big133 : Z.heap.size ≤ w125 := Nat.le_trans O0.1 hb126
  have sz134 : h0.size ≤ w125 := Nat.le_trans K0.1 hb126
  have sz135 : hs1.size ≤ w125 := Nat.le_trans K1.1 hb126
  replace f115 := f115.keep Kc129
  replace f121 := f121.keep Kc129
  replace O0 := own_oldKeep O0 Kc129 all0
  replace K0 := K0.trans Kc129 all0
  replace K1 := K1.trans Kc129 all0
  clear Kc129
  refine own_goW (fun _ k => XS.astore X124.here hx rfl (hb hby at_167) rfl rfl (l' := #[iv p1, iv p2, iv p3, iv p4, iv p5, iv uj, yc, iv ui, yd, iv um, iv ul, iv xa, iv xb, iv ya, iv yb, rv w113, rv w119, rv w125, .unset, .unset, .unset, .unset, .unset]) rfl k) ?_
  show own_GoW p e below s _ _ _ _ (T124.setTop (mkF m 169 #[iv p1, iv p2, iv p3, iv p4, iv p5, iv uj, yc, iv ui, yd, iv um, iv ul, iv xa, iv xb, iv ya, iv yb, rv w113, rv w119, rv w125, .unset, .unset, .unset, .unset, .unset] []))
  refine own_goW (fun _ k => XS.iload X124.here hx rfl (hb hby at_169) rfl (XS.iload X124.here hx rfl (hb hby at_171) rfl (XS.iload X124.here hx rfl (hb hby at_173) rfl k))) ?_
  obtain ⟨v136, T136, L136, X136, hSn, hZn, hownn, hQ136, hJn, st136⟩ := own_callSW (y := own_y7) X124 hS hL hJ hx hZ hown (ow8 hw) (ow9 hw) (ow3 hw) (ow10 hw) (rm_name l Z a0 hw hO [] ul ya yb T124.heap O0 hya hyb) 0 4 8 (by show _ ≤ 32; omega) (by show _ ≤ 3200; omega) (rfl : T124.heap = T124.heap) (g := (mkF m 175 #[iv p1, iv p2, iv p3, iv p4, iv p5, iv uj, yc, iv ui, yd, iv um, iv ul, iv xa, iv xb, iv ya, iv yb, rv w113, rv w119, rv w125, .unset, .unset, .unset, .unset, .unset] [(.int yb), (.int ya), (.int ul)])) rfl (by rw [hml]; rfl) [(.int ul), (.int ya), (.int yb)] [] (lenOf own_pd_9 rfl) rfl rfl (hb hby at_175)
  replace hS := hSn
  replace hZ := hZn
  replace hown := hownn
  replace hJ := hJn
  clear hSn hZn hownn hJn
  obtain ⟨w137, rfl, Nc142, Kc141, hb138, f139, f140⟩ := hQ136
  refine own_goW st136 ?_
  clear st136 X124
  replace N0 := Fr.app N0 Nc142
  clear Nc142
  have ne143 : w113 ≠ w137 := Nat.ne_of_lt (Nat.lt_of_lt_of_le f115.lt hb138)
  have ne144 : w119 ≠ w137 := Nat.ne_of_lt (Nat.lt_of_lt_of_le f121.lt hb138)
  have ne145 : w125 ≠ w137 := Nat.ne_of_lt (Nat.lt_of_lt_of_le f127.lt hb138)
  have big146 : Z.heap.size ≤ w137 := Nat.le_trans O0.1 hb138
  have sz147 : h0.size ≤ w137 := Nat.le_trans K0.1 hb138
  have sz148 : hs1.size ≤ w137 := Nat.le_trans K1.1 hb138
  replace f128 := (own_SlKeep f128 Kc141 all0)
  replace f115 := f115.keep Kc141
  replace f121 := f121.keep Kc141
  replace f127 := f127.keep Kc141
  replace O0 := own_oldKeep O0 Kc141 all0
  replace K0 := K0.trans Kc141 all0
  replace K1 := K1.trans Kc141 all0
  clear Kc141
  show own_GoW p e below s _ _ _ _ (T136.setTop (mkF m 178 #[iv p1, iv p2, iv p3, iv p4, iv p5, iv uj, yc, iv ui, yd, iv um, iv ul, iv xa, iv xb, iv ya, iv yb, rv w113, rv w119, rv w125, .unset, .unset, .unset, .unset, .unset] [(.ref w137)]))
  refine own_goW (fun _ k => XS.astore X136.here hx rfl (hb hby at_178) rfl rfl (l' := #[iv p1, iv p2, iv p3, iv p4, iv p5, iv uj, yc, iv ui, yd, iv um, iv ul, iv xa, iv xb, iv ya, iv yb, rv w113, rv w119, rv w125, rv w137, .unset, .unset, .unset, .unset]) rfl k) ?_
  obtain ⟨T149, h149, X149, e149, E149, A149, D149, -, st149⟩ := newO X136 hx hZ hown (ow33 hw) (ow34 hw) (ow35 hw) (rfl : T136.heap = T136.heap) (g := (mkF m 180 #[iv p1, iv p2, iv p3, iv p4, iv p5, iv uj, yc, iv ui, yd, iv um, iv ul, iv xa, iv xb, iv ya, iv yb, rv w113, rv w119, rv w125, rv w137, .unset, .unset, .unset, .unset] [])) rfl (hb hby at_180) (by show _ ≤ 32; omega) (by show _ ≤ 3200; omega)
  obtain ⟨b149, g149⟩ : ∃ z, z = T136.heap.size := ⟨_, rfl⟩
  rw [← g149] at A149 D149 st149
  refine own_goW st149 ?_
  clear st149 X136
  have ge149 := Nat.le_of_eq g149.symm
  have ne150 : w113 ≠ b149 := Nat.ne_of_lt (Nat.lt_of_lt_of_le f115.lt ge149)
  have ne151 : w119 ≠ b149 := Nat.ne_of_lt (Nat.lt_of_lt_of_le f121.lt ge149)
  have ne152 : w125 ≠ b149 := Nat.ne_of_lt (Nat.lt_of_lt_of_le f127.lt ge149)
  have ne153 : w137 ≠ b149 := Nat.ne_of_lt (Nat.lt_of_lt_of_le f139.lt ge149)
  have big154 : Z.heap.size ≤ b149 := Nat.le_trans O0.1 ge149
  have sz155 : h0.size ≤ b149 := Nat.le_trans K0.1 ge149
  have sz156 : hs1.size ≤ b149 := Nat.le_trans K1.1 ge149
  replace f128 := own_SlExt f128 E149
  replace f115 := f115.ext E149
  replace f121 := f121.ext E149
  replace f127 := f127.ext E149
  replace f139 := f139.ext E149
  replace f140 := own_SlExt f140 E149
  replace O0 := own_oldExt O0 E149
  replace K0 := K0.ext E149
  replace K1 := K1.ext E149
  replace hS := own_since hS E149.1
  replace hJ := own_Jext hJ E149
  clear E149
  have f157 : Fld Z h149 b149 "com/example/ratification/ratification/model/Attribute" "category" "Lcom/example/ratification/ratification/model/Category;" .null := D149 (Or.inr (ow48 hw)) (ty := (.object "com/example/ratification/ratification/model/Category")) own_fd2
  have f158 : Fld Z h149 b149 "com/example/ratification/ratification/model/Attribute" "name" "Ljava/lang/String;" .null := D149 (Or.inr (ow52 hw)) (ty := (.object "java/lang/String")) own_fd3
  refine own_goW (fun _ k => XS.dup X149.here hx rfl (hb hby at_183) rfl rfl (XS.aload X149.here hx rfl (hb hby at_184) rfl rfl k)) ?_
  show own_GoW p e below s _ _ _ _ (T149.setTop (mkF m 186 #[iv p1, iv p2, iv p3, iv p4, iv p5, iv uj, yc, iv ui, yd, iv um, iv ul, iv xa, iv xb, iv ya, iv yb, rv w113, rv w119, rv w125, rv w137, .unset, .unset, .unset, .unset] [(.ref w113), (.ref b149), (.ref b149)]))
  refine own_goW (fun _ k => XS.aload X149.here hx rfl (hb hby at_186) rfl rfl k) ?_
  obtain ⟨v159, T159, L159, X159, hSn, hZn, hownn, hQ159, hJn, st159⟩ := own_callIW (y := own_y9) X149 hS hL hJ hx hZ hown (ow36 hw) (ow37 hw) (ow35 hw) (ow38 hw) (rm_ainit l Z a0 hw hO [] b149 w113 w125 h149 O0 A149 f157 f158 f115 f127 big154) 1 4 56 rfl (by show _ ≤ 32; omega) (by show _ ≤ 3200; omega) e149 (g := (mkF m 188 #[iv p1, iv p2, iv p3, iv p4, iv p5, iv uj, yc, iv ui, yd, iv um, iv ul, iv xa, iv xb, iv ya, iv yb, rv w113, rv w119, rv w125, rv w137, .unset, .unset, .unset, .unset] [(.ref w125), (.ref w113), (.ref b149), (.ref b149)])) rfl (by rw [hml]; rfl) b149 [(.ref w113), (.ref w125)] [(.ref b149)] (lenOf own_pd_10 rfl) rfl rfl (hb hby at_188)
  replace hS := hSn
  replace hZ := hZn
  replace hown := hownn
  replace hJ := hJn
  clear hSn hZn hownn hJn
  obtain ⟨rfl, Nc164, Kc163, f160, f161, f162⟩ := hQ159
  refine own_goW st159 ?_
  clear st159 X149 e149
  replace N0 := Fr.app N0 Nc164
  clear Nc164
  replace f128 := (own_SlKeep f128 Kc163 (allS (own_afE A149 (by decide) (ow34 hw)) all0))
  replace f140 := (own_SlKeep f140 Kc163 (allS (own_afE A149 (by decide) (ow34 hw)) all0))
  replace f115 := f115.keep Kc163
  replace f121 := f121.keep Kc163
  replace f127 := f127.keep Kc163
  replace f139 := f139.keep Kc163
  replace A149 := A149.keep Kc163
  clear f157
  clear f158
  replace O0 := own_oldKeep O0 Kc163 (allS big154 all0)
  replace K0 := K0.trans Kc163 (allS (Or.inr sz155) all0)
  replace K1 := K1.trans Kc163 (allS (Or.inr sz156) all0)
  clear Kc163
  refine own_goW (fun _ k => XS.astore X159.here hx rfl (hb hby at_191) rfl rfl (l' := #[iv p1, iv p2, iv p3, iv p4, iv p5, iv uj, yc, iv ui, yd, iv um, iv ul, iv xa, iv xb, iv ya, iv yb, rv w113, rv w119, rv w125, rv w137, rv b149, .unset, .unset, .unset]) rfl k) ?_
  obtain ⟨T165, h165, X165, e165, E165, A165, D165, -, st165⟩ := newO X159 hx hZ hown (ow33 hw) (ow34 hw) (ow35 hw) (rfl : T159.heap = T159.heap) (g := (mkF m 193 #[iv p1, iv p2, iv p3, iv p4, iv p5, iv uj, yc, iv ui, yd, iv um, iv ul, iv xa, iv xb, iv ya, iv yb, rv w113, rv w119, rv w125, rv w137, rv b149, .unset, .unset, .unset] [])) rfl (hb hby at_193) (by show _ ≤ 32; omega) (by show _ ≤ 3200; omega)
  obtain ⟨b165, g165⟩ : ∃ z, z = T159.heap.size := ⟨_, rfl⟩
  rw [← g165] at A165 D165 st165
  refine own_goW st165 ?_
  clear st165 X159
  have ge165 := Nat.le_of_eq g165.symm
  have ne166 : w113 ≠ b165 := Nat.ne_of_lt (Nat.lt_of_lt_of_le f115.lt ge165)
  have ne167 : w119 ≠ b165 := Nat.ne_of_lt (Nat.lt_of_lt_of_le f121.lt ge165)
  have ne168 : w125 ≠ b165 := Nat.ne_of_lt (Nat.lt_of_lt_of_le f127.lt ge165)
  have ne169 : w137 ≠ b165 := Nat.ne_of_lt (Nat.lt_of_lt_of_le f139.lt ge165)
  have ne170 : b149 ≠ b165 := Nat.ne_of_lt (Nat.lt_of_lt_of_le f160.lt ge165)
  have big171 : Z.heap.size ≤ b165 := Nat.le_trans O0.1 ge165
  have sz172 : h0.size ≤ b165 := Nat.le_trans K0.1 ge165
  have sz173 : hs1.size ≤ b165 := Nat.le_trans K1.1 ge165
  replace f128 := own_SlExt f128 E165
  replace f140 := own_SlExt f140 E165
  replace f115 := f115.ext E165
  replace f121 := f121.ext E165
  replace f127 := f127.ext E165
  replace f139 := f139.ext E165
  replace f160 := f160.ext E165
  replace f161 := f161.ext E165
  replace f162 := f162.ext E165
  replace O0 := own_oldExt O0 E165
  replace K0 := K0.ext E165
  replace K1 := K1.ext E165
  replace hS := own_since hS E165.1
  replace hJ := own_Jext hJ E165
  clear E165
  have f174 : Fld Z h165 b165 "com/example/ratification/ratification/model/Attribute" "category" "Lcom/example/ratification/ratification/model/Category;" .null := D165 (Or.inr (ow48 hw)) (ty := (.object "com/example/ratification/ratification/model/Category")) own_fd2
  have f175 : Fld Z h165 b165 "com/example/ratification/ratification/model/Attribute" "name" "Ljava/lang/String;" .null := D165 (Or.inr (ow52 hw)) (ty := (.object "java/lang/String")) own_fd3
  show own_GoW p e below s _ _ _ _ (T165.setTop (mkF m 196 #[iv p1, iv p2, iv p3, iv p4, iv p5, iv uj, yc, iv ui, yd, iv um, iv ul, iv xa, iv xb, iv ya, iv yb, rv w113, rv w119, rv w125, rv w137, rv b149, .unset, .unset, .unset] [(.ref b165)]))
  refine own_goW (fun _ k => XS.dup X165.here hx rfl (hb hby at_196) rfl rfl (XS.aload X165.here hx rfl (hb hby at_197) rfl rfl (XS.aload X165.here hx rfl (hb hby at_199) rfl rfl k))) ?_
  obtain ⟨v176, T176, L176, X176, hSn, hZn, hownn, hQ176, hJn, st176⟩ := own_callIW (y := own_y9) X165 hS hL hJ hx hZ hown (ow36 hw) (ow37 hw) (ow35 hw) (ow38 hw) (rm_ainit l Z a0 hw hO [] b165 w119 w137 h165 O0 A165 f174 f175 f121 f139 big171) 1 4 56 rfl (by show _ ≤ 32; omega) (by show _ ≤ 3200; omega) e165 (g := (mkF m 201 #[iv p1, iv p2, iv p3, iv p4, iv p5, iv uj, yc, iv ui, yd, iv um, iv ul, iv xa, iv xb, iv ya, iv yb, rv w113, rv w119, rv w125, rv w137, rv b149, .unset, .unset, .unset] [(.ref w137), (.ref w119), (.ref b165), (.ref b165)])) rfl (by rw [hml]; rfl) b165 [(.ref w119), (.ref w137)] [(.ref b165)] (lenOf own_pd_10 rfl) rfl rfl (hb hby at_201)
  replace hS := hSn
  replace hZ := hZn
  replace hown := hownn
  replace hJ := hJn
  clear hSn hZn hownn hJn
  obtain ⟨rfl, Nc181, Kc180, f177, f178, f179⟩ := hQ176
  refine own_goW st176 ?_
  clear st176 X165 e165
  replace N0 := Fr.app N0 Nc181
  clear Nc181
  replace f128 := (own_SlKeep f128 Kc180 (allS (own_afE A165 (by decide) (ow34 hw)) all0))
  replace f140 := (own_SlKeep f140 Kc180 (allS (own_afE A165 (by decide) (ow34 hw)) all0))
  replace f115 := f115.keep Kc180
  replace f121 := f121.keep Kc180
  replace f127 := f127.keep Kc180
  replace f139 := f139.keep Kc180
  replace f160 := f160.keep Kc180
  replace f161 := f161.keep Kc180 (ninS ne170 nin0)
  replace f162 := f162.keep Kc180 (ninS ne170 nin0)
  replace A165 := A165.keep Kc180
  clear f174
  clear f175
  replace O0 := own_oldKeep O0 Kc180 (allS big171 all0)
  replace K0 := K0.trans Kc180 (allS (Or.inr sz172) all0)
  replace K1 := K1.trans Kc180 (allS (Or.inr sz173) all0)
  clear Kc180
  show own_GoW p e below s _ _ _ _ (T176.setTop (mkF m 204 #[iv p1, iv p2, iv p3, iv p4, iv p5, iv uj, yc, iv ui, yd, iv um, iv ul, iv xa, iv xb, iv ya, iv yb, rv w113, rv w119, rv w125, rv w137, rv b149, .unset, .unset, .unset] [(.ref b165)]))
  refine own_goW (fun _ k => XS.astore X176.here hx rfl (hb hby at_204) rfl rfl (l' := #[iv p1, iv p2, iv p3, iv p4, iv p5, iv uj, yc, iv ui, yd, iv um, iv ul, iv xa, iv xb, iv ya, iv yb, rv w113, rv w119, rv w125, rv w137, rv b149, rv b165, .unset, .unset]) rfl (XS.iload X176.here hx rfl (hb hby at_206) rfl (XS.iload X176.here hx rfl (hb hby at_208) rfl k))) ?_
  by_cases hc182 : uj = ui
  · refine own_goW (fun _ k => XS.icmpNo X176.here hx rfl (hb hby at_210) rfl (teq hc182).2 k) ?_
    show own_GoW p e below s _ _ _ _ (T176.setTop (mkF m 213 #[iv p1, iv p2, iv p3, iv p4, iv p5, iv uj, yc, iv ui, yd, iv um, iv ul, iv xa, iv xb, iv ya, iv yb, rv w113, rv w119, rv w125, rv w137, rv b149, rv b165, .unset, .unset] []))
    refine own_goW (fun _ k => XS.iload X176.here hx rfl (hb hby at_213) rfl (XS.iload X176.here hx rfl (hb hby at_215) rfl k)) ?_
    by_cases hc183 : um = ul
    · refine own_goW (fun _ k => XS.icmpNo X176.here hx rfl (hb hby at_217) rfl (teq hc183).2 k) ?_
      show own_GoW p e below s _ _ _ _ (T176.setTop (mkF m 220 #[iv p1, iv p2, iv p3, iv p4, iv p5, iv uj, yc, iv ui, yd, iv um, iv ul, iv xa, iv xb, iv ya, iv yb, rv w113, rv w119, rv w125, rv w137, rv b149, rv b165, .unset, .unset] []))
      refine own_goW (fun _ k => XS.iload X176.here hx rfl (hb hby at_220) rfl (XS.iconst X176.here hx rfl (hb hby at_222) k)) ?_
      by_cases hc184 : um < (1 : Int32)
      · refine own_goW (fun _ k => XS.icmpYes X176.here hx rfl (pc0 := 223) (pc' := 233) rfl (hb hby at_223) rfl (tlt hc184).1 (by decide) (by decide) k) ?_
        show own_GoW p e below s _ _ _ _ (T176.setTop (mkF m 233 #[iv p1, iv p2, iv p3, iv p4, iv p5, iv uj, yc, iv ui, yd, iv um, iv ul, iv xa, iv xb, iv ya, iv yb, rv w113, rv w119, rv w125, rv w137, rv b149, rv b165, .unset, .unset] []))
        refine own_goW (fun _ k => XS.iload X176.here hx rfl (hb hby at_233) rfl (XS.iconst X176.here hx rfl (hb hby at_235) (XS.icmpYes X176.here hx rfl (pc0 := 236) (pc' := 246) rfl (hb hby at_236) rfl (tlt (own_ltT hc184 (by decide))).1 (by decide) (by decide) (XS.iconst X176.here hx rfl (hb hby at_246) k)))) ?_
        show own_GoW p e below s _ _ _ _ (T176.setTop (mkF m 247 #[iv p1, iv p2, iv p3, iv p4, iv p5, iv uj, yc, iv ui, yd, iv um, iv ul, iv xa, iv xb, iv ya, iv yb, rv w113, rv w119, rv w125, rv w137, rv b149, rv b165, .unset, .unset] [(.int (1 : Int32))]))
        refine own_goW (fun _ k => XS.goto X176.here hx rfl (pc0 := 247) (pc' := 251) rfl (hb hby at_247) (by decide) (by decide) k) ?_
        show own_GoW p e below s _ _ _ _ (T176.setTop (mkF m 251 #[iv p1, iv p2, iv p3, iv p4, iv p5, iv uj, yc, iv ui, yd, iv um, iv ul, iv xa, iv xb, iv ya, iv yb, rv w113, rv w119, rv w125, rv w137, rv b149, rv b165, .unset, .unset] [(.int (1 : Int32))]))
        exact sg_s251 hw hO p1 p2 p3 p4 p5 uj ui um ul xa xb ya yb (1 : Int32) (yc : Slot) (yd : Slot) (rv w119 : Slot) (rv w137 : Slot) w113 w119 w125 w137 b149 b165 h0 T176.heap X176 hS hL hJ hx hby hml hret hlk hZ hown hnm (rfl : T176.heap = T176.heap) N0 O0 K0 f160 f161 f162 f177 f178 f179 f115 f127 f139 f128 f140 huj hui hp114 hp120 (Or.inl ⟨rfl, hc182, own_cnT hum hc183 (Or.inl hc184) (Or.inl (own_ltT hc184 (by decide)))⟩) (by omega) (by omega)
      · refine own_goW (fun _ k => XS.icmpNo X176.here hx rfl (hb hby at_223) rfl (flt hc184).1 k) ?_
        show own_GoW p e below s _ _ _ _ (T176.setTop (mkF m 226 #[iv p1, iv p2, iv p3, iv p4, iv p5, iv uj, yc, iv ui, yd, iv um, iv ul, iv xa, iv xb, iv ya, iv yb, rv w113, rv w119, rv w125, rv w137, rv b149, rv b165, .unset, .unset] []))
        refine own_goW (fun _ k => XS.iload X176.here hx rfl (hb hby at_226) rfl (XS.iload X176.here hx rfl (hb hby at_228) rfl k)) ?_
        by_cases hc185 : xa = ya
        · refine own_goW (fun _ k => XS.icmpNo X176.here hx rfl (hb hby at_230) rfl (teq hc185).2 k) ?_
          show own_GoW p e below s _ _ _ _ (T176.setTop (mkF m 233 #[iv p1, iv p2, iv p3, iv p4, iv p5, iv uj, yc, iv ui, yd, iv um, iv ul, iv xa, iv xb, iv ya, iv yb, rv w113, rv w119, rv w125, rv w137, rv b149, rv b165, .unset, .unset] []))
          refine own_goW (fun _ k => XS.iload X176.here hx rfl (hb hby at_233) rfl (XS.iconst X176.here hx rfl (hb hby at_235) k)) ?_
          by_cases hc186 : um < (2 : Int32)
          · refine own_goW (fun _ k => XS.icmpYes X176.here hx rfl (pc0 := 236) (pc' := 246) rfl (hb hby at_236) rfl (tlt hc186).1 (by decide) (by decide) k) ?_
            show own_GoW p e below s _ _ _ _ (T176.setTop (mkF m 246 #[iv p1, iv p2, iv p3, iv p4, iv p5, iv uj, yc, iv ui, yd, iv um, iv ul, iv xa, iv xb, iv ya, iv yb, rv w113, rv w119, rv w125, rv w137, rv b149, rv b165, .unset, .unset] []))
            refine own_goW (fun _ k => XS.iconst X176.here hx rfl (hb hby at_246) (XS.goto X176.here hx rfl (pc0 := 247) (pc' := 251) rfl (hb hby at_247) (by decide) (by decide) k)) ?_
            show own_GoW p e below s _ _ _ _ (T176.setTop (mkF m 251 #[iv p1, iv p2, iv p3, iv p4, iv p5, iv uj, yc, iv ui, yd, iv um, iv ul, iv xa, iv xb, iv ya, iv yb, rv w113, rv w119, rv w125, rv w137, rv b149, rv b165, .unset, .unset] [(.int (1 : Int32))]))
            exact sg_s251 hw hO p1 p2 p3 p4 p5 uj ui um ul xa xb ya yb (1 : Int32) (yc : Slot) (yd : Slot) (rv w119 : Slot) (rv w137 : Slot) w113 w119 w125 w137 b149 b165 h0 T176.heap X176 hS hL hJ hx hby hml hret hlk hZ hown hnm (rfl : T176.heap = T176.heap) N0 O0 K0 f160 f161 f162 f177 f178 f179 f115 f127 f139 f128 f140 huj hui hp114 hp120 (Or.inl ⟨rfl, hc182, own_cnT hum hc183 (Or.inr hc185) (Or.inl hc186)⟩) (by omega) (by omega)
          · refine own_goW (fun _ k => XS.icmpNo X176.here hx rfl (hb hby at_236) rfl (flt hc186).1 k) ?_
            show own_GoW p e below s _ _ _ _ (T176.setTop (mkF m 239 #[iv p1, iv p2, iv p3, iv p4, iv p5, iv uj, yc, iv ui, yd, iv um, iv ul, iv xa, iv xb, iv ya, iv yb, rv w113, rv w119, rv w125, rv w137, rv b149, rv b165, .unset, .unset] []))
            refine own_goW (fun _ k => XS.iload X176.here hx rfl (hb hby at_239) rfl (XS.iload X176.here hx rfl (hb hby at_241) rfl k)) ?_
            by_cases hc187 : xb = yb
            · refine own_goW (fun _ k => XS.icmpNo X176.here hx rfl (hb hby at_243) rfl (teq hc187).2 k) ?_
              show own_GoW p e below s _ _ _ _ (T176.setTop (mkF m 246 #[iv p1, iv p2, iv p3, iv p4, iv p5, iv uj, yc, iv ui, yd, iv um, iv ul, iv xa, iv xb, iv ya, iv yb, rv w113, rv w119, rv w125, rv w137, rv b149, rv b165, .unset, .unset] []))
              refine own_goW (fun _ k => XS.iconst X176.here hx rfl (hb hby at_246) (XS.goto X176.here hx rfl (pc0 := 247) (pc' := 251) rfl (hb hby at_247) (by decide) (by decide) k)) ?_
              show own_GoW p e below s _ _ _ _ (T176.setTop (mkF m 251 #[iv p1, iv p2, iv p3, iv p4, iv p5, iv uj, yc, iv ui, yd, iv um, iv ul, iv xa, iv xb, iv ya, iv yb, rv w113, rv w119, rv w125, rv w137, rv b149, rv b165, .unset, .unset] [(.int (1 : Int32))]))
              exact sg_s251 hw hO p1 p2 p3 p4 p5 uj ui um ul xa xb ya yb (1 : Int32) (yc : Slot) (yd : Slot) (rv w119 : Slot) (rv w137 : Slot) w113 w119 w125 w137 b149 b165 h0 T176.heap X176 hS hL hJ hx hby hml hret hlk hZ hown hnm (rfl : T176.heap = T176.heap) N0 O0 K0 f160 f161 f162 f177 f178 f179 f115 f127 f139 f128 f140 huj hui hp114 hp120 (Or.inl ⟨rfl, hc182, own_cnT hum hc183 (Or.inr hc185) (Or.inr hc187)⟩) (by omega) (by omega)
            · refine own_goW (fun _ k => XS.icmpYes X176.here hx rfl (pc0 := 243) (pc' := 250) rfl (hb hby at_243) rfl (feq hc187).2 (by decide) (by decide) k) ?_
              show own_GoW p e below s _ _ _ _ (T176.setTop (mkF m 250 #[iv p1, iv p2, iv p3, iv p4, iv p5, iv uj, yc, iv ui, yd, iv um, iv ul, iv xa, iv xb, iv ya, iv yb, rv w113, rv w119, rv w125, rv w137, rv b149, rv b165, .unset, .unset] []))
              refine own_goW (fun _ k => XS.iconst X176.here hx rfl (hb hby at_250) k) ?_
              show own_GoW p e below s _ _ _ _ (T176.setTop (mkF m 251 #[iv p1, iv p2, iv p3, iv p4, iv p5, iv uj, yc, iv ui, yd, iv um, iv ul, iv xa, iv xb, iv ya, iv yb, rv w113, rv w119, rv w125, rv w137, rv b149, rv b165, .unset, .unset] [(.int (0 : Int32))]))
              exact sg_s251 hw hO p1 p2 p3 p4 p5 uj ui um ul xa xb ya yb (0 : Int32) (yc : Slot) (yd : Slot) (rv w119 : Slot) (rv w137 : Slot) w113 w119 w125 w137 b149 b165 h0 T176.heap X176 hS hL hJ hx hby hml hret hlk hZ hown hnm (rfl : T176.heap = T176.heap) N0 O0 K0 f160 f161 f162 f177 f178 f179 f115 f127 f139 f128 f140 huj hui hp114 hp120 (Or.inr ⟨rfl, fun h => own_cnB hc183 hc186 hc187 h.2⟩) (by omega) (by omega)
        · refine own_goW (fun _ k => XS.icmpYes X176.here hx rfl (pc0 := 230) (pc' := 250) rfl (hb hby at_230) rfl (feq hc185).2 (by decide) (by decide) k) ?_
          show own_GoW p e below s _ _ _ _ (T176.setTop (mkF m 250 #[iv p1, iv p2, iv p3, iv p4, iv p5, iv uj, yc, iv ui, yd, iv um, iv ul, iv xa, iv xb, iv ya, iv yb, rv w113, rv w119, rv w125, rv w137, rv b149, rv b165, .unset, .unset] []))
          refine own_goW (fun _ k => XS.iconst X176.here hx rfl (hb hby at_250) k) ?_
          show own_GoW p e below s _ _ _ _ (T176.setTop (mkF m 251 #[iv p1, iv p2, iv p3, iv p4, iv p5, iv uj, yc, iv ui, yd, iv um, iv ul, iv xa, iv xb, iv ya, iv yb, rv w113, rv w119, rv w125, rv w137, rv b149, rv b165, .unset, .unset] [(.int (0 : Int32))]))
          exact sg_s251 hw hO p1 p2 p3 p4 p5 uj ui um ul xa xb ya yb (0 : Int32) (yc : Slot) (yd : Slot) (rv w119 : Slot) (rv w137 : Slot) w113 w119 w125 w137 b149 b165 h0 T176.heap X176 hS hL hJ hx hby hml hret hlk hZ hown hnm (rfl : T176.heap = T176.heap) N0 O0 K0 f160 f161 f162 f177 f178 f179 f115 f127 f139 f128 f140 huj hui hp114 hp120 (Or.inr ⟨rfl, fun h => own_cnA hc183 hc184 hc185 h.2⟩) (by omega) (by omega)
    · refine own_goW (fun _ k => XS.icmpYes X176.here hx rfl (pc0 := 217) (pc' := 250) rfl (hb hby at_217) rfl (feq hc183).2 (by decide) (by decide) k) ?_
      show own_GoW p e below s _ _ _ _ (T176.setTop (mkF m 250 #[iv p1, iv p2, iv p3, iv p4, iv p5, iv uj, yc, iv ui, yd, iv um, iv ul, iv xa, iv xb, iv ya, iv yb, rv w113, rv w119, rv w125, rv w137, rv b149, rv b165, .unset, .unset] []))
      refine own_goW (fun _ k => XS.iconst X176.here hx rfl (hb hby at_250) k) ?_
      show own_GoW p e below s _ _ _ _ (T176.setTop (mkF m 251 #[iv p1, iv p2, iv p3, iv p4, iv p5, iv uj, yc, iv ui, yd, iv um, iv ul, iv xa, iv xb, iv ya, iv yb, rv w113, rv w119, rv w125, rv w137, rv b149, rv b165, .unset, .unset] [(.int (0 : Int32))]))
      exact sg_s251 hw hO p1 p2 p3 p4 p5 uj ui um ul xa xb ya yb (0 : Int32) (yc : Slot) (yd : Slot) (rv w119 : Slot) (rv w137 : Slot) w113 w119 w125 w137 b149 b165 h0 T176.heap X176 hS hL hJ hx hby hml hret hlk hZ hown hnm (rfl : T176.heap = T176.heap) N0 O0 K0 f160 f161 f162 f177 f178 f179 f115 f127 f139 f128 f140 huj hui hp114 hp120 (Or.inr ⟨rfl, fun h => own_cnL hum hul hc183 h.2⟩) (by omega) (by omega)
  · refine own_goW (fun _ k => XS.icmpYes X176.here hx rfl (pc0 := 210) (pc' := 250) rfl (hb hby at_210) rfl (feq hc182).2 (by decide) (by decide) k) ?_
    show own_GoW p e below s _ _ _ _ (T176.setTop (mkF m 250 #[iv p1, iv p2, iv p3, iv p4, iv p5, iv uj, yc, iv ui, yd, iv um, iv ul, iv xa, iv xb, iv ya, iv yb, rv w113, rv w119, rv w125, rv w137, rv b149, rv b165, .unset, .unset] []))
    refine own_goW (fun _ k => XS.iconst X176.here hx rfl (hb hby at_250) k) ?_
    show own_GoW p e below s _ _ _ _ (T176.setTop (mkF m 251 #[iv p1, iv p2, iv p3, iv p4, iv p5, iv uj, yc, iv ui, yd, iv um, iv ul, iv xa, iv xb, iv ya, iv yb, rv w113, rv w119, rv w125, rv w137, rv b149, rv b165, .unset, .unset] [(.int (0 : Int32))]))
    exact sg_s251 hw hO p1 p2 p3 p4 p5 uj ui um ul xa xb ya yb (0 : Int32) (yc : Slot) (yd : Slot) (rv w119 : Slot) (rv w137 : Slot) w113 w119 w125 w137 b149 b165 h0 T176.heap X176 hS hL hJ hx hby hml hret hlk hZ hown hnm (rfl : T176.heap = T176.heap) N0 O0 K0 f160 f161 f162 f177 f178 f179 f115 f127 f139 f128 f140 huj hui hp114 hp120 (Or.inr ⟨rfl, fun h => hc182 h.1⟩) (by omega) (by omega)
set_option maxRecDepth 65536 in
set_option maxHeartbeats 40000000 in
theorem sg_s121 {l : Launch} {Z : State} {a0 : Array Value} (hw : own_W Z a0) {zc : Int32} {ws0 : Addr} {ws1 : Addr} {ws2 : Addr} (hO : own_Olds Z zc ws0 ws1 ws2) {p : Program} {e : Env} {s : State} {vm0 : Vm} {m : MethodId} {args : Array Value} {below : List Frame} {meth : Method} {c : Code} {T : State} {locs : List Loc} {cells slots : Nat} (p1 : Int32) (p2 : Int32) (p3 : Int32) (p4 : Int32) (p5 : Int32) (uj : Int32) (ui : Int32) (un : Int32) (um : Int32) (ul : Int32) (xa : Int32) (xb : Int32) (ya : Int32) (yc : Slot) (h0 hs1 : Heap)
    (X0 : Stand p l e room_1 (s.setVm vm0) m args below meth c T locs cells slots) (hS : s.Since vm0 hs1.size) (hL : own_L Z a0) (hJ : own_J Z vm0 hs1) (hx : p.tables.exec = Jvm.exec) (hby : c.code = code) (hml : c.maxLocals = 23) (hret : meth.sig.returnType = some .boolean) (hlk : meth.locks = false) (hZ : Z.Warmed39 (s.setVm vm0).vm) (hown : (s.setVm vm0).vm.findClass "com/example/ratification/ratification/model/AttributeEqualsPinLaw" = some m.cls) (hnm : meth.name = "law") (e0 : T.heap = hs1) (N0 : Fr Z.heap.size locs) (O0 : Ext Z.heap hs1) (K0 : Keep h0 hs1 []) (huj : own_V3 uj) (hui : own_V3 ui) (hum : own_V3 um) (hul : own_V3 ul) (hxa : own_C8 xa) (hxb : own_C8 xb) (hya : own_C8 ya) (hcells : cells ≤ 0) (hslots : slots ≤ 0) :
    own_GoW p e below s Z (Q_law Z zc ws0 ws1 ws2 p1 p2 p3 p4 p5 h0) room_1.cells room_1.slots (T.setTop (mkF m 121 #[iv p1, iv p2, iv p3, iv p4, iv p5, iv uj, yc, iv ui, iv un, iv um, iv ul, iv xa, iv xb, .unset, .unset, .unset, .unset, .unset, .unset, .unset, .unset, .unset, .unset] [(.int ya)])) := by
  obtain ⟨oCS, oCz, oS0, oS1, oS2, oSE0, oSE1, oSE2, oN01, oN02, oN12⟩ := id hO
  have K1 := Keep.refl hs1 []
  show own_GoW p e below s _ _ _ _ (T.setTop (mkF m 121 #[iv p1, iv p2, iv p3, iv p4, iv p5, iv uj, yc, iv ui, iv un, iv um, iv ul, iv xa, iv xb, .unset, .unset, .unset, .unset, .unset, .unset, .unset, .unset, .unset, .unset] [(.int ya)]))
  refine own_goW (fun _ k => XS.istore X0.here hx rfl (hb hby at_121) rfl (l' := #[iv p1, iv p2, iv p3, iv p4, iv p5, iv uj, yc, iv ui, iv un, iv um, iv ul, iv xa, iv xb, iv ya, .unset, .unset, .unset, .unset, .unset, .unset, .unset, .unset, .unset]) rfl (XS.iload X0.here hx rfl (hb hby at_123) rfl k)) ?_
  by_cases hc188 : un = (0 : Int32)
  · refine own_goW (fun _ k => XS.ifYes X0.here hx rfl (pc0 := 125) (pc' := 133) rfl (hb hby at_125) rfl ((if0 _ _).trans (teq hc188).1) (by decide) (by decide) k) ?_
    show own_GoW p e below s _ _ _ _ (T.setTop (mkF m 133 #[iv p1, iv p2, iv p3, iv p4, iv p5, iv uj, yc, iv ui, iv un, iv um, iv ul, iv xa, iv xb, iv ya, .unset, .unset, .unset, .unset, .unset, .unset, .unset, .unset, .unset] []))
    refine own_goW (fun _ k => XS.iloadN X0.here hx rfl (hb hby at_133) rfl (XS.bipush X0.here hx rfl (hb hby at_134) (XS.iushr X0.here hx rfl (hb hby at_136) rfl (XS.sipush X0.here hx rfl (hb hby at_137) k)))) ?_
    show own_GoW p e below s _ _ _ _ (T.setTop (mkF m 140 #[iv p1, iv p2, iv p3, iv p4, iv p5, iv uj, yc, iv ui, iv un, iv um, iv ul, iv xa, iv xb, iv ya, .unset, .unset, .unset, .unset, .unset, .unset, .unset, .unset, .unset] [(.int (255 : Int32)), (.int ((p4.toUInt32 >>> ((8 : Int32) &&& 31).toUInt32).toInt32))]))
    refine own_goW (fun _ k => XS.iand X0.here hx rfl (hb hby at_140) rfl (XS.i2c X0.here hx rfl (hb hby at_141) rfl k)) ?_
    show own_GoW p e below s _ _ _ _ (T.setTop (mkF m 142 #[iv p1, iv p2, iv p3, iv p4, iv p5, iv uj, yc, iv ui, iv un, iv um, iv ul, iv xa, iv xb, iv ya, .unset, .unset, .unset, .unset, .unset, .unset, .unset, .unset, .unset] [(.int ((((p4.toUInt32 >>> ((8 : Int32) &&& 31).toUInt32).toInt32) &&& (255 : Int32)).toUInt32.toUInt16.toUInt32.toInt32))]))
    rw [i2c_mask ((p4.toUInt32 >>> ((8 : Int32) &&& 31).toUInt32).toInt32)]
    show own_GoW p e below s _ _ _ _ (T.setTop (mkF m 142 #[iv p1, iv p2, iv p3, iv p4, iv p5, iv uj, yc, iv ui, iv un, iv um, iv ul, iv xa, iv xb, iv ya, .unset, .unset, .unset, .unset, .unset, .unset, .unset, .unset, .unset] [(.int (((p4.toUInt32 >>> ((8 : Int32) &&& 31).toUInt32).toInt32) &&& (255 : Int32)))]))
    exact sg_s142 hw hO p1 p2 p3 p4 p5 uj ui um ul xa xb ya (((p4.toUInt32 >>> ((8 : Int32) &&& 31).toUInt32).toInt32) &&& (255 : Int32)) (yc : Slot) (iv un : Slot) h0 hs1 X0 hS hL hJ hx hby hml hret hlk hZ hown hnm e0 N0 O0 K0 huj hui hum hul hxa hxb hya (own_c8m ((p4.toUInt32 >>> ((8 : Int32) &&& 31).toUInt32).toInt32)) (by omega) (by omega)
  · refine own_goW (fun _ k => XS.ifNo X0.here hx rfl (hb hby at_125) rfl ((if0 _ _).trans (feq hc188).1) k) ?_
    show own_GoW p e below s _ _ _ _ (T.setTop (mkF m 128 #[iv p1, iv p2, iv p3, iv p4, iv p5, iv uj, yc, iv ui, iv un, iv um, iv ul, iv xa, iv xb, iv ya, .unset, .unset, .unset, .unset, .unset, .unset, .unset, .unset, .unset] []))
    refine own_goW (fun _ k => XS.iload X0.here hx rfl (hb hby at_128) rfl (XS.goto X0.here hx rfl (pc0 := 130) (pc' := 142) rfl (hb hby at_130) (by decide) (by decide) k)) ?_
    show own_GoW p e below s _ _ _ _ (T.setTop (mkF m 142 #[iv p1, iv p2, iv p3, iv p4, iv p5, iv uj, yc, iv ui, iv un, iv um, iv ul, iv xa, iv xb, iv ya, .unset, .unset, .unset, .unset, .unset, .unset, .unset, .unset, .unset] [(.int xb)]))
    exact sg_s142 hw hO p1 p2 p3 p4 p5 uj ui um ul xa xb ya xb (yc : Slot) (iv un : Slot) h0 hs1 X0 hS hL hJ hx hby hml hret hlk hZ hown hnm e0 N0 O0 K0 huj hui hum hul hxa hxb hya hxb (by omega) (by omega)
set_option maxRecDepth 65536 in
set_option maxHeartbeats 40000000 in
theorem sg_s84 {l : Launch} {Z : State} {a0 : Array Value} (hw : own_W Z a0) {zc : Int32} {ws0 : Addr} {ws1 : Addr} {ws2 : Addr} (hO : own_Olds Z zc ws0 ws1 ws2) {p : Program} {e : Env} {s : State} {vm0 : Vm} {m : MethodId} {args : Array Value} {below : List Frame} {meth : Method} {c : Code} {T : State} {locs : List Loc} {cells slots : Nat} (p1 : Int32) (p2 : Int32) (p3 : Int32) (p4 : Int32) (p5 : Int32) (uj : Int32) (ui : Int32) (un : Int32) (um : Int32) (ul : Int32) (yc : Slot) (h0 hs1 : Heap)
    (X0 : Stand p l e room_1 (s.setVm vm0) m args below meth c T locs cells slots) (hS : s.Since vm0 hs1.size) (hL : own_L Z a0) (hJ : own_J Z vm0 hs1) (hx : p.tables.exec = Jvm.exec) (hby : c.code = code) (hml : c.maxLocals = 23) (hret : meth.sig.returnType = some .boolean) (hlk : meth.locks = false) (hZ : Z.Warmed39 (s.setVm vm0).vm) (hown : (s.setVm vm0).vm.findClass "com/example/ratification/ratification/model/AttributeEqualsPinLaw" = some m.cls) (hnm : meth.name = "law") (e0 : T.heap = hs1) (N0 : Fr Z.heap.size locs) (O0 : Ext Z.heap hs1) (K0 : Keep h0 hs1 []) (huj : own_V3 uj) (hui : own_V3 ui) (hum : own_V3 um) (hul : own_V3 ul) (hcells : cells ≤ 0) (hslots : slots ≤ 0) :
    own_GoW p e below s Z (Q_law Z zc ws0 ws1 ws2 p1 p2 p3 p4 p5 h0) room_1.cells room_1.slots (T.setTop (mkF m 84 #[iv p1, iv p2, iv p3, iv p4, iv p5, iv uj, yc, iv ui, iv un, iv um, .unset, .unset, .unset, .unset, .unset, .unset, .unset, .unset, .unset, .unset, .unset, .unset, .unset] [(.int ul)])) := by
  obtain ⟨oCS, oCz, oS0, oS1, oS2, oSE0, oSE1, oSE2, oN01, oN02, oN12⟩ := id hO
  have K1 := Keep.refl hs1 []
  show own_GoW p e below s _ _ _ _ (T.setTop (mkF m 84 #[iv p1, iv p2, iv p3, iv p4, iv p5, iv uj, yc, iv ui, iv un, iv um, .unset, .unset, .unset, .unset, .unset, .unset, .unset, .unset, .unset, .unset, .unset, .unset, .unset] [(.int ul)]))
  refine own_goW (fun _ k => XS.istore X0.here hx rfl (hb hby at_84) rfl (l' := #[iv p1, iv p2, iv p3, iv p4, iv p5, iv uj, yc, iv ui, iv un, iv um, iv ul, .unset, .unset, .unset, .unset, .unset, .unset, .unset, .unset, .unset, .unset, .unset, .unset]) rfl (XS.iloadN X0.here hx rfl (hb hby at_86) rfl (XS.sipush X0.here hx rfl (hb hby at_87) (XS.iand X0.here hx rfl (hb hby at_90) rfl k)))) ?_
  show own_GoW p e below s _ _ _ _ (T.setTop (mkF m 91 #[iv p1, iv p2, iv p3, iv p4, iv p5, iv uj, yc, iv ui, iv un, iv um, iv ul, .unset, .unset, .unset, .unset, .unset, .unset, .unset, .unset, .unset, .unset, .unset, .unset] [(.int (p3 &&& (255 : Int32)))]))
  refine own_goW (fun _ k => XS.i2c X0.here hx rfl (hb hby at_91) rfl k) ?_
  show own_GoW p e below s _ _ _ _ (T.setTop (mkF m 92 #[iv p1, iv p2, iv p3, iv p4, iv p5, iv uj, yc, iv ui, iv un, iv um, iv ul, .unset, .unset, .unset, .unset, .unset, .unset, .unset, .unset, .unset, .unset, .unset, .unset] [(.int ((p3 &&& (255 : Int32)).toUInt32.toUInt16.toUInt32.toInt32))]))
  rw [i2c_mask p3]
  refine own_goW (fun _ k => XS.istore X0.here hx rfl (hb hby at_92) rfl (l' := #[iv p1, iv p2, iv p3, iv p4, iv p5, iv uj, yc, iv ui, iv un, iv um, iv ul, iv (p3 &&& (255 : Int32)), .unset, .unset, .unset, .unset, .unset, .unset, .unset, .unset, .unset, .unset, .unset]) rfl (XS.iloadN X0.here hx rfl (hb hby at_94) rfl (XS.bipush X0.here hx rfl (hb hby at_95) k))) ?_
  show own_GoW p e below s _ _ _ _ (T.setTop (mkF m 97 #[iv p1, iv p2, iv p3, iv p4, iv p5, iv uj, yc, iv ui, iv un, iv um, iv ul, iv (p3 &&& (255 : Int32)), .unset, .unset, .unset, .unset, .unset, .unset, .unset, .unset, .unset, .unset, .unset] [(.int (8 : Int32)), (.int p3)]))
  refine own_goW (fun _ k => XS.iushr X0.here hx rfl (hb hby at_97) rfl (XS.sipush X0.here hx rfl (hb hby at_98) (XS.iand X0.here hx rfl (hb hby at_101) rfl (XS.i2c X0.here hx rfl (hb hby at_102) rfl k)))) ?_
  show own_GoW p e below s _ _ _ _ (T.setTop (mkF m 103 #[iv p1, iv p2, iv p3, iv p4, iv p5, iv uj, yc, iv ui, iv un, iv um, iv ul, iv (p3 &&& (255 : Int32)), .unset, .unset, .unset, .unset, .unset, .unset, .unset, .unset, .unset, .unset, .unset] [(.int ((((p3.toUInt32 >>> ((8 : Int32) &&& 31).toUInt32).toInt32) &&& (255 : Int32)).toUInt32.toUInt16.toUInt32.toInt32))]))
  rw [i2c_mask ((p3.toUInt32 >>> ((8 : Int32) &&& 31).toUInt32).toInt32)]
  show own_GoW p e below s _ _ _ _ (T.setTop (mkF m 103 #[iv p1, iv p2, iv p3, iv p4, iv p5, iv uj, yc, iv ui, iv un, iv um, iv ul, iv (p3 &&& (255 : Int32)), .unset, .unset, .unset, .unset, .unset, .unset, .unset, .unset, .unset, .unset, .unset] [(.int (((p3.toUInt32 >>> ((8 : Int32) &&& 31).toUInt32).toInt32) &&& (255 : Int32)))]))
  refine own_goW (fun _ k => XS.istore X0.here hx rfl (hb hby at_103) rfl (l' := #[iv p1, iv p2, iv p3, iv p4, iv p5, iv uj, yc, iv ui, iv un, iv um, iv ul, iv (p3 &&& (255 : Int32)), iv (((p3.toUInt32 >>> ((8 : Int32) &&& 31).toUInt32).toInt32) &&& (255 : Int32)), .unset, .unset, .unset, .unset, .unset, .unset, .unset, .unset, .unset, .unset]) rfl (XS.iload X0.here hx rfl (hb hby at_105) rfl k)) ?_
  by_cases hc189 : un = (0 : Int32)
  · refine own_goW (fun _ k => XS.ifYes X0.here hx rfl (pc0 := 107) (pc' := 115) rfl (hb hby at_107) rfl ((if0 _ _).trans (teq hc189).1) (by decide) (by decide) k) ?_
    show own_GoW p e below s _ _ _ _ (T.setTop (mkF m 115 #[iv p1, iv p2, iv p3, iv p4, iv p5, iv uj, yc, iv ui, iv un, iv um, iv ul, iv (p3 &&& (255 : Int32)), iv (((p3.toUInt32 >>> ((8 : Int32) &&& 31).toUInt32).toInt32) &&& (255 : Int32)), .unset, .unset, .unset, .unset, .unset, .unset, .unset, .unset, .unset, .unset] []))
    refine own_goW (fun _ k => XS.iloadN X0.here hx rfl (hb hby at_115) rfl (XS.sipush X0.here hx rfl (hb hby at_116) (XS.iand X0.here hx rfl (hb hby at_119) rfl (XS.i2c X0.here hx rfl (hb hby at_120) rfl k)))) ?_
    show own_GoW p e below s _ _ _ _ (T.setTop (mkF m 121 #[iv p1, iv p2, iv p3, iv p4, iv p5, iv uj, yc, iv ui, iv un, iv um, iv ul, iv (p3 &&& (255 : Int32)), iv (((p3.toUInt32 >>> ((8 : Int32) &&& 31).toUInt32).toInt32) &&& (255 : Int32)), .unset, .unset, .unset, .unset, .unset, .unset, .unset, .unset, .unset, .unset] [(.int ((p4 &&& (255 : Int32)).toUInt32.toUInt16.toUInt32.toInt32))]))
    rw [i2c_mask p4]
    show own_GoW p e below s _ _ _ _ (T.setTop (mkF m 121 #[iv p1, iv p2, iv p3, iv p4, iv p5, iv uj, yc, iv ui, iv un, iv um, iv ul, iv (p3 &&& (255 : Int32)), iv (((p3.toUInt32 >>> ((8 : Int32) &&& 31).toUInt32).toInt32) &&& (255 : Int32)), .unset, .unset, .unset, .unset, .unset, .unset, .unset, .unset, .unset, .unset] [(.int (p4 &&& (255 : Int32)))]))
    exact sg_s121 hw hO p1 p2 p3 p4 p5 uj ui un um ul (p3 &&& (255 : Int32)) (((p3.toUInt32 >>> ((8 : Int32) &&& 31).toUInt32).toInt32) &&& (255 : Int32)) (p4 &&& (255 : Int32)) (yc : Slot) h0 hs1 X0 hS hL hJ hx hby hml hret hlk hZ hown hnm e0 N0 O0 K0 huj hui hum hul (own_c8m p3) (own_c8m ((p3.toUInt32 >>> ((8 : Int32) &&& 31).toUInt32).toInt32)) (own_c8m p4) (by omega) (by omega)
  · refine own_goW (fun _ k => XS.ifNo X0.here hx rfl (hb hby at_107) rfl ((if0 _ _).trans (feq hc189).1) k) ?_
    show own_GoW p e below s _ _ _ _ (T.setTop (mkF m 110 #[iv p1, iv p2, iv p3, iv p4, iv p5, iv uj, yc, iv ui, iv un, iv um, iv ul, iv (p3 &&& (255 : Int32)), iv (((p3.toUInt32 >>> ((8 : Int32) &&& 31).toUInt32).toInt32) &&& (255 : Int32)), .unset, .unset, .unset, .unset, .unset, .unset, .unset, .unset, .unset, .unset] []))
    refine own_goW (fun _ k => XS.iload X0.here hx rfl (hb hby at_110) rfl (XS.goto X0.here hx rfl (pc0 := 112) (pc' := 121) rfl (hb hby at_112) (by decide) (by decide) k)) ?_
    show own_GoW p e below s _ _ _ _ (T.setTop (mkF m 121 #[iv p1, iv p2, iv p3, iv p4, iv p5, iv uj, yc, iv ui, iv un, iv um, iv ul, iv (p3 &&& (255 : Int32)), iv (((p3.toUInt32 >>> ((8 : Int32) &&& 31).toUInt32).toInt32) &&& (255 : Int32)), .unset, .unset, .unset, .unset, .unset, .unset, .unset, .unset, .unset, .unset] [(.int (p3 &&& (255 : Int32)))]))
    exact sg_s121 hw hO p1 p2 p3 p4 p5 uj ui un um ul (p3 &&& (255 : Int32)) (((p3.toUInt32 >>> ((8 : Int32) &&& 31).toUInt32).toInt32) &&& (255 : Int32)) (p3 &&& (255 : Int32)) (yc : Slot) h0 hs1 X0 hS hL hJ hx hby hml hret hlk hZ hown hnm e0 N0 O0 K0 huj hui hum hul (own_c8m p3) (own_c8m ((p3.toUInt32 >>> ((8 : Int32) &&& 31).toUInt32).toInt32)) (own_c8m p3) (by omega) (by omega)
set_option maxRecDepth 65536 in
set_option maxHeartbeats 40000000 in
theorem sg_s56 {l : Launch} {Z : State} {a0 : Array Value} (hw : own_W Z a0) {zc : Int32} {ws0 : Addr} {ws1 : Addr} {ws2 : Addr} (hO : own_Olds Z zc ws0 ws1 ws2) {p : Program} {e : Env} {s : State} {vm0 : Vm} {m : MethodId} {args : Array Value} {below : List Frame} {meth : Method} {c : Code} {T : State} {locs : List Loc} {cells slots : Nat} (p1 : Int32) (p2 : Int32) (p3 : Int32) (p4 : Int32) (p5 : Int32) (uj : Int32) (ui : Int32) (un : Int32) (yc : Slot) (h0 hs1 : Heap)
    (X0 : Stand p l e room_1 (s.setVm vm0) m args below meth c T locs cells slots) (hS : s.Since vm0 hs1.size) (hL : own_L Z a0) (hJ : own_J Z vm0 hs1) (hx : p.tables.exec = Jvm.exec) (hby : c.code = code) (hml : c.maxLocals = 23) (hret : meth.sig.returnType = some .boolean) (hlk : meth.locks = false) (hZ : Z.Warmed39 (s.setVm vm0).vm) (hown : (s.setVm vm0).vm.findClass "com/example/ratification/ratification/model/AttributeEqualsPinLaw" = some m.cls) (hnm : meth.name = "law") (e0 : T.heap = hs1) (N0 : Fr Z.heap.size locs) (O0 : Ext Z.heap hs1) (K0 : Keep h0 hs1 []) (huj : own_V3 uj) (hui : own_V3 ui) (hcells : cells ≤ 0) (hslots : slots ≤ 0) :
    own_GoW p e below s Z (Q_law Z zc ws0 ws1 ws2 p1 p2 p3 p4 p5 h0) room_1.cells room_1.slots (T.setTop (mkF m 56 #[iv p1, iv p2, iv p3, iv p4, iv p5, iv uj, yc, iv ui, .unset, .unset, .unset, .unset, .unset, .unset, .unset, .unset, .unset, .unset, .unset, .unset, .unset, .unset, .unset] [(.int un)])) := by
  obtain ⟨oCS, oCz, oS0, oS1, oS2, oSE0, oSE1, oSE2, oN01, oN02, oN12⟩ := id hO
  have K1 := Keep.refl hs1 []
  show own_GoW p e below s _ _ _ _ (T.setTop (mkF m 56 #[iv p1, iv p2, iv p3, iv p4, iv p5, iv uj, yc, iv ui, .unset, .unset, .unset, .unset, .unset, .unset, .unset, .unset, .unset, .unset, .unset, .unset, .unset, .unset, .unset] [(.int un)]))
  refine own_goW (fun _ k => XS.istore X0.here hx rfl (hb hby at_56) rfl (l' := #[iv p1, iv p2, iv p3, iv p4, iv p5, iv uj, yc, iv ui, iv un, .unset, .unset, .unset, .unset, .unset, .unset, .unset, .unset, .unset, .unset, .unset, .unset, .unset, .unset]) rfl (XS.iload X0.here hx rfl (hb hby at_58) rfl (XS.iconst X0.here hx rfl (hb hby at_60) (XS.iand X0.here hx rfl (hb hby at_61) rfl k)))) ?_
  show own_GoW p e below s _ _ _ _ (T.setTop (mkF m 62 #[iv p1, iv p2, iv p3, iv p4, iv p5, iv uj, yc, iv ui, iv un, .unset, .unset, .unset, .unset, .unset, .unset, .unset, .unset, .unset, .unset, .unset, .unset, .unset, .unset] [(.int (p5 &&& (3 : Int32)))]))
  refine own_goW (fun _ k => XS.iconst X0.here hx rfl (hb hby at_62) (iremM X0 hx rfl (hb hby at_63) rfl (by decide : ¬ ((3 : Int32) = (0 : Int32))) (XS.istore X0.here hx rfl (hb hby at_64) rfl (l' := #[iv p1, iv p2, iv p3, iv p4, iv p5, iv uj, yc, iv ui, iv un, iv ((p5 &&& (3 : Int32)) % (3 : Int32)), .unset, .unset, .unset, .unset, .unset, .unset, .unset, .unset, .unset, .unset, .unset, .unset, .unset]) rfl (XS.iload X0.here hx rfl (hb hby at_66) rfl k)))) ?_
  show own_GoW p e below s _ _ _ _ (T.setTop (mkF m 68 #[iv p1, iv p2, iv p3, iv p4, iv p5, iv uj, yc, iv ui, iv un, iv ((p5 &&& (3 : Int32)) % (3 : Int32)), .unset, .unset, .unset, .unset, .unset, .unset, .unset, .unset, .unset, .unset, .unset, .unset, .unset] [(.int un)]))
  by_cases hc190 : un = (0 : Int32)
  · refine own_goW (fun _ k => XS.ifYes X0.here hx rfl (pc0 := 68) (pc' := 76) rfl (hb hby at_68) rfl ((if0 _ _).trans (teq hc190).1) (by decide) (by decide) k) ?_
    show own_GoW p e below s _ _ _ _ (T.setTop (mkF m 76 #[iv p1, iv p2, iv p3, iv p4, iv p5, iv uj, yc, iv ui, iv un, iv ((p5 &&& (3 : Int32)) % (3 : Int32)), .unset, .unset, .unset, .unset, .unset, .unset, .unset, .unset, .unset, .unset, .unset, .unset, .unset] []))
    refine own_goW (fun _ k => XS.iload X0.here hx rfl (hb hby at_76) rfl (XS.iconst X0.here hx rfl (hb hby at_78) (XS.iushr X0.here hx rfl (hb hby at_79) rfl (XS.iconst X0.here hx rfl (hb hby at_80) k)))) ?_
    show own_GoW p e below s _ _ _ _ (T.setTop (mkF m 81 #[iv p1, iv p2, iv p3, iv p4, iv p5, iv uj, yc, iv ui, iv un, iv ((p5 &&& (3 : Int32)) % (3 : Int32)), .unset, .unset, .unset, .unset, .unset, .unset, .unset, .unset, .unset, .unset, .unset, .unset, .unset] [(.int (3 : Int32)), (.int ((p5.toUInt32 >>> ((2 : Int32) &&& 31).toUInt32).toInt32))]))
    refine own_goW (fun _ k => XS.iand X0.here hx rfl (hb hby at_81) rfl (XS.iconst X0.here hx rfl (hb hby at_82) (iremM X0 hx rfl (hb hby at_83) rfl (by decide : ¬ ((3 : Int32) = (0 : Int32))) k))) ?_
    show own_GoW p e below s _ _ _ _ (T.setTop (mkF m 84 #[iv p1, iv p2, iv p3, iv p4, iv p5, iv uj, yc, iv ui, iv un, iv ((p5 &&& (3 : Int32)) % (3 : Int32)), .unset, .unset, .unset, .unset, .unset, .unset, .unset, .unset, .unset, .unset, .unset, .unset, .unset] [(.int ((((p5.toUInt32 >>> ((2 : Int32) &&& 31).toUInt32).toInt32) &&& (3 : Int32)) % (3 : Int32)))]))
    exact sg_s84 hw hO p1 p2 p3 p4 p5 uj ui un ((p5 &&& (3 : Int32)) % (3 : Int32)) ((((p5.toUInt32 >>> ((2 : Int32) &&& 31).toUInt32).toInt32) &&& (3 : Int32)) % (3 : Int32)) (yc : Slot) h0 hs1 X0 hS hL hJ hx hby hml hret hlk hZ hown hnm e0 N0 O0 K0 huj hui (own_V3m3 _) (own_V3m3 _) (by omega) (by omega)
  · refine own_goW (fun _ k => XS.ifNo X0.here hx rfl (hb hby at_68) rfl ((if0 _ _).trans (feq hc190).1) k) ?_
    show own_GoW p e below s _ _ _ _ (T.setTop (mkF m 71 #[iv p1, iv p2, iv p3, iv p4, iv p5, iv uj, yc, iv ui, iv un, iv ((p5 &&& (3 : Int32)) % (3 : Int32)), .unset, .unset, .unset, .unset, .unset, .unset, .unset, .unset, .unset, .unset, .unset, .unset, .unset] []))
    refine own_goW (fun _ k => XS.iload X0.here hx rfl (hb hby at_71) rfl (XS.goto X0.here hx rfl (pc0 := 73) (pc' := 84) rfl (hb hby at_73) (by decide) (by decide) k)) ?_
    show own_GoW p e below s _ _ _ _ (T.setTop (mkF m 84 #[iv p1, iv p2, iv p3, iv p4, iv p5, iv uj, yc, iv ui, iv un, iv ((p5 &&& (3 : Int32)) % (3 : Int32)), .unset, .unset, .unset, .unset, .unset, .unset, .unset, .unset, .unset, .unset, .unset, .unset, .unset] [(.int ((p5 &&& (3 : Int32)) % (3 : Int32)))]))
    exact sg_s84 hw hO p1 p2 p3 p4 p5 uj ui un ((p5 &&& (3 : Int32)) % (3 : Int32)) ((p5 &&& (3 : Int32)) % (3 : Int32)) (yc : Slot) h0 hs1 X0 hS hL hJ hx hby hml hret hlk hZ hown hnm e0 N0 O0 K0 huj hui (own_V3m3 _) (own_V3m3 _) (by omega) (by omega)
set_option maxRecDepth 65536 in
set_option maxHeartbeats 40000000 in
theorem sg_s40 {l : Launch} {Z : State} {a0 : Array Value} (hw : own_W Z a0) {zc : Int32} {ws0 : Addr} {ws1 : Addr} {ws2 : Addr} (hO : own_Olds Z zc ws0 ws1 ws2) {p : Program} {e : Env} {s : State} {vm0 : Vm} {m : MethodId} {args : Array Value} {below : List Frame} {meth : Method} {c : Code} {T : State} {locs : List Loc} {cells slots : Nat} (p1 : Int32) (p2 : Int32) (p3 : Int32) (p4 : Int32) (p5 : Int32) (uj : Int32) (ui : Int32) (yc : Slot) (h0 hs1 : Heap)
    (X0 : Stand p l e room_1 (s.setVm vm0) m args below meth c T locs cells slots) (hS : s.Since vm0 hs1.size) (hL : own_L Z a0) (hJ : own_J Z vm0 hs1) (hx : p.tables.exec = Jvm.exec) (hby : c.code = code) (hml : c.maxLocals = 23) (hret : meth.sig.returnType = some .boolean) (hlk : meth.locks = false) (hZ : Z.Warmed39 (s.setVm vm0).vm) (hown : (s.setVm vm0).vm.findClass "com/example/ratification/ratification/model/AttributeEqualsPinLaw" = some m.cls) (hnm : meth.name = "law") (e0 : T.heap = hs1) (N0 : Fr Z.heap.size locs) (O0 : Ext Z.heap hs1) (K0 : Keep h0 hs1 []) (huj : own_V3 uj) (hui : own_V3 ui) (hcells : cells ≤ 0) (hslots : slots ≤ 0) :
    own_GoW p e below s Z (Q_law Z zc ws0 ws1 ws2 p1 p2 p3 p4 p5 h0) room_1.cells room_1.slots (T.setTop (mkF m 40 #[iv p1, iv p2, iv p3, iv p4, iv p5, iv uj, yc, .unset, .unset, .unset, .unset, .unset, .unset, .unset, .unset, .unset, .unset, .unset, .unset, .unset, .unset, .unset, .unset] [(.int ui)])) := by
  obtain ⟨oCS, oCz, oS0, oS1, oS2, oSE0, oSE1, oSE2, oN01, oN02, oN12⟩ := id hO
  have K1 := Keep.refl hs1 []
  show own_GoW p e below s _ _ _ _ (T.setTop (mkF m 40 #[iv p1, iv p2, iv p3, iv p4, iv p5, iv uj, yc, .unset, .unset, .unset, .unset, .unset, .unset, .unset, .unset, .unset, .unset, .unset, .unset, .unset, .unset, .unset, .unset] [(.int ui)]))
  refine own_goW (fun _ k => XS.istore X0.here hx rfl (hb hby at_40) rfl (l' := #[iv p1, iv p2, iv p3, iv p4, iv p5, iv uj, yc, iv ui, .unset, .unset, .unset, .unset, .unset, .unset, .unset, .unset, .unset, .unset, .unset, .unset, .unset, .unset, .unset]) rfl (XS.iload X0.here hx rfl (hb hby at_42) rfl (XS.iconst X0.here hx rfl (hb hby at_44) (XS.iushr X0.here hx rfl (hb hby at_45) rfl k)))) ?_
  show own_GoW p e below s _ _ _ _ (T.setTop (mkF m 46 #[iv p1, iv p2, iv p3, iv p4, iv p5, iv uj, yc, iv ui, .unset, .unset, .unset, .unset, .unset, .unset, .unset, .unset, .unset, .unset, .unset, .unset, .unset, .unset, .unset] [(.int ((p5.toUInt32 >>> ((4 : Int32) &&& 31).toUInt32).toInt32))]))
  refine own_goW (fun _ k => XS.iconst X0.here hx rfl (hb hby at_46) (XS.iand X0.here hx rfl (hb hby at_47) rfl k)) ?_
  by_cases hc191 : (((p5.toUInt32 >>> ((4 : Int32) &&& 31).toUInt32).toInt32) &&& (1 : Int32)) = (0 : Int32)
  · refine own_goW (fun _ k => XS.ifYes X0.here hx rfl (pc0 := 48) (pc' := 55) rfl (hb hby at_48) rfl ((if0 _ _).trans (teq hc191).1) (by decide) (by decide) k) ?_
    show own_GoW p e below s _ _ _ _ (T.setTop (mkF m 55 #[iv p1, iv p2, iv p3, iv p4, iv p5, iv uj, yc, iv ui, .unset, .unset, .unset, .unset, .unset, .unset, .unset, .unset, .unset, .unset, .unset, .unset, .unset, .unset, .unset] []))
    refine own_goW (fun _ k => XS.iconst X0.here hx rfl (hb hby at_55) k) ?_
    show own_GoW p e below s _ _ _ _ (T.setTop (mkF m 56 #[iv p1, iv p2, iv p3, iv p4, iv p5, iv uj, yc, iv ui, .unset, .unset, .unset, .unset, .unset, .unset, .unset, .unset, .unset, .unset, .unset, .unset, .unset, .unset, .unset] [(.int (0 : Int32))]))
    exact sg_s56 hw hO p1 p2 p3 p4 p5 uj ui (0 : Int32) (yc : Slot) h0 hs1 X0 hS hL hJ hx hby hml hret hlk hZ hown hnm e0 N0 O0 K0 huj hui (by omega) (by omega)
  · refine own_goW (fun _ k => XS.ifNo X0.here hx rfl (hb hby at_48) rfl ((if0 _ _).trans (feq hc191).1) k) ?_
    show own_GoW p e below s _ _ _ _ (T.setTop (mkF m 51 #[iv p1, iv p2, iv p3, iv p4, iv p5, iv uj, yc, iv ui, .unset, .unset, .unset, .unset, .unset, .unset, .unset, .unset, .unset, .unset, .unset, .unset, .unset, .unset, .unset] []))
    refine own_goW (fun _ k => XS.iconst X0.here hx rfl (hb hby at_51) (XS.goto X0.here hx rfl (pc0 := 52) (pc' := 56) rfl (hb hby at_52) (by decide) (by decide) k)) ?_
    show own_GoW p e below s _ _ _ _ (T.setTop (mkF m 56 #[iv p1, iv p2, iv p3, iv p4, iv p5, iv uj, yc, iv ui, .unset, .unset, .unset, .unset, .unset, .unset, .unset, .unset, .unset, .unset, .unset, .unset, .unset, .unset, .unset] [(.int (1 : Int32))]))
    exact sg_s56 hw hO p1 p2 p3 p4 p5 uj ui (1 : Int32) (yc : Slot) h0 hs1 X0 hS hL hJ hx hby hml hret hlk hZ hown hnm e0 N0 O0 K0 huj hui (by omega) (by omega)
set_option maxRecDepth 65536 in
set_option maxHeartbeats 40000000 in
theorem sg_s22 {l : Launch} {Z : State} {a0 : Array Value} (hw : own_W Z a0) {zc : Int32} {ws0 : Addr} {ws1 : Addr} {ws2 : Addr} (hO : own_Olds Z zc ws0 ws1 ws2) {p : Program} {e : Env} {s : State} {vm0 : Vm} {m : MethodId} {args : Array Value} {below : List Frame} {meth : Method} {c : Code} {T : State} {locs : List Loc} {cells slots : Nat} (p1 : Int32) (p2 : Int32) (p3 : Int32) (p4 : Int32) (p5 : Int32) (uj : Int32) (uz : Int32) (h0 hs1 : Heap)
    (X0 : Stand p l e room_1 (s.setVm vm0) m args below meth c T locs cells slots) (hS : s.Since vm0 hs1.size) (hL : own_L Z a0) (hJ : own_J Z vm0 hs1) (hx : p.tables.exec = Jvm.exec) (hby : c.code = code) (hml : c.maxLocals = 23) (hret : meth.sig.returnType = some .boolean) (hlk : meth.locks = false) (hZ : Z.Warmed39 (s.setVm vm0).vm) (hown : (s.setVm vm0).vm.findClass "com/example/ratification/ratification/model/AttributeEqualsPinLaw" = some m.cls) (hnm : meth.name = "law") (e0 : T.heap = hs1) (N0 : Fr Z.heap.size locs) (O0 : Ext Z.heap hs1) (K0 : Keep h0 hs1 []) (huj : own_V3 uj) (hcells : cells ≤ 0) (hslots : slots ≤ 0) :
    own_GoW p e below s Z (Q_law Z zc ws0 ws1 ws2 p1 p2 p3 p4 p5 h0) room_1.cells room_1.slots (T.setTop (mkF m 22 #[iv p1, iv p2, iv p3, iv p4, iv p5, iv uj, .unset, .unset, .unset, .unset, .unset, .unset, .unset, .unset, .unset, .unset, .unset, .unset, .unset, .unset, .unset, .unset, .unset] [(.int uz)])) := by
  obtain ⟨oCS, oCz, oS0, oS1, oS2, oSE0, oSE1, oSE2, oN01, oN02, oN12⟩ := id hO
  have K1 := Keep.refl hs1 []
  show own_GoW p e below s _ _ _ _ (T.setTop (mkF m 22 #[iv p1, iv p2, iv p3, iv p4, iv p5, iv uj, .unset, .unset, .unset, .unset, .unset, .unset, .unset, .unset, .unset, .unset, .unset, .unset, .unset, .unset, .unset, .unset, .unset] [(.int uz)]))
  refine own_goW (fun _ k => XS.istore X0.here hx rfl (hb hby at_22) rfl (l' := #[iv p1, iv p2, iv p3, iv p4, iv p5, iv uj, iv uz, .unset, .unset, .unset, .unset, .unset, .unset, .unset, .unset, .unset, .unset, .unset, .unset, .unset, .unset, .unset, .unset]) rfl (XS.iload X0.here hx rfl (hb hby at_24) rfl k)) ?_
  by_cases hc192 : uz = (0 : Int32)
  · refine own_goW (fun _ k => XS.ifYes X0.here hx rfl (pc0 := 26) (pc' := 34) rfl (hb hby at_26) rfl ((if0 _ _).trans (teq hc192).1) (by decide) (by decide) k) ?_
    show own_GoW p e below s _ _ _ _ (T.setTop (mkF m 34 #[iv p1, iv p2, iv p3, iv p4, iv p5, iv uj, iv uz, .unset, .unset, .unset, .unset, .unset, .unset, .unset, .unset, .unset, .unset, .unset, .unset, .unset, .unset, .unset, .unset] []))
    refine own_goW (fun _ k => XS.iloadN X0.here hx rfl (hb hby at_34) rfl k) ?_
    refine own_goW (X0.ldcInt hx hown (mvT hZ (ow0 hw)) (g := (mkF m 35 #[iv p1, iv p2, iv p3, iv p4, iv p5, iv uj, iv uz, .unset, .unset, .unset, .unset, .unset, .unset, .unset, .unset, .unset, .unset, .unset, .unset, .unset, .unset, .unset, .unset] [(.int p2)])) rfl (hb hby at_35)) ?_
    refine own_goW (fun _ k => XS.iand X0.here hx rfl (hb hby at_37) rfl (XS.iconst X0.here hx rfl (hb hby at_38) k)) ?_
    show own_GoW p e below s _ _ _ _ (T.setTop (mkF m 39 #[iv p1, iv p2, iv p3, iv p4, iv p5, iv uj, iv uz, .unset, .unset, .unset, .unset, .unset, .unset, .unset, .unset, .unset, .unset, .unset, .unset, .unset, .unset, .unset, .unset] [(.int (3 : Int32)), (.int (p2 &&& (2147483647 : Int32)))]))
    refine own_goW (fun _ k => iremM X0 hx rfl (hb hby at_39) rfl (by decide : ¬ ((3 : Int32) = (0 : Int32))) k) ?_
    show own_GoW p e below s _ _ _ _ (T.setTop (mkF m 40 #[iv p1, iv p2, iv p3, iv p4, iv p5, iv uj, iv uz, .unset, .unset, .unset, .unset, .unset, .unset, .unset, .unset, .unset, .unset, .unset, .unset, .unset, .unset, .unset, .unset] [(.int ((p2 &&& (2147483647 : Int32)) % (3 : Int32)))]))
    exact sg_s40 hw hO p1 p2 p3 p4 p5 uj ((p2 &&& (2147483647 : Int32)) % (3 : Int32)) (iv uz : Slot) h0 hs1 X0 hS hL hJ hx hby hml hret hlk hZ hown hnm e0 N0 O0 K0 huj (own_V3mx _) (by omega) (by omega)
  · refine own_goW (fun _ k => XS.ifNo X0.here hx rfl (hb hby at_26) rfl ((if0 _ _).trans (feq hc192).1) k) ?_
    show own_GoW p e below s _ _ _ _ (T.setTop (mkF m 29 #[iv p1, iv p2, iv p3, iv p4, iv p5, iv uj, iv uz, .unset, .unset, .unset, .unset, .unset, .unset, .unset, .unset, .unset, .unset, .unset, .unset, .unset, .unset, .unset, .unset] []))
    refine own_goW (fun _ k => XS.iload X0.here hx rfl (hb hby at_29) rfl (XS.goto X0.here hx rfl (pc0 := 31) (pc' := 40) rfl (hb hby at_31) (by decide) (by decide) k)) ?_
    show own_GoW p e below s _ _ _ _ (T.setTop (mkF m 40 #[iv p1, iv p2, iv p3, iv p4, iv p5, iv uj, iv uz, .unset, .unset, .unset, .unset, .unset, .unset, .unset, .unset, .unset, .unset, .unset, .unset, .unset, .unset, .unset, .unset] [(.int uj)]))
    exact sg_s40 hw hO p1 p2 p3 p4 p5 uj uj (iv uz : Slot) h0 hs1 X0 hS hL hJ hx hby hml hret hlk hZ hown hnm e0 N0 O0 K0 huj huj (by omega) (by omega)
theorem ef_law (m : MethodId) (x0 : Int32) (x1 : Int32) (x2 : Int32) (x3 : Int32) (x4 : Int32) : entryFrame m #[(.int x0), (.int x1), (.int x2), (.int x3), (.int x4)] maxLocals = mkF m 0 #[iv x0, iv x1, iv x2, iv x3, iv x4, .unset, .unset, .unset, .unset, .unset, .unset, .unset, .unset, .unset, .unset, .unset, .unset, .unset, .unset, .unset, .unset, .unset, .unset] [] := by first | (simp [entryFrame, mkF, argsToLocals, Value.category, maxLocals]; done) | rfl
set_option maxRecDepth 65536 in
set_option maxHeartbeats 40000000 in
theorem rm_law (l : Launch) (Z : State) (a0 : Array Value) (hw : own_W Z a0) {zc : Int32} {ws0 : Addr} {ws1 : Addr} {ws2 : Addr} (hO : own_Olds Z zc ws0 ws1 ws2) (ws : List Jvm.Cond) (p1 : Int32) (p2 : Int32) (p3 : Int32) (p4 : Int32) (p5 : Int32) (h0 : Heap) (O0 : Ext Z.heap h0) :
    MetFree l x (head1 (Jvm.Cond.code x code maxLocals ret :: ws) room_1) (fun a U => a = #[(.int p1), (.int p2), (.int p3), (.int p4), (.int p5)] ∧ Z.Warmed39 U.vm ∧ U.heap = h0 ∧ own_J Z U.vm U.heap) (fun _ _ _ _ _ => True) (fun _ U o U' => ∃ v L, o = .returned v ∧ ((Q_law Z zc ws0 ws1 ws2 p1 p2 p3 p4 p5 h0) v U'.heap L ∧ own_J Z U'.vm U'.heap) ∧ ReturnedEndW U o U' L room_1.cells room_1.slots) := by
  refine own_metW (Q := (Q_law Z zc ws0 ws1 ws2 p1 p2 p3 p4 p5 h0)) _ _ (plainFor_of_name own_pn_1) ?_
  intro p e s vm0 m below meth c T X0 hS hJ hJ0 hZ0 hI hs0 hx hby hml hret hlk hZ hown hnm e0
  replace hown : (s.setVm vm0).vm.findClass "com/example/ratification/ratification/model/AttributeEqualsPinLaw" = some m.cls := hown
  replace hnm : meth.name = "law" := hnm
  have hml : c.maxLocals = 23 := hml
  obtain ⟨oCS, oCz, oS0, oS1, oS2, oSE0, oSE1, oSE2, oN01, oN02, oN12⟩ := id hO
  have N0 := Fr.nil Z.heap.size
  have hL := own_Lhw hw
  have K0 := Keep.refl h0 []
  refine own_goW (fun _ k => castTop (ef_law m p1 p2 p3 p4 p5) k) ?_
  show own_GoW p e below s _ _ _ _ (T.setTop (mkF m 0 #[iv p1, iv p2, iv p3, iv p4, iv p5, .unset, .unset, .unset, .unset, .unset, .unset, .unset, .unset, .unset, .unset, .unset, .unset, .unset, .unset, .unset, .unset, .unset, .unset] []))
  refine own_goW (fun _ k => XS.iloadN X0.here hx rfl (hb hby at_0) rfl k) ?_
  refine own_goW (X0.ldcInt hx hown (mvT hZ (ow0 hw)) (g := (mkF m 1 #[iv p1, iv p2, iv p3, iv p4, iv p5, .unset, .unset, .unset, .unset, .unset, .unset, .unset, .unset, .unset, .unset, .unset, .unset, .unset, .unset, .unset, .unset, .unset, .unset] [(.int p1)])) rfl (hb hby at_1)) ?_
  refine own_goW (fun _ k => XS.iand X0.here hx rfl (hb hby at_3) rfl (XS.iconst X0.here hx rfl (hb hby at_4) k)) ?_
  show own_GoW p e below s _ _ _ _ (T.setTop (mkF m 5 #[iv p1, iv p2, iv p3, iv p4, iv p5, .unset, .unset, .unset, .unset, .unset, .unset, .unset, .unset, .unset, .unset, .unset, .unset, .unset, .unset, .unset, .unset, .unset, .unset] [(.int (3 : Int32)), (.int (p1 &&& (2147483647 : Int32)))]))
  refine own_goW (fun _ k => iremM X0 hx rfl (hb hby at_5) rfl (by decide : ¬ ((3 : Int32) = (0 : Int32))) (XS.istore X0.here hx rfl (hb hby at_6) rfl (l' := #[iv p1, iv p2, iv p3, iv p4, iv p5, iv ((p1 &&& (2147483647 : Int32)) % (3 : Int32)), .unset, .unset, .unset, .unset, .unset, .unset, .unset, .unset, .unset, .unset, .unset, .unset, .unset, .unset, .unset, .unset, .unset]) rfl (XS.iload X0.here hx rfl (hb hby at_8) rfl (XS.iconst X0.here hx rfl (hb hby at_10) k)))) ?_
  show own_GoW p e below s _ _ _ _ (T.setTop (mkF m 11 #[iv p1, iv p2, iv p3, iv p4, iv p5, iv ((p1 &&& (2147483647 : Int32)) % (3 : Int32)), .unset, .unset, .unset, .unset, .unset, .unset, .unset, .unset, .unset, .unset, .unset, .unset, .unset, .unset, .unset, .unset, .unset] [(.int (5 : Int32)), (.int p5)]))
  refine own_goW (fun _ k => XS.iushr X0.here hx rfl (hb hby at_11) rfl (XS.iconst X0.here hx rfl (hb hby at_12) (XS.iand X0.here hx rfl (hb hby at_13) rfl k))) ?_
  by_cases hc193 : (((p5.toUInt32 >>> ((5 : Int32) &&& 31).toUInt32).toInt32) &&& (1 : Int32)) = (0 : Int32)
  · refine own_goW (fun _ k => XS.ifYes X0.here hx rfl (pc0 := 14) (pc' := 21) rfl (hb hby at_14) rfl ((if0 _ _).trans (teq hc193).1) (by decide) (by decide) k) ?_
    show own_GoW p e below s _ _ _ _ (T.setTop (mkF m 21 #[iv p1, iv p2, iv p3, iv p4, iv p5, iv ((p1 &&& (2147483647 : Int32)) % (3 : Int32)), .unset, .unset, .unset, .unset, .unset, .unset, .unset, .unset, .unset, .unset, .unset, .unset, .unset, .unset, .unset, .unset, .unset] []))
    refine own_goW (fun _ k => XS.iconst X0.here hx rfl (hb hby at_21) k) ?_
    show own_GoW p e below s _ _ _ _ (T.setTop (mkF m 22 #[iv p1, iv p2, iv p3, iv p4, iv p5, iv ((p1 &&& (2147483647 : Int32)) % (3 : Int32)), .unset, .unset, .unset, .unset, .unset, .unset, .unset, .unset, .unset, .unset, .unset, .unset, .unset, .unset, .unset, .unset, .unset] [(.int (0 : Int32))]))
    exact sg_s22 hw hO p1 p2 p3 p4 p5 ((p1 &&& (2147483647 : Int32)) % (3 : Int32)) (0 : Int32) h0 h0 X0 hS hL hJ hx hby hml hret hlk hZ hown hnm e0 N0 O0 K0 (own_V3mx _) (by omega) (by omega)
  · refine own_goW (fun _ k => XS.ifNo X0.here hx rfl (hb hby at_14) rfl ((if0 _ _).trans (feq hc193).1) k) ?_
    show own_GoW p e below s _ _ _ _ (T.setTop (mkF m 17 #[iv p1, iv p2, iv p3, iv p4, iv p5, iv ((p1 &&& (2147483647 : Int32)) % (3 : Int32)), .unset, .unset, .unset, .unset, .unset, .unset, .unset, .unset, .unset, .unset, .unset, .unset, .unset, .unset, .unset, .unset, .unset] []))
    refine own_goW (fun _ k => XS.iconst X0.here hx rfl (hb hby at_17) (XS.goto X0.here hx rfl (pc0 := 18) (pc' := 22) rfl (hb hby at_18) (by decide) (by decide) k)) ?_
    show own_GoW p e below s _ _ _ _ (T.setTop (mkF m 22 #[iv p1, iv p2, iv p3, iv p4, iv p5, iv ((p1 &&& (2147483647 : Int32)) % (3 : Int32)), .unset, .unset, .unset, .unset, .unset, .unset, .unset, .unset, .unset, .unset, .unset, .unset, .unset, .unset, .unset, .unset, .unset] [(.int (1 : Int32))]))
    exact sg_s22 hw hO p1 p2 p3 p4 p5 ((p1 &&& (2147483647 : Int32)) % (3 : Int32)) (1 : Int32) h0 h0 X0 hS hL hJ hx hby hml hret hlk hZ hown hnm e0 N0 O0 K0 (own_V3mx _) (by omega) (by omega)
set_option maxRecDepth 65536 in
set_option maxHeartbeats 40000000 in
theorem comes_1 {Post : Tables → Env → Array Value → State → Outcome → State → Prop} (hpost : ∀ tb e args s v u, (limb_1_1.after args s (.returned v) u = true ∧ limb_1_2.after args s (.returned v) u = true ∧ True) → ReturnedEndW s (.returned v) u (Jvm.fieldLocs frame_1_writes args s ++ Jvm.arrayLocs frame_1_arrays args s ++ Jvm.staticLocs frame_1_statics s) 32 3200 → Post tb e args s (.returned v) u) :
    ArmFor flags0 classFile x code maxLocals ret World_1 tables_1 room_1 Calls_1 rest_1 Pre_1 Post := by
  intro l hfl _ _ p e ha hc hk s m args below hf hA hF happ hP
  obtain ⟨hcalls, hrest, hpre⟩ := hP
  obtain ⟨-, -, -, hnamed, -, -, -, hat⟩ := (Spec.applies_iff hf).mp happ
  obtain ⟨hg, hn⟩ := and_e (Cond.before_iff.mp (show (Jvm.Cond.and given_1 narrow_1).before args s = true from hpre))
  obtain ⟨gA0, gB0⟩ := and_e hg
  obtain ⟨gA1, gB1⟩ := and_e gB0
  obtain ⟨gA2, gB2⟩ := and_e gB1
  obtain ⟨gA3, gB3⟩ := and_e gB2
  obtain ⟨gA4, gB4⟩ := and_e gB3
  obtain ⟨w0, w1, w2, w3, w4, rfl⟩ : ∃ w0 w1 w2 w3 w4 : Value, args = #[w0, w1, w2, w3, w4] := by
    have hs : args.size = 5 := by simpa [Cond.value, given_1] using gA0
    obtain ⟨L⟩ := args
    match L, hs with
    | [w0, w1, w2, w3, w4], _ => exact ⟨w0, w1, w2, w3, w4, rfl⟩
  have hw := fun d (hd : d ∈ tables_1) => atoms_spec (ws := Jvm.Cond.code x code maxLocals ret :: tables_1) hat d (List.mem_cons_of_mem _ hd)
  have hfit : Fit s := fun {y c} hc i hi => by
    obtain ⟨ha, rfl⟩ := Array.getElem?_eq_some_iff.mp hc
    have q := List.all_eq_true.mp ((Array.all_eq_true_iff_forall_mem.mp hF) _ (Array.getElem_mem ha)) i (List.mem_range.mpr hi)
    simpa [Array.getElem?_eq_getElem hi] using q
  obtain ⟨hsets, hown0⟩ := atoms_of _ (rest_1_c_eq ▸ (show rest_1_c.before _ s = true from hrest))
  have hr0 := Cond.before_iff.mp hown0
  obtain ⟨i0, ei0⟩ := is_v gA1
  obtain rfl : w0 = (.int i0) := Option.some.inj ei0
  obtain ⟨i1, ei1⟩ := is_v gA2
  obtain rfl : w1 = (.int i1) := Option.some.inj ei1
  obtain ⟨i2, ei2⟩ := is_v gA3
  obtain rfl : w2 = (.int i2) := Option.some.inj ei2
  obtain ⟨i3, ei3⟩ := is_v gA4
  obtain rfl : w3 = (.int i3) := Option.some.inj ei3
  obtain ⟨i4, ei4⟩ := is_v gB4
  obtain rfl : w4 = (.int i4) := Option.some.inj ei4
  obtain ⟨zc, cse⟩ := is_v (Cond.before_iff.mp (hsets _ (List.mem_of_getElem? (i := 1) rfl)))
  have oCS := Sta.start cse (Or.inl (hsets _ (List.mem_of_getElem? (i := 0) rfl)))
  have csn := Cond.before_iff.mp (hsets _ (List.mem_of_getElem? (i := 2) rfl))
  have oCz : ¬ zc = (0 : Int32) := gotF (Cond.eq_ints cse (Term.int_eval 0)) (by have q := not_v csn; simpa using q)
  have hJst : own_J s s.vm s.heap := own_Jstart hw (hsets _ (List.mem_of_getElem? (i := 2) rfl)) hcalls
  obtain ⟨nw0, hn⟩ := and_e hn
  obtain ⟨nw1, hn⟩ := and_e hn
  obtain ⟨nw2, hn⟩ := and_e hn
  obtain ⟨nw3, hn⟩ := and_e hn
  obtain ⟨nw4, hn⟩ := and_e hn
  have nw5 := hn
  obtain ⟨ws0, se0⟩ := exa_v nw0
  have oSE0 := Exa.start se0 nw0
  have oS0 := Sta.start se0 (Or.inr ⟨(ow6 hw), (ow7 hw)⟩)
  obtain ⟨ws1, se1⟩ := exa_v nw1
  have oSE1 := Exa.start se1 nw1
  have oS1 := Sta.start se1 (Or.inr ⟨(ow6 hw), (ow76 hw)⟩)
  obtain ⟨ws2, se2⟩ := exa_v nw4
  have oSE2 := Exa.start se2 nw4
  have oS2 := Sta.start se2 (Or.inr ⟨(ow6 hw), (ow90 hw)⟩)
  have oN01 : ws0 ≠ ws1 := own_neOrdK (by decide) nw2 nw3 se0 se1
  have oN02 : ws0 ≠ ws2 := own_neOrdK (by decide) nw2 nw5 se0 se2
  have oN12 : ws1 ≠ ws2 := own_neOrdK (by decide) nw3 nw5 se1 se2
  have hO : own_Olds s _ _ _ _ := ⟨oCS, oCz, oS0, oS1, oS2, oSE0, oSE1, oSE2, oN01, oN02, oN12⟩
  obtain ⟨n, o, h1, h2, h3, _, L, rfl, ⟨⟨rfl, N, -⟩, -⟩, hq⟩ := rm_law l s _ hw hO tables_1 i0 i1 i2 i3 i4  s.heap ⟨Nat.le_refl _, fun _ _ q => q⟩  p e ha hc hk s m _ below hf ((Spec.applies_iff_loose hf).mp happ).1 ⟨rfl, State.Warmed39.refl s, rfl, hJst⟩ trivial
  refine ⟨n, _, h1, h2, h3, hpost _ _ _ _ _ _ ⟨Cond.after_iff.mpr rfl, Cond.after_iff.mpr (eq_i res_at (Term.int_eval (1)) rfl), trivial⟩ ⟨hq.1, hq.2.1, hq.2.2.1, (hq.2.2.2.sift fun y hy => Or.inr (N y hy)).mono (by decide) (by decide)⟩⟩
theorem main_1_1 : Claimed_1_1 := comes_1 fun _ _ _ _ _ _ h hF => ⟨h.1, hF⟩
theorem main_1_2 : Claimed_1_2 := comes_1 fun _ _ _ _ _ _ h hF => ⟨h.2.1, hF⟩
end Jvm.Pilot.@@N@@
namespace Jvm.Pilot.@@N@@
open Jvm Jvm.ClassFile Sem Op Lib Jvm.Free Jvm.Stand Jvm.Pilot.@@N@@.Jvm.D
/-! MADE BY PROGRAM (witnessworld.py) out of the Statement's table words and the real class files: 23 classes; the members and pool entries that the words name. The judged class is class 1, her method 3. -/
namespace start1
open Jvm.ClassFile
def u (s : String) : CpInfo := .utf8 (stringToUtf16 s)
/-- a pool by its gaps: so many unusable entries, then the entry; so many at the end -/
def gap : Nat → List CpInfo → List CpInfo
  | 0, r => r
  | n + 1, r => .unusable :: gap n r
def poolList (es : List (Nat × CpInfo)) (last : Nat) : List CpInfo := es.foldr (fun e r => gap e.1 (e.2 :: r)) (gap last [])
def pool (es : List (Nat × CpInfo)) (last : Nat) : Array CpInfo := ⟨poolList es last⟩
def fileOf (pool : Array CpInfo) (this : Nat) (attrs : Array Attribute := #[]) (ms : Array MethodInfo := #[]) (fl : Nat := 33) (sup : Nat := 0) (ifs : Array Nat := #[]) (fds : Array FieldInfo := #[]) : ClassFile where
  minorVersion := 0
  majorVersion := 65
  constantPool := pool
  accessFlags := fl
  thisClass := this
  superClass := sup
  interfaces := ifs
  fields := fds
  methods := ms
  attributes := attrs
def plain (name : String) (sup : Option ClassId) : Class where
  name := name
  kind := .ordinary
  loader := none
  accessFlags := 33
  super := sup
  interfaces := #[]
  cf := none
  fields := #[]
  methods := #[]
  instanceTypes := #[]
  staticTypes := #[]
  resolved := #[]
  callSites := []
  init := .initialized
  statics := none
  mirror := none

def pool0 : Array CpInfo := pool [(5, u "<init>"), (0, u "()V"), (1, .class_ 10), (1, u "java/lang/Object")] 113

def k0c0 : Code := { maxStack := 0, maxLocals := 1, code := object_method_1_code, exceptionTable := #[], attributes := #[] }
def k0m0 : Method := { name := "<init>", desc := "()V", sig := { parameters := [], returnType := none }, accessFlags := 1, code := some k0c0 }
/-- java/lang/Object -/
def k0 : Class := { plain "java/lang/Object" none with
  accessFlags := 33
  interfaces := #[]
  cf := some (fileOf pool0 8 #[] #[{ accessFlags := 1, nameIndex := 5, descriptorIndex := 6, attributes := #[] }] 33 0 #[] #[])
  fields := #[]
  methods := #[k0m0]
  instanceTypes := #[]
  staticTypes := #[]
  resolved := Array.replicate 124 none
  statics := none }

def pool1 : Array CpInfo := pool [(2, .class_ 4), (1, u "java/lang/Object"), (0, u "<init>"), (0, u "()V"), (0, .fieldref 8 9), (0, .class_ 10), (0, .nameAndType 11 12), (0, u "com/example/ratification/ratification/model/Category"), (0, u "SUBJECT"), (0, u "Lcom/example/ratification/ratification/model/Category;"), (0, .fieldref 8 14), (0, .nameAndType 15 12), (0, u "OBJECT"), (0, .fieldref 8 17), (0, .nameAndType 18 12), (0, u "CONTEXT"), (0, .class_ 20), (0, u "java/lang/String"), (0, .methodref 19 22), (0, .nameAndType 5 23), (0, u "([C)V"), (0, .methodref 19 25), (0, .nameAndType 26 27), (0, u "valueOf"), (0, u "(C)Ljava/lang/String;"), (0, .integer 2147483647), (0, .methodref 30 31), (0, .class_ 32), (0, .nameAndType 33 34), (0, u "com/example/ratification/ratification/model/AttributeEqualsPinLaw"), (0, u "cat"), (0, u "(I)Lcom/example/ratification/ratification/model/Category;"), (0, .methodref 30 36), (0, .nameAndType 37 38), (0, u "name"), (0, u "(ICC)Ljava/lang/String;"), (0, .class_ 40), (0, u "com/example/ratification/ratification/model/Attribute"), (0, .methodref 39 42), (0, .nameAndType 5 43), (0, u "(Lcom/example/ratification/ratification/model/Category;Ljava/lang/String;)V"), (0, .methodref 39 45), (0, .nameAndType 46 47), (0, u "equals"), (0, u "(Ljava/lang/Object;)Z"), (3, u "law"), (0, u "(IIIII)Z")] 2

def k1m0 : Method := { name := "<init>", desc := "()V", sig := { parameters := [], returnType := none }, accessFlags := 1, code := none }
def k1c1 : Code := { maxStack := 2, maxLocals := 1, code := method_2_code, exceptionTable := #[], attributes := #[] }
def k1m1 : Method := { name := "cat", desc := "(I)Lcom/example/ratification/ratification/model/Category;", sig := { parameters := [.int], returnType := some (.object "com/example/ratification/ratification/model/Category") }, accessFlags := 10, code := some k1c1 }
def k1c2 : Code := { maxStack := 3, maxLocals := 4, code := method_3_code, exceptionTable := #[], attributes := #[] }
def k1m2 : Method := { name := "name", desc := "(ICC)Ljava/lang/String;", sig := { parameters := [.int, .char, .char], returnType := some (.object "java/lang/String") }, accessFlags := 10, code := some k1c2 }
def k1c3 : Code := { maxStack := 4, maxLocals := 23, code := code, exceptionTable := #[], attributes := #[] }
def k1m3 : Method := { name := "law", desc := "(IIIII)Z", sig := { parameters := [.int, .int, .int, .int, .int], returnType := some .boolean }, accessFlags := 9, code := some k1c3 }
/-- com/example/ratification/ratification/model/AttributeEqualsPinLaw -/
def k1 : Class := { plain "com/example/ratification/ratification/model/AttributeEqualsPinLaw" (some 0) with
  accessFlags := 49
  interfaces := #[]
  cf := some (fileOf pool1 30 #[] #[{ accessFlags := 1, nameIndex := 5, descriptorIndex := 6, attributes := #[] }, { accessFlags := 10, nameIndex := 33, descriptorIndex := 34, attributes := #[] }, { accessFlags := 10, nameIndex := 37, descriptorIndex := 38, attributes := #[] }, { accessFlags := 9, nameIndex := 51, descriptorIndex := 52, attributes := #[] }] 49 2 #[] #[])
  fields := #[]
  methods := #[k1m0, k1m1, k1m2, k1m3]
  instanceTypes := #[]
  staticTypes := #[]
  resolved := Array.replicate 55 none
  statics := none }

def pool2 : Array CpInfo := pool [(1, .class_ 2), (0, u "java/lang/constant/Constable"), (0, .class_ 4), (0, u "java/lang/Object")] 6

/-- java/lang/constant/Constable -/
def k2 : Class := { plain "java/lang/constant/Constable" (some 0) with
  accessFlags := 1537
  interfaces := #[]
  cf := some (fileOf pool2 1 #[] #[] 1537 3 #[] #[])
  fields := #[]
  methods := #[]
  instanceTypes := #[]
  staticTypes := #[]
  resolved := Array.replicate 11 none
  statics := none }

def pool3 : Array CpInfo := pool [(1, .class_ 2), (0, u "java/lang/Comparable"), (0, .class_ 4), (0, u "java/lang/Object")] 7

/-- java/lang/Comparable -/
def k3 : Class := { plain "java/lang/Comparable" (some 0) with
  accessFlags := 1537
  interfaces := #[]
  cf := some (fileOf pool3 1 #[] #[] 1537 3 #[] #[])
  fields := #[]
  methods := #[]
  instanceTypes := #[]
  staticTypes := #[]
  resolved := Array.replicate 12 none
  statics := none }

def pool4 : Array CpInfo := pool [(1, .class_ 2), (0, u "java/io/Serializable"), (0, .class_ 4), (0, u "java/lang/Object")] 2

/-- java/io/Serializable -/
def k4 : Class := { plain "java/io/Serializable" (some 0) with
  accessFlags := 1537
  interfaces := #[]
  cf := some (fileOf pool4 1 #[] #[] 1537 3 #[] #[])
  fields := #[]
  methods := #[]
  instanceTypes := #[]
  staticTypes := #[]
  resolved := Array.replicate 7 none
  statics := none }

def pool5 : Array CpInfo := pool [(2, .class_ 4), (1, u "java/lang/Enum"), (0, u "name"), (0, u "Ljava/lang/String;"), (2, u "ordinal"), (0, u "I"), (1, .class_ 14), (1, u "java/lang/Object"), (4, u "hash"), (86, .class_ 108), (1, u "java/lang/Enum$EnumDesc"), (2, .class_ 112), (0, u "java/lang/constant/Constable"), (0, .class_ 114), (0, u "java/lang/Comparable"), (0, .class_ 116), (0, u "java/io/Serializable")] 87

/-- java/lang/Enum -/
def k5 : Class := { plain "java/lang/Enum" (some 0) with
  accessFlags := 1057
  interfaces := #[2, 3, 4]
  cf := some (fileOf pool5 2 #[.nestMembers #[106]] #[] 1057 12 #[111, 113, 115] #[{ accessFlags := 18, nameIndex := 5, descriptorIndex := 6, attributes := #[] }, { accessFlags := 18, nameIndex := 9, descriptorIndex := 10, attributes := #[] }, { accessFlags := 2, nameIndex := 19, descriptorIndex := 10, attributes := #[] }])
  fields := #[{ name := "name", type := (.object "java/lang/String"), accessFlags := 18, slot := 0, constantValue := 0 }, { name := "ordinal", type := .int, accessFlags := 18, slot := 1, constantValue := 0 }, { name := "hash", type := .int, accessFlags := 2, slot := 2, constantValue := 0 }]
  methods := #[]
  instanceTypes := #[(.object "java/lang/String"), .int, .int]
  staticTypes := #[]
  resolved := Array.replicate 204 none
  statics := none }

def pool6 : Array CpInfo := pool [(1, .class_ 2), (0, u "com/example/ratification/ratification/model/Category"), (2, u "SUBJECT"), (0, u "Lcom/example/ratification/ratification/model/Category;"), (2, u "OBJECT"), (2, u "CONTEXT"), (2, u "$VALUES"), (0, u "[Lcom/example/ratification/ratification/model/Category;"), (6, .class_ 25), (1, u "java/lang/Enum"), (8, u "prefix"), (0, u "Ljava/lang/String;")] 51

/-- com/example/ratification/ratification/model/Category -/
def k6 : Class := { plain "com/example/ratification/ratification/model/Category" (some 5) with
  accessFlags := 16433
  interfaces := #[]
  cf := some (fileOf pool6 1 #[] #[] 16433 23 #[] #[{ accessFlags := 16409, nameIndex := 5, descriptorIndex := 6, attributes := #[] }, { accessFlags := 16409, nameIndex := 9, descriptorIndex := 6, attributes := #[] }, { accessFlags := 16409, nameIndex := 12, descriptorIndex := 6, attributes := #[] }, { accessFlags := 18, nameIndex := 34, descriptorIndex := 35, attributes := #[] }, { accessFlags := 4122, nameIndex := 15, descriptorIndex := 16, attributes := #[] }])
  fields := #[{ name := "SUBJECT", type := (.object "com/example/ratification/ratification/model/Category"), accessFlags := 16409, slot := 0, constantValue := 0 }, { name := "OBJECT", type := (.object "com/example/ratification/ratification/model/Category"), accessFlags := 16409, slot := 1, constantValue := 0 }, { name := "CONTEXT", type := (.object "com/example/ratification/ratification/model/Category"), accessFlags := 16409, slot := 2, constantValue := 0 }, { name := "prefix", type := (.object "java/lang/String"), accessFlags := 18, slot := 3, constantValue := 0 }, { name := "$VALUES", type := (.array (.object "com/example/ratification/ratification/model/Category")), accessFlags := 4122, slot := 3, constantValue := 0 }]
  methods := #[]
  instanceTypes := #[(.object "java/lang/String"), .int, .int, (.object "java/lang/String")]
  staticTypes := #[(.object "com/example/ratification/ratification/model/Category"), (.object "com/example/ratification/ratification/model/Category"), (.object "com/example/ratification/ratification/model/Category"), (.array (.object "com/example/ratification/ratification/model/Category"))]
  resolved := Array.replicate 87 none
  statics := some 0 }

def pool7 : Array CpInfo := pool [(2, .class_ 4), (1, u "java/lang/CharSequence"), (42, .class_ 48), (0, u "java/lang/CharSequence$1CodePointIterator"), (10, .class_ 60), (0, u "java/lang/CharSequence$1CharIterator"), (5, .class_ 67), (0, u "java/lang/Object")] 63

/-- java/lang/CharSequence -/
def k7 : Class := { plain "java/lang/CharSequence" (some 0) with
  accessFlags := 1537
  interfaces := #[]
  cf := some (fileOf pool7 2 #[.nestMembers #[47, 59]] #[] 1537 66 #[] #[])
  fields := #[]
  methods := #[]
  instanceTypes := #[]
  staticTypes := #[]
  resolved := Array.replicate 131 none
  statics := none }

def pool8 : Array CpInfo := pool [(1, .class_ 2), (0, u "java/lang/constant/ConstantDesc"), (0, .class_ 4), (0, u "java/lang/Object")] 32

/-- java/lang/constant/ConstantDesc -/
def k8 : Class := { plain "java/lang/constant/ConstantDesc" (some 0) with
  accessFlags := 1537
  interfaces := #[]
  cf := some (fileOf pool8 1 #[] #[] 1537 3 #[] #[])
  fields := #[]
  methods := #[]
  instanceTypes := #[]
  staticTypes := #[]
  resolved := Array.replicate 37 none
  statics := none }

def pool9 : Array CpInfo := pool [(1, .methodref 2 3), (0, .class_ 4), (0, .nameAndType 5 6), (0, u "java/lang/Object"), (0, u "<init>"), (0, u "()V"), (0, .string 8), (0, u ""), (0, .fieldref 10 11), (0, .class_ 12), (0, .nameAndType 13 14), (0, u "java/lang/String"), (0, u "value"), (0, u "[B"), (0, .fieldref 10 16), (0, .nameAndType 17 18), (0, u "coder"), (0, u "B"), (2, u "hash"), (0, u "I"), (2, u "hashIsZero"), (0, u "Z"), (0, .methodref 10 28), (0, .nameAndType 5 29), (0, u "([CIILjava/lang/Void;)V"), (8, .fieldref 10 39), (0, .nameAndType 40 26), (0, u "COMPACT_STRINGS"), (1, .class_ 44), (1, u "java/lang/StringUTF16"), (0, u "compress"), (1, .methodref 42 48), (0, .nameAndType 49 50), (0, u "coderFromArrayLen"), (0, u "([BI)B"), (2, u "toBytes"), (53, .class_ 109), (1, u "java/lang/StringLatin1"), (67, .methodref 42 178), (0, .nameAndType 45 179), (0, u "([CII)[B"), (29, .methodref 10 210), (0, .nameAndType 5 211), (0, u "([BB)V"), (157, u "(C)Z"), (171, .methodref 107 542), (0, .nameAndType 543 544), (0, u "equals"), (0, u "([B[B)Z"), (28, u "(Ljava/lang/Object;)Z"), (1, .class_ 576), (0, u "java/lang/CharSequence"), (22, u "CASE_INSENSITIVE_ORDER"), (0, u "Ljava/util/Comparator;"), (181, u "valueOf"), (0, u "(C)Ljava/lang/String;"), (226, u "([C)V"), (4, .methodref 107 1016), (0, .nameAndType 1017 369), (0, u "canEncode"), (0, .methodref 107 1019), (0, .nameAndType 53 1020), (0, u "(C)[B"), (80, u "serialPersistentFields"), (0, u "[Ljava/io/ObjectStreamField;"), (0, .class_ 1104), (0, u "java/lang/String$CaseInsensitiveComparator"), (1, .class_ 1107), (0, u "java/io/Serializable"), (0, .class_ 1109), (0, u "java/lang/Comparable"), (0, .class_ 1111), (0, u "java/lang/constant/Constable"), (0, .class_ 1113), (0, u "java/lang/constant/ConstantDesc"), (2, u "serialVersionUID"), (0, u "J"), (3, u "REPL"), (0, u "C"), (2, u "LATIN1"), (1, u "UTF16")] 323

def k9m0 : Method := { name := "<init>", desc := "()V", sig := { parameters := [], returnType := none }, accessFlags := 1, code := none }
def k9c1 : Code := { maxStack := 5, maxLocals := 2, code := jdk_42_method_3_code, exceptionTable := #[], attributes := #[] }
def k9m1 : Method := { name := "<init>", desc := "([C)V", sig := { parameters := [(.array .char)], returnType := none }, accessFlags := 1, code := some k9c1 }
def k9c2 : Code := { maxStack := 2, maxLocals := 3, code := jdk_42_method_66_code, exceptionTable := #[], attributes := #[] }
def k9m2 : Method := { name := "equals", desc := "(Ljava/lang/Object;)Z", sig := { parameters := [(.object "java/lang/Object")], returnType := some .boolean }, accessFlags := 1, code := some k9c2 }
def k9c3 : Code := { maxStack := 4, maxLocals := 1, code := jdk_42_method_139_code, exceptionTable := #[], attributes := #[] }
def k9m3 : Method := { name := "valueOf", desc := "(C)Ljava/lang/String;", sig := { parameters := [.char], returnType := some (.object "java/lang/String") }, accessFlags := 9, code := some k9c3 }
def k9c4 : Code := { maxStack := 4, maxLocals := 6, code := jdk_42_method_149_code, exceptionTable := #[], attributes := #[] }
def k9m4 : Method := { name := "<init>", desc := "([CIILjava/lang/Void;)V", sig := { parameters := [(.array .char), .int, .int, (.object "java/lang/Void")], returnType := none }, accessFlags := 2, code := some k9c4 }
def k9c5 : Code := { maxStack := 2, maxLocals := 3, code := jdk_42_method_151_code, exceptionTable := #[], attributes := #[] }
def k9m5 : Method := { name := "<init>", desc := "([BB)V", sig := { parameters := [(.array .byte), .byte], returnType := none }, accessFlags := 0, code := some k9c5 }
/-- java/lang/String -/
def k9 : Class := { plain "java/lang/String" (some 0) with
  accessFlags := 49
  interfaces := #[4, 3, 7, 2, 8]
  cf := some (fileOf pool9 10 #[.nestMembers #[1103]] #[{ accessFlags := 1, nameIndex := 5, descriptorIndex := 6, attributes := #[] }, { accessFlags := 1, nameIndex := 5, descriptorIndex := 1010, attributes := #[] }, { accessFlags := 1, nameIndex := 543, descriptorIndex := 573, attributes := #[] }, { accessFlags := 9, nameIndex := 782, descriptorIndex := 783, attributes := #[] }, { accessFlags := 2, nameIndex := 5, descriptorIndex := 29, attributes := #[] }, { accessFlags := 0, nameIndex := 5, descriptorIndex := 211, attributes := #[] }] 49 2 #[1106, 1108, 575, 1110, 1112] #[{ accessFlags := 18, nameIndex := 13, descriptorIndex := 14, attributes := #[] }, { accessFlags := 18, nameIndex := 17, descriptorIndex := 18, attributes := #[] }, { accessFlags := 2, nameIndex := 21, descriptorIndex := 22, attributes := #[] }, { accessFlags := 2, nameIndex := 25, descriptorIndex := 26, attributes := #[] }, { accessFlags := 26, nameIndex := 1116, descriptorIndex := 1117, attributes := #[] }, { accessFlags := 24, nameIndex := 40, descriptorIndex := 26, attributes := #[] }, { accessFlags := 26, nameIndex := 1101, descriptorIndex := 1102, attributes := #[] }, { accessFlags := 26, nameIndex := 1121, descriptorIndex := 1122, attributes := #[] }, { accessFlags := 25, nameIndex := 599, descriptorIndex := 600, attributes := #[] }, { accessFlags := 24, nameIndex := 1125, descriptorIndex := 18, attributes := #[] }, { accessFlags := 24, nameIndex := 1127, descriptorIndex := 18, attributes := #[] }])
  fields := #[{ name := "value", type := (.array .byte), accessFlags := 18, slot := 0, constantValue := 0 }, { name := "coder", type := .byte, accessFlags := 18, slot := 1, constantValue := 0 }, { name := "hash", type := .int, accessFlags := 2, slot := 2, constantValue := 0 }, { name := "hashIsZero", type := .boolean, accessFlags := 2, slot := 3, constantValue := 0 }, { name := "serialVersionUID", type := .long, accessFlags := 26, slot := 0, constantValue := 0 }, { name := "COMPACT_STRINGS", type := .boolean, accessFlags := 24, slot := 1, constantValue := 0 }, { name := "serialPersistentFields", type := (.array (.object "java/io/ObjectStreamField")), accessFlags := 26, slot := 2, constantValue := 0 }, { name := "REPL", type := .char, accessFlags := 26, slot := 3, constantValue := 0 }, { name := "CASE_INSENSITIVE_ORDER", type := (.object "java/util/Comparator"), accessFlags := 25, slot := 4, constantValue := 0 }, { name := "LATIN1", type := .byte, accessFlags := 24, slot := 5, constantValue := 0 }, { name := "UTF16", type := .byte, accessFlags := 24, slot := 6, constantValue := 0 }]
  methods := #[k9m0, k9m1, k9m2, k9m3, k9m4, k9m5]
  instanceTypes := #[(.array .byte), .byte, .int, .boolean]
  staticTypes := #[.long, .boolean, (.array (.object "java/io/ObjectStreamField")), .char, (.object "java/util/Comparator"), .byte, .byte]
  resolved := Array.replicate 1451 none
  statics := some 1 }

def pool10 : Array CpInfo := pool [(1, .methodref 2 3), (0, .class_ 4), (0, .nameAndType 5 6), (0, u "java/lang/Object"), (0, u "<init>"), (0, u "()V"), (0, .string 8), (0, u "category"), (0, .methodref 10 11), (0, .class_ 12), (0, .nameAndType 13 14), (0, u "java/util/Objects"), (0, u "requireNonNull"), (0, u "(Ljava/lang/Object;Ljava/lang/String;)Ljava/lang/Object;"), (0, .class_ 16), (0, u "com/example/ratification/ratification/model/Category"), (0, .fieldref 18 19), (0, .class_ 20), (0, .nameAndType 8 21), (0, u "com/example/ratification/ratification/model/Attribute"), (0, u "Lcom/example/ratification/ratification/model/Category;"), (0, .string 23), (0, u "name"), (0, .class_ 25), (0, u "java/lang/String"), (0, .fieldref 18 27), (0, .nameAndType 23 28), (0, u "Ljava/lang/String;"), (0, .methodref 24 30), (0, .nameAndType 31 32), (0, u "equals"), (0, u "(Ljava/lang/Object;)Z"), (12, u "(Lcom/example/ratification/ratification/model/Category;Ljava/lang/String;)V")] 24

def k10c0 : Code := { maxStack := 3, maxLocals := 3, code := prog_50_method_1_code, exceptionTable := #[], attributes := #[] }
def k10m0 : Method := { name := "<init>", desc := "(Lcom/example/ratification/ratification/model/Category;Ljava/lang/String;)V", sig := { parameters := [(.object "com/example/ratification/ratification/model/Category"), (.object "java/lang/String")], returnType := none }, accessFlags := 1, code := some k10c0 }
def k10c1 : Code := { maxStack := 2, maxLocals := 2, code := prog_50_method_4_code, exceptionTable := #[], attributes := #[] }
def k10m1 : Method := { name := "equals", desc := "(Ljava/lang/Object;)Z", sig := { parameters := [(.object "java/lang/Object")], returnType := some .boolean }, accessFlags := 1, code := some k10c1 }
/-- com/example/ratification/ratification/model/Attribute -/
def k10 : Class := { plain "com/example/ratification/ratification/model/Attribute" (some 0) with
  accessFlags := 49
  interfaces := #[]
  cf := some (fileOf pool10 18 #[] #[{ accessFlags := 1, nameIndex := 5, descriptorIndex := 45, attributes := #[] }, { accessFlags := 1, nameIndex := 31, descriptorIndex := 32, attributes := #[] }] 49 2 #[] #[{ accessFlags := 18, nameIndex := 8, descriptorIndex := 21, attributes := #[] }, { accessFlags := 18, nameIndex := 23, descriptorIndex := 28, attributes := #[] }])
  fields := #[{ name := "category", type := (.object "com/example/ratification/ratification/model/Category"), accessFlags := 18, slot := 0, constantValue := 0 }, { name := "name", type := (.object "java/lang/String"), accessFlags := 18, slot := 1, constantValue := 0 }]
  methods := #[k10m0, k10m1]
  instanceTypes := #[(.object "com/example/ratification/ratification/model/Category"), (.object "java/lang/String")]
  staticTypes := #[]
  resolved := Array.replicate 70 none
  statics := none }

def pool11 : Array CpInfo := pool [(2, .class_ 4), (1, u "java/lang/Object"), (0, u "<init>"), (0, u "()V"), (35, .class_ 44), (1, u "java/util/Objects"), (0, u "requireNonNull"), (48, u "(Ljava/lang/Object;Ljava/lang/String;)Ljava/lang/Object;")] 89

def k11m0 : Method := { name := "<init>", desc := "()V", sig := { parameters := [], returnType := none }, accessFlags := 2, code := none }
def k11c1 : Code := { maxStack := 3, maxLocals := 2, code := jdk_31_method_11_code, exceptionTable := #[], attributes := #[] }
def k11m1 : Method := { name := "requireNonNull", desc := "(Ljava/lang/Object;Ljava/lang/String;)Ljava/lang/Object;", sig := { parameters := [(.object "java/lang/Object"), (.object "java/lang/String")], returnType := some (.object "java/lang/Object") }, accessFlags := 9, code := some k11c1 }
/-- java/util/Objects -/
def k11 : Class := { plain "java/util/Objects" (some 0) with
  accessFlags := 49
  interfaces := #[]
  cf := some (fileOf pool11 42 #[] #[{ accessFlags := 2, nameIndex := 5, descriptorIndex := 6, attributes := #[] }, { accessFlags := 9, nameIndex := 45, descriptorIndex := 94, attributes := #[] }] 49 2 #[] #[])
  fields := #[]
  methods := #[k11m0, k11m1]
  instanceTypes := #[]
  staticTypes := #[]
  resolved := Array.replicate 184 none
  statics := none }

def pool12 : Array CpInfo := pool [(4, .class_ 6), (1, u "java/lang/Object"), (0, u "<init>"), (0, u "()V"), (5, .class_ 16), (1, u "java/lang/StringLatin1"), (73, u "canEncode"), (14, u "(C)Z"), (15, u "$assertionsDisabled"), (0, u "Z"), (98, .class_ 223), (1, u "java/lang/StringLatin1$LinesSpliterator"), (57, u "equals"), (0, u "([B[B)Z"), (97, u "toBytes"), (1, u "(C)[B"), (7, .class_ 391), (0, u "java/lang/StringLatin1$CharsSpliterator")] 3

def k12m0 : Method := { name := "<init>", desc := "()V", sig := { parameters := [], returnType := none }, accessFlags := 0, code := none }
def k12c1 : Code := { maxStack := 2, maxLocals := 1, code := jdk_43_method_3_code, exceptionTable := #[], attributes := #[] }
def k12m1 : Method := { name := "canEncode", desc := "(C)Z", sig := { parameters := [.char], returnType := some .boolean }, accessFlags := 9, code := some k12c1 }
def k12c2 : Code := { maxStack := 3, maxLocals := 3, code := jdk_43_method_13_code, exceptionTable := #[], attributes := #[] }
def k12m2 : Method := { name := "equals", desc := "([B[B)Z", sig := { parameters := [(.array .byte), (.array .byte)], returnType := some .boolean }, accessFlags := 9, code := some k12c2 }
def k12c3 : Code := { maxStack := 4, maxLocals := 1, code := jdk_43_method_46_code, exceptionTable := #[], attributes := #[] }
def k12m3 : Method := { name := "toBytes", desc := "(C)[B", sig := { parameters := [.char], returnType := some (.array .byte) }, accessFlags := 9, code := some k12c3 }
/-- java/lang/StringLatin1 -/
def k12 : Class := { plain "java/lang/StringLatin1" (some 0) with
  accessFlags := 48
  interfaces := #[]
  cf := some (fileOf pool12 14 #[.nestMembers #[390, 221]] #[{ accessFlags := 0, nameIndex := 7, descriptorIndex := 8, attributes := #[] }, { accessFlags := 9, nameIndex := 90, descriptorIndex := 105, attributes := #[] }, { accessFlags := 9, nameIndex := 281, descriptorIndex := 282, attributes := #[] }, { accessFlags := 9, nameIndex := 380, descriptorIndex := 382, attributes := #[] }] 48 4 #[] #[{ accessFlags := 4120, nameIndex := 121, descriptorIndex := 122, attributes := #[] }])
  fields := #[{ name := "$assertionsDisabled", type := .boolean, accessFlags := 4120, slot := 0, constantValue := 0 }]
  methods := #[k12m0, k12m1, k12m2, k12m3]
  instanceTypes := #[]
  staticTypes := #[.boolean]
  resolved := Array.replicate 395 none
  statics := none }

def pool13 : Array CpInfo := pool [(6, .class_ 8), (1, u "java/lang/Object"), (0, u "<init>"), (0, u "()V"), (1, .class_ 14), (1, u "java/lang/StringUTF16"), (31, u "$assertionsDisabled"), (0, u "Z"), (13, u "HI_BYTE_SHIFT"), (0, u "I"), (2, u "LO_BYTE_SHIFT"), (49, .methodref 12 116), (0, .nameAndType 117 118), (0, u "compress"), (0, u "([CI[BII)I"), (3, u "([CII)[B"), (138, u "coderFromArrayLen"), (0, u "([BI)B"), (106, .class_ 371), (1, u "java/lang/StringUTF16$LinesSpliterator"), (58, u "MAX_LENGTH"), (196, .class_ 628), (0, u "java/lang/StringUTF16$CodePointsSpliterator"), (0, .class_ 630), (0, u "java/lang/StringUTF16$CharsSpliterator")] 4

def k13m0 : Method := { name := "<init>", desc := "()V", sig := { parameters := [], returnType := none }, accessFlags := 0, code := none }
def k13c1 : Code := { maxStack := 2, maxLocals := 2, code := jdk_52_method_15_code, exceptionTable := #[], attributes := #[] }
def k13m1 : Method := { name := "coderFromArrayLen", desc := "([BI)B", sig := { parameters := [(.array .byte), .int], returnType := some .byte }, accessFlags := 8, code := some k13c1 }
def k13c2 : Code := { maxStack := 5, maxLocals := 6, code := jdk_52_method_16_code, exceptionTable := #[], attributes := #[] }
def k13m2 : Method := { name := "compress", desc := "([CII)[B", sig := { parameters := [(.array .char), .int, .int], returnType := some (.array .byte) }, accessFlags := 9, code := some k13c2 }
def k13c3 : Code := { maxStack := 3, maxLocals := 7, code := jdk_52_method_21_code, exceptionTable := #[], attributes := #[] }
def k13m3 : Method := { name := "compress", desc := "([CI[BII)I", sig := { parameters := [(.array .char), .int, (.array .byte), .int, .int], returnType := some .int }, accessFlags := 9, code := some k13c3 }
/-- java/lang/StringUTF16 -/
def k13 : Class := { plain "java/lang/StringUTF16" (some 0) with
  accessFlags := 48
  interfaces := #[]
  cf := some (fileOf pool13 12 #[.nestMembers #[627, 629, 369]] #[{ accessFlags := 0, nameIndex := 9, descriptorIndex := 10, attributes := #[] }, { accessFlags := 8, nameIndex := 261, descriptorIndex := 262, attributes := #[] }, { accessFlags := 9, nameIndex := 117, descriptorIndex := 122, attributes := #[] }, { accessFlags := 9, nameIndex := 117, descriptorIndex := 118, attributes := #[] }] 48 6 #[] #[{ accessFlags := 26, nameIndex := 61, descriptorIndex := 62, attributes := #[] }, { accessFlags := 26, nameIndex := 65, descriptorIndex := 62, attributes := #[] }, { accessFlags := 24, nameIndex := 430, descriptorIndex := 62, attributes := #[] }, { accessFlags := 4120, nameIndex := 46, descriptorIndex := 47, attributes := #[] }])
  fields := #[{ name := "HI_BYTE_SHIFT", type := .int, accessFlags := 26, slot := 0, constantValue := 0 }, { name := "LO_BYTE_SHIFT", type := .int, accessFlags := 26, slot := 1, constantValue := 0 }, { name := "MAX_LENGTH", type := .int, accessFlags := 24, slot := 2, constantValue := 0 }, { name := "$assertionsDisabled", type := .boolean, accessFlags := 4120, slot := 3, constantValue := 0 }]
  methods := #[k13m0, k13m1, k13m2, k13m3]
  instanceTypes := #[]
  staticTypes := #[.int, .int, .int, .boolean]
  resolved := Array.replicate 635 none
  statics := none }

def pool14 : Array CpInfo := pool [(2, .class_ 4), (1, u "java/lang/Object"), (0, u "<init>"), (0, u "()V"), (17, .class_ 26), (1, u "jdk/internal/util/Preconditions"), (28, .class_ 56), (0, u "jdk/internal/util/Preconditions$4"), (57, .class_ 115), (0, u "jdk/internal/util/Preconditions$1"), (7, u "SIOOBE_FORMATTER"), (0, u "Ljava/util/function/BiFunction;"), (0, .class_ 126), (0, u "jdk/internal/util/Preconditions$2"), (3, u "AIOOBE_FORMATTER"), (0, .class_ 132), (0, u "jdk/internal/util/Preconditions$3"), (3, u "IOOBE_FORMATTER")] 57

def k14m0 : Method := { name := "<init>", desc := "()V", sig := { parameters := [], returnType := none }, accessFlags := 1, code := none }
/-- jdk/internal/util/Preconditions -/
def k14 : Class := { plain "jdk/internal/util/Preconditions" (some 0) with
  accessFlags := 33
  interfaces := #[]
  cf := some (fileOf pool14 24 #[.nestMembers #[55, 131, 125, 114]] #[{ accessFlags := 1, nameIndex := 5, descriptorIndex := 6, attributes := #[] }] 33 2 #[] #[{ accessFlags := 25, nameIndex := 123, descriptorIndex := 124, attributes := #[] }, { accessFlags := 25, nameIndex := 130, descriptorIndex := 124, attributes := #[] }, { accessFlags := 25, nameIndex := 136, descriptorIndex := 124, attributes := #[] }])
  fields := #[{ name := "SIOOBE_FORMATTER", type := (.object "java/util/function/BiFunction"), accessFlags := 25, slot := 0, constantValue := 0 }, { name := "AIOOBE_FORMATTER", type := (.object "java/util/function/BiFunction"), accessFlags := 25, slot := 1, constantValue := 0 }, { name := "IOOBE_FORMATTER", type := (.object "java/util/function/BiFunction"), accessFlags := 25, slot := 2, constantValue := 0 }]
  methods := #[k14m0]
  instanceTypes := #[]
  staticTypes := #[(.object "java/util/function/BiFunction"), (.object "java/util/function/BiFunction"), (.object "java/util/function/BiFunction")]
  resolved := Array.replicate 194 none
  statics := some 2 }

def pool15 : Array CpInfo := pool [(9, u "<init>"), (6, .class_ 18), (1, u "java/lang/Object"), (0, u "()V"), (1, .class_ 23), (1, u "jdk/internal/util/ArraysSupport"), (0, u "LOG2_ARRAY_LONG_INDEX_SCALE"), (0, u "I"), (2, u "U"), (0, u "Ljdk/internal/misc/Unsafe;"), (8, u "BIG_ENDIAN"), (0, u "Z"), (8, u "LOG2_BYTE_BIT_SIZE"), (4, u "LOG2_ARRAY_INT_INDEX_SCALE"), (54, u "JLA"), (0, u "Ljdk/internal/access/JavaLangAccess;"), (11, u "LOG2_ARRAY_BOOLEAN_INDEX_SCALE"), (9, u "LOG2_ARRAY_BYTE_INDEX_SCALE"), (5, u "LOG2_ARRAY_CHAR_INDEX_SCALE"), (5, u "LOG2_ARRAY_SHORT_INDEX_SCALE"), (18, u "LOG2_ARRAY_FLOAT_INDEX_SCALE"), (24, u "LOG2_ARRAY_DOUBLE_INDEX_SCALE"), (89, u "T_BOOLEAN"), (2, u "T_CHAR"), (1, u "T_FLOAT"), (1, u "T_DOUBLE"), (1, u "T_BYTE"), (1, u "T_SHORT"), (1, u "T_INT"), (1, u "T_LONG"), (1, u "SOFT_MAX_ARRAY_LENGTH")] 83

def k15m0 : Method := { name := "<init>", desc := "()V", sig := { parameters := [], returnType := none }, accessFlags := 2, code := none }
/-- jdk/internal/util/ArraysSupport -/
def k15 : Class := { plain "jdk/internal/util/ArraysSupport" (some 0) with
  accessFlags := 33
  interfaces := #[]
  cf := some (fileOf pool15 21 #[] #[{ accessFlags := 2, nameIndex := 9, descriptorIndex := 19, attributes := #[] }] 33 16 #[] #[{ accessFlags := 24, nameIndex := 28, descriptorIndex := 29, attributes := #[] }, { accessFlags := 26, nameIndex := 38, descriptorIndex := 39, attributes := #[] }, { accessFlags := 25, nameIndex := 121, descriptorIndex := 25, attributes := #[] }, { accessFlags := 25, nameIndex := 131, descriptorIndex := 25, attributes := #[] }, { accessFlags := 25, nameIndex := 137, descriptorIndex := 25, attributes := #[] }, { accessFlags := 25, nameIndex := 143, descriptorIndex := 25, attributes := #[] }, { accessFlags := 25, nameIndex := 53, descriptorIndex := 25, attributes := #[] }, { accessFlags := 25, nameIndex := 24, descriptorIndex := 25, attributes := #[] }, { accessFlags := 25, nameIndex := 162, descriptorIndex := 25, attributes := #[] }, { accessFlags := 25, nameIndex := 187, descriptorIndex := 25, attributes := #[] }, { accessFlags := 26, nameIndex := 48, descriptorIndex := 25, attributes := #[] }, { accessFlags := 25, nameIndex := 277, descriptorIndex := 25, attributes := #[] }, { accessFlags := 25, nameIndex := 280, descriptorIndex := 25, attributes := #[] }, { accessFlags := 25, nameIndex := 282, descriptorIndex := 25, attributes := #[] }, { accessFlags := 25, nameIndex := 284, descriptorIndex := 25, attributes := #[] }, { accessFlags := 25, nameIndex := 286, descriptorIndex := 25, attributes := #[] }, { accessFlags := 25, nameIndex := 288, descriptorIndex := 25, attributes := #[] }, { accessFlags := 25, nameIndex := 290, descriptorIndex := 25, attributes := #[] }, { accessFlags := 25, nameIndex := 292, descriptorIndex := 25, attributes := #[] }, { accessFlags := 26, nameIndex := 108, descriptorIndex := 109, attributes := #[] }, { accessFlags := 25, nameIndex := 294, descriptorIndex := 25, attributes := #[] }])
  fields := #[{ name := "U", type := (.object "jdk/internal/misc/Unsafe"), accessFlags := 24, slot := 0, constantValue := 0 }, { name := "BIG_ENDIAN", type := .boolean, accessFlags := 26, slot := 1, constantValue := 0 }, { name := "LOG2_ARRAY_BOOLEAN_INDEX_SCALE", type := .int, accessFlags := 25, slot := 2, constantValue := 0 }, { name := "LOG2_ARRAY_BYTE_INDEX_SCALE", type := .int, accessFlags := 25, slot := 3, constantValue := 0 }, { name := "LOG2_ARRAY_CHAR_INDEX_SCALE", type := .int, accessFlags := 25, slot := 4, constantValue := 0 }, { name := "LOG2_ARRAY_SHORT_INDEX_SCALE", type := .int, accessFlags := 25, slot := 5, constantValue := 0 }, { name := "LOG2_ARRAY_INT_INDEX_SCALE", type := .int, accessFlags := 25, slot := 6, constantValue := 0 }, { name := "LOG2_ARRAY_LONG_INDEX_SCALE", type := .int, accessFlags := 25, slot := 7, constantValue := 0 }, { name := "LOG2_ARRAY_FLOAT_INDEX_SCALE", type := .int, accessFlags := 25, slot := 8, constantValue := 0 }, { name := "LOG2_ARRAY_DOUBLE_INDEX_SCALE", type := .int, accessFlags := 25, slot := 9, constantValue := 0 }, { name := "LOG2_BYTE_BIT_SIZE", type := .int, accessFlags := 26, slot := 10, constantValue := 0 }, { name := "T_BOOLEAN", type := .int, accessFlags := 25, slot := 11, constantValue := 0 }, { name := "T_CHAR", type := .int, accessFlags := 25, slot := 12, constantValue := 0 }, { name := "T_FLOAT", type := .int, accessFlags := 25, slot := 13, constantValue := 0 }, { name := "T_DOUBLE", type := .int, accessFlags := 25, slot := 14, constantValue := 0 }, { name := "T_BYTE", type := .int, accessFlags := 25, slot := 15, constantValue := 0 }, { name := "T_SHORT", type := .int, accessFlags := 25, slot := 16, constantValue := 0 }, { name := "T_INT", type := .int, accessFlags := 25, slot := 17, constantValue := 0 }, { name := "T_LONG", type := .int, accessFlags := 25, slot := 18, constantValue := 0 }, { name := "JLA", type := (.object "jdk/internal/access/JavaLangAccess"), accessFlags := 26, slot := 19, constantValue := 0 }, { name := "SOFT_MAX_ARRAY_LENGTH", type := .int, accessFlags := 25, slot := 20, constantValue := 0 }]
  methods := #[k15m0]
  instanceTypes := #[]
  staticTypes := #[(.object "jdk/internal/misc/Unsafe"), .boolean, .int, .int, .int, .int, .int, .int, .int, .int, .int, .int, .int, .int, .int, .int, .int, .int, .int, (.object "jdk/internal/access/JavaLangAccess"), .int]
  resolved := Array.replicate 378 none
  statics := none }

def pool16 : Array CpInfo := pool [(1, u "java/lang/Cloneable"), (0, .class_ 1), (0, u "java/lang/Object"), (0, .class_ 3)] 3

/-- java/lang/Cloneable -/
def k16 : Class := { plain "java/lang/Cloneable" (some 0) with
  accessFlags := 1537
  interfaces := #[]
  cf := some (fileOf pool16 2 #[] #[] 1537 4 #[] #[])
  fields := #[]
  methods := #[]
  instanceTypes := #[]
  staticTypes := #[]
  resolved := Array.replicate 8 none
  statics := none }

/-- the primitive byte -/
def k17 : Class := { plain "byte" none with kind := .primitive 'B', accessFlags := 0x411 }
/-- [B -/
def k18 : Class := { plain "[B" (some 0) with kind := .array 17 .byte, interfaces := #[16, 4], accessFlags := 1041 }

/-- the primitive char -/
def k19 : Class := { plain "char" none with kind := .primitive 'C', accessFlags := 0x411 }
/-- [C -/
def k20 : Class := { plain "[C" (some 0) with kind := .array 19 .char, interfaces := #[16, 4], accessFlags := 1041 }

/-- the primitive int -/
def k21 : Class := { plain "int" none with kind := .primitive 'I', accessFlags := 0x411 }
/-- [I -/
def k22 : Class := { plain "[I" (some 0) with kind := .array 21 .int, interfaces := #[16, 4], accessFlags := 1041 }

def heap : Heap := #[{ cls := 6, slots := #[.ref 3, .ref 4, .ref 5, .null], vm := .statics 6 },
  { cls := 9, slots := #[.long 0, .int 1, .null, .int 0, .null, .int 0, .int 0], vm := .statics 9 },
  { cls := 14, slots := #[.null, .null, .null], vm := .statics 14 },
  { cls := 6, slots := #[.null, .int 0, .int 0, .null], vm := .none },
  { cls := 6, slots := #[.null, .int 1, .int 0, .null], vm := .none },
  { cls := 6, slots := #[.null, .int 2, .int 0, .null], vm := .none }]
def classes : Array Class := #[k0, k1, k2, k3, k4, k5, k6, k7, k8, k9, k10, k11, k12, k13, k14, k15, k16, k17, k18, k19, k20, k21, k22]
def interned : List (Array UInt16 × Addr) := []
def slotsUsed : Nat := 26
def theMethod : MethodId := ⟨1, 3⟩
def args0 : Array Value := #[.int 3, .int 4, .int 5, .int 6, .int 7]
def aboutOver (below : List Frame) : State where
  vm := { classes := classes, interned := interned.toArray }
  heap := heap
  slotsUsed := slotsUsed
  threads := #[{ frames := .invoking theMethod args0 :: below }]
def below0 : List Frame := [.native { method := ⟨0, 0⟩, args := #[] }]
def about1 : State := aboutOver below0
def p0 : Program := .bare "" "" ""
def e0 : Env := launch0.env 0 0 0
theorem w_frames : about1.frames = Frame.invoking theMethod args0 :: below0 := rfl
set_option maxRecDepth 65536 in
theorem w_args : argsFit about1.vm theMethod args0 = true := by decide +kernel
set_option maxRecDepth 65536 in
theorem w_heap : heapFits about1 = true := by decide +kernel
set_option maxRecDepth 65536 in
theorem w_runnable : about1.curStatus? = some .runnable := by decide +kernel
set_option maxRecDepth 65536 in
theorem w_alone : about1.alone = true := by decide +kernel
set_option maxRecDepth 65536 in
theorem w_named : about1.methodNamed? x = some theMethod := by decide +kernel
set_option maxRecDepth 65536 in
theorem w_hears : about1.hears theMethod below0 = true := by decide +kernel
set_option maxRecDepth 65536 in
theorem w_ripe : about1.ripe theMethod args0 below0 = true := by decide +kernel
theorem w_running : about1.status = .running := rfl
set_option maxRecDepth 65536 in
theorem w_room : about1.hasRoom e0.platform room_1 = true :=
  launch0.hasRoom_least _ room_1 (by decide +kernel) (by decide +kernel) (by decide +kernel) (by decide +kernel) (by decide +kernel) (by decide +kernel)
theorem allAtoms_all (ts : List Jvm.Cond) (a : Array Jvm.Value) (st : Jvm.State) : (allAtoms ts).before a st = ts.all (fun c => c.before a st) := by
  induction ts with
  | nil => rfl
  | cons c t ih =>
    show (Jvm.Cond.and c (allAtoms t)).before a st = _
    rw [Jvm.Cond.before_and, ih, List.all_cons]
def words1 : List Jvm.Cond := Jvm.Cond.code x code maxLocals ret :: tables_1
/-- a 'code' word, met by the world's own term for the bytes: nothing is compared byte by byte -/
theorem code_word {y : MethodName} {bytes : ByteArray} {mx : Nat} {rt : Option FieldType} {a : Array Value} {s : State} {m : MethodId} {meth : Method} {c : Code} (h1 : s.methodNamed? y = some m) (h2 : s.vm.method? m = some meth) (h3 : meth.code = some c) (h4 : c.code = bytes)
    (h5 : (c.maxLocals == mx && c.exceptionTable.isEmpty && decide (c.maxStack ≤ mostOperands) && decide (meth.sig.returnType = rt) && !meth.locks && decide (parseMethodDescriptor y.desc = some meth.sig)) = true) : (Jvm.Cond.code y bytes mx rt).before a s = true := by
  simp only [Bool.and_eq_true, beq_iff_eq, Bool.not_eq_true', decide_eq_true_eq] at h5
  obtain ⟨⟨⟨⟨⟨g1, g2⟩, g3⟩, g4⟩, g5⟩, g6⟩ := h5
  simp [Cond.before, Cond.holds, Cond.value, h1, h2, h3, h4, g1, g2, g3, g4, g5, g6]
def isCode : Jvm.Cond → Bool
  | .code _ _ _ _ => true
  | _ => false
theorem all_split {L : List Jvm.Cond} {P : Jvm.Cond → Bool} (h1 : L.all (fun c => isCode c || P c) = true) (h2 : ∀ c ∈ L.filter isCode, P c = true) : L.all P = true := by
  refine List.all_eq_true.mpr fun c hc => ?_
  have h := List.all_eq_true.mp h1 c hc
  rcases Bool.eq_false_or_eq_true (isCode c) with hi | hi
  · exact h2 c (List.mem_filter.mpr ⟨hc, hi⟩)
  · simpa [hi] using h
set_option maxRecDepth 65536 in
theorem w_c0 : (Jvm.Cond.code x code maxLocals ret).before args0 about1 = true := code_word (m := ⟨1, 3⟩) (meth := k1m3) (c := k1c3) (by decide +kernel) rfl rfl rfl (by decide +kernel)
set_option maxRecDepth 65536 in
theorem w_c1 : (Jvm.Cond.code ({ cls := "com/example/ratification/ratification/model/AttributeEqualsPinLaw", name := "cat", desc := "(I)Lcom/example/ratification/ratification/model/Category;" } : Jvm.MethodName) method_2_code (1 : Nat) (Option.some (Jvm.ClassFile.FieldType.object "com/example/ratification/ratification/model/Category"))).before args0 about1 = true := code_word (m := ⟨1, 1⟩) (meth := k1m1) (c := k1c1) (by decide +kernel) rfl rfl rfl (by decide +kernel)
set_option maxRecDepth 65536 in
theorem w_c2 : (Jvm.Cond.code ({ cls := "com/example/ratification/ratification/model/AttributeEqualsPinLaw", name := "name", desc := "(ICC)Ljava/lang/String;" } : Jvm.MethodName) method_3_code (4 : Nat) (Option.some (Jvm.ClassFile.FieldType.object "java/lang/String"))).before args0 about1 = true := code_word (m := ⟨1, 2⟩) (meth := k1m2) (c := k1c2) (by decide +kernel) rfl rfl rfl (by decide +kernel)
set_option maxRecDepth 65536 in
theorem w_c3 : (Jvm.Cond.code ({ cls := "java/lang/String", name := "<init>", desc := "([C)V" } : Jvm.MethodName) jdk_42_method_3_code (2 : Nat) (Option.none : Option Jvm.ClassFile.FieldType)).before args0 about1 = true := code_word (m := ⟨9, 1⟩) (meth := k9m1) (c := k9c1) (by decide +kernel) rfl rfl rfl (by decide +kernel)
set_option maxRecDepth 65536 in
theorem w_c4 : (Jvm.Cond.code ({ cls := "java/lang/String", name := "<init>", desc := "([CIILjava/lang/Void;)V" } : Jvm.MethodName) jdk_42_method_149_code (6 : Nat) (Option.none : Option Jvm.ClassFile.FieldType)).before args0 about1 = true := code_word (m := ⟨9, 4⟩) (meth := k9m4) (c := k9c4) (by decide +kernel) rfl rfl rfl (by decide +kernel)
set_option maxRecDepth 65536 in
theorem w_c5 : (Jvm.Cond.code ({ cls := "java/lang/Object", name := "<init>", desc := "()V" } : Jvm.MethodName) object_method_1_code (1 : Nat) (Option.none : Option Jvm.ClassFile.FieldType)).before args0 about1 = true := code_word (m := ⟨0, 0⟩) (meth := k0m0) (c := k0c0) (by decide +kernel) rfl rfl rfl (by decide +kernel)
set_option maxRecDepth 65536 in
theorem w_c6 : (Jvm.Cond.code ({ cls := "com/example/ratification/ratification/model/Attribute", name := "<init>", desc := "(Lcom/example/ratification/ratification/model/Category;Ljava/lang/String;)V" } : Jvm.MethodName) prog_50_method_1_code (3 : Nat) (Option.none : Option Jvm.ClassFile.FieldType)).before args0 about1 = true := code_word (m := ⟨10, 0⟩) (meth := k10m0) (c := k10c0) (by decide +kernel) rfl rfl rfl (by decide +kernel)
set_option maxRecDepth 65536 in
theorem w_c7 : (Jvm.Cond.code ({ cls := "java/util/Objects", name := "requireNonNull", desc := "(Ljava/lang/Object;Ljava/lang/String;)Ljava/lang/Object;" } : Jvm.MethodName) jdk_31_method_11_code (2 : Nat) (Option.some (Jvm.ClassFile.FieldType.object "java/lang/Object"))).before args0 about1 = true := code_word (m := ⟨11, 1⟩) (meth := k11m1) (c := k11c1) (by decide +kernel) rfl rfl rfl (by decide +kernel)
set_option maxRecDepth 65536 in
theorem w_c8 : (Jvm.Cond.code ({ cls := "com/example/ratification/ratification/model/Attribute", name := "equals", desc := "(Ljava/lang/Object;)Z" } : Jvm.MethodName) prog_50_method_4_code (2 : Nat) (Option.some Jvm.ClassFile.FieldType.boolean)).before args0 about1 = true := code_word (m := ⟨10, 1⟩) (meth := k10m1) (c := k10c1) (by decide +kernel) rfl rfl rfl (by decide +kernel)
set_option maxRecDepth 65536 in
theorem w_c9 : (Jvm.Cond.code ({ cls := "java/lang/String", name := "equals", desc := "(Ljava/lang/Object;)Z" } : Jvm.MethodName) jdk_42_method_66_code (3 : Nat) (Option.some Jvm.ClassFile.FieldType.boolean)).before args0 about1 = true := code_word (m := ⟨9, 2⟩) (meth := k9m2) (c := k9c2) (by decide +kernel) rfl rfl rfl (by decide +kernel)
set_option maxRecDepth 65536 in
theorem w_c10 : (Jvm.Cond.code ({ cls := "java/lang/StringLatin1", name := "equals", desc := "([B[B)Z" } : Jvm.MethodName) jdk_43_method_13_code (3 : Nat) (Option.some Jvm.ClassFile.FieldType.boolean)).before args0 about1 = true := code_word (m := ⟨12, 2⟩) (meth := k12m2) (c := k12c2) (by decide +kernel) rfl rfl rfl (by decide +kernel)
set_option maxRecDepth 65536 in
theorem w_c11 : (Jvm.Cond.code ({ cls := "java/lang/String", name := "valueOf", desc := "(C)Ljava/lang/String;" } : Jvm.MethodName) jdk_42_method_139_code (1 : Nat) (Option.some (Jvm.ClassFile.FieldType.object "java/lang/String"))).before args0 about1 = true := code_word (m := ⟨9, 3⟩) (meth := k9m3) (c := k9c3) (by decide +kernel) rfl rfl rfl (by decide +kernel)
set_option maxRecDepth 65536 in
theorem w_c12 : (Jvm.Cond.code ({ cls := "java/lang/StringLatin1", name := "canEncode", desc := "(C)Z" } : Jvm.MethodName) jdk_43_method_3_code (1 : Nat) (Option.some Jvm.ClassFile.FieldType.boolean)).before args0 about1 = true := code_word (m := ⟨12, 1⟩) (meth := k12m1) (c := k12c1) (by decide +kernel) rfl rfl rfl (by decide +kernel)
set_option maxRecDepth 65536 in
theorem w_c13 : (Jvm.Cond.code ({ cls := "java/lang/StringLatin1", name := "toBytes", desc := "(C)[B" } : Jvm.MethodName) jdk_43_method_46_code (1 : Nat) (Option.some (Jvm.ClassFile.FieldType.array Jvm.ClassFile.FieldType.byte))).before args0 about1 = true := code_word (m := ⟨12, 3⟩) (meth := k12m3) (c := k12c3) (by decide +kernel) rfl rfl rfl (by decide +kernel)
set_option maxRecDepth 65536 in
theorem w_c14 : (Jvm.Cond.code ({ cls := "java/lang/String", name := "<init>", desc := "([BB)V" } : Jvm.MethodName) jdk_42_method_151_code (3 : Nat) (Option.none : Option Jvm.ClassFile.FieldType)).before args0 about1 = true := code_word (m := ⟨9, 5⟩) (meth := k9m5) (c := k9c5) (by decide +kernel) rfl rfl rfl (by decide +kernel)
set_option maxRecDepth 65536 in
theorem w_c15 : (Jvm.Cond.code ({ cls := "java/lang/StringUTF16", name := "compress", desc := "([CII)[B" } : Jvm.MethodName) jdk_52_method_16_code (6 : Nat) (Option.some (Jvm.ClassFile.FieldType.array Jvm.ClassFile.FieldType.byte))).before args0 about1 = true := code_word (m := ⟨13, 2⟩) (meth := k13m2) (c := k13c2) (by decide +kernel) rfl rfl rfl (by decide +kernel)
set_option maxRecDepth 65536 in
theorem w_c16 : (Jvm.Cond.code ({ cls := "java/lang/StringUTF16", name := "compress", desc := "([CI[BII)I" } : Jvm.MethodName) jdk_52_method_21_code (7 : Nat) (Option.some Jvm.ClassFile.FieldType.int)).before args0 about1 = true := code_word (m := ⟨13, 3⟩) (meth := k13m3) (c := k13c3) (by decide +kernel) rfl rfl rfl (by decide +kernel)
set_option maxRecDepth 65536 in
theorem w_c17 : (Jvm.Cond.code ({ cls := "java/lang/StringUTF16", name := "coderFromArrayLen", desc := "([BI)B" } : Jvm.MethodName) jdk_52_method_15_code (2 : Nat) (Option.some Jvm.ClassFile.FieldType.byte)).before args0 about1 = true := code_word (m := ⟨13, 1⟩) (meth := k13m1) (c := k13c1) (by decide +kernel) rfl rfl rfl (by decide +kernel)
def codes1 : List Jvm.Cond := [Jvm.Cond.code x code maxLocals ret, Jvm.Cond.code ({ cls := "com/example/ratification/ratification/model/AttributeEqualsPinLaw", name := "cat", desc := "(I)Lcom/example/ratification/ratification/model/Category;" } : Jvm.MethodName) method_2_code (1 : Nat) (Option.some (Jvm.ClassFile.FieldType.object "com/example/ratification/ratification/model/Category")), Jvm.Cond.code ({ cls := "com/example/ratification/ratification/model/AttributeEqualsPinLaw", name := "name", desc := "(ICC)Ljava/lang/String;" } : Jvm.MethodName) method_3_code (4 : Nat) (Option.some (Jvm.ClassFile.FieldType.object "java/lang/String")), Jvm.Cond.code ({ cls := "java/lang/String", name := "<init>", desc := "([C)V" } : Jvm.MethodName) jdk_42_method_3_code (2 : Nat) (Option.none : Option Jvm.ClassFile.FieldType), Jvm.Cond.code ({ cls := "java/lang/String", name := "<init>", desc := "([CIILjava/lang/Void;)V" } : Jvm.MethodName) jdk_42_method_149_code (6 : Nat) (Option.none : Option Jvm.ClassFile.FieldType), Jvm.Cond.code ({ cls := "java/lang/Object", name := "<init>", desc := "()V" } : Jvm.MethodName) object_method_1_code (1 : Nat) (Option.none : Option Jvm.ClassFile.FieldType), Jvm.Cond.code ({ cls := "com/example/ratification/ratification/model/Attribute", name := "<init>", desc := "(Lcom/example/ratification/ratification/model/Category;Ljava/lang/String;)V" } : Jvm.MethodName) prog_50_method_1_code (3 : Nat) (Option.none : Option Jvm.ClassFile.FieldType), Jvm.Cond.code ({ cls := "java/util/Objects", name := "requireNonNull", desc := "(Ljava/lang/Object;Ljava/lang/String;)Ljava/lang/Object;" } : Jvm.MethodName) jdk_31_method_11_code (2 : Nat) (Option.some (Jvm.ClassFile.FieldType.object "java/lang/Object")), Jvm.Cond.code ({ cls := "com/example/ratification/ratification/model/Attribute", name := "equals", desc := "(Ljava/lang/Object;)Z" } : Jvm.MethodName) prog_50_method_4_code (2 : Nat) (Option.some Jvm.ClassFile.FieldType.boolean), Jvm.Cond.code ({ cls := "java/lang/String", name := "equals", desc := "(Ljava/lang/Object;)Z" } : Jvm.MethodName) jdk_42_method_66_code (3 : Nat) (Option.some Jvm.ClassFile.FieldType.boolean), Jvm.Cond.code ({ cls := "java/lang/StringLatin1", name := "equals", desc := "([B[B)Z" } : Jvm.MethodName) jdk_43_method_13_code (3 : Nat) (Option.some Jvm.ClassFile.FieldType.boolean), Jvm.Cond.code ({ cls := "java/lang/String", name := "valueOf", desc := "(C)Ljava/lang/String;" } : Jvm.MethodName) jdk_42_method_139_code (1 : Nat) (Option.some (Jvm.ClassFile.FieldType.object "java/lang/String")), Jvm.Cond.code ({ cls := "java/lang/StringLatin1", name := "canEncode", desc := "(C)Z" } : Jvm.MethodName) jdk_43_method_3_code (1 : Nat) (Option.some Jvm.ClassFile.FieldType.boolean), Jvm.Cond.code ({ cls := "java/lang/StringLatin1", name := "toBytes", desc := "(C)[B" } : Jvm.MethodName) jdk_43_method_46_code (1 : Nat) (Option.some (Jvm.ClassFile.FieldType.array Jvm.ClassFile.FieldType.byte)), Jvm.Cond.code ({ cls := "java/lang/String", name := "<init>", desc := "([BB)V" } : Jvm.MethodName) jdk_42_method_151_code (3 : Nat) (Option.none : Option Jvm.ClassFile.FieldType), Jvm.Cond.code ({ cls := "java/lang/StringUTF16", name := "compress", desc := "([CII)[B" } : Jvm.MethodName) jdk_52_method_16_code (6 : Nat) (Option.some (Jvm.ClassFile.FieldType.array Jvm.ClassFile.FieldType.byte)), Jvm.Cond.code ({ cls := "java/lang/StringUTF16", name := "compress", desc := "([CI[BII)I" } : Jvm.MethodName) jdk_52_method_21_code (7 : Nat) (Option.some Jvm.ClassFile.FieldType.int), Jvm.Cond.code ({ cls := "java/lang/StringUTF16", name := "coderFromArrayLen", desc := "([BI)B" } : Jvm.MethodName) jdk_52_method_15_code (2 : Nat) (Option.some Jvm.ClassFile.FieldType.byte)]
set_option maxRecDepth 65536 in
theorem codes_eq : words1.filter isCode = codes1 := rfl
theorem w_codes : ∀ c ∈ words1.filter isCode, c.before args0 about1 = true := by
  rw [codes_eq]
  intro c hc
  simp only [codes1, List.mem_cons, List.not_mem_nil, or_false] at hc
  rcases hc with rfl | rfl | rfl | rfl | rfl | rfl | rfl | rfl | rfl | rfl | rfl | rfl | rfl | rfl | rfl | rfl | rfl | rfl
  · exact w_c0
  · exact w_c1
  · exact w_c2
  · exact w_c3
  · exact w_c4
  · exact w_c5
  · exact w_c6
  · exact w_c7
  · exact w_c8
  · exact w_c9
  · exact w_c10
  · exact w_c11
  · exact w_c12
  · exact w_c13
  · exact w_c14
  · exact w_c15
  · exact w_c16
  · exact w_c17
set_option maxRecDepth 65536 in
theorem w_t1 : (words1.take 24).all (fun c => isCode c || c.before args0 about1) = true := by decide +kernel
set_option maxRecDepth 65536 in
theorem w_t2 : ((words1.drop 24).take 24).all (fun c => isCode c || c.before args0 about1) = true := by decide +kernel
set_option maxRecDepth 65536 in
theorem w_t3 : (((words1.drop 24).drop 24).take 24).all (fun c => isCode c || c.before args0 about1) = true := by decide +kernel
set_option maxRecDepth 65536 in
theorem w_t4 : ((((words1.drop 24).drop 24).drop 24).take 24).all (fun c => isCode c || c.before args0 about1) = true := by decide +kernel
set_option maxRecDepth 65536 in
theorem w_t5 : ((((words1.drop 24).drop 24).drop 24).drop 24).all (fun c => isCode c || c.before args0 about1) = true := by decide +kernel
theorem w_tables : (allAtoms (Jvm.Cond.code x code maxLocals ret :: tables_1)).before args0 about1 = true := by
  rw [allAtoms_all]
  show words1.all (fun c => c.before args0 about1) = true
  refine all_split ?_ w_codes
  rw [← List.take_append_drop 24 words1, List.all_append, w_t1, ← List.take_append_drop 24 (words1.drop 24), List.all_append, w_t2, ← List.take_append_drop 24 ((words1.drop 24).drop 24), List.all_append, w_t3, ← List.take_append_drop 24 (((words1.drop 24).drop 24).drop 24), List.all_append, w_t4, w_t5]
  rfl
set_option maxRecDepth 65536 in
theorem w_rest : rest_1_c.before args0 about1 = true := by decide +kernel
set_option maxRecDepth 65536 in
theorem w_case : (Jvm.Cond.and given_1 narrow_1).before args0 about1 = true := by decide +kernel
set_option maxRecDepth 65536 in
theorem w_consts : constsHeld consts_1 about1 := Jvm.Lit.constsHeldB_iff.mp (by decide +kernel)
theorem w_applies : (headSpec (Jvm.Cond.code x code maxLocals ret :: tables_1) room_1).applies x e0.platform about1 = true :=
  (Spec.applies_iff w_frames).mpr ⟨w_running, w_runnable, w_alone, w_named, w_hears, w_ripe, w_room, w_tables⟩
theorem atStart : AtStart classFile x code maxLocals ret World_1 tables_1 room_1 Calls_1 rest_1 Pre_1 launch0 p0 e0 about1 theMethod args0 below0 :=
  ⟨lists_1, trivial, launch0.admits_env _ _ _, launch0.least_env, fairChoices_fair.cas, fairChoices_fair.clock, w_frames, w_args, w_heap, w_applies, ⟨w_consts, trivial⟩, w_rest, w_case⟩
end start1
theorem witness_1 : WitnessClaimed_1 := ⟨start1.p0, start1.e0, start1.about1, start1.theMethod, start1.args0, start1.below0, start1.atStart⟩
end Jvm.Pilot.@@N@@
