import JvmDerived
import JvmDerived.Pilot.@@N@@Statement
import JvmDerived.Pilot.@@N@@Code
set_option linter.unusedVariables false
set_option linter.unusedSimpArgs false
/- laws to paste: Road.backV, Road.eqW, Road.lenW, Road.chN (cut by pick.py; bodies as the Statement names them) -/
namespace Jvm.Pilot.@@N@@
namespace StrChars
open Jvm Sem ClassFile Op Lib Jvm.Stand Jvm.Free.XT Jvm.Free.ALB Jvm.Free.JM Jvm.Free
open Jvm.Lib.Cold (StaticIs)
/-- a char array whose places are chars -/
def Ch (a : Addr) (A : Cell) (U : State) : Prop := Arr .char a A U ∧ Typed .char A
theorem Ch.mv {a : Addr} {A : Cell} {U U' : State} (h : Ch a A U) (hal : U.vm.Alike U'.vm) (hh : U'.heap = U.heap) : Ch a A U' := ⟨h.1.mv hal hh, h.2⟩
theorem Ch.keep {a : Addr} {A : Cell} {U U' : State} (h : Ch a A U) (hal : U.vm.Alike U'.vm) (hk : U'.heap[a]? = some A) : Ch a A U' := ⟨h.1.keep hal hk, h.2⟩
/-- what place i of a char[]'s cell holds -/
def cv (A : Cell) (i : Nat) : Int32 := match A.slots[i]? with | some (.int x) => x | _ => 0
theorem Ch.get {a : Addr} {A : Cell} {U : State} (h : Ch a A U) {i : Nat} (hi : i < A.slots.size) : A.slots[i]? = some (.int (cv A i)) := by
  have e := Array.getElem?_eq_getElem hi
  have f := h.2 i _ e
  unfold cv; rw [e]
  generalize A.slots[i] = v at f
  cases v <;> simp [fits] at f ⊢
/-- the byte that i2b leaves of a char -/
def lo8 (x : Int32) : Int32 := x.toInt8.toInt32
theorem fits_lo8 (y : Int32) : fits .byte (.int (lo8 y)) = true := by
  have h1 := y.toInt8.le_toInt
  have h2 := y.toInt8.toInt_lt
  simp only [lo8, fits, Bool.and_eq_true, decide_eq_true_eq, Int32.le_iff_toInt_le, Int8.toInt_toInt32, show (-128 : Int32).toInt = -128 from by decide, show (127 : Int32).toInt = 127 from by decide]
  omega
/-- A' is A but that each place j of lo .. hi - 1 holds f j -/
def Laid (A A' : Cell) (lo hi : Nat) (f : Nat → Value) : Prop := A'.cls = A.cls ∧ A'.vm = A.vm ∧ A'.slots.size = A.slots.size ∧ ∀ i, A'.slots[i]? = if lo ≤ i ∧ i < hi then some (f i) else A.slots[i]?
theorem Laid.zero (A : Cell) (lo : Nat) (f : Nat → Value) : Laid A A lo (lo + 0) f := ⟨rfl, rfl, rfl, fun i => by rw [if_neg (by omega)]⟩
theorem Laid.step {A Ak : Cell} {lo k : Nat} {f : Nat → Value} {v : Value} (h : Laid A Ak lo k f) (hlo : lo ≤ k) (hk : k < Ak.slots.size) (hv : v = f k) : Laid A (Ak.setSlot k v) lo (k + 1) f := by
  refine ⟨h.1, h.2.1, by simpa [Cell.setSlot] using h.2.2.1, fun i => ?_⟩
  by_cases e : k = i
  · subst e; rw [Cell.slots_setSlot_self v hk, if_pos (by omega), hv]
  · rw [Cell.slots_setSlot_ne v e, h.2.2.2 i]
    by_cases q : lo ≤ i ∧ i < k
    · rw [if_pos q, if_pos (by omega)]
    · rw [if_neg q, if_neg (by omega)]
def U16 : String := "java/lang/StringUTF16"
namespace Cmp5
def yN : MethodName := ⟨"java/lang/StringUTF16", "compress", "([CI[BII)I"⟩
abbrev yB : ByteArray := jdk_52_method_21_code
theorem d0 : decode yB 0 = .ok (.iconst 0, 1) := by decide +kernel
theorem d1 : decode yB 1 = .ok (.istore 5, 2) := by decide +kernel
theorem d3 : decode yB 3 = .ok (.iload 5, 2) := by decide +kernel
theorem d5 : decode yB 5 = .ok (.iload 4, 2) := by decide +kernel
theorem d7 : decode yB 7 = .ok (.if_icmp (.ge) 37, 3) := by decide +kernel
theorem d10 : decode yB 10 = .ok (.aload_n 0, 1) := by decide +kernel
theorem d11 : decode yB 11 = .ok (.iload_n 1, 1) := by decide +kernel
theorem d12 : decode yB 12 = .ok (.caload, 1) := by decide +kernel
theorem d13 : decode yB 13 = .ok (.istore 6, 2) := by decide +kernel
theorem d15 : decode yB 15 = .ok (.iload 6, 2) := by decide +kernel
theorem d17 : decode yB 17 = .ok (.sipush 255, 3) := by decide +kernel
theorem d20 : decode yB 20 = .ok (.if_icmp (.le) 6, 3) := by decide +kernel
theorem d26 : decode yB 26 = .ok (.aload_n 2, 1) := by decide +kernel
theorem d27 : decode yB 27 = .ok (.iload_n 3, 1) := by decide +kernel
theorem d28 : decode yB 28 = .ok (.iload 6, 2) := by decide +kernel
theorem d30 : decode yB 30 = .ok (.i2b, 1) := by decide +kernel
theorem d31 : decode yB 31 = .ok (.bastore, 1) := by decide +kernel
theorem d32 : decode yB 32 = .ok (.iinc 1 1, 3) := by decide +kernel
theorem d35 : decode yB 35 = .ok (.iinc 3 1, 3) := by decide +kernel
theorem d38 : decode yB 38 = .ok (.iinc 5 1, 3) := by decide +kernel
theorem d41 : decode yB 41 = .ok (.goto (-38), 3) := by decide +kernel
theorem d44 : decode yB 44 = .ok (.iload 4, 2) := by decide +kernel
theorem d46 : decode yB 46 = .ok (.ireturn, 1) := by decide +kernel
def site : List Cond := []
def tab : Cond := tabOf yN yB 7 (some .int) site
def P (b : Addr) (A : Cell) (d : Addr) (B : Cell) (o q len : Nat) (args : Array Value) (s : State) : Prop := args = #[.ref b, .int (Int32.ofNat o), .ref d, .int (Int32.ofNat q), .int (Int32.ofNat len)] ∧ Ch b A s ∧ Arr .byte d B s ∧ b ≠ d ∧ o + len ≤ A.slots.size ∧ q + len ≤ B.slots.size ∧ ∀ i, i < len → ¬ 255 < cv A (o + i)
def E (b : Addr) (A : Cell) (d : Addr) (B : Cell) (o q len : Nat) (r : Option Value) (s u : State) : Prop := r = some (.int (Int32.ofNat len)) ∧ ∃ B', Put d B' s u ∧ Laid B B' q (q + len) (fun j => Value.int (lo8 (cv A (o + (j - q)))))
/-- no char of the range above 255: len; the places written hold each char's low byte -/
theorem law (l : Launch) (b : Addr) (A : Cell) (d : Addr) (B : Cell) (o q len : Nat) : Law l yN 5 5 0 0 yB 7 (some .int) site (P b A d B o q len) (E b A d B o q len) (copyLocs d q len) 0 0 := by
  refine Law.of_walk (plainFor_of_name (by decide +kernel)) (by decide +kernel) (by decide +kernel) (by decide) (fun _ _ h => by rw [h.1]; rfl) (fun _ U U' hal hh h => ⟨h.1, h.2.1.mv hal hh, h.2.2.1.mv hal hh, h.2.2.2⟩) (fun r U U' V V' h1 hal h2 h => ⟨h.1, h.2.elim fun B' q => ⟨B', q.1.mv h1 h2, q.2⟩⟩) ?_
  intro p e s m args below meth c s₁ X0 hexec hbytes hml hret hlk hnm hown hh0 W hP
  obtain ⟨rfl, hA, hB, hne, l1, l2, hp⟩ := hP
  have c1 : Steps p.tables e below (s₁.setTop (entryFrame m #[.ref b, .int (Int32.ofNat o), .ref d, .int (Int32.ofNat q), .int (Int32.ofNat len)] 7)) (s₁.setTop (mkF m 0 #[.val (.ref b), .val (.int (Int32.ofNat o)), .val (.ref d), .val (.int (Int32.ofNat q)), .val (.int (Int32.ofNat len)), .unset, .unset] [])) := entry rfl
  have hA0 := hA.1.mv X0.warmed.alike hh0
  have hB0 := hB.mv X0.warmed.alike hh0
  have a31 := hA.1.2.2.2
  have c2 : Steps p.tables e below (s₁.setTop (entryFrame m #[.ref b, .int (Int32.ofNat o), .ref d, .int (Int32.ofNat q), .int (Int32.ofNat len)] 7)) (s₁.setTop (mkF m 3 #[.val (.ref b), .val (.int (Int32.ofNat o)), .val (.ref d), .val (.int (Int32.ofNat q)), .val (.int (Int32.ofNat len)), .val (.int 0), .unset] [])) := c1.trans (by
    refine iconstV X0.here hexec rfl 0 (hb hbytes d0) (by decide) ?_
    refine XS.istore X0.here hexec rfl (hb hbytes d1) rfl rfl ?_
    exact Steps.refl _)
  have loop : ∀ (r i : Nat), i + r = len → ∀ (z : Slot), (z = .unset ∨ ∃ w, z = .val w ∧ w.category = 1) → ∀ (Tl : State) (Bk : Cell), Stand p l e { frames := 0, locals := 0, cells := 0, slots := 0 } s m #[.ref b, .int (Int32.ofNat o), .ref d, .int (Int32.ofNat q), .int (Int32.ofNat len)] below meth c Tl ([] ++ copyLocs d q i) 0 0 → Put d Bk s₁ Tl → Laid B Bk q (q + i) (fun j => Value.int (lo8 (cv A (o + (j - q))))) →
      Steps p.tables e below (s₁.setTop (entryFrame m #[.ref b, .int (Int32.ofNat o), .ref d, .int (Int32.ofNat q), .int (Int32.ofNat len)] 7)) (Tl.setTop (mkF m 3 #[.val (.ref b), .val (.int (Int32.ofNat (o + i))), .val (.ref d), .val (.int (Int32.ofNat (q + i))), .val (.int (Int32.ofNat len)), .val (.int (Int32.ofNat i)), z] [])) → ∃ (T' : State) (B' : Cell) (z' : Slot), Stand p l e { frames := 0, locals := 0, cells := 0, slots := 0 } s m #[.ref b, .int (Int32.ofNat o), .ref d, .int (Int32.ofNat q), .int (Int32.ofNat len)] below meth c T' ([] ++ copyLocs d q len) 0 0 ∧ Put d B' s₁ T' ∧ Laid B B' q (q + len) (fun j => Value.int (lo8 (cv A (o + (j - q))))) ∧
      Steps p.tables e below (s₁.setTop (entryFrame m #[.ref b, .int (Int32.ofNat o), .ref d, .int (Int32.ofNat q), .int (Int32.ofNat len)] 7)) (T'.setTop (mkF m 3 #[.val (.ref b), .val (.int (Int32.ofNat (o + len))), .val (.ref d), .val (.int (Int32.ofNat (q + len))), .val (.int (Int32.ofNat len)), .val (.int (Int32.ofNat len)), z'] [])) := by
    intro r
    induction r with
    | zero =>
      intro i hi z hz Tl Bk Xl pl fl cl
      have hil : i = len := by omega
      rw [hil] at Xl fl cl
      exact ⟨Tl, Bk, z, Xl, pl, fl, cl⟩
    | succ r ih =>
      intro i hi z hz Tl Bk Xl pl fl cl
      have all := X0.warmed.alike.symm.trans Xl.warmed.alike
      have hAl := hA0.keep all (pl.other hne hA0.1)
      have hBk := hB0.like all pl.1 fl.1 fl.2.1 fl.2.2.1
      have hlt : q + i < Bk.slots.size := by rw [fl.2.2.1]; omega
      have c3 : Steps p.tables e below (s₁.setTop (entryFrame m #[.ref b, .int (Int32.ofNat o), .ref d, .int (Int32.ofNat q), .int (Int32.ofNat len)] 7)) (Tl.setTop (mkF m 12 #[.val (.ref b), .val (.int (Int32.ofNat (o + i))), .val (.ref d), .val (.int (Int32.ofNat (q + i))), .val (.int (Int32.ofNat len)), .val (.int (Int32.ofNat i)), z] [.int (Int32.ofNat (o + i)), .ref b])) := cl.trans (by
        refine XS.iload Xl.here hexec rfl (hb hbytes d3) rfl ?_
        refine XS.iload Xl.here hexec rfl (hb hbytes d5) rfl ?_
        refine XS.icmpNo Xl.here hexec rfl (hb hbytes d7) rfl (ii_ge_f (lt32 (by omega) (by omega))) ?_
        refine XS.aloadN Xl.here hexec rfl (hb hbytes d10) rfl rfl ?_
        refine XS.iloadN Xl.here hexec rfl (hb hbytes d11) rfl ?_
        exact Steps.refl _)
      have c4 : Steps p.tables e below (s₁.setTop (entryFrame m #[.ref b, .int (Int32.ofNat o), .ref d, .int (Int32.ofNat q), .int (Int32.ofNat len)] 7)) (Tl.setTop (mkF m 13 #[.val (.ref b), .val (.int (Int32.ofNat (o + i))), .val (.ref d), .val (.int (Int32.ofNat (q + i))), .val (.int (Int32.ofNat len)), .val (.int (Int32.ofNat i)), z] [.int (cv A (o + i))])) := c3.trans (by
        refine Xl.aget hexec hAl rfl (hA.get (i := o + i) (by omega)) rfl rfl (hb hbytes d12) ?_
        exact Steps.refl _)
      have c5 : Steps p.tables e below (s₁.setTop (entryFrame m #[.ref b, .int (Int32.ofNat o), .ref d, .int (Int32.ofNat q), .int (Int32.ofNat len)] 7)) (Tl.setTop (mkF m 15 #[.val (.ref b), .val (.int (Int32.ofNat (o + i))), .val (.ref d), .val (.int (Int32.ofNat (q + i))), .val (.int (Int32.ofNat len)), .val (.int (Int32.ofNat i)), .val (.int (cv A (o + i)))] [])) := c4.trans (by
        refine XS.istoreS Xl.here hexec rfl (hb hbytes d13) rfl rfl hz ?_
        exact Steps.refl _)
      have c6 : Steps p.tables e below (s₁.setTop (entryFrame m #[.ref b, .int (Int32.ofNat o), .ref d, .int (Int32.ofNat q), .int (Int32.ofNat len)] 7)) (Tl.setTop (mkF m 31 #[.val (.ref b), .val (.int (Int32.ofNat (o + i))), .val (.ref d), .val (.int (Int32.ofNat (q + i))), .val (.int (Int32.ofNat len)), .val (.int (Int32.ofNat i)), .val (.int (cv A (o + i)))] [.int (lo8 (cv A (o + i))), .int (Int32.ofNat (q + i)), .ref d])) := c5.trans (by
        refine XS.iload Xl.here hexec rfl (hb hbytes d15) rfl ?_
        refine sipushV Xl.here hexec rfl 255 (hb hbytes d17) (by decide) ?_
        refine XS.icmpYes Xl.here hexec rfl (pc0 := 20) rfl (hb hbytes d20) rfl (ii_le_t (hp i (by omega))) (by decide) rfl ?_
        refine XS.aloadN Xl.here hexec rfl (hb hbytes d26) rfl rfl ?_
        refine XS.iloadN Xl.here hexec rfl (hb hbytes d27) rfl ?_
        refine XS.iload Xl.here hexec rfl (hb hbytes d28) rfl ?_
        refine i2b Xl.here hexec rfl (hb hbytes d30) rfl ?_
        exact Steps.refl _)
      obtain ⟨T7, X7, p7, st7⟩ := Xl.aput hexec hBk rfl hlt rfl (fits_lo8 (cv A (o + i))) (g := (mkF m 31 #[.val (.ref b), .val (.int (Int32.ofNat (o + i))), .val (.ref d), .val (.int (Int32.ofNat (q + i))), .val (.int (Int32.ofNat len)), .val (.int (Int32.ofNat i)), .val (.int (cv A (o + i)))] [.int (lo8 (cv A (o + i))), .int (Int32.ofNat (q + i)), .ref d])) rfl (rest := []) rfl (hb hbytes d31)
      have c8 : Steps p.tables e below (s₁.setTop (entryFrame m #[.ref b, .int (Int32.ofNat o), .ref d, .int (Int32.ofNat q), .int (Int32.ofNat len)] 7)) (T7.setTop (mkF m 32 #[.val (.ref b), .val (.int (Int32.ofNat (o + i))), .val (.ref d), .val (.int (Int32.ofNat (q + i))), .val (.int (Int32.ofNat len)), .val (.int (Int32.ofNat i)), .val (.int (cv A (o + i)))] [])) := c6.trans (st7 _ (Steps.refl _))
      have c9 : Steps p.tables e below (s₁.setTop (entryFrame m #[.ref b, .int (Int32.ofNat o), .ref d, .int (Int32.ofNat q), .int (Int32.ofNat len)] 7)) (T7.setTop (mkF m 3 #[.val (.ref b), .val (.int (Int32.ofNat (o + i) + 1)), .val (.ref d), .val (.int (Int32.ofNat (q + i) + 1)), .val (.int (Int32.ofNat len)), .val (.int (Int32.ofNat i + 1)), .val (.int (cv A (o + i)))] [])) := c8.trans (by
        refine iincV X7.here hexec rfl 1 (hb hbytes d32) (by decide) rfl rfl ?_
        refine iincV X7.here hexec rfl 1 (hb hbytes d35) (by decide) rfl rfl ?_
        refine iincV X7.here hexec rfl 1 (hb hbytes d38) (by decide) rfl rfl ?_
        refine XS.goto X7.here hexec rfl (pc0 := 41) rfl (hb hbytes d41) (by decide) rfl ?_
        exact Steps.refl _)
      have c10 : Steps p.tables e below (s₁.setTop (entryFrame m #[.ref b, .int (Int32.ofNat o), .ref d, .int (Int32.ofNat q), .int (Int32.ofNat len)] 7)) (T7.setTop (mkF m 3 #[.val (.ref b), .val (.int (Int32.ofNat (o + (i + 1)))), .val (.ref d), .val (.int (Int32.ofNat (q + (i + 1)))), .val (.int (Int32.ofNat len)), .val (.int (Int32.ofNat (i + 1))), .val (.int (cv A (o + i)))] [])) := by
        have := c9
        rw [succ32, succ32, succ32] at this
        exact this
      exact ih (i + 1) (by omega) _ (Or.inr ⟨_, rfl, rfl⟩) T7 _ (by rw [copyLocs_step, ← List.append_assoc]; exact X7) (pl.trans p7) (fl.step (by omega) hlt (by simp)) c10
  obtain ⟨T9, B9, z9, X9, p9, f9, g9⟩ := loop len 0 (by omega) .unset (Or.inl rfl) s₁ B (by simpa [copyLocs] using X0) ⟨hB0.1, fun _ _ => rfl, rfl⟩ (Laid.zero _ _ _) c2
  have c11 : Steps p.tables e below (s₁.setTop (entryFrame m #[.ref b, .int (Int32.ofNat o), .ref d, .int (Int32.ofNat q), .int (Int32.ofNat len)] 7)) (T9.setTop (mkF m 46 #[.val (.ref b), .val (.int (Int32.ofNat (o + len))), .val (.ref d), .val (.int (Int32.ofNat (q + len))), .val (.int (Int32.ofNat len)), .val (.int (Int32.ofNat len)), z9] [.int (Int32.ofNat len)])) := g9.trans (by
    refine XS.iload X9.here hexec rfl (hb hbytes d3) rfl ?_
    refine XS.iload X9.here hexec rfl (hb hbytes d5) rfl ?_
    refine XS.icmpYes X9.here hexec rfl (pc0 := 7) rfl (hb hbytes d7) rfl (ii_ge_t (nlt32 (by omega) (Nat.le_refl _))) (by decide) rfl ?_
    refine XS.iload X9.here hexec rfl (hb hbytes d44) rfl ?_
    exact Steps.refl _)
  exact ⟨T9, some (.int (Int32.ofNat len)), _, _, _, X9, by simp, rfl, rfl, (fun h => by cases h), ⟨rfl, B9, p9.from hh0, f9⟩, fun fs hl => c11.trans (X9.ireturnOut hexec hret rfl (Or.inl rfl) (hb hbytes d46) hl)⟩
end Cmp5
namespace Cmp3
def yN : MethodName := ⟨"java/lang/StringUTF16", "compress", "([CII)[B"⟩
abbrev yB : ByteArray := jdk_52_method_16_code
theorem d0 : decode yB 0 = .ok (.iload_n 2, 1) := by decide +kernel
theorem d1 : decode yB 1 = .ok (.newarray .byte, 2) := by decide +kernel
theorem d3 : decode yB 3 = .ok (.astore_n 3, 1) := by decide +kernel
theorem d4 : decode yB 4 = .ok (.aload_n 0, 1) := by decide +kernel
theorem d5 : decode yB 5 = .ok (.iload_n 1, 1) := by decide +kernel
theorem d6 : decode yB 6 = .ok (.aload_n 3, 1) := by decide +kernel
theorem d7 : decode yB 7 = .ok (.iconst 0, 1) := by decide +kernel
theorem d8 : decode yB 8 = .ok (.iload_n 2, 1) := by decide +kernel
theorem d9 : decode yB 9 = .ok (.invokestatic 115, 3) := by decide +kernel
theorem d12 : decode yB 12 = .ok (.istore 4, 2) := by decide +kernel
theorem d14 : decode yB 14 = .ok (.iload 4, 2) := by decide +kernel
theorem d16 : decode yB 16 = .ok (.iload_n 2, 1) := by decide +kernel
theorem d17 : decode yB 17 = .ok (.if_icmp (.eq) 40, 3) := by decide +kernel
theorem d57 : decode yB 57 = .ok (.aload_n 3, 1) := by decide +kernel
theorem d58 : decode yB 58 = .ok (.areturn, 1) := by decide +kernel
def site : List Cond := [.arrayClass .byte, Cmp5.tab] ++ staticW U16 115 Cmp5.yN
def tab : Cond := tabOf yN yB 6 (some (.array .byte)) site
def P (b : Addr) (A : Cell) (o len : Nat) (args : Array Value) (s : State) : Prop := args = #[.ref b, .int (Int32.ofNat o), .int (Int32.ofNat len)] ∧ Ch b A s ∧ o + len ≤ A.slots.size ∧ len ≤ 536870912 ∧ ∀ i, i < len → ¬ 255 < cv A (o + i)
def E (b : Addr) (A : Cell) (o len : Nat) (r : Option Value) (s u : State) : Prop := NewArr .byte "[B" len (fun j => .int (lo8 (cv A (o + j)))) r s u ∧ u.heap.size = s.heap.size + 1
/-- no char of the range above 255: a new byte[] of their low bytes -/
theorem law (l : Launch) (b : Addr) (A : Cell) (o len : Nat) : Law l yN 3 3 1 18 yB 6 (some (.array .byte)) site (P b A o len) (E b A o len) [] 1 len := by
  refine Law.of_walk (plainFor_of_name (by decide +kernel)) (by decide +kernel) (by decide +kernel) (by decide) (fun _ _ h => by rw [h.1]; rfl) (fun _ U U' hal hh h => ⟨h.1, h.2.1.mv hal hh, h.2.2⟩) (fun r U U' V V' h1 hal h2 h => ⟨NewArr.mv r U U' V V' h1 hal h2 h.1, by rw [h1, h2]; exact h.2⟩) ?_
  intro p e s m args below meth c s₁ X0 hexec hbytes hml hret hlk hnm hown hh0 W hP
  obtain ⟨rfl, hA, l1, l2, hp⟩ := hP
  have a31 := hA.1.2.2.2
  have c1 : Steps p.tables e below (s₁.setTop (entryFrame m #[.ref b, .int (Int32.ofNat o), .int (Int32.ofNat len)] 6)) (s₁.setTop (mkF m 0 #[.val (.ref b), .val (.int (Int32.ofNat o)), .val (.int (Int32.ofNat len)), .unset, .unset, .unset] [])) := entry rfl
  have c2 : Steps p.tables e below (s₁.setTop (entryFrame m #[.ref b, .int (Int32.ofNat o), .int (Int32.ofNat len)] 6)) (s₁.setTop (mkF m 1 #[.val (.ref b), .val (.int (Int32.ofNat o)), .val (.int (Int32.ofNat len)), .unset, .unset, .unset] [.int (Int32.ofNat len)])) := c1.trans (by
    refine XS.iloadN X0.here hexec rfl (hb hbytes d0) rfl ?_
    exact Steps.refl _)
  obtain ⟨T3, B3, X3, ba3, bs3, bv3, bh3, bf3, st3⟩ := X0.anew hexec (atype := .byte) (wk W (.arrayClass .byte)) rfl (by show len * 1 ≤ _; omega) (by omega) (g := (mkF m 1 #[.val (.ref b), .val (.int (Int32.ofNat o)), .val (.int (Int32.ofNat len)), .unset, .unset, .unset] [.int (Int32.ofNat len)])) rfl (hb hbytes d1) (rest := []) rfl (Nat.le_refl _) (by show 0 + len ≤ len; omega)
  rw [hh0] at ba3 st3
  have kp3 : XT.Kept s T3 := (XT.Kept.of_eq hh0).push bh3
  have hA3 := hA.keep X3.warmed.alike (kp3 _ _ hA.1.1)
  have hne : b ≠ s.heap.size := hA.1.ne
  have c4 : Steps p.tables e below (s₁.setTop (entryFrame m #[.ref b, .int (Int32.ofNat o), .int (Int32.ofNat len)] 6)) (T3.setTop (mkF m 3 #[.val (.ref b), .val (.int (Int32.ofNat o)), .val (.int (Int32.ofNat len)), .unset, .unset, .unset] [.ref s.heap.size])) := c2.trans (st3 _ (Steps.refl _))
  have c5 : Steps p.tables e below (s₁.setTop (entryFrame m #[.ref b, .int (Int32.ofNat o), .int (Int32.ofNat len)] 6)) (T3.setTop (mkF m 9 #[.val (.ref b), .val (.int (Int32.ofNat o)), .val (.int (Int32.ofNat len)), .val (.ref s.heap.size), .unset, .unset] [.int (Int32.ofNat len), .int 0, .ref s.heap.size, .int (Int32.ofNat o), .ref b])) := c4.trans (by
    refine XS.astoreN X3.here hexec rfl (hb hbytes d3) rfl rfl rfl ?_
    refine XS.aloadN X3.here hexec rfl (hb hbytes d4) rfl rfl ?_
    refine XS.iloadN X3.here hexec rfl (hb hbytes d5) rfl ?_
    refine XS.aloadN X3.here hexec rfl (hb hbytes d6) rfl rfl ?_
    refine iconstV X3.here hexec rfl 0 (hb hbytes d7) (by decide) ?_
    refine XS.iloadN X3.here hexec rfl (hb hbytes d8) rfl ?_
    exact Steps.refl _)
  obtain ⟨v6, T6, X6, E6, g6⟩ := X3.callS hexec (Cmp5.law l b A s.heap.size B3 o 0 len) hown (wks W (staticW U16 115 Cmp5.yN)) (wk W Cmp5.tab) (W := 0) (Nat.le_of_ble_eq_true rfl) (Nat.le_of_ble_eq_true rfl) (Nat.le_refl _) (by show 0 + len + 0 ≤ len; omega) (g := (mkF m 9 #[.val (.ref b), .val (.int (Int32.ofNat o)), .val (.int (Int32.ofNat len)), .val (.ref s.heap.size), .unset, .unset] [.int (Int32.ofNat len), .int (Int32.ofNat 0), .ref s.heap.size, .int (Int32.ofNat o), .ref b])) rfl (by rw [hml]; rfl) c5 (argsL := [.ref b, .int (Int32.ofNat o), .ref s.heap.size, .int (Int32.ofNat 0), .int (Int32.ofNat len)]) (rest := []) rfl rfl (by show 2 * 0 + 0 ≤ _; decide) (hb hbytes d9) (⟨rfl, hA3, ba3, hne, l1, by rw [bs3]; simp, hp⟩)
  obtain ⟨rfl, B6, p6, f6⟩ := E6
  have c7 : Steps p.tables e below (s₁.setTop (entryFrame m #[.ref b, .int (Int32.ofNat o), .int (Int32.ofNat len)] 6)) (T6.setTop (mkF m 12 #[.val (.ref b), .val (.int (Int32.ofNat o)), .val (.int (Int32.ofNat len)), .val (.ref s.heap.size), .unset, .unset] [.int (Int32.ofNat len)])) := g6
  have c8 : Steps p.tables e below (s₁.setTop (entryFrame m #[.ref b, .int (Int32.ofNat o), .int (Int32.ofNat len)] 6)) (T6.setTop (mkF m 58 #[.val (.ref b), .val (.int (Int32.ofNat o)), .val (.int (Int32.ofNat len)), .val (.ref s.heap.size), .val (.int (Int32.ofNat len)), .unset] [.ref s.heap.size])) := c7.trans (by
    refine XS.istore X6.here hexec rfl (hb hbytes d12) rfl rfl ?_
    refine XS.iload X6.here hexec rfl (hb hbytes d14) rfl ?_
    refine XS.iloadN X6.here hexec rfl (hb hbytes d16) rfl ?_
    refine XS.icmpYes X6.here hexec rfl (pc0 := 17) rfl (hb hbytes d17) rfl (ii_eq_t rfl) (by decide) rfl ?_
    refine XS.aloadN X6.here hexec rfl (hb hbytes d57) rfl rfl ?_
    exact Steps.refl _)
  have X8 := X6.wide (L' := []) (cells' := 1) (slots' := len) (fun x hx hlt => by
    simp only [List.nil_append, copyLocs, List.mem_map, List.mem_range] at hx
    obtain ⟨i, -, rfl⟩ := hx
    exact absurd hlt (Nat.lt_irrefl _)) (Nat.le_refl _) (by omega)
  exact ⟨T6, some (.ref s.heap.size), _, _, _, X8, rfl, rfl, rfl, (fun h => by cases h), ⟨⟨rfl, B6, ba3.like (X3.warmed.alike.symm.trans X6.warmed.alike) p6.1 f6.1 f6.2.1 f6.2.2.1, f6.2.1.trans bv3, by rw [X6.warmed.alike.findClass, f6.1]; exact bf3, by rw [f6.2.2.1, bs3]; simp, fun j hj => by rw [f6.2.2.2 j, if_pos (by omega)]; rfl, kp3.put p6 (Nat.le_refl _)⟩, by rw [p6.2.2, bh3, hh0]; simp⟩, fun fs hl => c8.trans (X8.areturnOut hexec rfl hret rfl (hb hbytes d58) hl)⟩
end Cmp3
namespace CodL
def yN : MethodName := ⟨"java/lang/StringUTF16", "coderFromArrayLen", "([BI)B"⟩
abbrev yB : ByteArray := jdk_52_method_15_code
theorem d0 : decode yB 0 = .ok (.iload_n 1, 1) := by decide +kernel
theorem d1 : decode yB 1 = .ok (.aload_n 0, 1) := by decide +kernel
theorem d2 : decode yB 2 = .ok (.arraylength, 1) := by decide +kernel
theorem d3 : decode yB 3 = .ok (.isub, 1) := by decide +kernel
theorem d4 : decode yB 4 = .ok (.bipush 31, 2) := by decide +kernel
theorem d6 : decode yB 6 = .ok (.iushr, 1) := by decide +kernel
theorem d7 : decode yB 7 = .ok (.i2b, 1) := by decide +kernel
theorem d8 : decode yB 8 = .ok (.ireturn, 1) := by decide +kernel
def site : List Cond := []
def tab : Cond := tabOf yN yB 2 (some .byte) site
def P (d : Addr) (B : Cell) (args : Array Value) (s : State) : Prop := args = #[.ref d, .int (Int32.ofNat B.slots.size)] ∧ Arr .byte d B s
def E (r : Option Value) (s u : State) : Prop := XT.PureE (some (.int 0)) r s u
/-- an array as long as the number of chars: LATIN1 -/
theorem law (l : Launch) (d : Addr) (B : Cell) : Law l yN 2 2 0 0 yB 2 (some .byte) site (P d B) E [] 0 0 := by
  refine Law.of_walk (plainFor_of_name (by decide +kernel)) (by decide +kernel) (by decide +kernel) (by decide) (fun _ _ h => by rw [h.1]; rfl) (fun _ U U' hal hh h => ⟨h.1, h.2.mv hal hh⟩) (fun r U U' V V' h1 hal h2 h => XT.PureE.mv r U U' V V' h1 hal h2 h) ?_
  intro p e s m args below meth c s₁ X0 hexec hbytes hml hret hlk hnm hown hh0 W hP
  obtain ⟨rfl, hB⟩ := hP
  have hB0 := hB.mv X0.warmed.alike hh0
  have c1 : Steps p.tables e below (s₁.setTop (entryFrame m #[.ref d, .int (Int32.ofNat B.slots.size)] 2)) (s₁.setTop (mkF m 0 #[.val (.ref d), .val (.int (Int32.ofNat B.slots.size))] [])) := entry rfl
  have c2 : Steps p.tables e below (s₁.setTop (entryFrame m #[.ref d, .int (Int32.ofNat B.slots.size)] 2)) (s₁.setTop (mkF m 2 #[.val (.ref d), .val (.int (Int32.ofNat B.slots.size))] [.ref d, .int (Int32.ofNat B.slots.size)])) := c1.trans (by
    refine XS.iloadN X0.here hexec rfl (hb hbytes d0) rfl ?_
    refine XS.aloadN X0.here hexec rfl (hb hbytes d1) rfl rfl ?_
    exact Steps.refl _)
  have c3 : Steps p.tables e below (s₁.setTop (entryFrame m #[.ref d, .int (Int32.ofNat B.slots.size)] 2)) (s₁.setTop (mkF m 8 #[.val (.ref d), .val (.int (Int32.ofNat B.slots.size))] [.int (lo8 (ushr (Int32.ofNat B.slots.size - Int32.ofNat B.slots.size) 31))])) := c2.trans (by
    refine X0.alen hexec hB0 rfl rfl (hb hbytes d2) ?_
    refine XS.isub X0.here hexec rfl (hb hbytes d3) rfl ?_
    refine bipushV X0.here hexec rfl 31 (hb hbytes d4) (by decide) ?_
    refine iushr X0.here hexec rfl (hb hbytes d6) rfl ?_
    refine i2b X0.here hexec rfl (hb hbytes d7) rfl ?_
    exact Steps.refl _)
  have e0 : lo8 (ushr (Int32.ofNat B.slots.size - Int32.ofNat B.slots.size) 31) = 0 := by rw [Int32.sub_self]; decide
  rw [e0] at c3
  exact ⟨s₁, some (.int 0), _, _, _, X0, rfl, rfl, rfl, (fun h => by cases h), ⟨rfl, hh0⟩, fun fs hl => c3.trans (X0.ireturnOut hexec hret rfl (Or.inr (Or.inr (Or.inl rfl))) (hb hbytes d8) hl)⟩
end CodL
/-- the String at a is Latin-1 over a new byte[] (the heap's one new cell): the low bytes of the len chars of A from o on; every cell but a is kept -/
def Got (a : Addr) (D : Cell) (fV fC : Field) (A : Cell) (o len : Nat) (r : Option Value) (s u : State) : Prop := r = none ∧ ∃ D' V : Cell, Blank "java/lang/String" a D' u ∧ Same D D' [fV.slot, fC.slot] ∧ D'.slots[fV.slot]? = some (.ref s.heap.size) ∧ D'.slots[fC.slot]? = some (.int 0) ∧ Arr .byte s.heap.size V u ∧ V.vm = .none ∧ u.vm.findClass "[B" = some V.cls ∧ V.slots.size = len ∧ (∀ j, j < len → V.slots[j]? = some (.int (lo8 (cv A (o + j))))) ∧ (∀ (y : Addr) (c : Cell), y ≠ a → s.heap[y]? = some c → u.heap[y]? = some c) ∧ u.heap.size = s.heap.size + 1
theorem Got.mv {a : Addr} {D A : Cell} {fV fC : Field} {o len : Nat} : ∀ r (U U' V V' : State), U'.heap = U.heap → V.vm.Alike V'.vm → V'.heap = V.heap → Got a D fV fC A o len r U V → Got a D fV fC A o len r U' V' :=
  fun r U U' V V' h1 hal h2 ⟨e0, D', X, a1, a2, a3, a4, a5, a6, a7, a8, a9, a10, a11⟩ => ⟨e0, D', X, a1.mv hal h2, a2, by rw [h1]; exact a3, a4, by rw [h1]; exact a5.mv hal h2, a6, by rw [hal.findClass]; exact a7, a8, a9, by rw [h1, h2]; exact a10, by rw [h1, h2]; exact a11⟩
namespace New4
def yN : MethodName := ⟨"java/lang/String", "<init>", "([CIILjava/lang/Void;)V"⟩
abbrev yB : ByteArray := jdk_42_method_149_code
theorem d0 : decode yB 0 = .ok (.aload_n 0, 1) := by decide +kernel
theorem d1 : decode yB 1 = .ok (.invokespecial 1, 3) := by decide +kernel
theorem d4 : decode yB 4 = .ok (.iload_n 3, 1) := by decide +kernel
theorem d5 : decode yB 5 = .ok (.ifCond (.ne) 22, 3) := by decide +kernel
theorem d27 : decode yB 27 = .ok (.getstatic 38, 3) := by decide +kernel
theorem d30 : decode yB 30 = .ok (.ifCond (.eq) 28, 3) := by decide +kernel
theorem d33 : decode yB 33 = .ok (.aload_n 1, 1) := by decide +kernel
theorem d34 : decode yB 34 = .ok (.iload_n 2, 1) := by decide +kernel
theorem d35 : decode yB 35 = .ok (.iload_n 3, 1) := by decide +kernel
theorem d36 : decode yB 36 = .ok (.invokestatic 177, 3) := by decide +kernel
theorem d39 : decode yB 39 = .ok (.astore 5, 2) := by decide +kernel
theorem d41 : decode yB 41 = .ok (.aload_n 0, 1) := by decide +kernel
theorem d42 : decode yB 42 = .ok (.aload 5, 2) := by decide +kernel
theorem d44 : decode yB 44 = .ok (.iload_n 3, 1) := by decide +kernel
theorem d45 : decode yB 45 = .ok (.invokestatic 47, 3) := by decide +kernel
theorem d48 : decode yB 48 = .ok (.putfield 15, 3) := by decide +kernel
theorem d51 : decode yB 51 = .ok (.aload_n 0, 1) := by decide +kernel
theorem d52 : decode yB 52 = .ok (.aload 5, 2) := by decide +kernel
theorem d54 : decode yB 54 = .ok (.putfield 9, 3) := by decide +kernel
theorem d57 : decode yB 57 = .ok (.return_, 1) := by decide +kernel
def site : List Cond := [.fieldLink "java/lang/String" 38 "java/lang/String" "COMPACT_STRINGS" "Z", Cmp3.tab, CodL.tab, .laysFinal "java/lang/String" "java/lang/String" "value" "[B", .fieldLink "java/lang/String" 9 "java/lang/String" "value" "[B", .laysFinal "java/lang/String" "java/lang/String" "coder" "B", .fieldLink "java/lang/String" 15 "java/lang/String" "coder" "B"] ++ objW "java/lang/String" 1 ++ staticW "java/lang/String" 177 Cmp3.yN ++ staticW "java/lang/String" 47 CodL.yN
def tab : Cond := tabOf yN yB 6 none site
def P (a : Addr) (D : Cell) (fV fC : Field) (b : Addr) (A : Cell) (z : Int32) (o len : Nat) (args : Array Value) (s : State) : Prop := args = #[.ref a, .ref b, .int (Int32.ofNat o), .int (Int32.ofNat len), .null] ∧ Blank "java/lang/String" a D s ∧ Found "java/lang/String" "value" "[B" fV s ∧ Found "java/lang/String" "coder" "B" fC s ∧ Ch b A s ∧ StaticIs s "java/lang/String" "COMPACT_STRINGS" "Z" (.int z) ∧ ¬ z = 0 ∧ 0 < len ∧ o + len ≤ A.slots.size ∧ len ≤ 536870912 ∧ ∀ i, i < len → ¬ 255 < cv A (o + i)
def E (a : Addr) (D : Cell) (fV fC : Field) (A : Cell) (o len : Nat) (r : Option Value) (s u : State) : Prop := Got a D fV fC A o len r s u
/-- len > 0, no char of the range above 255: a Latin-1 String of their low bytes -/
theorem law (l : Launch) (a : Addr) (D : Cell) (fV fC : Field) (b : Addr) (A : Cell) (z : Int32) (o len : Nat) : Law l yN 5 4 2 35 yB 6 none site (P a D fV fC b A z o len) (E a D fV fC A o len) [⟨a, fC.slot⟩, ⟨a, fV.slot⟩] 1 len := by
  refine Law.of_walk (plainFor_of_name (by decide +kernel)) (by decide +kernel) (by decide +kernel) (by decide) (fun _ _ h => by rw [h.1]; rfl) (fun _ U U' hal hh h => ⟨h.1, h.2.1.mv hal hh, h.2.2.1.al hal, h.2.2.2.1.al hal, h.2.2.2.2.1.mv hal hh, h.2.2.2.2.2.1.there hal hh, h.2.2.2.2.2.2⟩) (fun r U U' V V' h1 hal h2 h => Got.mv r U U' V V' h1 hal h2 h) ?_
  intro p e s m args below meth c s₁ X0 hexec hbytes hml hret hlk hnm hown hh0 W hP
  obtain ⟨rfl, hB, f1, f2, hA, s1, hz, l0, l1, l2, hp⟩ := hP
  have a31 := hA.1.2.2.2
  have c1 : Steps p.tables e below (s₁.setTop (entryFrame m #[.ref a, .ref b, .int (Int32.ofNat o), .int (Int32.ofNat len), .null] 6)) (s₁.setTop (mkF m 0 #[.val (.ref a), .val (.ref b), .val (.int (Int32.ofNat o)), .val (.int (Int32.ofNat len)), .val .null, .unset] [])) := entry rfl
  have c2 : Steps p.tables e below (s₁.setTop (entryFrame m #[.ref a, .ref b, .int (Int32.ofNat o), .int (Int32.ofNat len), .null] 6)) (s₁.setTop (mkF m 1 #[.val (.ref a), .val (.ref b), .val (.int (Int32.ofNat o)), .val (.int (Int32.ofNat len)), .val .null, .unset] [.ref a])) := c1.trans (by
    refine XS.aloadN X0.here hexec rfl (hb hbytes d0) rfl rfl ?_
    exact Steps.refl _)
  obtain ⟨T3, X3, q3, st3⟩ := X0.oinit hexec hown (wks W (objW "java/lang/String" 1)) (g := (mkF m 1 #[.val (.ref a), .val (.ref b), .val (.int (Int32.ofNat o)), .val (.int (Int32.ofNat len)), .val .null, .unset] [.ref a])) rfl (by rw [hml]; rfl) (rest := []) rfl (hb hbytes d1) (W := 0) (by show 2 * 0 + 0 ≤ _; decide) (Nat.le_of_ble_eq_true rfl) (Nat.le_of_ble_eq_true rfl)
  have hh3 := q3.trans hh0
  have c4 : Steps p.tables e below (s₁.setTop (entryFrame m #[.ref a, .ref b, .int (Int32.ofNat o), .int (Int32.ofNat len), .null] 6)) (T3.setTop (mkF m 27 #[.val (.ref a), .val (.ref b), .val (.int (Int32.ofNat o)), .val (.int (Int32.ofNat len)), .val .null, .unset] [])) := (c2.trans (st3 _ (Steps.refl _))).trans (by
    refine XS.iloadN X3.here hexec rfl (hb hbytes d4) rfl ?_
    refine XS.ifYes X3.here hexec rfl (pc0 := 5) rfl (hb hbytes d5) rfl (i0_ne_t (nz32 (by omega) l0)) (by decide) rfl ?_
    exact Steps.refl _)
  obtain ⟨T5, X5, q5, st5⟩ := X3.sget hexec hown (wk W (.fieldLink "java/lang/String" 38 "java/lang/String" "COMPACT_STRINGS" "Z")) s1 (fun _ _ h => by rw [hh3]; exact h) (g := (mkF m 27 #[.val (.ref a), .val (.ref b), .val (.int (Int32.ofNat o)), .val (.int (Int32.ofNat len)), .val .null, .unset] [])) rfl (hb hbytes d27)
  have hh5 := q5.trans hh3
  have c6 : Steps p.tables e below (s₁.setTop (entryFrame m #[.ref a, .ref b, .int (Int32.ofNat o), .int (Int32.ofNat len), .null] 6)) (T5.setTop (mkF m 30 #[.val (.ref a), .val (.ref b), .val (.int (Int32.ofNat o)), .val (.int (Int32.ofNat len)), .val .null, .unset] [.int z])) := c4.trans (st5 _ (Steps.refl _))
  have c7 : Steps p.tables e below (s₁.setTop (entryFrame m #[.ref a, .ref b, .int (Int32.ofNat o), .int (Int32.ofNat len), .null] 6)) (T5.setTop (mkF m 36 #[.val (.ref a), .val (.ref b), .val (.int (Int32.ofNat o)), .val (.int (Int32.ofNat len)), .val .null, .unset] [.int (Int32.ofNat len), .int (Int32.ofNat o), .ref b])) := c6.trans (by
    refine XS.ifNo X5.here hexec rfl (hb hbytes d30) rfl (i0_eq_f hz) ?_
    refine XS.aloadN X5.here hexec rfl (hb hbytes d33) rfl rfl ?_
    refine XS.iloadN X5.here hexec rfl (hb hbytes d34) rfl ?_
    refine XS.iloadN X5.here hexec rfl (hb hbytes d35) rfl ?_
    exact Steps.refl _)
  obtain ⟨v8, T8, X8, E8, g8⟩ := X5.callS hexec (Cmp3.law l b A o len) hown (wks W (staticW "java/lang/String" 177 Cmp3.yN)) (wk W Cmp3.tab) (W := 0) (Nat.le_of_ble_eq_true rfl) (Nat.le_of_ble_eq_true rfl) (Nat.le_refl _) (by show 0 + len ≤ len; omega) (g := (mkF m 36 #[.val (.ref a), .val (.ref b), .val (.int (Int32.ofNat o)), .val (.int (Int32.ofNat len)), .val .null, .unset] [.int (Int32.ofNat len), .int (Int32.ofNat o), .ref b])) rfl (by rw [hml]; rfl) c7 (argsL := [.ref b, .int (Int32.ofNat o), .int (Int32.ofNat len)]) (rest := []) rfl rfl (by show 2 * 0 + 0 ≤ _; decide) (hb hbytes d36) (⟨rfl, hA.mv X5.warmed.alike hh5, l1, l2, hp⟩)
  obtain ⟨e8, z8⟩ := E8
  obtain ⟨rfl, N, n1, n2, n3, n4, n5, n6⟩ := NewArr.mv _ T5 s _ _ hh5.symm (Vm.Alike.refl _) rfl e8
  rw [hh5] at z8
  have hB1 := hB.keep X8.warmed.alike (n6 _ _ hB.1)
  have hne : s.heap.size ≠ a := (Nat.ne_of_lt (Array.getElem?_eq_some_iff.mp hB.1).1).symm
  have c9 : Steps p.tables e below (s₁.setTop (entryFrame m #[.ref a, .ref b, .int (Int32.ofNat o), .int (Int32.ofNat len), .null] 6)) (T8.setTop (mkF m 39 #[.val (.ref a), .val (.ref b), .val (.int (Int32.ofNat o)), .val (.int (Int32.ofNat len)), .val .null, .unset] [.ref s.heap.size])) := g8
  have c10 : Steps p.tables e below (s₁.setTop (entryFrame m #[.ref a, .ref b, .int (Int32.ofNat o), .int (Int32.ofNat len), .null] 6)) (T8.setTop (mkF m 45 #[.val (.ref a), .val (.ref b), .val (.int (Int32.ofNat o)), .val (.int (Int32.ofNat len)), .val .null, .val (.ref s.heap.size)] [.int (Int32.ofNat N.slots.size), .ref s.heap.size, .ref a])) := by
    have hc : Steps p.tables e below (s₁.setTop (entryFrame m #[.ref a, .ref b, .int (Int32.ofNat o), .int (Int32.ofNat len), .null] 6)) (T8.setTop (mkF m 45 #[.val (.ref a), .val (.ref b), .val (.int (Int32.ofNat o)), .val (.int (Int32.ofNat len)), .val .null, .val (.ref s.heap.size)] [.int (Int32.ofNat len), .ref s.heap.size, .ref a])) := c9.trans (by
      refine XS.astore X8.here hexec rfl (hb hbytes d39) rfl rfl rfl ?_
      refine XS.aloadN X8.here hexec rfl (hb hbytes d41) rfl rfl ?_
      refine XS.aload X8.here hexec rfl (hb hbytes d42) rfl rfl ?_
      refine XS.iloadN X8.here hexec rfl (hb hbytes d44) rfl ?_
      exact Steps.refl _)
    rw [n4]; exact hc
  obtain ⟨v11, T11, X11, E11, g11⟩ := X8.callS hexec (CodL.law l s.heap.size N) hown (wks W (staticW "java/lang/String" 47 CodL.yN)) (wk W CodL.tab) (W := 1) (Nat.le_of_ble_eq_true rfl) (Nat.le_of_ble_eq_true rfl) (Nat.le_refl _) (by show 0 + len + 0 ≤ len; omega) (g := (mkF m 45 #[.val (.ref a), .val (.ref b), .val (.int (Int32.ofNat o)), .val (.int (Int32.ofNat len)), .val .null, .val (.ref s.heap.size)] [.int (Int32.ofNat N.slots.size), .ref s.heap.size, .ref a])) rfl (by rw [hml]; rfl) c10 (argsL := [.ref s.heap.size, .int (Int32.ofNat N.slots.size)]) (rest := [.ref a]) rfl rfl (by show 2 * 0 + (1 + 0) ≤ _; decide) (hb hbytes d45) (⟨rfl, n1⟩)
  obtain ⟨rfl, q11⟩ := E11
  have hB11 := hB1.mv (X8.warmed.alike.symm.trans X11.warmed.alike) q11
  have c12 : Steps p.tables e below (s₁.setTop (entryFrame m #[.ref a, .ref b, .int (Int32.ofNat o), .int (Int32.ofNat len), .null] 6)) (T11.setTop (mkF m 48 #[.val (.ref a), .val (.ref b), .val (.int (Int32.ofNat o)), .val (.int (Int32.ofNat len)), .val .null, .val (.ref s.heap.size)] [.int 0, .ref a])) := g11
  obtain ⟨T13, X13, p13, bl13, sl13, st13⟩ := X11.finit hexec hown (wk W (.fieldLink "java/lang/String" 15 "java/lang/String" "coder" "B")) (Or.inr ⟨_, (wk W (.laysFinal "java/lang/String" "java/lang/String" "coder" "B"))⟩) (Or.inl ⟨rfl, hnm⟩) f2 (Or.inl rfl) hB11 (t := .byte) (by decide +kernel) rfl (g := (mkF m 48 #[.val (.ref a), .val (.ref b), .val (.int (Int32.ofNat o)), .val (.int (Int32.ofNat len)), .val .null, .val (.ref s.heap.size)] [.int 0, .ref a])) rfl (rest := []) rfl (hb hbytes d48)
  have c14 : Steps p.tables e below (s₁.setTop (entryFrame m #[.ref a, .ref b, .int (Int32.ofNat o), .int (Int32.ofNat len), .null] 6)) (T13.setTop (mkF m 54 #[.val (.ref a), .val (.ref b), .val (.int (Int32.ofNat o)), .val (.int (Int32.ofNat len)), .val .null, .val (.ref s.heap.size)] [.ref s.heap.size, .ref a])) := (c12.trans (st13 _ (Steps.refl _))).trans (by
    refine XS.aloadN X13.here hexec rfl (hb hbytes d51) rfl rfl ?_
    refine XS.aload X13.here hexec rfl (hb hbytes d52) rfl rfl ?_
    exact Steps.refl _)
  obtain ⟨T15, X15, p15, bl15, sl15, st15⟩ := X13.finit hexec hown (wk W (.fieldLink "java/lang/String" 9 "java/lang/String" "value" "[B")) (Or.inr ⟨_, (wk W (.laysFinal "java/lang/String" "java/lang/String" "value" "[B"))⟩) (Or.inl ⟨rfl, hnm⟩) f1 (Or.inl rfl) bl13 (t := (.array .byte)) (by decide +kernel) rfl (g := (mkF m 54 #[.val (.ref a), .val (.ref b), .val (.int (Int32.ofNat o)), .val (.int (Int32.ofNat len)), .val .null, .val (.ref s.heap.size)] [.ref s.heap.size, .ref a])) rfl (rest := []) rfl (hb hbytes d54)
  have c16 : Steps p.tables e below (s₁.setTop (entryFrame m #[.ref a, .ref b, .int (Int32.ofNat o), .int (Int32.ofNat len), .null] 6)) (T15.setTop (mkF m 57 #[.val (.ref a), .val (.ref b), .val (.int (Int32.ofNat o)), .val (.int (Int32.ofNat len)), .val .null, .val (.ref s.heap.size)] [])) := c14.trans (st15 _ (Steps.refl _))
  have ap := apart (Or.inr ⟨_, (wk W (.laysFinal "java/lang/String" "java/lang/String" "value" "[B"))⟩) (Or.inr ⟨_, (wk W (.laysFinal "java/lang/String" "java/lang/String" "coder" "B"))⟩) f1 f2 (t₁ := .array .byte) (t₂ := .byte) (by decide +kernel) (by decide +kernel) (by decide)
  have al := X8.warmed.alike.symm.trans X15.warmed.alike
  have n7 : T11.heap[s.heap.size]? = some N := by rw [q11]; exact n1.1
  exact ⟨T15, none, _, _, _, X15, by simp, rfl, by omega, (fun _ => rfl), ⟨rfl, _, N, bl15, ((Same.refl D _).set _ (by simp)).set _ (by simp), sl15, (Cell.slots_setSlot_ne _ ap).trans sl13, n1.keep al (p15.other hne (p13.other hne n7)), n2, by rw [al.findClass]; exact n3, n4, n5, fun y c h1 h2 => p15.other h1 (p13.other h1 (by rw [q11]; exact n6 y c h2)), by rw [p15.2.2, p13.2.2, q11]; exact z8⟩, fun fs hl => c16.trans (X15.returnOut hexec hret (hb hbytes d57) hl)⟩
end New4
namespace New1
def yN : MethodName := ⟨"java/lang/String", "<init>", "([C)V"⟩
abbrev yB : ByteArray := jdk_42_method_3_code
theorem d0 : decode yB 0 = .ok (.aload_n 0, 1) := by decide +kernel
theorem d1 : decode yB 1 = .ok (.aload_n 1, 1) := by decide +kernel
theorem d2 : decode yB 2 = .ok (.iconst 0, 1) := by decide +kernel
theorem d3 : decode yB 3 = .ok (.aload_n 1, 1) := by decide +kernel
theorem d4 : decode yB 4 = .ok (.arraylength, 1) := by decide +kernel
theorem d5 : decode yB 5 = .ok (.aconst_null, 1) := by decide +kernel
theorem d6 : decode yB 6 = .ok (.invokespecial 27, 3) := by decide +kernel
theorem d9 : decode yB 9 = .ok (.return_, 1) := by decide +kernel
def site : List Cond := [New4.tab] ++ initW "java/lang/String" 27 New4.yN
def tab : Cond := tabOf yN yB 2 none site
def P (a : Addr) (D : Cell) (fV fC : Field) (b : Addr) (A : Cell) (z : Int32) (args : Array Value) (s : State) : Prop := args = #[.ref a, .ref b] ∧ Blank "java/lang/String" a D s ∧ Found "java/lang/String" "value" "[B" fV s ∧ Found "java/lang/String" "coder" "B" fC s ∧ Ch b A s ∧ StaticIs s "java/lang/String" "COMPACT_STRINGS" "Z" (.int z) ∧ ¬ z = 0 ∧ 0 < A.slots.size ∧ A.slots.size ≤ 536870912 ∧ ∀ i, i < A.slots.size → ¬ 255 < cv A i
def E (a : Addr) (D : Cell) (fV fC : Field) (A : Cell) (r : Option Value) (s u : State) : Prop := Got a D fV fC A 0 A.slots.size r s u
/-- new String(chars), not empty, no char above 255: a Latin-1 String of their low bytes -/
theorem law (l : Launch) (a : Addr) (D : Cell) (fV fC : Field) (b : Addr) (A : Cell) (z : Int32) : Law l yN 2 1 3 52 yB 2 none site (P a D fV fC b A z) (E a D fV fC A) [⟨a, fC.slot⟩, ⟨a, fV.slot⟩] 1 A.slots.size := by
  refine Law.of_walk (plainFor_of_name (by decide +kernel)) (by decide +kernel) (by decide +kernel) (by decide) (fun _ _ h => by rw [h.1]; rfl) (fun _ U U' hal hh h => ⟨h.1, h.2.1.mv hal hh, h.2.2.1.al hal, h.2.2.2.1.al hal, h.2.2.2.2.1.mv hal hh, h.2.2.2.2.2.1.there hal hh, h.2.2.2.2.2.2⟩) (fun r U U' V V' h1 hal h2 h => Got.mv r U U' V V' h1 hal h2 h) ?_
  intro p e s m args below meth c s₁ X0 hexec hbytes hml hret hlk hnm hown hh0 W hP
  obtain ⟨rfl, hB, f1, f2, hA, s1, hz, l0, l2, hp⟩ := hP
  have c1 : Steps p.tables e below (s₁.setTop (entryFrame m #[.ref a, .ref b] 2)) (s₁.setTop (mkF m 0 #[.val (.ref a), .val (.ref b)] [])) := entry rfl
  have c2 : Steps p.tables e below (s₁.setTop (entryFrame m #[.ref a, .ref b] 2)) (s₁.setTop (mkF m 6 #[.val (.ref a), .val (.ref b)] [.null, .int (Int32.ofNat A.slots.size), .int 0, .ref b, .ref a])) := c1.trans (by
    refine XS.aloadN X0.here hexec rfl (hb hbytes d0) rfl rfl ?_
    refine XS.aloadN X0.here hexec rfl (hb hbytes d1) rfl rfl ?_
    refine iconstV X0.here hexec rfl 0 (hb hbytes d2) (by decide) ?_
    refine XS.aloadN X0.here hexec rfl (hb hbytes d3) rfl rfl ?_
    refine X0.alen hexec (hA.1.mv X0.warmed.alike hh0) rfl rfl (hb hbytes d4) ?_
    refine XS.aconstNull X0.here hexec rfl (hb hbytes d5) ?_
    exact Steps.refl _)
  obtain ⟨v3, T3, X3, E3, g3⟩ := X0.callN hexec (New4.law l a D fV fC b A z 0 A.slots.size) rfl hown (wks W (initW "java/lang/String" 27 New4.yN)) (W New4.tab (by simp only [site, List.mem_cons, List.mem_append, true_or, or_true])) (W := 0) (Nat.le_of_ble_eq_true rfl) (Nat.le_of_ble_eq_true rfl) (Nat.le_refl _) (by show 0 + A.slots.size ≤ A.slots.size; omega) (g := (mkF m 6 #[.val (.ref a), .val (.ref b)] [.null, .int (Int32.ofNat A.slots.size), .int (Int32.ofNat 0), .ref b, .ref a])) rfl (by rw [hml]; rfl) c2 (argsL := [.ref b, .int (Int32.ofNat 0), .int (Int32.ofNat A.slots.size), .null]) (rest := []) rfl rfl (by show 2 * 0 + 0 ≤ _; decide) (hb hbytes d6) (⟨rfl, hB.mv X0.warmed.alike hh0, f1.al X0.warmed.alike, f2.al X0.warmed.alike, hA.mv X0.warmed.alike hh0, s1.there X0.warmed.alike hh0, hz, l0, by omega, l2, fun i hi => by rw [Nat.zero_add]; exact hp i hi⟩)
  have e0 := Got.mv _ s₁ s _ _ hh0.symm (Vm.Alike.refl _) rfl E3
  obtain rfl := e0.1
  have c4 : Steps p.tables e below (s₁.setTop (entryFrame m #[.ref a, .ref b] 2)) (T3.setTop (mkF m 9 #[.val (.ref a), .val (.ref b)] [])) := g3
  exact ⟨T3, none, _, _, _, X3, by simp, rfl, by omega, (fun _ => rfl), e0, fun fs hl => c4.trans (X3.returnOut hexec hret (hb hbytes d9) hl)⟩
theorem pays {l : Launch} {R : Room} {p : Program} {e : Env} {below : List Frame} {s : State} {sargs : Array Value} {len W : Nat} (a : Addr) (D : Cell) (fV fC : Field) (b : Addr) (A : Cell) (z : Int32) (htab : tab.before sargs s = true) (hfr : 4 ≤ R.frames) (hlo : W + 65 ≤ R.locals) :
    Back l R p e below s sargs yN len W (fun A₁ a₁ => A₁.cells + 1 ≤ R.cells ∧ A₁.slots + A.slots.size ≤ R.slots ∧ P a D fV fC b A z a₁ A₁.U) (fun A₁ _ v₁ B₁ => E a D fV fC A v₁ A₁.U B₁.U ∧ B₁.locs = A₁.locs ++ [⟨a, fC.slot⟩, ⟨a, fV.slot⟩] ∧ B₁.cells = A₁.cells + 1 ∧ B₁.slots = A₁.slots + A.slots.size) :=
  (law l a D fV fC b A z).pays htab hfr (by omega)
end New1
/-- the byte, read back as charAt reads it, is the char -/
theorem lo8_mask {x : Int32} (h0 : ¬ x < 0) (h1 : ¬ 255 < x) : lo8 x &&& 255 = x := by
  have t : ∀ k : Fin 256, lo8 (Int32.ofNat k.val) &&& 255 = Int32.ofNat k.val := by decide +kernel
  rw [Int32.lt_iff_toInt_lt] at h0 h1
  have e0 : (0 : Int32).toInt = 0 := rfl
  have e1 : (255 : Int32).toInt = 255 := rfl
  obtain ⟨k, hk⟩ : ∃ k : Nat, x.toInt = k := ⟨x.toInt.toNat, by omega⟩
  have hx : x = Int32.ofNat k := Int32.toInt_inj.mp (by rw [hk, Int32.toInt_ofNat_small (by omega)])
  rw [hx]
  exact t ⟨k, by omega⟩
end StrChars
namespace StrChars.Road
open Jvm Sem ClassFile Op Lib Jvm.Stand Jvm.Free Jvm.Free.XT
open Jvm.Lib.Cold (StaticIs)
abbrev ST : String := "java/lang/String"
/-- every table word that New1's law asks, flat -/
abbrev words : List Jvm.Cond := [.code New1.yN New1.yB 2 none, .initialized ST, .methodLink ST 27 New4.yN, .instanceMethod New4.yN,
  .code New4.yN New4.yB 6 none, .fieldLink ST 38 ST "COMPACT_STRINGS" "Z", .laysFinal ST ST "value" "[B", .fieldLink ST 9 ST "value" "[B", .laysFinal ST ST "coder" "B", .fieldLink ST 15 ST "coder" "B",
  .methodLink ST 1 Lib.objectInit, .instanceMethod Lib.objectInit, .code Lib.objectInit ⟨#[0xb1]⟩ 1 none, .methodLink ST 177 Cmp3.yN, .static Cmp3.yN, .methodLink ST 47 CodL.yN, .static CodL.yN,
  .code Cmp3.yN Cmp3.yB 6 (some (.array .byte)), .initialized U16, .arrayClass .byte, .methodLink U16 115 Cmp5.yN, .static Cmp5.yN, .code Cmp5.yN Cmp5.yB 7 (some .int), .code CodL.yN CodL.yB 2 (some .byte)]
theorem tab_of {a : Array Value} {s : State} (h : ∀ w ∈ words, w.before a s = true) : New1.tab.before a s = true := by
  have h5 : Cmp5.tab.before a s = true := unparts (wk h (.code Cmp5.yN Cmp5.yB 7 (some .int))) (wks h (.initialized Cmp5.yN.cls :: Cmp5.site))
  have hc : CodL.tab.before a s = true := unparts (wk h (.code CodL.yN CodL.yB 2 (some .byte))) (wks h (.initialized CodL.yN.cls :: CodL.site))
  have q5 : ∀ w ∈ Cmp5.tab :: words, w.before a s = true := fun w hw => (List.mem_cons.mp hw).elim (fun e => e ▸ h5) (h w)
  have h3 : Cmp3.tab.before a s = true := unparts (wk q5 (.code Cmp3.yN Cmp3.yB 6 (some (.array .byte)))) (wks q5 (.initialized Cmp3.yN.cls :: Cmp3.site))
  have q3 : ∀ w ∈ Cmp3.tab :: CodL.tab :: words, w.before a s = true := fun w hw => (List.mem_cons.mp hw).elim (fun e => e ▸ h3) fun hw => (List.mem_cons.mp hw).elim (fun e => e ▸ hc) (h w)
  have h4 : New4.tab.before a s = true := unparts (wk q3 (.code New4.yN New4.yB 6 none)) (wks q3 (.initialized New4.yN.cls :: New4.site))
  have q4 : ∀ w ∈ New4.tab :: words, w.before a s = true := fun w hw => (List.mem_cons.mp hw).elim (fun e => e ▸ h4) (h w)
  exact unparts (wk q4 (.code New1.yN New1.yB 2 none)) (wks q4 (.initialized New1.yN.cls :: New1.site))
/-- the words ride from the start Z to the walk's own state -/
theorem moved {Z s : State} {a0 args : Array Value} (hZ : Z.Warmed39 s.vm) (hw : ∀ d ∈ words, d.before a0 Z = true) : ∀ d ∈ words, d.before args s = true := fun d hd => by
  have q := hw d hd
  have t : ∀ d ∈ words, d = .arrayClass .byte ∨ (d.onTables && d.keepsFace) = true := by decide +kernel
  rcases t d hd with rfl | t
  · exact RoadKit.mvA hZ q
  · exact RoadKit.mv hZ q t
/-- WHAT COMES BACK, over the tables of the start Z: h the heap at the call, h' behind it -/
def Q (Z : State) (x : Addr) (A : Cell) (h : Heap) (v : Option Value) (h' : Heap) (L : List Loc) : Prop := v = none ∧ (∀ y ∈ L, y.base = x) ∧ RoadKit.Keep h h' [x] ∧ h'.size = h.size + 1 ∧ RoadKit.Exa Z h' x ST ∧ RoadKit.Fld Z h' x ST "value" "[B" (.ref h.size) ∧ RoadKit.Fld Z h' x ST "coder" "B" (.int 0) ∧
  (∃ V : Cell, RoadKit.Arr Z h' h.size V .byte ∧ V.vm = .none ∧ Z.vm.findClass "[B" = some V.cls ∧ V.slots.size = A.slots.size ∧ ∀ j, j < A.slots.size → V.slots[j]? = some (.int (lo8 (cv A j)))) ∧
  ∀ (O n d : String) (w : Value), RoadKit.Fld Z h x O n d w → RoadKit.slotOf Z O n d ≠ RoadKit.slotOf Z ST "value" "[B" → RoadKit.slotOf Z O n d ≠ RoadKit.slotOf Z ST "coder" "B" → RoadKit.Fld Z h' x O n d w
/-- **new String(chars) AT A CALL, IN THE ROAD'S FORM**: for specialBack behind newO: x the fresh String, b the char[] with the cell A -/
theorem back {p : Program} {l : Launch} {e : Env} {R : Room} {s : State} {args : Array Value} {below : List Frame} {len W : Nat} {Z : State} {a0 : Array Value} {h : Heap} (hZ : Z.Warmed39 s.vm) (hw : ∀ d ∈ words, d.before a0 Z = true) {kI : Nat} (wi : (Jvm.Cond.instantiable ST kI).before a0 Z = true)
    {x b : Addr} {A : Cell} {z : Int32} {v0 c0 : Value} (E : RoadKit.Exa Z h x ST) (V : RoadKit.Fld Z h x ST "value" "[B" v0) (C : RoadKit.Fld Z h x ST "coder" "B" c0) (K : RoadKit.Arr Z h b A .char) (hty : Typed .char A) (S : RoadKit.Sta Z h ST "COMPACT_STRINGS" "Z" (.int z)) (hz : ¬ z = 0)
    (l0 : 0 < A.slots.size) (l2 : A.slots.size ≤ 536870912) (hp : ∀ i, i < A.slots.size → ¬ 255 < cv A i) (hfr : 4 ≤ R.frames) (hlo : W + 65 ≤ R.locals) :
    Back l R p e below s args New1.yN len W (fun P a => a = #[.ref x, .ref b] ∧ P.U.heap = h ∧ P.cells + 1 ≤ R.cells ∧ P.slots + A.slots.size ≤ R.slots)
      (fun P _ v B => ∃ L, Q Z x A h v B.U.heap L ∧ B.locs = P.locs ++ L ∧ B.cells = P.cells + 1 ∧ B.slots = P.slots + A.slots.size) := by
  intro m meth c P g ig mk a X hg hsize hdg hW hn hp'
  obtain ⟨rfl, rfl, r1, r2⟩ := hp'
  have al : Z.vm.Alike P.U.vm := hZ.alike.trans X.warmed.alike
  obtain ⟨D, cfV, kV, iV, fV, hD, gV, stV, knV, obV, asV, slV⟩ := id V
  obtain ⟨D', cfC, kC, iC, fC, hD', gC, stC, -, -, asC, slC⟩ := id C
  cases hD.symm.trans hD'
  obtain ⟨D2, kD, e1, e2, e3, e4, e5⟩ := id E
  cases hD.symm.trans e1
  obtain ⟨c2, k2, i1, i2, i3, -⟩ := Cond.instantiable_spec wi
  cases e2.symm.trans i1
  cases e3.symm.trans i2
  obtain ⟨kU, u1, u2⟩ := al.2.2 _ _ e3
  have hB : Blank ST x D P.U := ⟨hD, ⟨knV, fun q hq => by rw [hq] at obV; cases obV⟩, by rw [al.findClass]; exact e2, kU, u1, by rw [u2]; exact i3, by rw [u2]; exact e5 i3⟩
  have F1 : Found ST "value" "[B" fV P.U := ⟨SBG.found_only al ⟨cfV, kV, iV, gV⟩, stV⟩
  have F2 : Found ST "coder" "B" fC P.U := ⟨SBG.found_only al ⟨cfC, kC, iC, gC⟩, stC⟩
  have hA : Ch b A P.U := ⟨⟨K.1, State.isArrayOf_alike al K.2.1, K.2.2, by omega⟩, hty⟩
  have hS : StaticIs P.U ST "COMPACT_STRINGS" "Z" (.int z) := by
    obtain ⟨cfS, iS, kS, fS, st, cS, t1, t2, t3, t4, t5, t6, t7⟩ := S
    exact StaticIs.there (s := { Z with heap := P.U.heap }) ⟨cfS, iS, kS, fS, st, cS, t1, t2, t3, t4, t5, (fun q => by rw [q] at t6; cases t6), t7⟩ al rfl
  obtain ⟨v, B, X', ⟨⟨hv, E', V', q1, q2, q3, q4, q5, q6, q7, q8, q9, q10, q11⟩, hl, hc, hs⟩, st⟩ := New1.pays x D fV fC b A z (tab_of (moved hZ hw)) hfr hlo m meth c P g ig mk _ X hg hsize hdg hW hn ⟨r1, r2, rfl, hB, F1, F2, hA, hS, hz, l0, l2, hp⟩
  have al' : Z.vm.Alike B.U.vm := hZ.alike.trans X'.warmed.alike
  have hsz : E'.slots.size = D.slots.size := by
    obtain ⟨-, -, -, kB, w1, w2, w3⟩ := q1
    obtain ⟨kB', y1, y2⟩ := al'.2.2 _ _ e3
    rw [q2.2.1] at w1
    cases w1.symm.trans y1
    rw [w3, e5 i3, y2]
  refine ⟨v, B, X', ⟨_, ⟨hv, ?_, ⟨by omega, fun y cy hy hn' => q10 y cy (by simpa using hn') hy, fun y cy hy => ?_⟩, q11, ⟨E', _, q1.1, by rw [q2.2.1]; exact e2, by rw [q2.2.1]; exact e3, by rw [q2.1]; exact obV, fun _ => by rw [hsz]; exact e5 i3⟩,
    ⟨E', cfV, kV, iV, fV, q1.1, gV, stV, by rw [q2.1]; exact knV, by rw [q2.1]; exact obV, by rw [q2.2.1]; exact asV, q3⟩, ⟨E', cfC, kC, iC, fC, q1.1, gC, stC, by rw [q2.1]; exact knV, by rw [q2.1]; exact obV, by rw [q2.2.1]; exact asC, q4⟩,
    ⟨V', ⟨q5.1, State.isArrayOf_alike al'.symm q5.2.1, q5.2.2.1⟩, q6, by rw [← al'.findClass]; exact q7, q8, fun j hj => by have := q9 j hj; rwa [Nat.zero_add] at this⟩, fun O n d w F n1 n2 => ?_⟩, hl, hc, hs⟩, st⟩
  · intro y hy
    simp only [List.mem_cons, List.not_mem_nil, or_false] at hy
    rcases hy with rfl | rfl <;> rfl
  · by_cases q : y = x
    · subst q
      cases hD.symm.trans hy
      exact ⟨E', q1.1, q2.2.1, q2.1, hsz⟩
    · exact ⟨cy, q10 y cy q hy, rfl, rfl, rfl⟩
  · obtain ⟨D3, cf, k, i, f, g1, g2, g3, g4, g5, g6, g7⟩ := F
    cases hD.symm.trans g1
    simp only [RoadKit.slotOf, g2, gV, gC, Option.map_some, Option.getD_some] at n1 n2
    exact ⟨E', cf, k, i, f, q1.1, g2, g3, by rw [q2.1]; exact g4, by rw [q2.1]; exact g5, by rw [q2.2.1]; exact g6, by rw [q2.2.2 f.slot (by simp [n1, n2])]; exact g7⟩
end StrChars.Road
namespace StrChars.Road
open Jvm Sem ClassFile Op Lib Jvm.Stand Jvm.Free Jvm.Free.XT
/-- WHAT COMES BACK, the byte[] as a list of values -/
def QA (Z : State) (x : Addr) (zn : Int32) (cs : List Int32) (h : Heap) (v : Option Value) (h' : Heap) (L : List Loc) : Prop := v = none ∧ (∀ y ∈ L, y.base = x) ∧ RoadKit.Keep h h' [x] ∧ h'.size = h.size + 1 ∧ RoadKit.Exa Z h' x ST ∧ RoadKit.Fld Z h' x ST "value" "[B" (.ref h.size) ∧ RoadKit.Fld Z h' x ST "coder" "B" (.int 0) ∧
  (∃ kb, Z.vm.findClass "[B" = some kb ∧ RoadKit.Arv Z h' h.size kb .byte zn (cs.map fun c => .int (lo8 c)) (.int 0)) ∧
  ∀ (O n d : String) (w : Value), RoadKit.Fld Z h x O n d w → RoadKit.slotOf Z O n d ≠ RoadKit.slotOf Z ST "value" "[B" → RoadKit.slotOf Z O n d ≠ RoadKit.slotOf Z ST "coder" "B" → RoadKit.Fld Z h' x O n d w
/-- **new String(chars) AT A CALL, THE ARRAYS AS LISTS**: the char[] at b holds cs, not empty, no char above 255 -/
theorem backArv {p : Program} {l : Launch} {e : Env} {R : Room} {s : State} {args : Array Value} {below : List Frame} {len W : Nat} {Z : State} {a0 : Array Value} {h : Heap} (hZ : Z.Warmed39 s.vm) (hw : ∀ d ∈ words, d.before a0 Z = true) {kI : Nat} (wi : (Jvm.Cond.instantiable ST kI).before a0 Z = true)
    {x b : Addr} {k : ClassId} {zn z : Int32} {cs : List Int32} {dv v0 c0 : Value} (E : RoadKit.Exa Z h x ST) (V : RoadKit.Fld Z h x ST "value" "[B" v0) (C : RoadKit.Fld Z h x ST "coder" "B" c0) (K : RoadKit.Arv Z h b k .char zn (cs.map Value.int) dv) (S : RoadKit.Sta Z h ST "COMPACT_STRINGS" "Z" (.int z)) (hz : ¬ z = 0)
    (hlen : zn.toNatClampNeg = cs.length) (h0 : 0 < cs.length) (hbig : cs.length ≤ 536870912) (hall : ∀ c ∈ cs, ¬ 255 < c) (hfr : 4 ≤ R.frames) (hlo : W + 65 ≤ R.locals) :
    Back l R p e below s args New1.yN len W (fun P a => a = #[.ref x, .ref b] ∧ P.U.heap = h ∧ P.cells + 1 ≤ R.cells ∧ P.slots + cs.length ≤ R.slots)
      (fun P _ v B => ∃ L, QA Z x zn cs h v B.U.heap L ∧ B.locs = P.locs ++ L ∧ B.cells = P.cells + 1 ∧ B.slots = P.slots + cs.length) := by
  obtain ⟨A, K1, K2, K3, K4, K5, K6⟩ := K
  have e : A.slots.size = cs.length := K3.trans hlen
  have hat : ∀ (i : Nat) (hi : i < cs.length), A.slots[i]? = some (.int cs[i]) := fun i hi => by rw [K5 i (by omega)]; simp [List.getD_eq_getElem?_getD, hi]
  have hcv : ∀ (i : Nat) (hi : i < cs.length), cv A i = cs[i] := fun i hi => by unfold cv; rw [hat i hi]
  have hty : Typed .char A := fun i v hv => by
    have hi : i < A.slots.size := (Array.getElem?_eq_some_iff.mp hv).1
    have q := K5 i hi
    rw [hv] at q
    rw [Option.some.inj q]
    exact K6 i hi
  refine Back.mono (back hZ hw wi E V C K1 hty S hz (by omega) (by omega) (fun i hi => by rw [hcv i (by omega)]; exact hall _ (List.getElem_mem _)) hfr hlo) (fun P a hp => ⟨hp.1, hp.2.1, hp.2.2.1, by rw [e]; exact hp.2.2.2⟩) (fun P a v B hp hq => ?_)
  obtain ⟨L, ⟨q1, q2, q3, q4, q5, q6, q7, ⟨V', v1, v2, v3, v4, v5⟩, q9⟩, hl, hc, hs⟩ := hq
  refine ⟨L, ⟨q1, q2, q3, q4, q5, q6, q7, ⟨V'.cls, v3, V', v1, rfl, by rw [v4, e, hlen], K4, fun i hi => ?_, fun i hi => ?_⟩, q9⟩, hl, hc, by rw [hs, e]⟩
  · have hi' : i < cs.length := by omega
    rw [v5 i (by omega), hcv i hi']; simp [List.getD_eq_getElem?_getD, hi']
  · have hi' : i < cs.length := by omega
    simp only [List.getD_eq_getElem?_getD, List.getElem?_map, List.getElem?_eq_getElem hi', Option.map_some, Option.getD_some]
    exact fits_lo8 _
end StrChars.Road
namespace StrChars.Road
open Jvm Sem ClassFile Op Lib Jvm.Stand Jvm.Free Jvm.Free.XT
/-- WHAT COMES BACK, in the writer's own shape -/
def QV (Z : State) (x : Addr) (N : Int32) (bs : List Int32) (h : Heap) (n0 : Nat) (v : Option Value) (h' : Heap) (L : List Loc) : Prop := v = none ∧ RoadKit.Fr n0 L ∧ RoadKit.Keep h h' [x] ∧ RoadKit.Exa Z h' x ST ∧ RoadKit.Fld Z h' x ST "coder" "B" (.int 0) ∧
  ∃ (t : Addr) (kb : ClassId), n0 ≤ t ∧ h.size ≤ t ∧ ¬ t = x ∧ RoadKit.Fld Z h' x ST "value" "[B" (.ref t) ∧ RoadKit.Arv Z h' t kb .byte N (bs.map Value.int) (.int 0)
/-- **new String(chars) AT A CALL, FOR THE WRITER**: a char[] of n known ints, each 0 to 255 -/
theorem backV {p : Program} {l : Launch} {e : Env} {R : Room} {s : State} {args : Array Value} {below : List Frame} {len W : Nat} {Z : State} {a0 : Array Value} {h : Heap} (hZ : Z.Warmed39 s.vm) (hw : ∀ d ∈ words, d.before a0 Z = true) {kI : Nat} (wi : (Jvm.Cond.instantiable ST kI).before a0 Z = true)
    {x b : Addr} {kC : ClassId} {cs bs : List Int32} {d v0 c0 : Value} {z N : Int32} {n n0 : Nat} (hx0 : n0 ≤ x) (hh0 : n0 ≤ h.size) (E : RoadKit.Exa Z h x ST) (V : RoadKit.Fld Z h x ST "value" "[B" v0) (C : RoadKit.Fld Z h x ST "coder" "B" c0) (K : RoadKit.Arv Z h b kC .char N (cs.map Value.int) d) (S : RoadKit.Sta Z h ST "COMPACT_STRINGS" "Z" (.int z)) (hz : ¬ z = 0)
    (hn : cs.length = n) (hN : N = Int32.ofNat n) (l0 : 0 < n) (l2 : n ≤ 4000) (hp : ∀ c ∈ cs, ¬ c < 0 ∧ ¬ (255 : Int32) < c) (hb : bs = cs.map (fun c => c.toInt8.toInt32)) (hfr : 4 ≤ R.frames) (hlo : W + 65 ≤ R.locals) :
    Back l R p e below s args (⟨"java/lang/String", "<init>", "([C)V"⟩ : MethodName) len W (fun P a => a = #[.ref x, .ref b] ∧ P.U.heap = h ∧ P.cells + 1 ≤ R.cells ∧ P.slots + n ≤ R.slots)
      (fun P _ v B => ∃ L, QV Z x N bs h n0 v B.U.heap L ∧ B.locs = P.locs ++ L ∧ B.cells = P.cells + 1 ∧ B.slots = P.slots + n) := by
  subst hn hN hb
  refine Back.mono (backArv hZ hw wi E V C K S hz (n32 (by omega)) l0 (by omega) (fun c hc => (hp c hc).2) hfr hlo) (fun P a hp => hp) (fun P a v B hp hq => ?_)
  obtain ⟨L, ⟨q1, q2, q3, q4, q5, q6, q7, ⟨kb, v1, v2⟩, q9⟩, hl, hc, hs⟩ := hq
  exact ⟨L, ⟨q1, fun y hy => by rw [q2 y hy]; exact hx0, q3, q5, q7, h.size, kb, hh0, Nat.le_refl _, Nat.ne_of_gt E.lt, q6, by rw [List.map_map]; exact v2⟩, hl, hc, hs⟩
end StrChars.Road
namespace StrChars
open Jvm Sem ClassFile Op Lib Jvm.Stand Jvm.Free.XT Jvm.Free.ALB Jvm.Free.JM Jvm.Free
open Jvm.Lib.Cold (StaticIs)
def hi8 (x : Int32) : Int32 := lo8 (x >>> ((8 : Int32) &&& 31))
/-- what StringUTF16.getChar makes of two bytes -/
def pairCh (u v : Int32) : Int32 := (((u &&& 255) <<< ((0 : Int32) &&& 31)) ||| ((v &&& 255) <<< ((8 : Int32) &&& 31))).toUInt32.toUInt16.toUInt32.toInt32
theorem shr0 (c : Int32) : c >>> ((0 : Int32) &&& 31) = c := by
  have e : ((0 : Int32) &&& 31) = 0 := by decide
  rw [e]
  apply Int32.toBitVec_inj.mp
  rw [Int32.toBitVec_shiftRight]
  have e1 : ((0 : Int32).toBitVec.smod 32) = 0#32 := by decide
  rw [e1, BitVec.sshiftRight_eq']
  exact BitVec.sshiftRight_zero
theorem lo8_and (x : Int32) : (lo8 x &&& 255).toBitVec.toNat = x.toBitVec.toNat % 256 := by
  have h : (lo8 x).toBitVec = (x.toBitVec.signExtend 8).signExtend 32 := by rw [lo8, Int8.toBitVec_toInt32, Int32.toBitVec_toInt8]
  rw [Int32.toBitVec_and, BitVec.toNat_and, h]
  have e : ((x.toBitVec.signExtend 8).signExtend 32).toNat % 256 = x.toBitVec.toNat % 256 := by
    rw [BitVec.toNat_signExtend]
    have hlt := x.toBitVec.isLt
    simp only [BitVec.toNat_setWidth, BitVec.toNat_signExtend]
    split <;> split <;> omega
  rw [← e]
  exact Nat.and_two_pow_sub_one_eq_mod _ 8
theorem pair_says {c : Int32} (h0 : ¬ c < 0) (h1 : ¬ 65535 < c) : pairCh (lo8 c) (hi8 c) = c := by
  rw [Int32.lt_iff_toInt_lt] at h0 h1
  have e0 : (0 : Int32).toInt = 0 := rfl
  have e1 : (65535 : Int32).toInt = 65535 := rfl
  have hc : c.toInt = c.toBitVec.toNat := by
    have := c.toBitVec.isLt
    have e : c.toInt = c.toBitVec.toInt := rfl
    rw [e] at h0 h1
    rw [e]
    rw [BitVec.toInt_eq_toNat_cond] at h0 h1 ⊢
    split at h0 <;> split <;> omega
  have hn : c.toBitVec.toNat < 65536 := by omega
  have a1 := lo8_and c
  have a2 : (hi8 c &&& 255).toBitVec.toNat = c.toBitVec.toNat / 256 := by
    rw [hi8, lo8_and]
    have e : ((8 : Int32) &&& 31) = 8 := by decide
    rw [e, Int32.toBitVec_shiftRight]
    have e2 : ((8 : Int32).toBitVec.smod 32) = 8#32 := by decide
    rw [e2, BitVec.sshiftRight_eq', BitVec.toNat_sshiftRight_of_msb_false (by rw [BitVec.msb_eq_false_iff_two_mul_lt]; omega)]
    show c.toBitVec.toNat >>> 8 % 256 = _
    rw [Nat.shiftRight_eq_div_pow]
    omega
  unfold pairCh
  apply Int32.toBitVec_inj.mp
  apply BitVec.eq_of_toNat_eq
  have f0 : ((0 : Int32) &&& 31) = 0 := by decide
  have f8 : ((8 : Int32) &&& 31) = 8 := by decide
  rw [f0, f8]
  have g : (((lo8 c &&& 255) <<< (0 : Int32)) ||| ((hi8 c &&& 255) <<< (8 : Int32))).toBitVec.toNat = c.toBitVec.toNat := by
    rw [Int32.toBitVec_or, Int32.toBitVec_shiftLeft, Int32.toBitVec_shiftLeft]
    have s0 : ((0 : Int32).toBitVec.smod 32) = 0#32 := by decide
    have s8 : ((8 : Int32).toBitVec.smod 32) = 8#32 := by decide
    rw [s0, s8, BitVec.toNat_or]
    simp only [BitVec.shiftLeft_eq', BitVec.toNat_shiftLeft, a1, a2]
    show (c.toBitVec.toNat % 256) <<< 0 % 2 ^ 32 ||| (c.toBitVec.toNat / 256) <<< 8 % 2 ^ 32 = _
    rw [Nat.shiftLeft_zero, Nat.mod_eq_of_lt (show c.toBitVec.toNat % 256 < 2 ^ 32 by omega), Nat.mod_eq_of_lt (show (c.toBitVec.toNat / 256) <<< 8 < 2 ^ 32 by rw [Nat.shiftLeft_eq]; omega), Nat.or_comm, ← Nat.shiftLeft_add_eq_or_of_lt (by omega), Nat.shiftLeft_eq]
    omega
  show BitVec.toNat (((((lo8 c &&& 255) <<< (0 : Int32)) ||| ((hi8 c &&& 255) <<< (8 : Int32))).toBitVec.setWidth 16).setWidth 32) = _
  rw [BitVec.toNat_setWidth, BitVec.toNat_setWidth, g]
  omega
end StrChars
namespace StrChars
open Jvm Sem ClassFile Op Lib Jvm.Stand Jvm.Free.XT Jvm.Free.ALB Jvm.Free.JM Jvm.Free
open Jvm.Lib.Cold (StaticIs)
theorem shr1 {n : Nat} (h : 2 * n < 2 ^ 31) : Int32.ofNat (2 * n) >>> ((1 : Int32) &&& 31) = Int32.ofNat n := by
  have e : ((1 : Int32) &&& 31) = 1 := by decide
  rw [e]
  apply Int32.toBitVec_inj.mp
  rw [Int32.toBitVec_shiftRight]
  have e1 : ((1 : Int32).toBitVec.smod 32) = 1#32 := by decide
  have hm : (BitVec.ofNat 32 (2 * n)).toNat = 2 * n := by rw [BitVec.toNat_ofNat, Nat.mod_eq_of_lt (by omega)]
  rw [e1, BitVec.sshiftRight_eq']
  apply BitVec.eq_of_toNat_eq
  show ((BitVec.ofNat 32 (2 * n)).sshiftRight 1).toNat = (BitVec.ofNat 32 n).toNat
  rw [BitVec.toNat_sshiftRight_of_msb_false (by rw [BitVec.msb_eq_false_iff_two_mul_lt, hm]; omega), hm, BitVec.toNat_ofNat, Nat.shiftRight_eq_div_pow]
  omega
/-- charAt's cast of a byte read back -/
def chr8 (u : Int32) : Int32 := (u &&& 255).toUInt32.toUInt16.toUInt32.toInt32
theorem chr8_lo8 {c : Int32} (h0 : ¬ c < 0) (h1 : ¬ 255 < c) : chr8 (lo8 c) = c := by
  have t : ∀ k : Fin 256, (Int32.ofNat k.val).toUInt32.toUInt16.toUInt32.toInt32 = Int32.ofNat k.val := by decide +kernel
  unfold chr8
  rw [lo8_mask h0 h1]
  rw [Int32.lt_iff_toInt_lt] at h0 h1
  have e0 : (0 : Int32).toInt = 0 := rfl
  have e1 : (255 : Int32).toInt = 255 := rfl
  obtain ⟨k, hk⟩ : ∃ k : Nat, c.toInt = k := ⟨c.toInt.toNat, by omega⟩
  have hx : c = Int32.ofNat k := Int32.toInt_inj.mp (by rw [hk, Int32.toInt_ofNat_small (by omega)])
  rw [hx]
  exact t ⟨k, by omega⟩
theorem narrow_ch {c : Int32} (h0 : ¬ c < 0) (h1 : ¬ 65535 < c) : narrow .char (.int c) = .int c := by
  have q : narrow .char (.int (pairCh (lo8 c) (hi8 c))) = .int (pairCh (lo8 c) (hi8 c)) := narrow_c _
  rwa [pair_says h0 h1] at q
/-- the array's cell V codes the n chars f 0 .. f (n - 1) by the coder cd, as the JDK does: coder 1 just where some char is above 255 -/
def Cod (cd : Int32) (n : Nat) (f : Nat → Int32) (V : Cell) : Prop := (cd = 0 ∧ V.slots.size = n ∧ ∀ j, j < n → V.slots[j]? = some (.int (lo8 (f j))) ∧ ¬ 255 < f j) ∨ (cd = 1 ∧ V.slots.size = 2 * n ∧ (∀ j, j < n → V.slots[2 * j]? = some (.int (lo8 (f j))) ∧ V.slots[2 * j + 1]? = some (.int (hi8 (f j)))) ∧ ∃ j, j < n ∧ 255 < f j)
theorem Cod.cd {cd : Int32} {n : Nat} {f : Nat → Int32} {V : Cell} (h : Cod cd n f V) : cd = 0 ∨ cd = 1 := h.imp (fun q => q.1) fun q => q.1
theorem Cod.len {cd : Int32} {n : Nat} {f : Nat → Int32} {V : Cell} (h : Cod cd n f V) (hs : V.slots.size < 2 ^ 31) : Int32.ofNat V.slots.size >>> (cd &&& 31) = Int32.ofNat n := by
  rcases h with ⟨rfl, h, -⟩ | ⟨rfl, h, -⟩
  · rw [shr0, h]
  · rw [h, shr1 (by omega)]
/-- **x is a String of the n chars f 0 .. f (n - 1)**, Latin-1 or UTF-16; its array at t has the cell V -/
def Txt (x t : Addr) (V : Cell) (cd : Int32) (n : Nat) (f : Nat → Int32) (U : State) : Prop := Exact "java/lang/String" x U ∧ Has x "java/lang/String" "value" "[B" (.ref t) U ∧ Has x "java/lang/String" "coder" "B" (.int cd) U ∧ XT.Arr .byte t V U ∧ Cod cd n f V ∧ ∀ j, j < n → ¬ f j < 0 ∧ ¬ 65535 < f j
theorem Txt.mv {x t : Addr} {V : Cell} {cd : Int32} {n : Nat} {f : Nat → Int32} {U U' : State} (h : Txt x t V cd n f U) (hal : U.vm.Alike U'.vm) (hh : U'.heap = U.heap) : Txt x t V cd n f U' := ⟨h.1.mv hal hh, h.2.1.mv hal hh, h.2.2.1.mv hal hh, h.2.2.2.1.mv hal hh, h.2.2.2.2⟩
namespace Cdr
def yN : MethodName := ⟨"java/lang/String", "coder", "()B"⟩
abbrev yB : ByteArray := jdk_42_method_152_code
theorem d0 : decode yB 0 = .ok (.getstatic 38, 3) := by decide +kernel
theorem d3 : decode yB 3 = .ok (.ifCond (.eq) 10, 3) := by decide +kernel
theorem d6 : decode yB 6 = .ok (.aload_n 0, 1) := by decide +kernel
theorem d7 : decode yB 7 = .ok (.getfield 15, 3) := by decide +kernel
theorem d10 : decode yB 10 = .ok (.goto 4, 3) := by decide +kernel
theorem d14 : decode yB 14 = .ok (.ireturn, 1) := by decide +kernel
def site : List Cond := [.fieldLink "java/lang/String" 38 "java/lang/String" "COMPACT_STRINGS" "Z", .fieldLink "java/lang/String" 15 "java/lang/String" "coder" "B"]
def tab : Cond := tabOf yN yB 1 (some .byte) site
def P (x : Addr) (cd z : Int32) (args : Array Value) (s : State) : Prop := args = #[.ref x] ∧ Has x "java/lang/String" "coder" "B" (.int cd) s ∧ (cd = 0 ∨ cd = 1) ∧ StaticIs s "java/lang/String" "COMPACT_STRINGS" "Z" (.int z) ∧ ¬ z = 0
def E (cd : Int32) (r : Option Value) (s u : State) : Prop := XT.PureE (some (.int cd)) r s u
theorem law (l : Launch) (x : Addr) (cd z : Int32) : Law l yN 1 0 0 0 yB 1 (some .byte) site (P x cd z) (E cd) [] 0 0 := by
  refine Law.of_walk (plainFor_of_name (by decide +kernel)) (by decide +kernel) (by decide +kernel) (by decide) (fun _ _ h => by rw [h.1]; rfl) (fun _ U U' hal hh h => ⟨h.1, h.2.1.mv hal hh, h.2.2.1, h.2.2.2.1.there hal hh, h.2.2.2.2⟩) (fun r U U' V V' h1 hal h2 h => XT.PureE.mv r U U' V V' h1 hal h2 h) ?_
  intro p e s m args below meth c s₁ X0 hexec hbytes hml hret hlk hnm hown hh0 W hP
  obtain ⟨rfl, hx, hc, s1, hz⟩ := hP
  have c1 : Steps p.tables e below (s₁.setTop (entryFrame m #[.ref x] 1)) (s₁.setTop (mkF m 0 #[.val (.ref x)] [])) := entry rfl
  obtain ⟨T2, X2, q2, st2⟩ := X0.sget hexec hown (wk W (.fieldLink "java/lang/String" 38 "java/lang/String" "COMPACT_STRINGS" "Z")) s1 (fun _ _ h => by rw [hh0]; exact h) (g := (mkF m 0 #[.val (.ref x)] [])) rfl (hb hbytes d0)
  have hh2 := q2.trans hh0
  have c3 : Steps p.tables e below (s₁.setTop (entryFrame m #[.ref x] 1)) (T2.setTop (mkF m 7 #[.val (.ref x)] [.ref x])) := (c1.trans (st2 _ (Steps.refl _))).trans (by
    refine XS.ifNo X2.here hexec rfl (hb hbytes d3) rfl (i0_eq_f hz) ?_
    refine XS.aloadN X2.here hexec rfl (hb hbytes d6) rfl rfl ?_
    exact Steps.refl _)
  obtain ⟨T4, X4, q4, st4⟩ := X2.hget hexec hown (wk W (.fieldLink "java/lang/String" 15 "java/lang/String" "coder" "B")) (hx.mv X2.warmed.alike hh2) (g := (mkF m 7 #[.val (.ref x)] [.ref x])) rfl (rest := []) rfl (hb hbytes d7)
  have c5 : Steps p.tables e below (s₁.setTop (entryFrame m #[.ref x] 1)) (T4.setTop (mkF m 14 #[.val (.ref x)] [.int cd])) := (c3.trans (st4 _ (Steps.refl _))).trans (by
    refine XS.goto X4.here hexec rfl (pc0 := 10) rfl (hb hbytes d10) (by decide) rfl ?_
    exact Steps.refl _)
  exact ⟨T4, some (.int cd), _, _, _, X4, rfl, rfl, rfl, (fun h => by cases h), ⟨rfl, q4.trans hh2⟩, fun fs hl => c5.trans (X4.ireturnOut hexec hret (by rcases hc with rfl | rfl <;> rfl) (Or.inr (Or.inr (Or.inl rfl))) (hb hbytes d14) hl)⟩
end Cdr
namespace Len
def yN : MethodName := ⟨"java/lang/String", "length", "()I"⟩
abbrev yB : ByteArray := jdk_42_method_54_code
theorem d0 : decode yB 0 = .ok (.aload_n 0, 1) := by decide +kernel
theorem d1 : decode yB 1 = .ok (.getfield 9, 3) := by decide +kernel
theorem d4 : decode yB 4 = .ok (.arraylength, 1) := by decide +kernel
theorem d5 : decode yB 5 = .ok (.aload_n 0, 1) := by decide +kernel
theorem d6 : decode yB 6 = .ok (.invokevirtual 335, 3) := by decide +kernel
theorem d9 : decode yB 9 = .ok (.ishr, 1) := by decide +kernel
theorem d10 : decode yB 10 = .ok (.ireturn, 1) := by decide +kernel
def site : List Cond := [.fieldLink "java/lang/String" 9 "java/lang/String" "value" "[B", Cdr.tab] ++ virtW "java/lang/String" 335 "java/lang/String" Cdr.yN Cdr.yN
def tab : Cond := tabOf yN yB 1 (some .int) site
def P (x t : Addr) (V : Cell) (cd : Int32) (n : Nat) (f : Nat → Int32) (z : Int32) (args : Array Value) (s : State) : Prop := args = #[.ref x] ∧ Txt x t V cd n f s ∧ StaticIs s "java/lang/String" "COMPACT_STRINGS" "Z" (.int z) ∧ ¬ z = 0
def E (n : Nat) (r : Option Value) (s u : State) : Prop := XT.PureE (some (.int (Int32.ofNat n))) r s u
/-- length() of a String of n chars, in either coding -/
theorem law (l : Launch) (x t : Addr) (V : Cell) (cd : Int32) (n : Nat) (f : Nat → Int32) (z : Int32) : Law l yN 1 0 1 13 yB 1 (some .int) site (P x t V cd n f z) (E n) [] 0 0 := by
  refine Law.of_walk (plainFor_of_name (by decide +kernel)) (by decide +kernel) (by decide +kernel) (by decide) (fun _ _ h => by rw [h.1]; rfl) (fun _ U U' hal hh h => ⟨h.1, h.2.1.mv hal hh, h.2.2.1.there hal hh, h.2.2.2⟩) (fun r U U' V V' h1 hal h2 h => XT.PureE.mv r U U' V V' h1 hal h2 h) ?_
  intro p e s m args below meth c s₁ X0 hexec hbytes hml hret hlk hnm hown hh0 W hP
  obtain ⟨rfl, hx, s1, hz⟩ := hP
  have v31 := hx.2.2.2.1.2.2.2
  have c1 : Steps p.tables e below (s₁.setTop (entryFrame m #[.ref x] 1)) (s₁.setTop (mkF m 1 #[.val (.ref x)] [.ref x])) := Steps.trans (entry rfl) (by
    show Steps p.tables e below (s₁.setTop (mkF m 0 #[.val (.ref x)] [])) _
    refine XS.aloadN X0.here hexec rfl (hb hbytes d0) rfl rfl ?_
    exact Steps.refl _)
  obtain ⟨T2, X2, q2, st2⟩ := X0.hget hexec hown (wk W (.fieldLink "java/lang/String" 9 "java/lang/String" "value" "[B")) (hx.mv X0.warmed.alike hh0).2.1 (g := (mkF m 1 #[.val (.ref x)] [.ref x])) rfl (rest := []) rfl (hb hbytes d1)
  have hh2 := q2.trans hh0
  have hx2 := hx.mv X2.warmed.alike hh2
  have c3 : Steps p.tables e below (s₁.setTop (entryFrame m #[.ref x] 1)) (T2.setTop (mkF m 6 #[.val (.ref x)] [.ref x, .int (Int32.ofNat V.slots.size)])) := (c1.trans (st2 _ (Steps.refl _))).trans (by
    refine X2.alen hexec hx2.2.2.2.1 rfl rfl (hb hbytes d4) ?_
    refine XS.aloadN X2.here hexec rfl (hb hbytes d5) rfl rfl ?_
    exact Steps.refl _)
  obtain ⟨v4, T4, X4, E4, g4⟩ := X2.callV hexec (Cdr.law l x cd z) hown (wks W (virtW "java/lang/String" 335 "java/lang/String" Cdr.yN Cdr.yN)) rfl (by decide) (wk W Cdr.tab) (W := 1) (Nat.le_of_ble_eq_true rfl) (Nat.le_of_ble_eq_true rfl) (Nat.le_refl _) (Nat.le_refl _) (hx2.1.fc X2.warmed.alike) hx2.1.is (g := (mkF m 6 #[.val (.ref x)] [.ref x, .int (Int32.ofNat V.slots.size)])) rfl (by rw [hml]; rfl) c3 (argsL := []) (rest := [.int (Int32.ofNat V.slots.size)]) rfl rfl (by show 2 * 0 + (1 + 0) ≤ _; decide) (hb hbytes d6) (⟨rfl, hx2.2.2.1, hx.2.2.2.2.1.cd, s1.there X2.warmed.alike hh2, hz⟩)
  obtain ⟨rfl, q4⟩ := E4
  have c5 : Steps p.tables e below (s₁.setTop (entryFrame m #[.ref x] 1)) (T4.setTop (mkF m 10 #[.val (.ref x)] [.int (Int32.ofNat V.slots.size >>> (cd &&& 31))])) := Steps.trans g4 (by
    refine ishr X4.here hexec rfl (hb hbytes d9) rfl ?_
    exact Steps.refl _)
  rw [hx.2.2.2.2.1.len v31] at c5
  exact ⟨T4, some (.int (Int32.ofNat n)), _, _, _, X4, rfl, rfl, rfl, (fun h => by cases h), ⟨rfl, q4.trans hh2⟩, fun fs hl => c5.trans (X4.ireturnOut hexec hret rfl (Or.inl rfl) (hb hbytes d10) hl)⟩
theorem pays {l : Launch} {R : Room} {p : Program} {e : Env} {below : List Frame} {s : State} {sargs : Array Value} {len W : Nat} (x t : Addr) (V : Cell) (cd : Int32) (n : Nat) (f : Nat → Int32) (z : Int32) (htab : tab.before sargs s = true) (hfr : 2 ≤ R.frames) (hlo : W + 25 ≤ R.locals) :
    Back l R p e below s sargs yN len W (fun A₁ a₁ => A₁.cells + 0 ≤ R.cells ∧ A₁.slots + 0 ≤ R.slots ∧ P x t V cd n f z a₁ A₁.U) (fun A₁ _ v₁ B₁ => E n v₁ A₁.U B₁.U ∧ B₁.locs = A₁.locs ++ [] ∧ B₁.cells = A₁.cells + 0 ∧ B₁.slots = A₁.slots + 0) :=
  (law l x t V cd n f z).pays htab hfr (by omega)
end Len
namespace IsL
def yN : MethodName := ⟨"java/lang/String", "isLatin1", "()Z"⟩
abbrev yB : ByteArray := jdk_42_method_154_code
theorem d0 : decode yB 0 = .ok (.getstatic 38, 3) := by decide +kernel
theorem d3 : decode yB 3 = .ok (.ifCond (.eq) 14, 3) := by decide +kernel
theorem d6 : decode yB 6 = .ok (.aload_n 0, 1) := by decide +kernel
theorem d7 : decode yB 7 = .ok (.getfield 15, 3) := by decide +kernel
theorem d10 : decode yB 10 = .ok (.ifCond (.ne) 7, 3) := by decide +kernel
theorem d13 : decode yB 13 = .ok (.iconst 1, 1) := by decide +kernel
theorem d14 : decode yB 14 = .ok (.goto 4, 3) := by decide +kernel
theorem d17 : decode yB 17 = .ok (.iconst 0, 1) := by decide +kernel
theorem d18 : decode yB 18 = .ok (.ireturn, 1) := by decide +kernel
def site : List Cond := [.fieldLink "java/lang/String" 38 "java/lang/String" "COMPACT_STRINGS" "Z", .fieldLink "java/lang/String" 15 "java/lang/String" "coder" "B"]
def tab : Cond := tabOf yN yB 1 (some .boolean) site
def P (x : Addr) (cd z : Int32) (args : Array Value) (s : State) : Prop := args = #[.ref x] ∧ Has x "java/lang/String" "coder" "B" (.int cd) s ∧ (cd = 0 ∨ cd = 1) ∧ StaticIs s "java/lang/String" "COMPACT_STRINGS" "Z" (.int z) ∧ ¬ z = 0
def E (cd : Int32) (r : Option Value) (s u : State) : Prop := XT.PureE (some (.int (1 - cd))) r s u
theorem law (l : Launch) (x : Addr) (cd z : Int32) : Law l yN 1 0 0 0 yB 1 (some .boolean) site (P x cd z) (E cd) [] 0 0 := by
  refine Law.of_walk (plainFor_of_name (by decide +kernel)) (by decide +kernel) (by decide +kernel) (by decide) (fun _ _ h => by rw [h.1]; rfl) (fun _ U U' hal hh h => ⟨h.1, h.2.1.mv hal hh, h.2.2.1, h.2.2.2.1.there hal hh, h.2.2.2.2⟩) (fun r U U' V V' h1 hal h2 h => XT.PureE.mv r U U' V V' h1 hal h2 h) ?_
  intro p e s m args below meth c s₁ X0 hexec hbytes hml hret hlk hnm hown hh0 W hP
  obtain ⟨rfl, hx, hc, s1, hz⟩ := hP
  have c1 : Steps p.tables e below (s₁.setTop (entryFrame m #[.ref x] 1)) (s₁.setTop (mkF m 0 #[.val (.ref x)] [])) := entry rfl
  obtain ⟨T2, X2, q2, st2⟩ := X0.sget hexec hown (wk W (.fieldLink "java/lang/String" 38 "java/lang/String" "COMPACT_STRINGS" "Z")) s1 (fun _ _ h => by rw [hh0]; exact h) (g := (mkF m 0 #[.val (.ref x)] [])) rfl (hb hbytes d0)
  have hh2 := q2.trans hh0
  have c3 : Steps p.tables e below (s₁.setTop (entryFrame m #[.ref x] 1)) (T2.setTop (mkF m 7 #[.val (.ref x)] [.ref x])) := (c1.trans (st2 _ (Steps.refl _))).trans (by
    refine XS.ifNo X2.here hexec rfl (hb hbytes d3) rfl (i0_eq_f hz) ?_
    refine XS.aloadN X2.here hexec rfl (hb hbytes d6) rfl rfl ?_
    exact Steps.refl _)
  obtain ⟨T4, X4, q4, st4⟩ := X2.hget hexec hown (wk W (.fieldLink "java/lang/String" 15 "java/lang/String" "coder" "B")) (hx.mv X2.warmed.alike hh2) (g := (mkF m 7 #[.val (.ref x)] [.ref x])) rfl (rest := []) rfl (hb hbytes d7)
  have c5 : Steps p.tables e below (s₁.setTop (entryFrame m #[.ref x] 1)) (T4.setTop (mkF m 10 #[.val (.ref x)] [.int cd])) := c3.trans (st4 _ (Steps.refl _))
  have c6 : Steps p.tables e below (s₁.setTop (entryFrame m #[.ref x] 1)) (T4.setTop (mkF m 18 #[.val (.ref x)] [.int (1 - cd)])) := by
    rcases hc with rfl | rfl
    · exact c5.trans (by
        refine XS.ifNo X4.here hexec rfl (hb hbytes d10) rfl (i0_ne_f rfl) ?_
        refine iconstV X4.here hexec rfl 1 (hb hbytes d13) (by decide) ?_
        refine XS.goto X4.here hexec rfl (pc0 := 14) rfl (hb hbytes d14) (by decide) rfl ?_
        exact Steps.refl _)
    · exact c5.trans (by
        refine XS.ifYes X4.here hexec rfl (pc0 := 10) rfl (hb hbytes d10) rfl (i0_ne_t (by decide)) (by decide) rfl ?_
        refine iconstV X4.here hexec rfl 0 (hb hbytes d17) (by decide) ?_
        exact Steps.refl _)
  exact ⟨T4, some (.int (1 - cd)), _, _, _, X4, rfl, rfl, rfl, (fun h => by cases h), ⟨rfl, q4.trans hh2⟩, fun fs hl => c6.trans (X4.ireturnOut hexec hret (by rcases hc with rfl | rfl <;> rfl) (Or.inr (Or.inl rfl)) (hb hbytes d18) hl)⟩
end IsL
namespace LChA
def yN : MethodName := ⟨"java/lang/StringLatin1", "charAt", "([BI)C"⟩
abbrev yB : ByteArray := jdk_43_method_2_code
theorem d0 : decode yB 0 = .ok (.iload_n 1, 1) := by decide +kernel
theorem d1 : decode yB 1 = .ok (.aload_n 0, 1) := by decide +kernel
theorem d2 : decode yB 2 = .ok (.arraylength, 1) := by decide +kernel
theorem d3 : decode yB 3 = .ok (.invokestatic 9, 3) := by decide +kernel
theorem d6 : decode yB 6 = .ok (.aload_n 0, 1) := by decide +kernel
theorem d7 : decode yB 7 = .ok (.iload_n 1, 1) := by decide +kernel
theorem d8 : decode yB 8 = .ok (.baload, 1) := by decide +kernel
theorem d9 : decode yB 9 = .ok (.sipush 255, 3) := by decide +kernel
theorem d12 : decode yB 12 = .ok (.iand, 1) := by decide +kernel
theorem d13 : decode yB 13 = .ok (.i2c, 1) := by decide +kernel
theorem d14 : decode yB 14 = .ok (.ireturn, 1) := by decide +kernel
def site : List Cond := [JO.Str_checkIndex.tab] ++ staticW "java/lang/StringLatin1" 9 JO.Str_checkIndex.yN
def tab : Cond := tabOf yN yB 2 (some .char) site
def P (t : Addr) (V : Cell) (i : Nat) (u : Int32) (fm : Value) (args : Array Value) (s : State) : Prop := args = #[.ref t, .int (Int32.ofNat i)] ∧ XT.Arr .byte t V s ∧ V.slots[i]? = some (.int u) ∧ (StaticIs s "jdk/internal/util/Preconditions" "SIOOBE_FORMATTER" "Ljava/util/function/BiFunction;" fm ∧ fm.isRef = true)
def E (u : Int32) (r : Option Value) (s w : State) : Prop := XT.PureE (some (.int (chr8 u))) r s w
theorem law (l : Launch) (t : Addr) (V : Cell) (i : Nat) (u : Int32) (fm : Value) : Law l yN 2 2 2 27 yB 2 (some .char) site (P t V i u fm) (E u) [] 0 0 := by
  refine Law.of_walk (plainFor_of_name (by decide +kernel)) (by decide +kernel) (by decide +kernel) (by decide) (fun _ _ h => by rw [h.1]; rfl) (fun _ U U' hal hh h => ⟨h.1, h.2.1.mv hal hh, h.2.2.1, h.2.2.2.1.there hal hh, h.2.2.2.2⟩) (fun r U U' V V' h1 hal h2 h => XT.PureE.mv r U U' V V' h1 hal h2 h) ?_
  intro p e s m args below meth c s₁ X0 hexec hbytes hml hret hlk hnm hown hh0 W hP
  obtain ⟨rfl, hV, hu, s1, rf⟩ := hP
  have v31 := hV.2.2.2
  have hi : i < V.slots.size := (Array.getElem?_eq_some_iff.mp hu).1
  have c1 : Steps p.tables e below (s₁.setTop (entryFrame m #[.ref t, .int (Int32.ofNat i)] 2)) (s₁.setTop (mkF m 0 #[.val (.ref t), .val (.int (Int32.ofNat i))] [])) := entry rfl
  have c2 : Steps p.tables e below (s₁.setTop (entryFrame m #[.ref t, .int (Int32.ofNat i)] 2)) (s₁.setTop (mkF m 3 #[.val (.ref t), .val (.int (Int32.ofNat i))] [.int (Int32.ofNat V.slots.size), .int (Int32.ofNat i)])) := c1.trans (by
    refine XS.iloadN X0.here hexec rfl (hb hbytes d0) rfl ?_
    refine XS.aloadN X0.here hexec rfl (hb hbytes d1) rfl rfl ?_
    refine X0.alen hexec (hV.mv X0.warmed.alike hh0) rfl rfl (hb hbytes d2) ?_
    exact Steps.refl _)
  obtain ⟨v3, T3, X3, E3, g3⟩ := X0.callS hexec (JO.Str_checkIndex.law l (Int32.ofNat i) (Int32.ofNat V.slots.size) fm) hown (wks W (staticW "java/lang/StringLatin1" 9 JO.Str_checkIndex.yN)) (wk W JO.Str_checkIndex.tab) (W := 0) (Nat.le_of_ble_eq_true rfl) (Nat.le_of_ble_eq_true rfl) (Nat.le_refl _) (Nat.le_refl _) (g := (mkF m 3 #[.val (.ref t), .val (.int (Int32.ofNat i))] [.int (Int32.ofNat V.slots.size), .int (Int32.ofNat i)])) rfl (by rw [hml]; rfl) c2 (argsL := [.int (Int32.ofNat i), .int (Int32.ofNat V.slots.size)]) (rest := []) rfl rfl (by show 2 * 0 + 0 ≤ _; decide) (hb hbytes d3) (⟨rfl, rf, s1.there X0.warmed.alike hh0, Int32.ofNat_not_neg (by omega), lt32 v31 hi⟩)
  obtain ⟨rfl, q3⟩ := E3
  have hh3 := q3.trans hh0
  have c4 : Steps p.tables e below (s₁.setTop (entryFrame m #[.ref t, .int (Int32.ofNat i)] 2)) (T3.setTop (mkF m 14 #[.val (.ref t), .val (.int (Int32.ofNat i))] [.int (chr8 u)])) := Steps.trans g3 (by
    refine XS.aloadN X3.here hexec rfl (hb hbytes d6) rfl rfl ?_
    refine XS.iloadN X3.here hexec rfl (hb hbytes d7) rfl ?_
    refine X3.aget hexec (hV.mv X3.warmed.alike hh3) rfl hu rfl rfl (hb hbytes d8) ?_
    refine sipushV X3.here hexec rfl 255 (hb hbytes d9) (by decide) ?_
    refine XS.iand X3.here hexec rfl (hb hbytes d12) rfl ?_
    refine i2c X3.here hexec rfl (hb hbytes d13) rfl ?_
    exact Steps.refl _)
  exact ⟨T3, some (.int (chr8 u)), _, _, _, X3, rfl, rfl, rfl, (fun h => by cases h), ⟨rfl, hh3⟩, fun fs hl => c4.trans (X3.ireturnOut hexec hret (narrow_c _) (Or.inr (Or.inr (Or.inr (Or.inl rfl)))) (hb hbytes d14) hl)⟩
end LChA
end StrChars
namespace StrChars.Road
open Jvm Sem ClassFile Op Lib Jvm.Stand Jvm.Free Jvm.Free.XT
open Jvm.Lib.Cold (StaticIs)
theorem consq {a : Array Value} {s : State} {c : Jvm.Cond} {L : List Jvm.Cond} (h0 : c.before a s = true) (h : ∀ w ∈ L, w.before a s = true) : ∀ w ∈ c :: L, w.before a s = true := fun w hw => (List.mem_cons.mp hw).elim (fun e => e ▸ h0) (h w)
/-- the words of String.length(), either coding -/
abbrev wordsLen : List Jvm.Cond := [.code Len.yN Len.yB 1 (some .int), .initialized ST, .fieldLink ST 9 ST "value" "[B", .fieldLink ST 38 ST "COMPACT_STRINGS" "Z", .fieldLink ST 15 ST "coder" "B", .code Cdr.yN Cdr.yB 1 (some .byte), .methodLink ST 335 Cdr.yN, .declares Cdr.yN, .selects ST Cdr.yN Cdr.yN, .instanceMethod Cdr.yN]
theorem tabLen_of {a : Array Value} {s : State} (h : ∀ w ∈ wordsLen, w.before a s = true) : Len.tab.before a s = true := by
  have hc : Cdr.tab.before a s = true := unparts (wk h (.code Cdr.yN Cdr.yB 1 (some .byte))) (wks h (.initialized Cdr.yN.cls :: Cdr.site))
  have q := consq hc h
  exact unparts (wk q (.code Len.yN Len.yB 1 (some .int))) (wks q (.initialized Len.yN.cls :: Len.site))
theorem movedLen {Z s : State} {a0 args : Array Value} (hZ : Z.Warmed39 s.vm) (hw : ∀ d ∈ wordsLen, d.before a0 Z = true) : ∀ d ∈ wordsLen, d.before args s = true := fun d hd => by
  have q := hw d hd
  have t : ∀ d ∈ wordsLen, d = .arrayClass .byte ∨ (d.onTables && d.keepsFace) = true := by decide +kernel
  rcases t d hd with rfl | t
  · exact RoadKit.mvA hZ q
  · exact RoadKit.mv hZ q t
/-- the bytes of the chars cs, low before high -/
def wideBytes : List Int32 → List Value
  | [] => []
  | c :: cs => .int (lo8 c) :: .int (hi8 c) :: wideBytes cs
theorem wide_lo (d : Value) : ∀ (cs : List Int32) (j : Nat), j < cs.length → (wideBytes cs).getD (2 * j) d = .int (lo8 (cs.getD j 0))
  | [], j, h => absurd h (Nat.not_lt_zero j)
  | c :: cs, 0, _ => rfl
  | c :: cs, j + 1, h => by
    have q := wide_lo d cs j (by simpa using h)
    rw [show 2 * (j + 1) = 2 * j + 1 + 1 from by omega]
    simpa [wideBytes] using q
theorem wide_hi (d : Value) : ∀ (cs : List Int32) (j : Nat), j < cs.length → (wideBytes cs).getD (2 * j + 1) d = .int (hi8 (cs.getD j 0))
  | [], j, h => absurd h (Nat.not_lt_zero j)
  | c :: cs, 0, _ => rfl
  | c :: cs, j + 1, h => by
    have q := wide_hi d cs j (by simpa using h)
    rw [show 2 * (j + 1) + 1 = 2 * j + 1 + 1 + 1 from by omega]
    simpa [wideBytes] using q
theorem low_at (d : Value) (cs : List Int32) (j : Nat) (h : j < cs.length) : (cs.map fun c => Value.int (lo8 c)).getD j d = .int (lo8 (cs.getD j 0)) := by
  simp [List.getD_eq_getElem?_getD, h]
/-- an array of N2 bytes vs codes the chars cs by the coder cd -/
def CodA (cs : List Int32) (cd N2 : Int32) (vs : List Value) : Prop := (cd = 0 ∧ N2 = Int32.ofNat cs.length ∧ vs = (cs.map fun c => Value.int (lo8 c)) ∧ ∀ c ∈ cs, ¬ 255 < c) ∨ (cd = 1 ∧ N2 = Int32.ofNat (2 * cs.length) ∧ vs = wideBytes cs ∧ ∃ c ∈ cs, 255 < c)
theorem CodA.cod {cs : List Int32} {cd N2 : Int32} {vs : List Value} {V : Cell} (h : CodA cs cd N2 vs) (hn : 2 * cs.length < 2 ^ 31) (hs : V.slots.size = N2.toNatClampNeg) (hv : RoadKit.Has V vs (.int 0)) : Cod cd cs.length (fun j => cs.getD j 0) V := by
  rcases h with ⟨rfl, rfl, rfl, h⟩ | ⟨rfl, rfl, rfl, c, hc, hw⟩
  · rw [n32 (by omega)] at hs
    exact Or.inl ⟨rfl, hs, fun j hj => ⟨by rw [hv j (by omega), low_at _ _ _ hj], by
      have e : cs.getD j 0 = cs[j] := by simp [List.getD_eq_getElem?_getD, hj]
      show ¬ 255 < cs.getD j 0
      rw [e]; exact h _ (List.getElem_mem _)⟩⟩
  · rw [n32 (by omega)] at hs
    obtain ⟨j, hj, rfl⟩ := List.getElem_of_mem hc
    exact Or.inr ⟨rfl, hs, fun j hj => ⟨by rw [hv _ (by omega), wide_lo _ _ _ hj], by rw [hv _ (by omega), wide_hi _ _ _ hj]⟩, j, hj, by
      have e : cs.getD j 0 = cs[j] := by simp [List.getD_eq_getElem?_getD, hj]
      show 255 < cs.getD j 0
      rw [e]; exact hw⟩
/-- an object of exactly java/lang/String, its two fields found: as the laws ask it -/
theorem strObj {Z U : State} {a0 : Array Value} {kI : Nat} (wi : (Jvm.Cond.instantiable ST kI).before a0 Z = true) (al : Z.vm.Alike U.vm) {x : Addr} {v0 c0 : Value} (E : RoadKit.Exa Z U.heap x ST) (V : RoadKit.Fld Z U.heap x ST "value" "[B" v0) (C : RoadKit.Fld Z U.heap x ST "coder" "B" c0) :
    ∃ (D : Cell) (fV fC : Field), Blank ST x D U ∧ Found ST "value" "[B" fV U ∧ Found ST "coder" "B" fC U ∧ D.slots[fV.slot]? = some v0 ∧ D.slots[fC.slot]? = some c0 ∧ RoadKit.slotOf Z ST "value" "[B" = fV.slot ∧ RoadKit.slotOf Z ST "coder" "B" = fC.slot := by
  obtain ⟨D, cfV, kV, iV, fV, hD, gV, stV, knV, obV, asV, slV⟩ := V
  obtain ⟨D', cfC, kC, iC, fC, hD', gC, stC, -, -, asC, slC⟩ := C
  cases hD.symm.trans hD'
  obtain ⟨D2, kD, e1, e2, e3, e4, e5⟩ := E
  cases hD.symm.trans e1
  obtain ⟨c2, k2, i1, i2, i3, -⟩ := Cond.instantiable_spec wi
  cases e2.symm.trans i1
  cases e3.symm.trans i2
  obtain ⟨kU, u1, u2⟩ := al.2.2 _ _ e3
  exact ⟨D, fV, fC, ⟨hD, ⟨knV, fun q hq => by rw [hq] at obV; cases obV⟩, by rw [al.findClass]; exact e2, kU, u1, by rw [u2]; exact i3, by rw [u2]; exact e5 i3⟩, ⟨SBG.found_only al ⟨cfV, kV, iV, gV⟩, stV⟩, ⟨SBG.found_only al ⟨cfC, kC, iC, gC⟩, stC⟩, slV, slC, by simp [RoadKit.slotOf, gV], by simp [RoadKit.slotOf, gC]⟩
theorem sta_is {Z U : State} (al : Z.vm.Alike U.vm) {C n d : String} {v : Value} (S : RoadKit.Sta Z U.heap C n d v) : StaticIs U C n d v := by
  obtain ⟨cfS, iS, kS, fS, st, cS, t1, t2, t3, t4, t5, t6, t7⟩ := S
  exact StaticIs.there (s := { Z with heap := U.heap }) ⟨cfS, iS, kS, fS, st, cS, t1, t2, t3, t4, t5, (fun q => by rw [q] at t6; cases t6), t7⟩ al rfl
/-- **length() OF SUCH A STRING** -/
theorem lenW {p : Program} {l : Launch} {e : Env} {R : Room} {s : State} {args : Array Value} {below : List Frame} {len W : Nat} {Z : State} {a0 : Array Value} {h : Heap} (hZ : Z.Warmed39 s.vm) (hw : ∀ d ∈ wordsLen, d.before a0 Z = true) {kI : Nat} (wi : (Jvm.Cond.instantiable ST kI).before a0 Z = true)
    {x t : Addr} {kb : ClassId} {cs : List Int32} {cd N2 z : Int32} {vs : List Value} (E : RoadKit.Exa Z h x ST) (V : RoadKit.Fld Z h x ST "value" "[B" (.ref t)) (C : RoadKit.Fld Z h x ST "coder" "B" (.int cd)) (K : RoadKit.Arv Z h t kb .byte N2 vs (.int 0)) (hc : CodA cs cd N2 vs) (hb : ∀ c ∈ cs, ¬ c < 0 ∧ ¬ (65535 : Int32) < c)
    (S : RoadKit.Sta Z h ST "COMPACT_STRINGS" "Z" (.int z)) (hz : ¬ z = 0) (l2 : cs.length ≤ 4000) (hfr : 2 ≤ R.frames) (hlo : W + 25 ≤ R.locals) :
    Back l R p e below s args (⟨"java/lang/String", "length", "()I"⟩ : MethodName) len W (fun P a => a = #[.ref x] ∧ P.U.heap = h ∧ P.cells + 0 ≤ R.cells ∧ P.slots + 0 ≤ R.slots)
      (fun P _ v B => ∃ L, (v = some (.int (Int32.ofNat cs.length)) ∧ L = [] ∧ B.U.heap = h) ∧ B.locs = P.locs ++ L ∧ B.cells = P.cells + 0 ∧ B.slots = P.slots + 0) := by
  obtain ⟨A, K1, K2, K3, K4, K5, K6⟩ := K
  have hcod := hc.cod (by omega) K3 K5
  intro m meth c P g ig mk a X hg hsize hdg hW hn hp'
  obtain ⟨rfl, rfl, r1, r2⟩ := hp'
  have al : Z.vm.Alike P.U.vm := hZ.alike.trans X.warmed.alike
  obtain ⟨D, fV, fC, hB, F1, F2, g1, g2, -, -⟩ := strObj wi al E V C
  have hx : Txt x t A cd cs.length (fun j => cs.getD j 0) P.U := ⟨⟨_, hB.2.2.1, D, hB.1, rfl, by cases q : D.vm <;> first | rfl | exact absurd q (hB.2.1.2 _)⟩, Has.of hB F1 g1, Has.of hB F2 g2, ⟨K1.1, State.isArrayOf_alike al K1.2.1, K1.2.2, by rcases hcod with ⟨-, q, -⟩ | ⟨-, q, -⟩ <;> omega⟩, hcod, fun j hj => by
    have e : cs.getD j 0 = cs[j] := by simp [List.getD_eq_getElem?_getD, hj]
    show ¬ cs.getD j 0 < 0 ∧ ¬ 65535 < cs.getD j 0
    rw [e]; exact hb _ (List.getElem_mem _)⟩
  obtain ⟨v, B, X', ⟨⟨hv, hh⟩, hl, hk, hs⟩, st⟩ := Len.pays x t A cd cs.length (fun j => cs.getD j 0) z (tabLen_of (movedLen hZ hw)) hfr hlo m meth c P g ig mk _ X hg hsize hdg hW hn ⟨r1, r2, rfl, hx, sta_is al S, hz⟩
  exact ⟨v, B, X', ⟨[], ⟨hv, rfl, hh⟩, hl, hk, hs⟩, st⟩
end StrChars.Road
namespace StrChars
open Jvm Sem ClassFile Op Lib Jvm.Stand Jvm.Free.XT Jvm.Free.ALB Jvm.Free.JM Jvm.Free
open Jvm.Lib.Cold (StaticIs)
/-- what place i of a byte[]'s cell holds -/
def yv (A : Cell) (i : Nat) : Int32 := match A.slots[i]? with | some (.int x) => x | _ => 0
theorem yv_get {a : Addr} {A : Cell} {U : State} (h : XT.Arr .byte a A U) (ht : Typed .byte A) {i : Nat} (hi : i < A.slots.size) : A.slots[i]? = some (.int (yv A i)) := by
  have e := Array.getElem?_eq_getElem hi
  have f := ht i _ e
  unfold yv; rw [e]
  generalize A.slots[i] = v at f
  cases v <;> simp [fits] at f ⊢
/-- the two arrays are equal, place for place -/
def EqC (A B : Cell) : Prop := A.slots.size = B.slots.size ∧ ∀ i, i < A.slots.size → yv A i = yv B i
/-- a boolean that says whether p -/
def Says01 (q : Prop) (r : Option Value) (s u : State) : Prop := ∃ v : Int32, r = some (.int v) ∧ u.heap = s.heap ∧ ((v = 1 ∧ q) ∨ (v = 0 ∧ ¬ q))
theorem Says01.mv {q : Prop} : ∀ r (U U' V V' : State), U'.heap = U.heap → V.vm.Alike V'.vm → V'.heap = V.heap → Says01 q r U V → Says01 q r U' V' :=
  fun r U U' V V' h1 _ h2 ⟨v, a, b, c⟩ => ⟨v, a, by rw [h1, h2]; exact b, c⟩
namespace LEq
def yN : MethodName := ⟨"java/lang/StringLatin1", "equals", "([B[B)Z"⟩
abbrev yB : ByteArray := jdk_43_method_13_code
theorem d0 : decode yB 0 = .ok (.aload_n 0, 1) := by decide +kernel
theorem d1 : decode yB 1 = .ok (.arraylength, 1) := by decide +kernel
theorem d2 : decode yB 2 = .ok (.aload_n 1, 1) := by decide +kernel
theorem d3 : decode yB 3 = .ok (.arraylength, 1) := by decide +kernel
theorem d4 : decode yB 4 = .ok (.if_icmp (.ne) 30, 3) := by decide +kernel
theorem d7 : decode yB 7 = .ok (.iconst 0, 1) := by decide +kernel
theorem d8 : decode yB 8 = .ok (.istore_n 2, 1) := by decide +kernel
theorem d9 : decode yB 9 = .ok (.iload_n 2, 1) := by decide +kernel
theorem d10 : decode yB 10 = .ok (.aload_n 0, 1) := by decide +kernel
theorem d11 : decode yB 11 = .ok (.arraylength, 1) := by decide +kernel
theorem d12 : decode yB 12 = .ok (.if_icmp (.ge) 20, 3) := by decide +kernel
theorem d15 : decode yB 15 = .ok (.aload_n 0, 1) := by decide +kernel
theorem d16 : decode yB 16 = .ok (.iload_n 2, 1) := by decide +kernel
theorem d17 : decode yB 17 = .ok (.baload, 1) := by decide +kernel
theorem d18 : decode yB 18 = .ok (.aload_n 1, 1) := by decide +kernel
theorem d19 : decode yB 19 = .ok (.iload_n 2, 1) := by decide +kernel
theorem d20 : decode yB 20 = .ok (.baload, 1) := by decide +kernel
theorem d21 : decode yB 21 = .ok (.if_icmp (.eq) 5, 3) := by decide +kernel
theorem d24 : decode yB 24 = .ok (.iconst 0, 1) := by decide +kernel
theorem d25 : decode yB 25 = .ok (.ireturn, 1) := by decide +kernel
theorem d26 : decode yB 26 = .ok (.iinc 2 1, 3) := by decide +kernel
theorem d29 : decode yB 29 = .ok (.goto (-20), 3) := by decide +kernel
theorem d32 : decode yB 32 = .ok (.iconst 1, 1) := by decide +kernel
theorem d33 : decode yB 33 = .ok (.ireturn, 1) := by decide +kernel
theorem d34 : decode yB 34 = .ok (.iconst 0, 1) := by decide +kernel
theorem d35 : decode yB 35 = .ok (.ireturn, 1) := by decide +kernel
def site : List Cond := []
def tab : Cond := tabOf yN yB 3 (some .boolean) site
def P (a : Addr) (A : Cell) (b : Addr) (B : Cell) (args : Array Value) (s : State) : Prop := args = #[.ref a, .ref b] ∧ XT.Arr .byte a A s ∧ Typed .byte A ∧ XT.Arr .byte b B s ∧ Typed .byte B
/-- whether two byte[] are equal, place for place -/
theorem law (l : Launch) (a : Addr) (A : Cell) (b : Addr) (B : Cell) : Law l yN 2 2 0 0 yB 3 (some .boolean) site (P a A b B) (Says01 (EqC A B)) [] 0 0 := by
  refine Law.of_walk (plainFor_of_name (by decide +kernel)) (by decide +kernel) (by decide +kernel) (by decide) (fun _ _ h => by rw [h.1]; rfl) (fun _ U U' hal hh h => ⟨h.1, h.2.1.mv hal hh, h.2.2.1, h.2.2.2.1.mv hal hh, h.2.2.2.2⟩) (fun r U U' V V' h1 hal h2 h => Says01.mv r U U' V V' h1 hal h2 h) ?_
  intro p e s m args below meth c s₁ X0 hexec hbytes hml hret hlk hnm hown hh0 W hP
  obtain ⟨rfl, hA, tA, hB, tB⟩ := hP
  have a31 := hA.2.2.2
  have b31 := hB.2.2.2
  have hA0 := hA.mv X0.warmed.alike hh0
  have hB0 := hB.mv X0.warmed.alike hh0
  have c1 : Steps p.tables e below (s₁.setTop (entryFrame m #[.ref a, .ref b] 3)) (s₁.setTop (mkF m 0 #[.val (.ref a), .val (.ref b), .unset] [])) := entry rfl
  have c2 : Steps p.tables e below (s₁.setTop (entryFrame m #[.ref a, .ref b] 3)) (s₁.setTop (mkF m 4 #[.val (.ref a), .val (.ref b), .unset] [.int (Int32.ofNat B.slots.size), .int (Int32.ofNat A.slots.size)])) := c1.trans (by
    refine XS.aloadN X0.here hexec rfl (hb hbytes d0) rfl rfl ?_
    refine X0.alen hexec hA0 rfl rfl (hb hbytes d1) ?_
    refine XS.aloadN X0.here hexec rfl (hb hbytes d2) rfl rfl ?_
    refine X0.alen hexec hB0 rfl rfl (hb hbytes d3) ?_
    exact Steps.refl _)
  by_cases hs : A.slots.size = B.slots.size
  · have c3 : Steps p.tables e below (s₁.setTop (entryFrame m #[.ref a, .ref b] 3)) (s₁.setTop (mkF m 9 #[.val (.ref a), .val (.ref b), .val (.int 0)] [])) := c2.trans (by
      refine XS.icmpNo X0.here hexec rfl (hb hbytes d4) rfl (ii_ne_f (by rw [hs])) ?_
      refine iconstV X0.here hexec rfl 0 (hb hbytes d7) (by decide) ?_
      refine XS.istoreN X0.here hexec rfl (hb hbytes d8) rfl rfl ?_
      exact Steps.refl _)
    have loop : ∀ (r i : Nat), i + r = A.slots.size → (∀ j, j < i → yv A j = yv B j) → Steps p.tables e below (s₁.setTop (entryFrame m #[.ref a, .ref b] 3)) (s₁.setTop (mkF m 9 #[.val (.ref a), .val (.ref b), .val (.int (Int32.ofNat i))] [])) → ∃ (pc : Nat) (Ls : Array Slot) (v : Int32), (pc = 25 ∨ pc = 33) ∧ ((v = 1 ∧ EqC A B) ∨ (v = 0 ∧ ¬ EqC A B)) ∧ Steps p.tables e below (s₁.setTop (entryFrame m #[.ref a, .ref b] 3)) (s₁.setTop (mkF m pc Ls [.int v])) := by
      intro r
      induction r with
      | zero =>
        intro i hi he cl
        exact ⟨33, _, 1, Or.inr rfl, Or.inl ⟨rfl, hs, fun j hj => he j (by omega)⟩, cl.trans (by
          refine XS.iloadN X0.here hexec rfl (hb hbytes d9) rfl ?_
          refine XS.aloadN X0.here hexec rfl (hb hbytes d10) rfl rfl ?_
          refine X0.alen hexec hA0 rfl rfl (hb hbytes d11) ?_
          refine XS.icmpYes X0.here hexec rfl (pc0 := 12) rfl (hb hbytes d12) rfl (ii_ge_t (nlt32 (by omega) (by omega))) (by decide) rfl ?_
          refine iconstV X0.here hexec rfl 1 (hb hbytes d32) (by decide) ?_
          exact Steps.refl _)⟩
      | succ r ih =>
        intro i hi he cl
        have c4 : Steps p.tables e below (s₁.setTop (entryFrame m #[.ref a, .ref b] 3)) (s₁.setTop (mkF m 21 #[.val (.ref a), .val (.ref b), .val (.int (Int32.ofNat i))] [.int (yv B i), .int (yv A i)])) := cl.trans (by
          refine XS.iloadN X0.here hexec rfl (hb hbytes d9) rfl ?_
          refine XS.aloadN X0.here hexec rfl (hb hbytes d10) rfl rfl ?_
          refine X0.alen hexec hA0 rfl rfl (hb hbytes d11) ?_
          refine XS.icmpNo X0.here hexec rfl (hb hbytes d12) rfl (ii_ge_f (lt32 (by omega) (by omega))) ?_
          refine XS.aloadN X0.here hexec rfl (hb hbytes d15) rfl rfl ?_
          refine XS.iloadN X0.here hexec rfl (hb hbytes d16) rfl ?_
          refine X0.aget hexec hA0 rfl (yv_get hA tA (i := i) (by omega)) rfl rfl (hb hbytes d17) ?_
          refine XS.aloadN X0.here hexec rfl (hb hbytes d18) rfl rfl ?_
          refine XS.iloadN X0.here hexec rfl (hb hbytes d19) rfl ?_
          refine X0.aget hexec hB0 rfl (yv_get hB tB (i := i) (by omega)) rfl rfl (hb hbytes d20) ?_
          exact Steps.refl _)
        by_cases hv : yv A i = yv B i
        · have c5 : Steps p.tables e below (s₁.setTop (entryFrame m #[.ref a, .ref b] 3)) (s₁.setTop (mkF m 9 #[.val (.ref a), .val (.ref b), .val (.int (Int32.ofNat i + 1))] [])) := c4.trans (by
            refine XS.icmpYes X0.here hexec rfl (pc0 := 21) rfl (hb hbytes d21) rfl (ii_eq_t hv) (by decide) rfl ?_
            refine iincV X0.here hexec rfl 1 (hb hbytes d26) (by decide) rfl rfl ?_
            refine XS.goto X0.here hexec rfl (pc0 := 29) rfl (hb hbytes d29) (by decide) rfl ?_
            exact Steps.refl _)
          rw [succ32] at c5
          exact ih (i + 1) (by omega) (fun j hj => by
            by_cases e : j = i
            · rw [e]; exact hv
            · exact he j (by omega)) c5
        · exact ⟨25, _, 0, Or.inl rfl, Or.inr ⟨rfl, fun q => hv (q.2 i (by omega))⟩, c4.trans (by
            refine XS.icmpNo X0.here hexec rfl (hb hbytes d21) rfl (ii_eq_f hv) ?_
            refine iconstV X0.here hexec rfl 0 (hb hbytes d24) (by decide) ?_
            exact Steps.refl _)⟩
    obtain ⟨pc, Ls, v, hpc, hv, cz⟩ := loop A.slots.size 0 (by omega) (fun j hj => absurd hj (Nat.not_lt_zero j)) c3
    have nv : narrow .boolean (.int v) = .int v := by rcases hv with ⟨rfl, -⟩ | ⟨rfl, -⟩ <;> rfl
    rcases hpc with rfl | rfl
    · exact ⟨s₁, some (.int v), _, _, _, X0, rfl, rfl, rfl, (fun h => by cases h), ⟨v, rfl, hh0, hv⟩, fun fs hl => cz.trans (X0.ireturnOut hexec hret nv (Or.inr (Or.inl rfl)) (hb hbytes d25) hl)⟩
    · exact ⟨s₁, some (.int v), _, _, _, X0, rfl, rfl, rfl, (fun h => by cases h), ⟨v, rfl, hh0, hv⟩, fun fs hl => cz.trans (X0.ireturnOut hexec hret nv (Or.inr (Or.inl rfl)) (hb hbytes d33) hl)⟩
  · have c3 : Steps p.tables e below (s₁.setTop (entryFrame m #[.ref a, .ref b] 3)) (s₁.setTop (mkF m 35 #[.val (.ref a), .val (.ref b), .unset] [.int 0])) := c2.trans (by
      refine XS.icmpYes X0.here hexec rfl (pc0 := 4) rfl (hb hbytes d4) rfl (ii_ne_t (ne32 a31 b31 hs)) (by decide) rfl ?_
      refine iconstV X0.here hexec rfl 0 (hb hbytes d34) (by decide) ?_
      exact Steps.refl _)
    exact ⟨s₁, some (.int 0), _, _, _, X0, rfl, rfl, rfl, (fun h => by cases h), ⟨0, rfl, hh0, Or.inr ⟨rfl, fun q => hs q.1⟩⟩, fun fs hl => c3.trans (X0.ireturnOut hexec hret rfl (Or.inr (Or.inl rfl)) (hb hbytes d35) hl)⟩
end LEq
theorem Cod.ty {cd : Int32} {n : Nat} {f : Nat → Int32} {V : Cell} (h : Cod cd n f V) : Typed .byte V := fun i v hv => by
  have hi : i < V.slots.size := (Array.getElem?_eq_some_iff.mp hv).1
  rcases h with ⟨-, k1, k2⟩ | ⟨-, k1, k2, -⟩
  · rw [(k2 i (by omega)).1] at hv; cases hv; exact fits_lo8 _
  · rcases Nat.mod_two_eq_zero_or_one i with e | e
    · obtain ⟨j, rfl⟩ : ∃ j, i = 2 * j := ⟨i / 2, by omega⟩
      rw [(k2 j (by omega)).1] at hv; cases hv; exact fits_lo8 _
    · obtain ⟨j, rfl⟩ : ∃ j, i = 2 * j + 1 := ⟨i / 2, by omega⟩
      rw [(k2 j (by omega)).2] at hv; cases hv; exact fits_lo8 _
/-- the same text -/
def SameT (n : Nat) (f : Nat → Int32) (k : Nat) (g : Nat → Int32) : Prop := n = k ∧ ∀ j, j < n → f j = g j
theorem lo8_inj {x y : Int32} (h0 : ¬ x < 0) (h1 : ¬ 255 < x) (k0 : ¬ y < 0) (k1 : ¬ 255 < y) (h : lo8 x = lo8 y) : x = y := by
  rw [← lo8_mask h0 h1, ← lo8_mask k0 k1, h]
/-- arrays coded by one coder are equal just where the texts are -/
theorem Cod.eqv {cd : Int32} {n k : Nat} {f g : Nat → Int32} {V V' : Cell} (h : Cod cd n f V) (h' : Cod cd k g V') (hf : ∀ j, j < n → ¬ f j < 0 ∧ ¬ 65535 < f j) (hg : ∀ j, j < k → ¬ g j < 0 ∧ ¬ 65535 < g j) : EqC V V' ↔ SameT n f k g := by
  have yvv : ∀ {W : Cell} {i : Nat} {x : Int32}, W.slots[i]? = some (.int x) → yv W i = x := fun q => by unfold yv; rw [q]
  rcases h with ⟨rfl, k1, k2⟩ | ⟨rfl, k1, k2, -⟩
  · rcases h' with ⟨-, m1, m2⟩ | ⟨e, -⟩
    · constructor
      · rintro ⟨e1, e2⟩
        refine ⟨by omega, fun j hj => ?_⟩
        have q := e2 j (by omega)
        rw [yvv (k2 j hj).1, yvv (m2 j (by omega)).1] at q
        exact lo8_inj (hf j hj).1 (k2 j hj).2 (hg j (by omega)).1 (m2 j (by omega)).2 q
      · rintro ⟨rfl, e2⟩
        refine ⟨by omega, fun j hj => ?_⟩
        rw [yvv (k2 j (by omega)).1, yvv (m2 j (by omega)).1, e2 j (by omega)]
    · exact absurd e (by decide)
  · rcases h' with ⟨e, -⟩ | ⟨-, m1, m2, -⟩
    · exact absurd e (by decide)
    · constructor
      · rintro ⟨e1, e2⟩
        refine ⟨by omega, fun j hj => ?_⟩
        have q1 := e2 (2 * j) (by omega)
        have q2 := e2 (2 * j + 1) (by omega)
        rw [yvv (k2 j hj).1, yvv (m2 j (by omega)).1] at q1
        rw [yvv (k2 j hj).2, yvv (m2 j (by omega)).2] at q2
        rw [← pair_says (hf j hj).1 (hf j hj).2, ← pair_says (hg j (by omega)).1 (hg j (by omega)).2, q1, q2]
      · rintro ⟨rfl, e2⟩
        refine ⟨by omega, fun i hi => ?_⟩
        rcases Nat.mod_two_eq_zero_or_one i with e | e
        · obtain ⟨j, rfl⟩ : ∃ j, i = 2 * j := ⟨i / 2, by omega⟩
          rw [yvv (k2 j (by omega)).1, yvv (m2 j (by omega)).1, e2 j (by omega)]
        · obtain ⟨j, rfl⟩ : ∃ j, i = 2 * j + 1 := ⟨i / 2, by omega⟩
          rw [yvv (k2 j (by omega)).2, yvv (m2 j (by omega)).2, e2 j (by omega)]
/-- two codings differ: so do the texts -/
theorem Cod.dif {cd cd' : Int32} {n k : Nat} {f g : Nat → Int32} {V V' : Cell} (h : Cod cd n f V) (h' : Cod cd' k g V') (hne : ¬ cd = cd') : ¬ SameT n f k g := by
  rintro ⟨rfl, e⟩
  rcases h with ⟨rfl, -, k2⟩ | ⟨rfl, -, -, j, hj, hw⟩
  · rcases h' with ⟨rfl, -⟩ | ⟨-, -, -, j, hj, hw⟩
    · exact hne rfl
    · exact (k2 j hj).2 (by rw [e j hj]; exact hw)
  · rcases h' with ⟨-, -, m2⟩ | ⟨rfl, -⟩
    · exact (m2 j hj).2 (by rw [← e j hj]; exact hw)
    · exact hne rfl
/-- an object of exactly C is an instance of C -/
theorem cinst {p : Program} {l : Launch} {e : Env} {R : Room} {s : State} {m : MethodId} {args : Array Value} {below : List Frame} {meth : Method} {c : Code} {T : State} {locs : List Loc} {cells slots : Nat} (X : Stand p l e R s m args below meth c T locs cells slots) (hexec : p.tables.exec = Jvm.exec) {own C : String} {index : Nat} (hown : s.vm.findClass own = some m.cls) (hlink : (Cond.classLink own index C).before args s = true) {a : Addr} (hE : Exact C a T)
    {g : JFrame} (hg : g.method = m) {rest : List Value} (hstack : g.stack = .ref a :: rest) (hdg : decode c.code g.pc = .ok (.instanceof index, 3)) :
    ∃ T', Stand p l e R s m args below meth c T' locs cells slots ∧ T'.heap = T.heap ∧ ∀ target, Steps p.tables e below (T'.setTop { g with pc := g.pc + 3, stack := .int 1 :: rest }) target → Steps p.tables e below (T.setTop g) target := by
  obtain ⟨cB, h1, D, h2, h3, h4⟩ := hE
  have h1' : s.vm.findClass C = some cB := by rw [← X.warmed.alike.findClass]; exact h1
  obtain ⟨vm', X', st⟩ := X.instanceofYes hexec hown hlink h2 h4 h1' (by rw [h3]; exact Jvm.Free.SB.assignable_self _ _) hg hstack hdg
  exact ⟨_, X', rfl, st⟩
theorem cself {p : Program} {l : Launch} {e : Env} {R : Room} {s : State} {m : MethodId} {args : Array Value} {below : List Frame} {meth : Method} {c : Code} {T : State} {locs : List Loc} {cells slots : Nat} (X : Stand p l e R s m args below meth c T locs cells slots) (hexec : p.tables.exec = Jvm.exec) {own C : String} {index : Nat} (hown : s.vm.findClass own = some m.cls) (hlink : (Cond.classLink own index C).before args s = true) {a : Addr} (hE : Exact C a T)
    {g : JFrame} (hg : g.method = m) {rest : List Value} (hstack : g.stack = .ref a :: rest) (hdg : decode c.code g.pc = .ok (.checkcast index, 3)) :
    ∃ T', Stand p l e R s m args below meth c T' locs cells slots ∧ T'.heap = T.heap ∧ ∀ target, Steps p.tables e below (T'.setTop { g with pc := g.pc + 3, stack := .ref a :: rest }) target → Steps p.tables e below (T.setTop g) target := by
  obtain ⟨cB, h1, D, h2, h3, h4⟩ := hE
  have h1' : s.vm.findClass C = some cB := by rw [← X.warmed.alike.findClass]; exact h1
  obtain ⟨vm', X', st⟩ := X.checkcastYes hexec hown hlink h2 h4 h1' (by rw [h3]; exact Jvm.Free.SB.assignable_self _ _) hg hstack hdg
  exact ⟨_, X', rfl, fun t h => st t (by rw [← hstack] at h; exact h)⟩
namespace SEq
def yN : MethodName := ⟨"java/lang/String", "equals", "(Ljava/lang/Object;)Z"⟩
abbrev yB : ByteArray := jdk_42_method_66_code
theorem d0 : decode yB 0 = .ok (.aload_n 0, 1) := by decide +kernel
theorem d1 : decode yB 1 = .ok (.aload_n 1, 1) := by decide +kernel
theorem d2 : decode yB 2 = .ok (.if_acmp (.ne) 5, 3) := by decide +kernel
theorem d5 : decode yB 5 = .ok (.iconst 1, 1) := by decide +kernel
theorem d6 : decode yB 6 = .ok (.ireturn, 1) := by decide +kernel
theorem d7 : decode yB 7 = .ok (.aload_n 1, 1) := by decide +kernel
theorem d8 : decode yB 8 = .ok (.instanceof 10, 3) := by decide +kernel
theorem d11 : decode yB 11 = .ok (.ifCond (.eq) 43, 3) := by decide +kernel
theorem d14 : decode yB 14 = .ok (.aload_n 1, 1) := by decide +kernel
theorem d15 : decode yB 15 = .ok (.checkcast 10, 3) := by decide +kernel
theorem d18 : decode yB 18 = .ok (.astore_n 2, 1) := by decide +kernel
theorem d19 : decode yB 19 = .ok (.getstatic 38, 3) := by decide +kernel
theorem d22 : decode yB 22 = .ok (.ifCond (.eq) 14, 3) := by decide +kernel
theorem d25 : decode yB 25 = .ok (.aload_n 0, 1) := by decide +kernel
theorem d26 : decode yB 26 = .ok (.getfield 15, 3) := by decide +kernel
theorem d29 : decode yB 29 = .ok (.aload_n 2, 1) := by decide +kernel
theorem d30 : decode yB 30 = .ok (.getfield 15, 3) := by decide +kernel
theorem d33 : decode yB 33 = .ok (.if_icmp (.ne) 21, 3) := by decide +kernel
theorem d36 : decode yB 36 = .ok (.aload_n 0, 1) := by decide +kernel
theorem d37 : decode yB 37 = .ok (.getfield 9, 3) := by decide +kernel
theorem d40 : decode yB 40 = .ok (.aload_n 2, 1) := by decide +kernel
theorem d41 : decode yB 41 = .ok (.getfield 9, 3) := by decide +kernel
theorem d44 : decode yB 44 = .ok (.invokestatic 541, 3) := by decide +kernel
theorem d47 : decode yB 47 = .ok (.ifCond (.eq) 7, 3) := by decide +kernel
theorem d50 : decode yB 50 = .ok (.iconst 1, 1) := by decide +kernel
theorem d51 : decode yB 51 = .ok (.goto 4, 3) := by decide +kernel
theorem d54 : decode yB 54 = .ok (.iconst 0, 1) := by decide +kernel
theorem d55 : decode yB 55 = .ok (.ireturn, 1) := by decide +kernel
def site : List Cond := [.classLink "java/lang/String" 10 "java/lang/String", .fieldLink "java/lang/String" 38 "java/lang/String" "COMPACT_STRINGS" "Z", .fieldLink "java/lang/String" 15 "java/lang/String" "coder" "B", .fieldLink "java/lang/String" 9 "java/lang/String" "value" "[B", LEq.tab] ++ staticW "java/lang/String" 541 LEq.yN
def tab : Cond := tabOf yN yB 3 (some .boolean) site
def P (x t : Addr) (V : Cell) (cd : Int32) (n : Nat) (f : Nat → Int32) (y t' : Addr) (V' : Cell) (cd' : Int32) (k : Nat) (g : Nat → Int32) (z : Int32) (args : Array Value) (s : State) : Prop := args = #[.ref x, .ref y] ∧ Txt x t V cd n f s ∧ Txt y t' V' cd' k g s ∧ StaticIs s "java/lang/String" "COMPACT_STRINGS" "Z" (.int z) ∧ ¬ z = 0
/-- equals(Object) of two Strings: whether the texts are the same -/
theorem law (l : Launch) (x t : Addr) (V : Cell) (cd : Int32) (n : Nat) (f : Nat → Int32) (y t' : Addr) (V' : Cell) (cd' : Int32) (k : Nat) (g : Nat → Int32) (z : Int32) : Law l yN 2 1 1 14 yB 3 (some .boolean) site (P x t V cd n f y t' V' cd' k g z) (Says01 (SameT n f k g)) [] 0 0 := by
  refine Law.of_walk (plainFor_of_name (by decide +kernel)) (by decide +kernel) (by decide +kernel) (by decide) (fun _ _ h => by rw [h.1]; rfl) (fun _ U U' hal hh h => ⟨h.1, h.2.1.mv hal hh, h.2.2.1.mv hal hh, h.2.2.2.1.there hal hh, h.2.2.2.2⟩) (fun r U U' V V' h1 hal h2 h => Says01.mv r U U' V V' h1 hal h2 h) ?_
  intro p e s m args below meth c s₁ X0 hexec hbytes hml hret hlk hnm hown hh0 W hP
  obtain ⟨rfl, hx, hy, s1, hz⟩ := hP
  have c1 : Steps p.tables e below (s₁.setTop (entryFrame m #[.ref x, .ref y] 3)) (s₁.setTop (mkF m 2 #[.val (.ref x), .val (.ref y), .unset] [.ref y, .ref x])) := Steps.trans (entry rfl) (by
    show Steps p.tables e below (s₁.setTop (mkF m 0 #[.val (.ref x), .val (.ref y), .unset] [])) _
    refine XS.aloadN X0.here hexec rfl (hb hbytes d0) rfl rfl ?_
    refine XS.aloadN X0.here hexec rfl (hb hbytes d1) rfl rfl ?_
    exact Steps.refl _)
  by_cases hxy : x = y
  · have c2 : Steps p.tables e below (s₁.setTop (entryFrame m #[.ref x, .ref y] 3)) (s₁.setTop (mkF m 6 #[.val (.ref x), .val (.ref y), .unset] [.int 1])) := c1.trans (by
      refine acmpNo X0.here hexec rfl (hb hbytes d2) rfl rfl rfl (by simp [acmp, hxy]) ?_
      refine iconstV X0.here hexec rfl 1 (hb hbytes d5) (by decide) ?_
      exact Steps.refl _)
    subst hxy
    have ec : cd = cd' := by
      obtain ⟨D, fd, a1, a2, a3⟩ := hx.2.2.1
      obtain ⟨D', fd', b1, b2, b3⟩ := hy.2.2.1
      cases a1.symm.trans b1
      obtain ⟨q1, q2, q3, q4⟩ := a2.1
      obtain ⟨r1, r2, r3, r4⟩ := b2.1
      cases q4.symm.trans r4
      cases a3.symm.trans b3; rfl
    have et : t = t' := by
      obtain ⟨D, fd, a1, a2, a3⟩ := hx.2.1
      obtain ⟨D', fd', b1, b2, b3⟩ := hy.2.1
      cases a1.symm.trans b1
      obtain ⟨q1, q2, q3, q4⟩ := a2.1
      obtain ⟨r1, r2, r3, r4⟩ := b2.1
      cases q4.symm.trans r4
      cases a3.symm.trans b3; rfl
    subst ec et
    have ev : V = V' := by cases hx.2.2.2.1.1.symm.trans hy.2.2.2.1.1; rfl
    subst ev
    have hs : SameT n f k g := (Cod.eqv hx.2.2.2.2.1 hy.2.2.2.2.1 hx.2.2.2.2.2 hy.2.2.2.2.2).mp ⟨rfl, fun _ _ => rfl⟩
    exact ⟨s₁, some (.int 1), _, _, _, X0, rfl, rfl, rfl, (fun h => by cases h), ⟨1, rfl, hh0, Or.inl ⟨rfl, hs⟩⟩, fun fs hl => c2.trans (X0.ireturnOut hexec hret rfl (Or.inr (Or.inl rfl)) (hb hbytes d6) hl)⟩
  · have c2 : Steps p.tables e below (s₁.setTop (entryFrame m #[.ref x, .ref y] 3)) (s₁.setTop (mkF m 8 #[.val (.ref x), .val (.ref y), .unset] [.ref y])) := c1.trans (by
      refine acmpYes X0.here hexec rfl (pc0 := 2) rfl (hb hbytes d2) rfl rfl rfl (by simp [acmp, hxy]) (by decide) rfl ?_
      refine XS.aloadN X0.here hexec rfl (hb hbytes d7) rfl rfl ?_
      exact Steps.refl _)
    obtain ⟨T3, X3, q3, st3⟩ := cinst X0 hexec hown (wk W (.classLink "java/lang/String" 10 "java/lang/String")) (hy.mv X0.warmed.alike hh0).1 (g := (mkF m 8 #[.val (.ref x), .val (.ref y), .unset] [.ref y])) rfl (rest := []) rfl (hb hbytes d8)
    have hh3 := q3.trans hh0
    have c4 : Steps p.tables e below (s₁.setTop (entryFrame m #[.ref x, .ref y] 3)) (T3.setTop (mkF m 15 #[.val (.ref x), .val (.ref y), .unset] [.ref y])) := (c2.trans (st3 _ (Steps.refl _))).trans (by
      refine XS.ifNo X3.here hexec rfl (hb hbytes d11) rfl (i0_eq_f (by decide)) ?_
      refine XS.aloadN X3.here hexec rfl (hb hbytes d14) rfl rfl ?_
      exact Steps.refl _)
    obtain ⟨T5, X5, q5, st5⟩ := cself X3 hexec hown (wk W (.classLink "java/lang/String" 10 "java/lang/String")) (hy.mv X3.warmed.alike hh3).1 (g := (mkF m 15 #[.val (.ref x), .val (.ref y), .unset] [.ref y])) rfl (rest := []) rfl (hb hbytes d15)
    have hh5 := q5.trans hh3
    have c6 : Steps p.tables e below (s₁.setTop (entryFrame m #[.ref x, .ref y] 3)) (T5.setTop (mkF m 19 #[.val (.ref x), .val (.ref y), .val (.ref y)] [])) := (c4.trans (st5 _ (Steps.refl _))).trans (by
      refine XS.astoreN X5.here hexec rfl (hb hbytes d18) rfl rfl rfl ?_
      exact Steps.refl _)
    obtain ⟨T7, X7, q7, st7⟩ := X5.sget hexec hown (wk W (.fieldLink "java/lang/String" 38 "java/lang/String" "COMPACT_STRINGS" "Z")) s1 (fun _ _ h => by rw [hh5]; exact h) (g := (mkF m 19 #[.val (.ref x), .val (.ref y), .val (.ref y)] [])) rfl (hb hbytes d19)
    have hh7 := q7.trans hh5
    have c8 : Steps p.tables e below (s₁.setTop (entryFrame m #[.ref x, .ref y] 3)) (T7.setTop (mkF m 26 #[.val (.ref x), .val (.ref y), .val (.ref y)] [.ref x])) := (c6.trans (st7 _ (Steps.refl _))).trans (by
      refine XS.ifNo X7.here hexec rfl (hb hbytes d22) rfl (i0_eq_f hz) ?_
      refine XS.aloadN X7.here hexec rfl (hb hbytes d25) rfl rfl ?_
      exact Steps.refl _)
    obtain ⟨T9, X9, q9, st9⟩ := X7.hget hexec hown (wk W (.fieldLink "java/lang/String" 15 "java/lang/String" "coder" "B")) (hx.mv X7.warmed.alike hh7).2.2.1 (g := (mkF m 26 #[.val (.ref x), .val (.ref y), .val (.ref y)] [.ref x])) rfl (rest := []) rfl (hb hbytes d26)
    have hh9 := q9.trans hh7
    have c10 : Steps p.tables e below (s₁.setTop (entryFrame m #[.ref x, .ref y] 3)) (T9.setTop (mkF m 30 #[.val (.ref x), .val (.ref y), .val (.ref y)] [.ref y, .int cd])) := (c8.trans (st9 _ (Steps.refl _))).trans (by
      refine XS.aloadN X9.here hexec rfl (hb hbytes d29) rfl rfl ?_
      exact Steps.refl _)
    obtain ⟨T11, X11, q11, st11⟩ := X9.hget hexec hown (wk W (.fieldLink "java/lang/String" 15 "java/lang/String" "coder" "B")) (hy.mv X9.warmed.alike hh9).2.2.1 (g := (mkF m 30 #[.val (.ref x), .val (.ref y), .val (.ref y)] [.ref y, .int cd])) rfl (rest := [.int cd]) rfl (hb hbytes d30)
    have hh11 := q11.trans hh9
    have c12 : Steps p.tables e below (s₁.setTop (entryFrame m #[.ref x, .ref y] 3)) (T11.setTop (mkF m 33 #[.val (.ref x), .val (.ref y), .val (.ref y)] [.int cd', .int cd])) := c10.trans (st11 _ (Steps.refl _))
    by_cases hcd : cd = cd'
    · subst hcd
      have c13 : Steps p.tables e below (s₁.setTop (entryFrame m #[.ref x, .ref y] 3)) (T11.setTop (mkF m 37 #[.val (.ref x), .val (.ref y), .val (.ref y)] [.ref x])) := c12.trans (by
        refine XS.icmpNo X11.here hexec rfl (hb hbytes d33) rfl (ii_ne_f rfl) ?_
        refine XS.aloadN X11.here hexec rfl (hb hbytes d36) rfl rfl ?_
        exact Steps.refl _)
      obtain ⟨T14, X14, q14, st14⟩ := X11.hget hexec hown (wk W (.fieldLink "java/lang/String" 9 "java/lang/String" "value" "[B")) (hx.mv X11.warmed.alike hh11).2.1 (g := (mkF m 37 #[.val (.ref x), .val (.ref y), .val (.ref y)] [.ref x])) rfl (rest := []) rfl (hb hbytes d37)
      have hh14 := q14.trans hh11
      have c15 : Steps p.tables e below (s₁.setTop (entryFrame m #[.ref x, .ref y] 3)) (T14.setTop (mkF m 41 #[.val (.ref x), .val (.ref y), .val (.ref y)] [.ref y, .ref t])) := (c13.trans (st14 _ (Steps.refl _))).trans (by
        refine XS.aloadN X14.here hexec rfl (hb hbytes d40) rfl rfl ?_
        exact Steps.refl _)
      obtain ⟨T16, X16, q16, st16⟩ := X14.hget hexec hown (wk W (.fieldLink "java/lang/String" 9 "java/lang/String" "value" "[B")) (hy.mv X14.warmed.alike hh14).2.1 (g := (mkF m 41 #[.val (.ref x), .val (.ref y), .val (.ref y)] [.ref y, .ref t])) rfl (rest := [.ref t]) rfl (hb hbytes d41)
      have hh16 := q16.trans hh14
      have c17 : Steps p.tables e below (s₁.setTop (entryFrame m #[.ref x, .ref y] 3)) (T16.setTop (mkF m 44 #[.val (.ref x), .val (.ref y), .val (.ref y)] [.ref t', .ref t])) := c15.trans (st16 _ (Steps.refl _))
      obtain ⟨v18, T18, X18, E18, g18⟩ := X16.callS hexec (LEq.law l t V t' V') hown (wks W (staticW "java/lang/String" 541 LEq.yN)) (wk W LEq.tab) (W := 0) (Nat.le_of_ble_eq_true rfl) (Nat.le_of_ble_eq_true rfl) (Nat.le_refl _) (Nat.le_refl _) (g := (mkF m 44 #[.val (.ref x), .val (.ref y), .val (.ref y)] [.ref t', .ref t])) rfl (by rw [hml]; rfl) c17 (argsL := [.ref t, .ref t']) (rest := []) rfl rfl (by show 2 * 0 + 0 ≤ _; decide) (hb hbytes d44) (⟨rfl, hx.2.2.2.1.mv X16.warmed.alike hh16, hx.2.2.2.2.1.ty, hy.2.2.2.1.mv X16.warmed.alike hh16, hy.2.2.2.2.1.ty⟩)
      obtain ⟨v, rfl, q18, hv⟩ := E18
      have iff := Cod.eqv hx.2.2.2.2.1 hy.2.2.2.2.1 hx.2.2.2.2.2 hy.2.2.2.2.2
      rcases hv with ⟨rfl, he⟩ | ⟨rfl, he⟩
      · have c19 : Steps p.tables e below (s₁.setTop (entryFrame m #[.ref x, .ref y] 3)) (T18.setTop (mkF m 55 #[.val (.ref x), .val (.ref y), .val (.ref y)] [.int 1])) := Steps.trans g18 (by
          refine XS.ifNo X18.here hexec rfl (hb hbytes d47) rfl (i0_eq_f (by decide)) ?_
          refine iconstV X18.here hexec rfl 1 (hb hbytes d50) (by decide) ?_
          refine XS.goto X18.here hexec rfl (pc0 := 51) rfl (hb hbytes d51) (by decide) rfl ?_
          exact Steps.refl _)
        exact ⟨T18, some (.int 1), _, _, _, X18, rfl, rfl, rfl, (fun h => by cases h), ⟨1, rfl, q18.trans hh16, Or.inl ⟨rfl, iff.mp he⟩⟩, fun fs hl => c19.trans (X18.ireturnOut hexec hret rfl (Or.inr (Or.inl rfl)) (hb hbytes d55) hl)⟩
      · have c19 : Steps p.tables e below (s₁.setTop (entryFrame m #[.ref x, .ref y] 3)) (T18.setTop (mkF m 55 #[.val (.ref x), .val (.ref y), .val (.ref y)] [.int 0])) := Steps.trans g18 (by
          refine XS.ifYes X18.here hexec rfl (pc0 := 47) rfl (hb hbytes d47) rfl (i0_eq_t rfl) (by decide) rfl ?_
          refine iconstV X18.here hexec rfl 0 (hb hbytes d54) (by decide) ?_
          exact Steps.refl _)
        exact ⟨T18, some (.int 0), _, _, _, X18, rfl, rfl, rfl, (fun h => by cases h), ⟨0, rfl, q18.trans hh16, Or.inr ⟨rfl, fun q => he (iff.mpr q)⟩⟩, fun fs hl => c19.trans (X18.ireturnOut hexec hret rfl (Or.inr (Or.inl rfl)) (hb hbytes d55) hl)⟩
    · have c13 : Steps p.tables e below (s₁.setTop (entryFrame m #[.ref x, .ref y] 3)) (T11.setTop (mkF m 55 #[.val (.ref x), .val (.ref y), .val (.ref y)] [.int 0])) := c12.trans (by
        refine XS.icmpYes X11.here hexec rfl (pc0 := 33) rfl (hb hbytes d33) rfl (ii_ne_t hcd) (by decide) rfl ?_
        refine iconstV X11.here hexec rfl 0 (hb hbytes d54) (by decide) ?_
        exact Steps.refl _)
      exact ⟨T11, some (.int 0), _, _, _, X11, rfl, rfl, rfl, (fun h => by cases h), ⟨0, rfl, hh11, Or.inr ⟨rfl, Cod.dif hx.2.2.2.2.1 hy.2.2.2.2.1 hcd⟩⟩, fun fs hl => c13.trans (X11.ireturnOut hexec hret rfl (Or.inr (Or.inl rfl)) (hb hbytes d55) hl)⟩
theorem pays {l : Launch} {R : Room} {p : Program} {e : Env} {below : List Frame} {s : State} {sargs : Array Value} {len W : Nat} (x t : Addr) (V : Cell) (cd : Int32) (n : Nat) (f : Nat → Int32) (y t' : Addr) (V' : Cell) (cd' : Int32) (k : Nat) (g : Nat → Int32) (z : Int32) (htab : tab.before sargs s = true) (hfr : 2 ≤ R.frames) (hlo : W + 28 ≤ R.locals) :
    Back l R p e below s sargs yN len W (fun A₁ a₁ => A₁.cells + 0 ≤ R.cells ∧ A₁.slots + 0 ≤ R.slots ∧ P x t V cd n f y t' V' cd' k g z a₁ A₁.U) (fun A₁ _ v₁ B₁ => Says01 (SameT n f k g) v₁ A₁.U B₁.U ∧ B₁.locs = A₁.locs ++ [] ∧ B₁.cells = A₁.cells + 0 ∧ B₁.slots = A₁.slots + 0) :=
  (law l x t V cd n f y t' V' cd' k g z).pays htab hfr (by omega)
end SEq
end StrChars
namespace StrChars.Road
open Jvm Sem ClassFile Op Lib Jvm.Stand Jvm.Free Jvm.Free.XT
open Jvm.Lib.Cold (StaticIs)
/-- the words of String.equals(Object) -/
abbrev wordsEq : List Jvm.Cond := [.code SEq.yN SEq.yB 3 (some .boolean), .initialized ST, .classLink ST 10 ST, .fieldLink ST 38 ST "COMPACT_STRINGS" "Z", .fieldLink ST 15 ST "coder" "B", .fieldLink ST 9 ST "value" "[B", .methodLink ST 541 LEq.yN, .static LEq.yN, .code LEq.yN LEq.yB 3 (some .boolean), .initialized "java/lang/StringLatin1"]
theorem tabEq_of {a : Array Value} {s : State} (h : ∀ w ∈ wordsEq, w.before a s = true) : SEq.tab.before a s = true := by
  have hl : LEq.tab.before a s = true := unparts (wk h (.code LEq.yN LEq.yB 3 (some .boolean))) (wks h (.initialized LEq.yN.cls :: LEq.site))
  have q := consq hl h
  exact unparts (wk q (.code SEq.yN SEq.yB 3 (some .boolean))) (wks q (.initialized SEq.yN.cls :: SEq.site))
theorem movedEq {Z s : State} {a0 args : Array Value} (hZ : Z.Warmed39 s.vm) (hw : ∀ d ∈ wordsEq, d.before a0 Z = true) : ∀ d ∈ wordsEq, d.before args s = true := fun d hd => by
  have t : ∀ d ∈ wordsEq, (d.onTables && d.keepsFace) = true := by decide +kernel
  exact RoadKit.mv hZ (hw d hd) (t d hd)
/-- the road's facts of a String, as the laws ask it -/
theorem txt_of {Z U : State} {a0 : Array Value} {kI : Nat} (wi : (Jvm.Cond.instantiable ST kI).before a0 Z = true) (al : Z.vm.Alike U.vm) {x t : Addr} {kb : ClassId} {cs : List Int32} {cd N2 : Int32} {vs : List Value} (E : RoadKit.Exa Z U.heap x ST) (V : RoadKit.Fld Z U.heap x ST "value" "[B" (.ref t)) (C : RoadKit.Fld Z U.heap x ST "coder" "B" (.int cd)) (K : RoadKit.Arv Z U.heap t kb .byte N2 vs (.int 0)) (hc : CodA cs cd N2 vs) (hb : ∀ c ∈ cs, ¬ c < 0 ∧ ¬ (65535 : Int32) < c) (l2 : cs.length ≤ 4000) :
    ∃ A, Txt x t A cd cs.length (fun j => cs.getD j 0) U := by
  obtain ⟨A, K1, K2, K3, K4, K5, K6⟩ := K
  have hcod := hc.cod (by omega) K3 K5
  obtain ⟨D, fV, fC, hB, F1, F2, g1, g2, -, -⟩ := strObj wi al E V C
  exact ⟨A, ⟨_, hB.2.2.1, D, hB.1, rfl, by cases q : D.vm <;> first | rfl | exact absurd q (hB.2.1.2 _)⟩, Has.of hB F1 g1, Has.of hB F2 g2, ⟨K1.1, State.isArrayOf_alike al K1.2.1, K1.2.2, by rcases hcod with ⟨-, q, -⟩ | ⟨-, q, -⟩ <;> omega⟩, hcod, fun j hj => by
    have e : cs.getD j 0 = cs[j] := by simp [List.getD_eq_getElem?_getD, hj]
    show ¬ cs.getD j 0 < 0 ∧ ¬ 65535 < cs.getD j 0
    rw [e]; exact hb _ (List.getElem_mem _)⟩
theorem same_list (cs ds : List Int32) : SameT cs.length (fun j => cs.getD j 0) ds.length (fun j => ds.getD j 0) ↔ cs = ds := by
  constructor
  · rintro ⟨e, q⟩
    refine List.ext_getElem e fun j h1 h2 => ?_
    have := q j h1
    simpa [List.getD_eq_getElem?_getD, h1, h2] using this
  · rintro rfl
    exact ⟨rfl, fun _ _ => rfl⟩
/-- **equals(Object) OF TWO SUCH STRINGS**: 1 just where the chars are the same -/
theorem eqW {p : Program} {l : Launch} {e : Env} {R : Room} {s : State} {args : Array Value} {below : List Frame} {len W : Nat} {Z : State} {a0 : Array Value} {h : Heap} (hZ : Z.Warmed39 s.vm) (hw : ∀ d ∈ wordsEq, d.before a0 Z = true) {kI : Nat} (wi : (Jvm.Cond.instantiable ST kI).before a0 Z = true)
    {x t : Addr} {kb : ClassId} {cs : List Int32} {cd N2 : Int32} {vs : List Value} (E : RoadKit.Exa Z h x ST) (V : RoadKit.Fld Z h x ST "value" "[B" (.ref t)) (C : RoadKit.Fld Z h x ST "coder" "B" (.int cd)) (K : RoadKit.Arv Z h t kb .byte N2 vs (.int 0)) (hc : CodA cs cd N2 vs) (hb : ∀ c ∈ cs, ¬ c < 0 ∧ ¬ (65535 : Int32) < c) (l2 : cs.length ≤ 4000)
    {y t' : Addr} {kb' : ClassId} {ds : List Int32} {cd' N2' : Int32} {vs' : List Value} (E' : RoadKit.Exa Z h y ST) (V' : RoadKit.Fld Z h y ST "value" "[B" (.ref t')) (C' : RoadKit.Fld Z h y ST "coder" "B" (.int cd')) (K' : RoadKit.Arv Z h t' kb' .byte N2' vs' (.int 0)) (hc' : CodA ds cd' N2' vs') (hb' : ∀ c ∈ ds, ¬ c < 0 ∧ ¬ (65535 : Int32) < c) (l2' : ds.length ≤ 4000)
    {z : Int32} (S : RoadKit.Sta Z h ST "COMPACT_STRINGS" "Z" (.int z)) (hz : ¬ z = 0) (hfr : 2 ≤ R.frames) (hlo : W + 28 ≤ R.locals) :
    Back l R p e below s args (⟨"java/lang/String", "equals", "(Ljava/lang/Object;)Z"⟩ : MethodName) len W (fun P a => a = #[.ref x, .ref y] ∧ P.U.heap = h ∧ P.cells + 0 ≤ R.cells ∧ P.slots + 0 ≤ R.slots)
      (fun P _ v B => ∃ L, (((v = some (.int 1) ∧ cs = ds) ∨ (v = some (.int 0) ∧ ¬ cs = ds)) ∧ L = [] ∧ B.U.heap = h) ∧ B.locs = P.locs ++ L ∧ B.cells = P.cells + 0 ∧ B.slots = P.slots + 0) := by
  intro m meth c P g ig mk a X hg hsize hdg hW hn hp'
  obtain ⟨rfl, rfl, r1, r2⟩ := hp'
  have al : Z.vm.Alike P.U.vm := hZ.alike.trans X.warmed.alike
  obtain ⟨A, hx⟩ := txt_of wi al E V C K hc hb l2
  obtain ⟨A', hy⟩ := txt_of wi al E' V' C' K' hc' hb' l2'
  obtain ⟨v, B, X', ⟨⟨w, hv, hh, hq⟩, hl, hk, hs⟩, st⟩ := SEq.pays x t A cd cs.length (fun j => cs.getD j 0) y t' A' cd' ds.length (fun j => ds.getD j 0) z (tabEq_of (movedEq hZ hw)) hfr hlo m meth c P g ig mk _ X hg hsize hdg hW hn ⟨r1, r2, rfl, hx, hy, sta_is al S, hz⟩
  refine ⟨v, B, X', ⟨[], ⟨?_, rfl, hh⟩, hl, hk, hs⟩, st⟩
  rcases hq with ⟨rfl, q⟩ | ⟨rfl, q⟩
  · exact Or.inl ⟨hv, (same_list cs ds).mp q⟩
  · exact Or.inr ⟨hv, fun e => q ((same_list cs ds).mpr e)⟩
end StrChars.Road
namespace StrChars
open Jvm Sem ClassFile Op Lib Jvm.Stand Jvm.Free.XT Jvm.Free.ALB Jvm.Free.JM Jvm.Free
open Jvm.Lib.Cold (StaticIs)
namespace ChN
def yN : MethodName := ⟨"java/lang/String", "charAt", "(I)C"⟩
abbrev yB : ByteArray := jdk_42_method_56_code
theorem d0 : decode yB 0 = .ok (.aload_n 0, 1) := by decide +kernel
theorem d1 : decode yB 1 = .ok (.invokevirtual 492, 3) := by decide +kernel
theorem d4 : decode yB 4 = .ok (.ifCond (.eq) 12, 3) := by decide +kernel
theorem d7 : decode yB 7 = .ok (.aload_n 0, 1) := by decide +kernel
theorem d8 : decode yB 8 = .ok (.getfield 9, 3) := by decide +kernel
theorem d11 : decode yB 11 = .ok (.iload_n 1, 1) := by decide +kernel
theorem d12 : decode yB 12 = .ok (.invokestatic 495, 3) := by decide +kernel
theorem d15 : decode yB 15 = .ok (.ireturn, 1) := by decide +kernel
def site : List Cond := [.fieldLink "java/lang/String" 9 "java/lang/String" "value" "[B", IsL.tab, LChA.tab] ++ virtW "java/lang/String" 492 "java/lang/String" IsL.yN IsL.yN ++ staticW "java/lang/String" 495 LChA.yN
def tab : Cond := tabOf yN yB 2 (some .char) site
def P (x t : Addr) (V : Cell) (n : Nat) (f : Nat → Int32) (z : Int32) (fm : Value) (i : Nat) (args : Array Value) (s : State) : Prop := args = #[.ref x, .int (Int32.ofNat i)] ∧ Txt x t V 0 n f s ∧ i < n ∧ StaticIs s "java/lang/String" "COMPACT_STRINGS" "Z" (.int z) ∧ ¬ z = 0 ∧ StaticIs s "jdk/internal/util/Preconditions" "SIOOBE_FORMATTER" "Ljava/util/function/BiFunction;" fm ∧ fm.isRef = true
def E (f : Nat → Int32) (i : Nat) (r : Option Value) (s u : State) : Prop := XT.PureE (some (.int (f i))) r s u
/-- charAt(i) of a Latin-1 String of n chars, i < n: f i -/
theorem law (l : Launch) (x t : Addr) (V : Cell) (n : Nat) (f : Nat → Int32) (z : Int32) (fm : Value) (i : Nat) : Law l yN 2 1 3 40 yB 2 (some .char) site (P x t V n f z fm i) (E f i) [] 0 0 := by
  refine Law.of_walk (plainFor_of_name (by decide +kernel)) (by decide +kernel) (by decide +kernel) (by decide) (fun _ _ h => by rw [h.1]; rfl) (fun _ U U' hal hh h => ⟨h.1, h.2.1.mv hal hh, h.2.2.1, h.2.2.2.1.there hal hh, h.2.2.2.2.1, h.2.2.2.2.2.1.there hal hh, h.2.2.2.2.2.2⟩) (fun r U U' V V' h1 hal h2 h => XT.PureE.mv r U U' V V' h1 hal h2 h) ?_
  intro p e s m args below meth c s₁ X0 hexec hbytes hml hret hlk hnm hown hh0 W hP
  obtain ⟨rfl, hx, hi, s1, hz, s3, rf⟩ := hP
  have v31 := hx.2.2.2.1.2.2.2
  have hr := hx.2.2.2.2.2 i hi
  have hx0 := hx.mv X0.warmed.alike hh0
  have c1 : Steps p.tables e below (s₁.setTop (entryFrame m #[.ref x, .int (Int32.ofNat i)] 2)) (s₁.setTop (mkF m 1 #[.val (.ref x), .val (.int (Int32.ofNat i))] [.ref x])) := Steps.trans (entry rfl) (by
    show Steps p.tables e below (s₁.setTop (mkF m 0 #[.val (.ref x), .val (.int (Int32.ofNat i))] [])) _
    refine XS.aloadN X0.here hexec rfl (hb hbytes d0) rfl rfl ?_
    exact Steps.refl _)
  obtain ⟨v2, T2, X2, E2, g2⟩ := X0.callV hexec (IsL.law l x 0 z) hown (wks W (virtW "java/lang/String" 492 "java/lang/String" IsL.yN IsL.yN)) rfl (by decide) (wk W IsL.tab) (W := 0) (Nat.le_of_ble_eq_true rfl) (Nat.le_of_ble_eq_true rfl) (Nat.le_refl _) (Nat.le_refl _) (hx0.1.fc X0.warmed.alike) hx0.1.is (g := (mkF m 1 #[.val (.ref x), .val (.int (Int32.ofNat i))] [.ref x])) rfl (by rw [hml]; rfl) c1 (argsL := []) (rest := []) rfl rfl (by show 2 * 0 + 0 ≤ _; decide) (hb hbytes d1) (⟨rfl, hx0.2.2.1, hx.2.2.2.2.1.cd, s1.there X0.warmed.alike hh0, hz⟩)
  obtain ⟨rfl, q2⟩ := E2
  have hh2 := q2.trans hh0
  have hx2 := hx.mv X2.warmed.alike hh2
  obtain ⟨-, k1, k2⟩ | ⟨k0, -⟩ := hx.2.2.2.2.1
  · have c3 : Steps p.tables e below (s₁.setTop (entryFrame m #[.ref x, .int (Int32.ofNat i)] 2)) (T2.setTop (mkF m 8 #[.val (.ref x), .val (.int (Int32.ofNat i))] [.ref x])) := Steps.trans g2 (by
      refine XS.ifNo X2.here hexec rfl (hb hbytes d4) rfl (i0_eq_f (by decide)) ?_
      refine XS.aloadN X2.here hexec rfl (hb hbytes d7) rfl rfl ?_
      exact Steps.refl _)
    obtain ⟨T4, X4, q4, st4⟩ := X2.hget hexec hown (wk W (.fieldLink "java/lang/String" 9 "java/lang/String" "value" "[B")) hx2.2.1 (g := (mkF m 8 #[.val (.ref x), .val (.int (Int32.ofNat i))] [.ref x])) rfl (rest := []) rfl (hb hbytes d8)
    have hh4 := q4.trans hh2
    have c5 : Steps p.tables e below (s₁.setTop (entryFrame m #[.ref x, .int (Int32.ofNat i)] 2)) (T4.setTop (mkF m 12 #[.val (.ref x), .val (.int (Int32.ofNat i))] [.int (Int32.ofNat i), .ref t])) := (c3.trans (st4 _ (Steps.refl _))).trans (by
      refine XS.iloadN X4.here hexec rfl (hb hbytes d11) rfl ?_
      exact Steps.refl _)
    obtain ⟨v6, T6, X6, E6, g6⟩ := X4.callS hexec (LChA.law l t V i (lo8 (f i)) fm) hown (wks W (staticW "java/lang/String" 495 LChA.yN)) (wk W LChA.tab) (W := 0) (Nat.le_of_ble_eq_true rfl) (Nat.le_of_ble_eq_true rfl) (Nat.le_refl _) (Nat.le_refl _) (g := (mkF m 12 #[.val (.ref x), .val (.int (Int32.ofNat i))] [.int (Int32.ofNat i), .ref t])) rfl (by rw [hml]; rfl) c5 (argsL := [.ref t, .int (Int32.ofNat i)]) (rest := []) rfl rfl (by show 2 * 0 + 0 ≤ _; decide) (hb hbytes d12) (⟨rfl, hx.2.2.2.1.mv X4.warmed.alike hh4, (k2 i hi).1, s3.there X4.warmed.alike hh4, rf⟩)
    obtain ⟨rfl, q6⟩ := E6
    rw [chr8_lo8 hr.1 (k2 i hi).2] at g6
    exact ⟨T6, some (.int (f i)), _, _, _, X6, rfl, rfl, rfl, (fun h => by cases h), ⟨rfl, q6.trans hh4⟩, fun fs hl => Steps.trans g6 (X6.ireturnOut hexec hret (narrow_ch hr.1 hr.2) (Or.inr (Or.inr (Or.inr (Or.inl rfl)))) (hb hbytes d15) hl)⟩
  · exact absurd k0 (by decide)
theorem pays {l : Launch} {R : Room} {p : Program} {e : Env} {below : List Frame} {s : State} {sargs : Array Value} {len W : Nat} (x t : Addr) (V : Cell) (n : Nat) (f : Nat → Int32) (z : Int32) (fm : Value) (i : Nat) (htab : tab.before sargs s = true) (hfr : 4 ≤ R.frames) (hlo : W + 53 ≤ R.locals) :
    Back l R p e below s sargs yN len W (fun A₁ a₁ => A₁.cells + 0 ≤ R.cells ∧ A₁.slots + 0 ≤ R.slots ∧ P x t V n f z fm i a₁ A₁.U) (fun A₁ _ v₁ B₁ => E f i v₁ A₁.U B₁.U ∧ B₁.locs = A₁.locs ++ [] ∧ B₁.cells = A₁.cells + 0 ∧ B₁.slots = A₁.slots + 0) :=
  (law l x t V n f z fm i).pays htab hfr (by omega)
end ChN
end StrChars
namespace StrChars.Road
open Jvm Sem ClassFile Op Lib Jvm.Stand Jvm.Free Jvm.Free.XT
open Jvm.Lib.Cold (StaticIs)
/-- the words of String.charAt(int), the Latin-1 road alone -/
abbrev wordsChN : List Jvm.Cond := [.code ChN.yN ChN.yB 2 (some .char), .initialized ST, .fieldLink ST 9 ST "value" "[B", .fieldLink ST 38 ST "COMPACT_STRINGS" "Z", .fieldLink ST 15 ST "coder" "B", .code IsL.yN IsL.yB 1 (some .boolean), .methodLink ST 492 IsL.yN, .declares IsL.yN, .selects ST IsL.yN IsL.yN, .instanceMethod IsL.yN,
  .methodLink ST 495 LChA.yN, .static LChA.yN, .code LChA.yN LChA.yB 2 (some .char), .initialized "java/lang/StringLatin1", .methodLink "java/lang/StringLatin1" 9 JO.Str_checkIndex.yN, .static JO.Str_checkIndex.yN, .code JO.Str_checkIndex.yN JO.Str_checkIndex.yB 2 none,
  .fieldLink ST 1053 "jdk/internal/util/Preconditions" "SIOOBE_FORMATTER" "Ljava/util/function/BiFunction;", .methodLink ST 1059 JC.PreCheck.yN, .static JC.PreCheck.yN, .code JC.PreCheck.yN JC.PreCheck.yB 3 (some .int), .initialized "jdk/internal/util/Preconditions"]
theorem tabChN_of {a : Array Value} {s : State} (h : ∀ w ∈ wordsChN, w.before a s = true) : ChN.tab.before a s = true := by
  have hp : JC.PreCheck.tab.before a s = true := unparts (wk h (.code JC.PreCheck.yN JC.PreCheck.yB 3 (some .int))) (wks h (.initialized JC.PreCheck.yN.cls :: JC.PreCheck.site))
  have qk := consq hp h
  have hk : JO.Str_checkIndex.tab.before a s = true := unparts (wk qk (.code JO.Str_checkIndex.yN JO.Str_checkIndex.yB 2 none)) (wks qk (.initialized JO.Str_checkIndex.yN.cls :: JO.Str_checkIndex.site))
  have ql := consq hk h
  have hl : LChA.tab.before a s = true := unparts (wk ql (.code LChA.yN LChA.yB 2 (some .char))) (wks ql (.initialized LChA.yN.cls :: LChA.site))
  have hi : IsL.tab.before a s = true := unparts (wk h (.code IsL.yN IsL.yB 1 (some .boolean))) (wks h (.initialized IsL.yN.cls :: IsL.site))
  have q := consq hi (consq hl h)
  exact unparts (wk q (.code ChN.yN ChN.yB 2 (some .char))) (wks q (.initialized ChN.yN.cls :: ChN.site))
theorem movedChN {Z s : State} {a0 args : Array Value} (hZ : Z.Warmed39 s.vm) (hw : ∀ d ∈ wordsChN, d.before a0 Z = true) : ∀ d ∈ wordsChN, d.before args s = true := fun d hd => by
  have t : ∀ d ∈ wordsChN, (d.onTables && d.keepsFace) = true := by decide +kernel
  exact RoadKit.mv hZ (hw d hd) (t d hd)
/-- **charAt(i) OF A LATIN-1 STRING**, i < n: the char -/
theorem chN {p : Program} {l : Launch} {e : Env} {R : Room} {s : State} {args : Array Value} {below : List Frame} {len W : Nat} {Z : State} {a0 : Array Value} {h : Heap} (hZ : Z.Warmed39 s.vm) (hw : ∀ d ∈ wordsChN, d.before a0 Z = true) {kI : Nat} (wi : (Jvm.Cond.instantiable ST kI).before a0 Z = true)
    {x t : Addr} {kb : ClassId} {cs : List Int32} {N2 z : Int32} {vs : List Value} {fm : Value} {i : Nat} {j : Int32} (E : RoadKit.Exa Z h x ST) (V : RoadKit.Fld Z h x ST "value" "[B" (.ref t)) (C : RoadKit.Fld Z h x ST "coder" "B" (.int 0)) (K : RoadKit.Arv Z h t kb .byte N2 vs (.int 0)) (hc : CodA cs 0 N2 vs) (hb : ∀ c ∈ cs, ¬ c < 0 ∧ ¬ (65535 : Int32) < c)
    (S : RoadKit.Sta Z h ST "COMPACT_STRINGS" "Z" (.int z)) (hz : ¬ z = 0) (F : RoadKit.Sta Z h "jdk/internal/util/Preconditions" "SIOOBE_FORMATTER" "Ljava/util/function/BiFunction;" fm) (rf : fm.isRef = true) (l2 : cs.length ≤ 4000) (hi : i < cs.length) (hj : j = Int32.ofNat i) (hfr : 4 ≤ R.frames) (hlo : W + 53 ≤ R.locals) :
    Back l R p e below s args (⟨"java/lang/String", "charAt", "(I)C"⟩ : MethodName) len W (fun P a => a = #[.ref x, .int j] ∧ P.U.heap = h ∧ P.cells + 0 ≤ R.cells ∧ P.slots + 0 ≤ R.slots)
      (fun P _ v B => ∃ L, (v = some (.int (cs.getD i 0)) ∧ L = [] ∧ B.U.heap = h) ∧ B.locs = P.locs ++ L ∧ B.cells = P.cells + 0 ∧ B.slots = P.slots + 0) := by
  subst hj
  intro m meth c P g ig mk a X hg hsize hdg hW hn hp'
  obtain ⟨rfl, rfl, r1, r2⟩ := hp'
  have al : Z.vm.Alike P.U.vm := hZ.alike.trans X.warmed.alike
  obtain ⟨A, hx⟩ := txt_of wi al E V C K hc hb l2
  obtain ⟨v, B, X', ⟨⟨hv, hh⟩, hl, hk, hs⟩, st⟩ := ChN.pays x t A cs.length (fun j => cs.getD j 0) z fm i (tabChN_of (movedChN hZ hw)) hfr hlo m meth c P g ig mk _ X hg hsize hdg hW hn ⟨r1, r2, rfl, hx, hi, sta_is al S, hz, sta_is al F, rf⟩
  exact ⟨v, B, X', ⟨[], ⟨hv, rfl, hh⟩, hl, hk, hs⟩, st⟩
end StrChars.Road
end Jvm.Pilot.@@N@@

namespace Jvm.Pilot.@@N@@
open Jvm Jvm.ClassFile Sem Op Lib Jvm.Free Jvm.Stand Jvm.LawKit Jvm.RoadKit Bundle Jvm.Pilot.@@N@@.Jvm.D
/-- the run from U comes to a return whose value, heap and written places Q takes; it has made at most kc cells of ks slots -/
def own_Go (p : Program) (e : Env) (below : List Frame) (s : State) (Q : Option Value → Heap → List Loc → Prop) (kc ks : Nat) (U : State) : Prop :=
  ∃ t o, Steps p.tables e below U t ∧ t.status = .running ∧ Ended t below o ∧ ∃ v L, o = .returned v ∧ Q v t.heap L ∧ FrameEnd s o t L kc ks
section OwnKit
variable {p : Program} {l : Launch} {e : Env} {R : Room} {s : State} {m : MethodId} {args : Array Value} {below : List Frame} {meth : Method} {c : Code} {T : State} {locs : List Loc} {cells slots kc ks : Nat} {Z : State} {a0 : Array Value} {h : Heap} {Q : Option Value → Heap → List Loc → Prop}
theorem own_go {U U' : State} (f : ∀ t, Steps p.tables e below U' t → Steps p.tables e below U t) (g : own_Go p e below s Q kc ks U') : own_Go p e below s Q kc ks U := by
  obtain ⟨t, o, a, r⟩ := g
  exact ⟨t, o, f t a, r⟩
theorem own_end (X : Stand p l e R s m args below meth c T locs cells slots) (hlk : meth.locks = false) (eT : T.heap = h) {v : Option Value} (hv : meth.sig.returnType = none → v = none) (hc : cells ≤ kc) (hs : slots ≤ ks) (hq : Q v h locs) {U : State}
    (hst : ∀ fs, (∀ (f : JFrame) (acts : List Action), f.method = m → f.locked = none → f.entered = [] → (doReturn e (T.setTop f) acts v).1 = T.setFrames fs) → Steps p.tables e below U (T.setFrames fs)) : own_Go p e below s Q kc ks U := by
  obtain ⟨fs, hr, hrun, hended, hW, hsame⟩ := X.leave (v := v) hv hlk
  refine ⟨_, _, hst fs hr, hrun, hended, v, locs, rfl, ?_, ⟨v, rfl⟩, hW, hsame.mono hc hs⟩
  show Q v T.heap locs
  rw [eT]; exact hq
theorem own_retN (X : Stand p l e R s m args below meth c T locs cells slots) (hx : p.tables.exec = Jvm.exec) (hlk : meth.locks = false) (eT : T.heap = h) {pc : Nat} {Ls : Array Slot} {z : Int32} {t : FieldType} {rest : List Value} (hret : meth.sig.returnType = some t) (ht : t = .boolean ∨ t = .byte ∨ t = .char ∨ t = .short)
    (hd : decode c.code pc = .ok (.ireturn, 1)) (hc : cells ≤ kc) (hs : slots ≤ ks) (hq : Q (some (.int (nar t z))) h locs) : own_Go p e below s Q kc ks (T.setTop (mkF m pc Ls (.int z :: rest))) :=
  own_end X hlk eT (fun q => by rw [hret] at q; cases q) hc hs hq fun fs hr => retN X hx hret ht hd hr
theorem own_retI (X : Stand p l e R s m args below meth c T locs cells slots) (hx : p.tables.exec = Jvm.exec) (hlk : meth.locks = false) (eT : T.heap = h) {pc : Nat} {Ls : Array Slot} {z : Int32} {rest : List Value} (hret : meth.sig.returnType = some .int)
    (hd : decode c.code pc = .ok (.ireturn, 1)) (hc : cells ≤ kc) (hs : slots ≤ ks) (hq : Q (some (.int z)) h locs) : own_Go p e below s Q kc ks (T.setTop (mkF m pc Ls (.int z :: rest))) :=
  own_end X hlk eT (fun q => by rw [hret] at q; cases q) hc hs hq fun fs hr => retOut X hx hret rfl (Or.inl ⟨rfl, Or.inl rfl, z, rfl⟩) hd hr
theorem own_retJ (X : Stand p l e R s m args below meth c T locs cells slots) (hx : p.tables.exec = Jvm.exec) (hlk : meth.locks = false) (eT : T.heap = h) {pc : Nat} {Ls : Array Slot} {z : Int64} {rest : List Value} (hret : meth.sig.returnType = some .long)
    (hd : decode c.code pc = .ok (.lreturn, 1)) (hc : cells ≤ kc) (hs : slots ≤ ks) (hq : Q (some (.long z)) h locs) : own_Go p e below s Q kc ks (T.setTop (mkF m pc Ls (.long z :: rest))) :=
  own_end X hlk eT (fun q => by rw [hret] at q; cases q) hc hs hq fun fs hr => retOut X hx hret rfl (Or.inr (Or.inl ⟨rfl, rfl, z, rfl⟩)) hd hr
theorem own_retA (X : Stand p l e R s m args below meth c T locs cells slots) (hx : p.tables.exec = Jvm.exec) (hlk : meth.locks = false) (eT : T.heap = h) {pc : Nat} {Ls : Array Slot} {v : Value} {t : FieldType} {rest : List Value} (hret : meth.sig.returnType = some t) (ht : t.isReference = true) (hv : v.isRef = true)
    (hd : decode c.code pc = .ok (.areturn, 1)) (hc : cells ≤ kc) (hs : slots ≤ ks) (hq : Q (some v) h locs) : own_Go p e below s Q kc ks (T.setTop (mkF m pc Ls (v :: rest))) :=
  own_end X hlk eT (fun q => by rw [hret] at q; cases q) hc hs hq fun fs hr => retOut X hx hret (by cases t <;> first | (cases ht; done) | (rcases ref_cases hv with rfl | ⟨_, rfl⟩ <;> rfl)) (Or.inr (Or.inr (Or.inr (Or.inr ⟨rfl, ht, hv⟩)))) hd hr
theorem own_retV (X : Stand p l e R s m args below meth c T locs cells slots) (hx : p.tables.exec = Jvm.exec) (hlk : meth.locks = false) (eT : T.heap = h) {pc : Nat} {Ls : Array Slot} (hret : meth.sig.returnType = none)
    (hd : decode c.code pc = .ok (.return_, 1)) (hc : cells ≤ kc) (hs : slots ≤ ks) (hq : Q none h locs) : own_Go p e below s Q kc ks (T.setTop (mkF m pc Ls [])) :=
  own_end X hlk eT (fun _ => rfl) hc hs hq fun fs hr => X.returnOut hx hret hd hr
/-- a body's contract out of its walk -/
theorem own_met {y : MethodName} {bytes : ByteArray} {maxL : Nat} {ret : Option FieldType} {ws : List Jvm.Cond} {rm : Room} {as' : Array Value} (kc ks : Nat) (hpl : plainFor y = true)
    (body : ∀ (p : Program) (e : Env) (s : State) (m : MethodId) (below : List Frame) (meth : Method) (c : Code) (T : State), Stand p l e rm s m as' below meth c T [] 0 0 → p.tables.exec = Jvm.exec → c.code = bytes → c.maxLocals = maxL → meth.sig.returnType = ret → meth.locks = false → Z.Warmed39 s.vm → s.vm.findClass y.cls = some m.cls → meth.name = y.name → T.heap = h →
      own_Go p e below s Q kc ks (T.setTop (entryFrame m as' maxL))) :
    MetFree l y (head1 (Jvm.Cond.code y bytes maxL ret :: ws) rm) (fun a U => a = as' ∧ Z.Warmed39 U.vm ∧ U.heap = h) (fun _ _ _ _ _ => True) (fun _ U o U' => ∃ v L, o = .returned v ∧ Q v U'.heap L ∧ FrameEnd U o U' L kc ks) := by
  refine MetFree.of_bodySF hpl hisR ?_
  intro p e s m args below meth c s₁ Bd hml hP hK
  obtain ⟨rfl, hZ, hh⟩ := hP
  obtain ⟨t, o, h1, h2, h3, h4⟩ := body p e s m below meth c s₁ (Stand.of_body Bd) Bd.exec Bd.bytes hml Bd.returns Bd.notSynchronized hZ (findClass_of_methodNamed Bd.named) (name_of_methodNamed Bd.named Bd.method).1 (by rw [← hh, Bd.state]; rfl)
  exact ⟨t, o, h1, h2, h3, h4⟩
abbrev own_Met (l : Launch) (Z : State) (h : Heap) (y : MethodName) (bytes : ByteArray) (maxL : Nat) (ret : Option FieldType) (rm : Room) (as' : Array Value) (Q : Option Value → Heap → List Loc → Prop) : Prop :=
  MetFree l y (head1 [Jvm.Cond.code y bytes maxL ret] rm) (fun a U => a = as' ∧ Z.Warmed39 U.vm ∧ U.heap = h) (fun _ _ _ _ _ => True) (fun _ U o U' => ∃ v L, o = .returned v ∧ Q v U'.heap L ∧ FrameEnd U o U' L rm.cells rm.slots)
abbrev own_MF (l : Launch) (Z : State) (h : Heap) (y : MethodName) (bytes : ByteArray) (maxL : Nat) (ret : Option FieldType) (rm : Room) (as' : Array Value) (Q : Option Value → Heap → List Loc → Prop) (ws : List Jvm.Cond) : Prop :=
  MetFree l y (head1 (Jvm.Cond.code y bytes maxL ret :: ws) rm) (fun a U => a = as' ∧ Z.Warmed39 U.vm ∧ U.heap = h) (fun _ _ _ _ _ => True) (fun _ U o U' => ∃ v L, o = .returned v ∧ Q v U'.heap L ∧ FrameEnd U o U' L rm.cells rm.slots)
theorem own_callS {y : MethodName} {bytes : ByteArray} {maxL : Nat} {ret : Option FieldType} {rm : Room} {as' : Array Value} {own : String} {index : Nat} (X : Stand p l e R s m args below meth c T locs cells slots) (hx : p.tables.exec = Jvm.exec) (hZ : Z.Warmed39 s.vm) (hown : s.vm.findClass own = some m.cls)
    (w1 : (Jvm.Cond.methodLink own index y).before a0 Z = true) (w2 : (Jvm.Cond.static y).before a0 Z = true) (w3 : (Jvm.Cond.initialized y.cls).before a0 Z = true) (w4 : (Jvm.Cond.code y bytes maxL ret).before a0 Z = true) (hM : own_Met l Z h y bytes maxL ret rm as' Q) (W : Nat) (nc ns : Nat) 
    (hc : cells + nc ≤ R.cells) (hs : slots + ns ≤ R.slots) (eT : T.heap = h) {g : JFrame} (hg : g.method = m) (hsize : g.locals.size = c.maxLocals)
    (argsL rest : List Value) (hlen : ∀ sig, parseMethodDescriptor y.desc = some sig → argsL.length = sig.parameters.length) (hstack : g.stack = argsL.reverse ++ rest) (has : argsL.toArray = as') (hdg : decode c.code g.pc = .ok (.invokestatic index, 3))
    (hy : y.cls ≠ "java/lang/invoke/MethodHandle" ∧ y.cls ≠ "java/lang/invoke/VarHandle" := by decide) (hf : rm.frames + 1 ≤ R.frames := by decide) (hl : W + (maxL + 11) + rm.locals ≤ R.locals := by decide) (hW : 2 * g.monitorRoom + (rest.map fun v => v.category).sum ≤ W := by exact Nat.le_of_eq rfl) (hnc : rm.cells = nc := by rfl) (hns : rm.slots = ns := by rfl) :
    ∃ v T' L, Stand p l e R s m args below meth c T' (locs ++ L) (cells + nc) (slots + ns) ∧ Q v T'.heap L ∧ ∀ target, Steps p.tables e below (T'.setTop { g with pc := g.pc + 3, stack := v.toList ++ rest }) target → Steps p.tables e below (T.setTop g) target := by
  subst hnc hns
  obtain ⟨v, _, ⟨T', L', k', n'⟩, -, X', ⟨L, hQ, h1, h2, h3⟩, st⟩ := Jvm.LawKit.callS X hx hown (mvT hZ w1) (mvT hZ w2) (mvT hZ w3) (mvT hZ w4) hy (backOf (W := W) hM hZ w4 w3 hf hl) hg hsize hlen hstack hW hdg (fun _ _ => ⟨has, eT, hc, hs⟩)
  dsimp only [Pt.U, Pt.locs, Pt.cells, Pt.slots] at X' hQ h1 h2 h3 st
  subst h1 h2 h3
  exact ⟨v, T', L, X', hQ, st⟩
theorem own_callI {y : MethodName} {bytes : ByteArray} {maxL : Nat} {rm : Room} {as' : Array Value} {own : String} {index : Nat} (X : Stand p l e R s m args below meth c T locs cells slots) (hx : p.tables.exec = Jvm.exec) (hZ : Z.Warmed39 s.vm) (hown : s.vm.findClass own = some m.cls)
    (w1 : (Jvm.Cond.methodLink own index y).before a0 Z = true) (w2 : (Jvm.Cond.instanceMethod y).before a0 Z = true) (w3 : (Jvm.Cond.initialized y.cls).before a0 Z = true) (w4 : (Jvm.Cond.code y bytes maxL none).before a0 Z = true) (hM : own_Met l Z h y bytes maxL none rm as' Q) (W : Nat) (nc ns : Nat) (hy1 : y.name = "<init>")
    (hc : cells + nc ≤ R.cells) (hs : slots + ns ≤ R.slots) (eT : T.heap = h) {g : JFrame} (hg : g.method = m) (hsize : g.locals.size = c.maxLocals)
    (a : Addr) (argsL rest : List Value) (hlen : ∀ sig, parseMethodDescriptor y.desc = some sig → argsL.length = sig.parameters.length) (hstack : g.stack = argsL.reverse ++ .ref a :: rest) (has : (Value.ref a :: argsL).toArray = as') (hdg : decode c.code g.pc = .ok (.invokespecial index, 3))
    (hy : y.cls ≠ "java/lang/invoke/MethodHandle" ∧ y.cls ≠ "java/lang/invoke/VarHandle" := by decide) (hf : rm.frames + 1 ≤ R.frames := by decide) (hl : W + (maxL + 11) + rm.locals ≤ R.locals := by decide) (hW : 2 * g.monitorRoom + (rest.map fun v => v.category).sum ≤ W := by exact Nat.le_of_eq rfl) (hnc : rm.cells = nc := by rfl) (hns : rm.slots = ns := by rfl) :
    ∃ v T' L, Stand p l e R s m args below meth c T' (locs ++ L) (cells + nc) (slots + ns) ∧ Q v T'.heap L ∧ ∀ target, Steps p.tables e below (T'.setTop { g with pc := g.pc + 3, stack := v.toList ++ rest }) target → Steps p.tables e below (T.setTop g) target := by
  subst hnc hns
  obtain ⟨v, _, ⟨T', L', k', n'⟩, -, X', ⟨L, hQ, h1, h2, h3⟩, st⟩ := X.specialBack hx hy1 hown (mvT hZ w1) (mvT hZ w2) (mvT hZ w4) hy (backOf (W := W) hM hZ w4 w3 hf hl) hg hsize (Steps.refl _) (a := a) (argsL := argsL) (rest := rest) hlen hstack hW hdg (fun _ _ => ⟨has, eT, hc, hs⟩)
  dsimp only [Pt.U, Pt.locs, Pt.cells, Pt.slots] at X' hQ h1 h2 h3 st
  subst h1 h2 h3
  exact ⟨v, T', L, X', hQ, fun _ k => st.trans k⟩
theorem own_callV {y z : MethodName} {bytes : ByteArray} {maxL : Nat} {ret : Option FieldType} {rm : Room} {as' : Array Value} {own C : String} {index : Nat} (X : Stand p l e R s m args below meth c T locs cells slots) (hx : p.tables.exec = Jvm.exec) (hZ : Z.Warmed39 s.vm) (hown : s.vm.findClass own = some m.cls)
    (w1 : (Jvm.Cond.methodLink own index y).before a0 Z = true) (wd : (Jvm.Cond.declares y).before a0 Z = true) (nf : NotFace s y) (wsel : (Jvm.Cond.selects C y z).before a0 Z = true) (w2 : (Jvm.Cond.instanceMethod z).before a0 Z = true) (w3 : (Jvm.Cond.initialized z.cls).before a0 Z = true) (w4 : (Jvm.Cond.code z bytes maxL ret).before a0 Z = true) (hM : own_Met l Z h z bytes maxL ret rm as' Q) (W : Nat) (nc ns : Nat) 
    (hc : cells + nc ≤ R.cells) (hs : slots + ns ≤ R.slots) (eT : T.heap = h) {a : Addr} (E : Exa Z h a C) {g : JFrame} (hg : g.method = m) (hsize : g.locals.size = c.maxLocals)
    (argsL rest : List Value) (hlen : ∀ sig, parseMethodDescriptor y.desc = some sig → argsL.length = sig.parameters.length) (hstack : g.stack = argsL.reverse ++ .ref a :: rest) (has : (Value.ref a :: argsL).toArray = as') (hdg : decode c.code g.pc = .ok (.invokevirtual index, 3))
    (hy : y.cls ≠ "java/lang/invoke/MethodHandle" ∧ y.cls ≠ "java/lang/invoke/VarHandle" := by decide) (hf : rm.frames + 1 ≤ R.frames := by decide) (hl : W + (maxL + 11) + rm.locals ≤ R.locals := by decide) (hW : 2 * g.monitorRoom + (rest.map fun v => v.category).sum ≤ W := by exact Nat.le_of_eq rfl) (hnc : rm.cells = nc := by rfl) (hns : rm.slots = ns := by rfl) :
    ∃ v T' L, Stand p l e R s m args below meth c T' (locs ++ L) (cells + nc) (slots + ns) ∧ Q v T'.heap L ∧ ∀ target, Steps p.tables e below (T'.setTop { g with pc := g.pc + 3, stack := v.toList ++ rest }) target → Steps p.tables e below (T.setTop g) target := by
  subst hnc hns
  obtain ⟨cq, kq, qa, qb, qc⟩ := isOf hZ eT E
  obtain ⟨v, _, ⟨T', L', k', n'⟩, -, X', ⟨L, hQ, h1, h2, h3⟩, st⟩ := X.virtualBack hx hown (mvT hZ w1) (mvT hZ wd) nf (mvT hZ wsel) (mvT hZ w2) hy (backOf (W := W) hM hZ w4 w3 hf hl) qa qc hg hsize (Steps.refl _) (argsL := argsL) (rest := rest) hlen hstack hW hdg (fun _ _ => ⟨has, eT, hc, hs⟩)
  dsimp only [Pt.U, Pt.locs, Pt.cells, Pt.slots] at X' hQ h1 h2 h3 st
  subst h1 h2 h3
  exact ⟨v, T', L, X', hQ, fun _ k => st.trans k⟩
theorem own_callP {y : MethodName} {bytes : ByteArray} {maxL : Nat} {ret : Option FieldType} {rm : Room} {as' : Array Value} {own C : String} {index : Nat} (X : Stand p l e R s m args below meth c T locs cells slots) (hx : p.tables.exec = Jvm.exec) (hZ : Z.Warmed39 s.vm) (hown : s.vm.findClass own = some m.cls)
    (w1 : (Jvm.Cond.methodLink own index y).before a0 Z = true) (w2 : (Jvm.Cond.instanceMethod y).before a0 Z = true) (wsel : (Jvm.Cond.selects y.cls y y).before a0 Z = true) (wp : (Jvm.Cond.privateMethod y).before a0 Z = true) (w3 : (Jvm.Cond.initialized y.cls).before a0 Z = true) (w4 : (Jvm.Cond.code y bytes maxL ret).before a0 Z = true) (hM : own_Met l Z h y bytes maxL ret rm as' Q) (W : Nat) (nc ns : Nat) 
    (hc : cells + nc ≤ R.cells) (hs : slots + ns ≤ R.slots) (eT : T.heap = h) {a : Addr} (E : Exa Z h a C) {g : JFrame} (hg : g.method = m) (hsize : g.locals.size = c.maxLocals)
    (argsL rest : List Value) (hlen : ∀ sig, parseMethodDescriptor y.desc = some sig → argsL.length = sig.parameters.length) (hstack : g.stack = argsL.reverse ++ .ref a :: rest) (has : (Value.ref a :: argsL).toArray = as') (hdg : decode c.code g.pc = .ok (.invokevirtual index, 3))
    (hy : y.cls ≠ "java/lang/invoke/MethodHandle" ∧ y.cls ≠ "java/lang/invoke/VarHandle" := by decide) (hf : rm.frames + 1 ≤ R.frames := by decide) (hl : W + (maxL + 11) + rm.locals ≤ R.locals := by decide) (hW : 2 * g.monitorRoom + (rest.map fun v => v.category).sum ≤ W := by exact Nat.le_of_eq rfl) (hnc : rm.cells = nc := by rfl) (hns : rm.slots = ns := by rfl) :
    ∃ v T' L, Stand p l e R s m args below meth c T' (locs ++ L) (cells + nc) (slots + ns) ∧ Q v T'.heap L ∧ ∀ target, Steps p.tables e below (T'.setTop { g with pc := g.pc + 3, stack := v.toList ++ rest }) target → Steps p.tables e below (T.setTop g) target := by
  subst hnc hns
  obtain ⟨cq, q1, q2⟩ := E.cell
  obtain ⟨v, _, ⟨T', L', k', n'⟩, -, X', ⟨L, hQ, h1, h2, h3⟩, st⟩ := X.privateBack hx hown (mvT hZ w1) (mvT hZ w2) (mvT hZ wsel) (Cond.privateMethod_at (mvP hZ wp (args := #[]))) (mvT hZ w4) hy (backOf (W := W) hM hZ w4 w3 hf hl) hg hsize (Steps.refl _) (a := a) (by rw [eT]; exact q1) q2 (argsL := argsL) (rest := rest) hlen hstack hW hdg (fun _ _ => ⟨has, eT, hc, hs⟩)
  dsimp only [Pt.U, Pt.locs, Pt.cells, Pt.slots] at X' hQ h1 h2 h3 st
  subst h1 h2 h3
  exact ⟨v, T', L, X', hQ, fun _ k => st.trans k⟩
theorem own_callF {xi y : MethodName} {bytes : ByteArray} {maxL : Nat} {ret : Option FieldType} {rm : Room} {as' : Array Value} {own C : String} {index count : Nat} (X : Stand p l e R s m args below meth c T locs cells slots) (hx : p.tables.exec = Jvm.exec) (hZ : Z.Warmed39 s.vm) (hown : s.vm.findClass own = some m.cls)
    (w1 : (Jvm.Cond.methodLink own index xi).before a0 Z = true) (wd : (Jvm.Cond.declares xi).before a0 Z = true) (wfa : (Jvm.Cond.interfaceMethod xi.cls xi.cls xi.name xi.desc).before a0 Z = true) (wsel : (Jvm.Cond.selects C xi y).before a0 Z = true) (w2 : (Jvm.Cond.instanceMethod y).before a0 Z = true) (wp : (Jvm.Cond.publicMethod y).before a0 Z = true) (wu : (Jvm.Cond.unhidden C xi.name xi.desc).before a0 Z = true) (wk : (Jvm.Cond.castable C xi.cls).before a0 Z = true) (w3 : (Jvm.Cond.initialized y.cls).before a0 Z = true) (w4 : (Jvm.Cond.code y bytes maxL ret).before a0 Z = true) (hfk : ((Jvm.Cond.interfaceMethod xi.cls xi.cls xi.name xi.desc).onTables && (Jvm.Cond.interfaceMethod xi.cls xi.cls xi.name xi.desc).keepsFace) = true) (hM : own_Met l Z h y bytes maxL ret rm as' Q) (W : Nat) (nc ns : Nat) 
    (hc : cells + nc ≤ R.cells) (hs : slots + ns ≤ R.slots) (eT : T.heap = h) {a : Addr} (E : Exa Z h a C) {g : JFrame} (hg : g.method = m) (hsize : g.locals.size = c.maxLocals)
    (argsL rest : List Value) (hlen : ∀ sig, parseMethodDescriptor xi.desc = some sig → argsL.length = sig.parameters.length) (hstack : g.stack = argsL.reverse ++ .ref a :: rest) (has : (Value.ref a :: argsL).toArray = as') (hdg : decode c.code g.pc = .ok (.invokeinterface index count, 5))
    (hy : xi.cls ≠ "java/lang/invoke/MethodHandle" ∧ xi.cls ≠ "java/lang/invoke/VarHandle" := by decide) (hf : rm.frames + 1 ≤ R.frames := by decide) (hl : W + (maxL + 11) + rm.locals ≤ R.locals := by decide) (hW : 2 * g.monitorRoom + (rest.map fun v => v.category).sum ≤ W := by exact Nat.le_of_eq rfl) (hnc : rm.cells = nc := by rfl) (hns : rm.slots = ns := by rfl) :
    ∃ v T' L, Stand p l e R s m args below meth c T' (locs ++ L) (cells + nc) (slots + ns) ∧ Q v T'.heap L ∧ ∀ target, Steps p.tables e below (T'.setTop { g with pc := g.pc + 5, stack := v.toList ++ rest }) target → Steps p.tables e below (T.setTop g) target := by
  subst hnc hns
  obtain ⟨cq, kq, qa, qb, qc⟩ := isOf hZ eT E
  obtain ⟨v, _, ⟨T', L', k', n'⟩, -, X', ⟨L, hQ, h1, h2, h3⟩, st⟩ := X.interfaceBack hx hown (mvT hZ w1) (mvT hZ wd) (mvT hZ wfa hfk) (mvT hZ wsel) (mvT hZ w2) (mvT hZ wp) (mvT hZ wu) (mvT hZ wk) hy (backOf (W := W) hM hZ w4 w3 hf hl) qa qb qc hg hsize (Steps.refl _) (argsL := argsL) (rest := rest) hlen hstack hW hdg (fun _ _ => ⟨has, eT, hc, hs⟩)
  dsimp only [Pt.U, Pt.locs, Pt.cells, Pt.slots] at X' hQ h1 h2 h3 st
  subst h1 h2 h3
  exact ⟨v, T', L, X', hQ, fun _ k => st.trans k⟩
theorem own_callU {y z : MethodName} {bytes : ByteArray} {maxL : Nat} {ret : Option FieldType} {rm : Room} {as' : Array Value} {own owner C : String} {index : Nat} (X : Stand p l e R s m args below meth c T locs cells slots) (hx : p.tables.exec = Jvm.exec) (hZ : Z.Warmed39 s.vm) (hown : s.vm.findClass own = some m.cls)
    (w1 : (Jvm.Cond.methodLink own index y).before a0 Z = true) (wsm : (Jvm.Cond.sameMethod y.cls owner y.name y.desc).before a0 Z = true) (wd : (Jvm.Cond.declares ⟨owner, y.name, y.desc⟩).before a0 Z = true) (wsel : (Jvm.Cond.selects C y z).before a0 Z = true) (w2 : (Jvm.Cond.instanceMethod z).before a0 Z = true) (w3 : (Jvm.Cond.initialized z.cls).before a0 Z = true) (w4 : (Jvm.Cond.code z bytes maxL ret).before a0 Z = true) (hM : own_Met l Z h z bytes maxL ret rm as' Q) (W : Nat) (nc ns : Nat) 
    (hc : cells + nc ≤ R.cells) (hs : slots + ns ≤ R.slots) (eT : T.heap = h) {a : Addr} (E : Exa Z h a C) {g : JFrame} (hg : g.method = m) (hsize : g.locals.size = c.maxLocals)
    (argsL rest : List Value) (hlen : ∀ sig, parseMethodDescriptor y.desc = some sig → argsL.length = sig.parameters.length) (hstack : g.stack = argsL.reverse ++ .ref a :: rest) (has : (Value.ref a :: argsL).toArray = as') (hdg : decode c.code g.pc = .ok (.invokevirtual index, 3))
    (howner : owner ≠ "java/lang/invoke/MethodHandle" ∧ owner ≠ "java/lang/invoke/VarHandle" := by decide) (hf : rm.frames + 1 ≤ R.frames := by decide) (hl : W + (maxL + 11) + rm.locals ≤ R.locals := by decide) (hW : 2 * g.monitorRoom + (rest.map fun v => v.category).sum ≤ W := by exact Nat.le_of_eq rfl) (hnc : rm.cells = nc := by rfl) (hns : rm.slots = ns := by rfl) :
    ∃ v T' L, Stand p l e R s m args below meth c T' (locs ++ L) (cells + nc) (slots + ns) ∧ Q v T'.heap L ∧ ∀ target, Steps p.tables e below (T'.setTop { g with pc := g.pc + 3, stack := v.toList ++ rest }) target → Steps p.tables e below (T.setTop g) target := by
  subst hnc hns
  obtain ⟨cq, kq, qa, qb, qc⟩ := isOf hZ eT E
  obtain ⟨v, _, ⟨T', L', k', n'⟩, -, X', ⟨L, hQ, h1, h2, h3⟩, st⟩ := X.virtualBackUp hx hown (mvT hZ w1) (mvT hZ wsm) (mvT hZ wd) howner (mvT hZ wsel) (mvT hZ w2) (backOf (W := W) hM hZ w4 w3 hf hl) qa qc hg hsize (Steps.refl _) (argsL := argsL) (rest := rest) hlen hstack hW hdg (fun _ _ => ⟨has, eT, hc, hs⟩)
  dsimp only [Pt.U, Pt.locs, Pt.cells, Pt.slots] at X' hQ h1 h2 h3 st
  subst h1 h2 h3
  exact ⟨v, T', L, X', hQ, fun _ k => st.trans k⟩
theorem own_callIB {y : MethodName} {bytes : ByteArray} {maxL : Nat} {as' : Array Value} {own : String} {index : Nat} (X : Stand p l e R s m args below meth c T locs cells slots) (hx : p.tables.exec = Jvm.exec) (hZ : Z.Warmed39 s.vm) (hown : s.vm.findClass own = some m.cls)
    (w1 : (Jvm.Cond.methodLink own index y).before a0 Z = true) (w2 : (Jvm.Cond.instanceMethod y).before a0 Z = true) (w3 : (Jvm.Cond.initialized y.cls).before a0 Z = true) (w4 : (Jvm.Cond.code y bytes maxL none).before a0 Z = true) (W nc ns : Nat) (hB : Back l R p e below s args y 3 W (fun A a => a = as' ∧ A.U.heap = h ∧ A.cells + nc ≤ R.cells ∧ A.slots + ns ≤ R.slots) (fun A _ v B => ∃ L, Q v B.U.heap L ∧ B.locs = A.locs ++ L ∧ B.cells = A.cells + nc ∧ B.slots = A.slots + ns)) (hy1 : y.name = "<init>")
    (hc : cells + nc ≤ R.cells) (hs : slots + ns ≤ R.slots) (eT : T.heap = h) {g : JFrame} (hg : g.method = m) (hsize : g.locals.size = c.maxLocals)
    (a : Addr) (argsL rest : List Value) (hlen : ∀ sig, parseMethodDescriptor y.desc = some sig → argsL.length = sig.parameters.length) (hstack : g.stack = argsL.reverse ++ .ref a :: rest) (has : (Value.ref a :: argsL).toArray = as') (hdg : decode c.code g.pc = .ok (.invokespecial index, 3))
    (hy : y.cls ≠ "java/lang/invoke/MethodHandle" ∧ y.cls ≠ "java/lang/invoke/VarHandle" := by decide) (hW : 2 * g.monitorRoom + (rest.map fun v => v.category).sum ≤ W := by exact Nat.le_of_eq rfl) :
    ∃ v T' L, Stand p l e R s m args below meth c T' (locs ++ L) (cells + nc) (slots + ns) ∧ Q v T'.heap L ∧ ∀ target, Steps p.tables e below (T'.setTop { g with pc := g.pc + 3, stack := v.toList ++ rest }) target → Steps p.tables e below (T.setTop g) target := by
  obtain ⟨v, _, ⟨T', L', k', n'⟩, -, X', ⟨L, hQ, h1, h2, h3⟩, st⟩ := X.specialBack hx hy1 hown (mvT hZ w1) (mvT hZ w2) (mvT hZ w4) hy hB hg hsize (Steps.refl _) (a := a) (argsL := argsL) (rest := rest) hlen hstack hW hdg (fun _ _ => ⟨has, eT, hc, hs⟩)
  dsimp only [Pt.U, Pt.locs, Pt.cells, Pt.slots] at X' hQ h1 h2 h3 st
  subst h1 h2 h3
  exact ⟨v, T', L, X', hQ, fun _ k => st.trans k⟩
theorem own_callVB {y z : MethodName} {bytes : ByteArray} {maxL : Nat} {ret : Option FieldType} {as' : Array Value} {own C : String} {index : Nat} (X : Stand p l e R s m args below meth c T locs cells slots) (hx : p.tables.exec = Jvm.exec) (hZ : Z.Warmed39 s.vm) (hown : s.vm.findClass own = some m.cls)
    (w1 : (Jvm.Cond.methodLink own index y).before a0 Z = true) (wd : (Jvm.Cond.declares y).before a0 Z = true) (nf : NotFace s y) (wsel : (Jvm.Cond.selects C y z).before a0 Z = true) (w2 : (Jvm.Cond.instanceMethod z).before a0 Z = true) (w3 : (Jvm.Cond.initialized z.cls).before a0 Z = true) (w4 : (Jvm.Cond.code z bytes maxL ret).before a0 Z = true) (W nc ns : Nat) (hB : Back l R p e below s args z 3 W (fun A a => a = as' ∧ A.U.heap = h ∧ A.cells + nc ≤ R.cells ∧ A.slots + ns ≤ R.slots) (fun A _ v B => ∃ L, Q v B.U.heap L ∧ B.locs = A.locs ++ L ∧ B.cells = A.cells + nc ∧ B.slots = A.slots + ns)) 
    (hc : cells + nc ≤ R.cells) (hs : slots + ns ≤ R.slots) (eT : T.heap = h) {a : Addr} (E : Exa Z h a C) {g : JFrame} (hg : g.method = m) (hsize : g.locals.size = c.maxLocals)
    (argsL rest : List Value) (hlen : ∀ sig, parseMethodDescriptor y.desc = some sig → argsL.length = sig.parameters.length) (hstack : g.stack = argsL.reverse ++ .ref a :: rest) (has : (Value.ref a :: argsL).toArray = as') (hdg : decode c.code g.pc = .ok (.invokevirtual index, 3))
    (hy : y.cls ≠ "java/lang/invoke/MethodHandle" ∧ y.cls ≠ "java/lang/invoke/VarHandle" := by decide) (hW : 2 * g.monitorRoom + (rest.map fun v => v.category).sum ≤ W := by exact Nat.le_of_eq rfl) :
    ∃ v T' L, Stand p l e R s m args below meth c T' (locs ++ L) (cells + nc) (slots + ns) ∧ Q v T'.heap L ∧ ∀ target, Steps p.tables e below (T'.setTop { g with pc := g.pc + 3, stack := v.toList ++ rest }) target → Steps p.tables e below (T.setTop g) target := by
  obtain ⟨cq, kq, qa, qb, qc⟩ := isOf hZ eT E
  obtain ⟨v, _, ⟨T', L', k', n'⟩, -, X', ⟨L, hQ, h1, h2, h3⟩, st⟩ := X.virtualBack hx hown (mvT hZ w1) (mvT hZ wd) nf (mvT hZ wsel) (mvT hZ w2) hy hB qa qc hg hsize (Steps.refl _) (argsL := argsL) (rest := rest) hlen hstack hW hdg (fun _ _ => ⟨has, eT, hc, hs⟩)
  dsimp only [Pt.U, Pt.locs, Pt.cells, Pt.slots] at X' hQ h1 h2 h3 st
  subst h1 h2 h3
  exact ⟨v, T', L, X', hQ, fun _ k => st.trans k⟩
/-- the start's heap stands in h unchanged -/
theorem own_oldExt {h' : Heap} (O : Ext Z.heap h) (E : Ext h h') : Ext Z.heap h' := ⟨Nat.le_trans O.1 E.1, fun x c q => E.2 x c (O.2 x c q)⟩
theorem own_oldKeep {h' : Heap} {ws : List Addr} (O : Ext Z.heap h) (K : Keep h h' ws) (q : ∀ x ∈ ws, Z.heap.size ≤ x) : Ext Z.heap h' :=
  ⟨Nat.le_trans O.1 K.1, fun x c r => K.2.1 x c (O.2 x c r) fun z => absurd (Array.getElem?_eq_some_iff.mp r).1 (Nat.not_lt.mpr (q x z))⟩
theorem own_oldWr {h' : Heap} {a : Addr} {sl : Nat} {v : Value} (O : Ext Z.heap h) (W : Wr h h' a sl v) (q : Z.heap.size ≤ a) : Ext Z.heap h' := own_oldKeep O (Keep.of_wr W) (allS q all0)
theorem own_keepTrans {h0 h' : Heap} {ws : List Addr} (K : Keep h0 h ws) (K' : Keep h h' []) : Keep h0 h' ws := K.trans K' fun x q => nomatch q
theorem own_insKeep {h' : Heap} {ws : List Addr} {a : Addr} {C : String} {b : Bool} (F : Ins Z h a C b) (K : Keep h h' ws) : Ins Z h' a C b := by
  obtain ⟨cell, cT, h1, h2, h3⟩ := F
  obtain ⟨c', q1, q2, q3, -⟩ := K.2.2 a cell h1
  exact ⟨c', cT, q1, h2, by rw [q2, q3]; exact h3⟩
theorem own_cat1 {v : Value} (r : v.isRef = true) : v.category = 1 := by cases v <;> simp [Value.isRef, Value.category] at r ⊢
theorem own_fitsRef {v : Value} (t : FieldType) (r : v.isRef = true) (ht : t.isReference = true) : fits t v = true := by
  cases t <;> first | (cases ht; done) | (rcases ref_cases r with rfl | ⟨_, rfl⟩ <;> rfl)
theorem own_narRef {v : Value} (t : FieldType) (r : v.isRef = true) (ht : t.isReference = true) : narrow t v = v := by
  cases t <;> first | (cases ht; done) | (rcases ref_cases r with rfl | ⟨_, rfl⟩ <;> rfl)
theorem own_keepSub {h0 : Heap} {ws ws' : List Addr} (K : Keep h0 h ws) (q : ∀ x ∈ ws, x ∈ ws') : Keep h0 h ws' := ⟨K.1, fun x c r z => K.2.1 x c r fun u => z (q x u), K.2.2⟩
theorem own_neTy {a b : Addr} {k k' : ClassId} {ty ty' : FieldType} {z z' : Int32} {vs vs' : List Value} {d d' : Value} (F : Arv Z h a k ty z vs d) (G : Arv Z h b k' ty' z' vs' d') (hn : ty ≠ ty') : a ≠ b := by
  rintro rfl
  obtain ⟨c, A, -⟩ := F
  obtain ⟨c', A', -⟩ := G
  cases A.1.symm.trans A'.1
  obtain ⟨-, k1, q1, cm1, r1⟩ := A.2.1
  obtain ⟨-, k2, q2, cm2, r2⟩ := A'.2.1
  cases q1.symm.trans q2
  rw [r1] at r2
  cases r2
  exact hn rfl
theorem own_catR (a : Addr) : (Value.ref a).category = 1 := rfl
theorem own_catN : Value.null.category = 1 := rfl
theorem own_catI (a : Int32) : (Value.int a).category = 1 := rfl
theorem own_catJ (a : Int64) : (Value.long a).category = 2 := rfl
end OwnKit
/-- the state with these tables and this heap -/
abbrev own_at (Z : State) (vm : Vm) (h : Heap) : State := { Z with vm := vm, heap := h }
theorem own_byteV (u : UInt8) : byteValue u = .int u.toInt8.toInt32 := rfl
theorem own_slFacts {Z : State} {vm : Vm} {h : Heap} {a : Addr} {units : Array UInt16} (hW : Z.Warmed39 vm) (H : SlOf (own_at Z vm h) a units) (hlat : units.all (· < 256) = true) :
    ∃ (b : Addr) (k : ClassId), Exa Z h a "java/lang/String" ∧ Fld Z h a "java/lang/String" "coder" "B" (.int 0) ∧ Fld Z h a "java/lang/String" "value" "[B" (.ref b) ∧ Arv Z h b k .byte (Int32.ofNat units.size) (units.toList.map fun u => Value.int u.toUInt8.toInt8.toInt32) (.int 0) := by
  have hal : Z.vm.Alike (own_at Z vm h).vm := hW.alike
  obtain ⟨q, cS, rfl, ⟨⟨s1, s2, s3, ⟨cv, kv, iv', s4, s4'⟩, ⟨cc, kc, ic, s5, s5'⟩, s6, s7, s8, s9, s10, s11, s12, s13, s14, s15, s16⟩, hfS, hcS⟩, ⟨kS, k1, k2, k3⟩, hB, hby⟩ := H
  obtain ⟨kv', z4⟩ := ff_back hal s4
  obtain ⟨kc', z5⟩ := ff_back hal s5
  have hf : Z.vm.findClass "java/lang/String" = some q.sC.cls := by rw [hcS, ← hal.findClass]; exact hfS
  obtain ⟨kz, hkz, -⟩ := Vm.findClass_spec hf
  obtain ⟨kz', hkz', ekz⟩ := hal.2.2 _ _ hkz
  rw [hcS] at hkz'
  cases hkz'.symm.trans k1
  have hBZ : Z.vm.findClass "[B" = some q.SA.cls := by rw [← hal.findClass]; exact hB
  obtain ⟨kb, hkb, -⟩ := Vm.findClass_spec hBZ
  obtain ⟨kb', hkb', ekb⟩ := hal.2.2 _ _ hkb
  obtain ⟨hst, k9, hk9, comp, hkind⟩ := s11
  cases hk9.symm.trans hkb'
  have hsl : q.SA.slots = units.map fun u => byteValue u.toUInt8 := by rw [hby, SBG.stringBytes_lat hlat]
  have hsz : q.SA.slots.size = units.size := by rw [hsl, Array.size_map]
  have hlt : units.size < 2 ^ 31 := by omega
  have hn : (Int32.ofNat units.size).toNatClampNeg = units.size ∧ ¬ (Int32.ofNat units.size) < 0 := by
    have e : (Int32.ofNat units.size).toInt = units.size := by
      exact len_toInt hlt
    refine ⟨by simp [Int32.toNatClampNeg, e], ?_⟩
    rw [Int32.lt_iff_toInt_lt, e]; show ¬ ((units.size : Int) < 0); omega
  have H' : Has q.SA (units.toList.map fun u => Value.int u.toUInt8.toInt8.toInt32) (.int 0) := fun j hj => by
    have hj' : j < units.size := by omega
    rw [hsl]; simp [hj', own_byteV]
  refine ⟨q.sd, q.SA.cls, ⟨q.sC, kz, s1, hf, hkz, s3, fun _ => by rw [k3, ekz]⟩, ⟨q.sC, cc, kc', ic, q.fSC, s1, z5, s7, s2, s3, by rw [← hal.assignable]; exact s5', s9⟩, ⟨q.sC, cv, kv', iv', q.fSV, s1, z4, s6, s2, s3, by rw [← hal.assignable]; exact s4', s8⟩, q.SA, ⟨s10, ⟨hst, kb, hkb, comp, by rw [ekb] at hkind; exact hkind⟩, s12⟩, rfl, by rw [hsz, hn.1], hn.2, H', fun j hj => ?_⟩
  have e1 := s16 j hj
  rw [SBG.getD_of (H' j hj)] at e1
  exact e1
def own_L (Z : State) (a0 : Array Value) : Prop := ∀ e ∈ consts_1, ∃ text, (Jvm.Cond.stringLink e.1 e.2 text).before a0 Z = true
/-- whichever String the JVM holds for a constant of the list, she bears its text -/
def own_J (Z : State) (vm : Vm) (h : Heap) : Prop := ∀ e ∈ consts_1, ConstHeldL (own_at Z vm h) e.1 e.2
theorem own_Jstep {Z : State} {vm vm' : Vm} {h h' : Heap} {a0 : Array Value} (L : own_L Z a0) (hZ : Z.Warmed39 vm) (hJ : own_J Z vm h) (hW : (own_at Z vm h).Warmed39 vm')
    (hmv : ∀ a units, SlOf (own_at Z vm h) a units → SlOf (own_at Z vm' h') a units)
    (hfind : ∀ units a, vm'.interned.find? (fun p => p.1 == units) = some (units, a) → vm.interned.find? (fun p => p.1 == units) = some (units, a) ∨ SlOf (own_at Z vm' h') a units) : own_J Z vm' h' := by
  intro e he c k' cf i units a hc' hk' hcf' hp hu hor
  have hal : vm.Alike vm' := hW.alike
  have hc : vm.findClass e.1 = some c := by rw [← hal.findClass]; exact hc'
  obtain ⟨text, ht⟩ := L e he
  have ht' : (Jvm.Cond.stringLink e.1 e.2 text).before a0 (own_at Z vm h) = true := mvS (s := { Z with heap := h }) hZ ht
  obtain ⟨k, cf0, i0, units0, hk, hcf, hp0, hu0, hnm, -, -⟩ := Cond.stringLink_spec (s := own_at Z vm h) hc ht'
  obtain ⟨k2, hk2, hke, -, ee, -⟩ := hW.2.2.2 c k hk
  cases (show vm'.classes[c]? = some k' from hk').symm.trans hk2
  have hcfe : k'.cf = k.cf := by rw [hke]
  cases (hcfe ▸ hcf').symm.trans hcf
  cases hp.symm.trans hp0
  cases hu.symm.trans hu0
  have H := hJ e he c k cf i units
  rcases ee e.2 with e0 | ⟨hop, r, e1, hr | ⟨a3, t3, si, us, rfl, -, q3, q4, q5⟩⟩
  · rcases hor with h0 | ⟨h0, hf⟩
    · exact hmv _ _ (H a hc hk hcf hp hu (Or.inl (e0 ▸ h0)))
    · rcases hfind units a hf with hf | hs
      · exact hmv _ _ (H a hc hk hcf hp hu (Or.inr ⟨e0 ▸ h0, hf⟩))
      · exact hs
  · exfalso
    cases r <;> simp [State.rightAt, hk, hcf, hnm] at hr
  · have e3 : si = i := by
      rw [hcf] at q3
      have q := q3.symm.trans hp
      simpa using q
    subst e3
    have e4 : us = units := by
      rw [hcf] at q4
      simpa [ConstantPool.utf8?, hu] using q4.symm
    subst e4
    have ea : a3 = a := by
      rcases hor with h0 | ⟨h0, -⟩
      · have q := e1.symm.trans h0; simpa using q
      · have q := e1.symm.trans h0; simp at q
    subst ea
    rcases hfind us a3 q5 with hf | hs
    · exact hmv _ _ (H a3 hc hk hcf hp hu (Or.inr ⟨hop, hf⟩))
    · exact hs
theorem own_Jwarm {Z s : State} {vm vm' : Vm} {h : Heap} {a0 : Array Value} (L : own_L Z a0) (hZ : Z.Warmed39 vm) (hJ : own_J Z vm h) (hW : (s.setVm vm).WarmedH vm') : own_J Z vm' h := by
  have hW1 : (own_at Z vm h).WarmedH vm' := hW
  refine own_Jstep L hZ hJ hW1.wide (fun a u H => H.moved hW1.alike fun _ _ q => q) fun units a hf => Or.inl ?_
  have e : vm'.interned = vm.interned := hW1.interned_eq
  rw [← e]; exact hf
theorem own_Jext {Z : State} {vm : Vm} {h h' : Heap} (hJ : own_J Z vm h) (E : Ext h h') : own_J Z vm h' := fun e he c k cf i units a h1 h2 h3 h4 h5 h6 =>
  (hJ e he c k cf i units a h1 h2 h3 h4 h5 h6).moved (Vm.Alike.refl _) fun b c q => E.2 b c q
/-- the cell at w is no String and no byte[] -/
def own_Far (Z : State) (h : Heap) (w : Addr) : Prop := ∀ cell : Cell, h[w]? = some cell → ¬ Z.vm.findClass "java/lang/String" = some cell.cls ∧ ¬ Z.isArrayOf cell .byte
theorem own_farN {Z : State} {h : Heap} {w : Addr} (q : h.size ≤ w) : own_Far Z h w := fun cell hc => absurd (Array.getElem?_eq_some_iff.mp hc).1 (Nat.not_lt.mpr q)
theorem own_farE {Z : State} {h : Heap} {w : Addr} {C : String} {n : Nat} {a0 : Array Value} (E : Exa Z h w C) (hC : C ≠ "java/lang/String") (wi : (Jvm.Cond.instantiable C n).before a0 Z = true) : own_Far Z h w := fun cell hc => by
  obtain ⟨c1, k, e1, e2, e3, -, -⟩ := E
  cases hc.symm.trans e1
  refine ⟨fun q => ids_ne e2 q hC rfl, fun q => ?_⟩
  obtain ⟨c2, k2, i1, i2, i3, -⟩ := Cond.instantiable_spec wi
  cases e2.symm.trans i1
  cases e3.symm.trans i2
  obtain ⟨-, k3, j1, cm, j2⟩ := q
  cases e3.symm.trans j1
  rw [i3] at j2; cases j2
theorem own_farV {Z : State} {h : Heap} {w : Addr} {k : ClassId} {ty : FieldType} {z : Int32} {vs : List Value} {d : Value} {n : Nat} {a0 : Array Value} (V : Arv Z h w k ty z vs d) (hty : ty ≠ .byte) (wi : (Jvm.Cond.instantiable "java/lang/String" n).before a0 Z = true) : own_Far Z h w := fun cell hc => by
  obtain ⟨c1, A, -⟩ := V
  cases hc.symm.trans A.1
  obtain ⟨-, k3, j1, cm, j2⟩ := A.2.1
  refine ⟨fun q => ?_, fun q => ?_⟩
  · obtain ⟨c2, k2, i1, i2, i3, -⟩ := Cond.instantiable_spec wi
    cases q.symm.trans i1
    cases j1.symm.trans i2
    rw [i3] at j2; cases j2
  · obtain ⟨-, k4, r1, cm', r2⟩ := q
    cases j1.symm.trans r1
    rw [j2] at r2; cases r2
    exact hty rfl
theorem own_slKeep {Z : State} {vm : Vm} {h h' : Heap} {ws : List Addr} {a : Addr} {units : Array UInt16} (hZ : Z.Warmed39 vm) (H : SlOf (own_at Z vm h) a units) (K : Keep h h' ws) (far : ∀ w ∈ ws, own_Far Z h w) : SlOf (own_at Z vm h') a units := by
  obtain ⟨q, cS, h1, h2, h3, h4, h5⟩ := H
  have hal : Z.vm.Alike vm := hZ.alike
  obtain ⟨⟨s1, s2, s3, s4, s5, s6, s7, s8, s9, s10, s11, s12⟩, hfS, hcS⟩ := id h2
  have n1 : q.sa ∉ ws := fun m => (far _ m _ s1).1 (by rw [hcS, ← hal.findClass]; exact hfS)
  have n2 : q.sd ∉ ws := fun m => (far _ m _ s10).2 (by
    obtain ⟨t1, k, t2, cm, t3⟩ := s11
    obtain ⟨kb, hkb⟩ : ∃ kb, Z.vm.classes[q.SA.cls]? = some kb := by
      obtain ⟨kb, hkb, -⟩ := Vm.findClass_spec (show Z.vm.findClass "[B" = some q.SA.cls by rw [← hal.findClass]; exact h4)
      exact ⟨kb, hkb⟩
    obtain ⟨kb', hkb', ekb⟩ := hal.2.2 _ _ hkb
    cases t2.symm.trans hkb'
    exact ⟨t1, kb, hkb, cm, by rw [ekb] at t3; exact t3⟩)
  exact ⟨q, cS, h1, SBG.Sl.carry (U := own_at Z vm h) (U' := own_at Z vm h') (Vm.Alike.refl vm) (K.2.1 _ _ s1 n1) (K.2.1 _ _ s10 n2) h2, h3, h4, h5⟩
theorem own_Jkeep {Z : State} {vm : Vm} {h h' : Heap} {ws : List Addr} (hZ : Z.Warmed39 vm) (hJ : own_J Z vm h) (K : Keep h h' ws) (far : ∀ w ∈ ws, own_Far Z h w) : own_J Z vm h' := fun e he c k cf i units a h1 h2 h3 h4 h5 h6 =>
  own_slKeep hZ (hJ e he c k cf i units a h1 h2 h3 h4 h5 h6) K far
theorem own_Jwr {Z : State} {vm : Vm} {h h' : Heap} {w : Addr} {sl : Nat} {v : Value} (hZ : Z.Warmed39 vm) (hJ : own_J Z vm h) (W : Wr h h' w sl v) (far : own_Far Z h w) : own_J Z vm h' := own_Jkeep hZ hJ (Keep.of_wr W) (allS far all0)
theorem own_unitsEq {u v : Array UInt16} {text : String} (hu : utf16ToString? u = some text) (hv : utf16ToString? v = some text) (ht : ∀ c ∈ text.toList, c.toNat < 256) : u = v :=
  Array.toList_inj.mp ((Jvm.ClassFile.units_of_text hu ht).trans (Jvm.ClassFile.units_of_text hv ht).symm)
theorem own_slIn {lo hi : Nat} {W : State} {a : Addr} {units : Array UInt16} (H : SlIn lo hi W a units) : SlOf W a units := by
  obtain ⟨q, cS, h1, h2, h3, h4, h5, -⟩ := H
  exact ⟨q, cS, h1, h2, h3, h4, h5⟩
theorem own_slState {W W' : State} {a : Addr} {units : Array UInt16} (H : SlOf W a units) (hv : W.vm = W'.vm) (hh : W.heap = W'.heap) : SlOf W' a units :=
  H.moved (by rw [hv]; exact Vm.Alike.refl _) fun b c q => by rw [← hh]; exact q
section OwnLdc
variable {p : Program} {l : Launch} {e : Env} {R : Room} {s : State} {vm0 : Vm} {m : MethodId} {args : Array Value} {below : List Frame} {meth : Method} {c : Code} {T : State} {locs : List Loc} {cells slots : Nat} {Z : State} {a0 : Array Value} {h : Heap}
theorem own_reb (X : Stand p l e R s m args below meth c T locs cells slots) (hc : cells ≤ R.cells) (hl : slots ≤ R.slots) :
    Stand p l e { R with cells := R.cells - cells, slots := R.slots - slots } { s with heap := T.heap, slotsUsed := T.slotsUsed } m args below meth c T [] 0 0 := by
  have hroom : State.hasRoom { s with heap := T.heap, slotsUsed := T.slotsUsed } e.platform { R with cells := R.cells - cells, slots := R.slots - slots } = true := by
    have h := X.room
    have u1 := X.heapSize
    have u2 := X.used
    have u3 := X.book
    simp only [State.hasRoom, Bool.and_eq_true, decide_eq_true_eq] at h ⊢
    obtain ⟨⟨⟨⟨h1, h2⟩, h3⟩, h4⟩, h5⟩ := h
    exact ⟨⟨⟨⟨h1, h2⟩, by omega⟩, by omega⟩, u3⟩
  refine ⟨X.admits, X.cas, X.clock, X.frames, hroom, X.hears, X.method, X.code, X.here, X.tail, X.warmed, X.limits, X.bytes, X.same.1, Nat.le_refl _, Nat.le_refl _, ?_, ?_, fun a c h => ⟨c, h, rfl, rfl, fun _ _ => rfl⟩⟩
  · show T.slotsUsed = T.slotsUsed + ((T.heap.toList.drop T.heap.size).map (·.slots.size)).sum
    rw [List.drop_of_length_le (by simp)]; rfl
  · show ((T.heap.toList.drop T.heap.size).map (·.slots.size)).sum ≤ 0
    rw [List.drop_of_length_le (by simp)]; exact Nat.le_refl _
theorem own_rebBack (X : Stand p l e R s m args below meth c T locs cells slots) {R' : Room} {vm1 : Vm} {T2 : State} {k n : Nat} (hW : s.Warmed39 vm1)
    (X2 : Stand p l e R' (({ s with heap := T.heap, slotsUsed := T.slotsUsed } : State).setVm vm1) m args below meth c T2 [] k n) : Stand p l e R (s.setVm vm1) m args below meth c T2 locs (cells + k) (slots + n) := by
  have Y := X.retabled hW
  have h2 : State.sameButNew (T.setVm vm1) (T2.setVm vm1) [] k n := by
    obtain ⟨q1, q2, q3, q4, q5, q6⟩ := X2.same
    refine ⟨?_, q2, q3, q4, q5, q6⟩
    have e1 : T.setVm vm1 = { (s.setVm vm1).setFrames T.frames with heap := T.heap, slotsUsed := T.slotsUsed } := Y.same.1
    have key : ∀ (F G : List Frame) (A H : Heap) (B U : Nat), ({ ({ (s.setVm vm1).setFrames F with heap := A, slotsUsed := B } : State).setFrames G with heap := H, slotsUsed := U } : State) = { (s.setVm vm1).setFrames G with heap := H, slotsUsed := U } := fun F G A H B U => by
      have e2 : ({ ({ (s.setVm vm1).setFrames F with heap := A, slotsUsed := B } : State).setFrames G with heap := H, slotsUsed := U } : State) = { ((s.setVm vm1).setFrames F).setFrames G with heap := H, slotsUsed := U } := rfl
      rw [e2, State.setFrames_setFrames]
    have e3 : (({ (T.setVm vm1).setFrames T2.frames with heap := T2.heap, slotsUsed := T2.slotsUsed } : State)) = { (s.setVm vm1).setFrames T2.frames with heap := T2.heap, slotsUsed := T2.slotsUsed } := by
      rw [e1]; exact key _ _ _ _ _ _
    exact q1.trans e3.symm
  have h3 := Y.same.trans h2
  rw [List.append_nil] at h3
  exact ⟨X.admits, X.cas, X.clock, X.frames, Y.room, Y.hears, Y.method, X.code, X2.here, X2.tail, X2.warmed, X2.limits, X2.bytes, h3⟩
/-- a load of a literal anywhere: the walk re-based on the state in which it stands -/
theorem own_ldcK (X : Stand p l e R (s.setVm vm0) m args below meth c T locs cells slots) (hS : s.Since vm0 h.size) (hx : p.tables.exec = Jvm.exec) (hZ : Z.Warmed39 (s.setVm vm0).vm) {own text : String} {index : Nat} (hown : (s.setVm vm0).vm.findClass own = some m.cls)
    (L : own_L Z a0) (hmem : (own, index) ∈ consts_1) (w : (Jvm.Cond.stringLink own index text).before a0 Z = true) (wS : ∀ a ∈ Bundle.stringAtoms, a.before a0 Z = true) (eT : T.heap = h)
    (hJ : own_J Z vm0 h) (ht : ∀ c ∈ text.toList, c.toNat < 256)
    {g : JFrame} (hg : g.method = m) (hd : decode c.code g.pc = .ok (.ldc index, 2)) {n : Nat} (hn : 4 * text.toList.length ≤ n) (hbig : n ≤ 536870912) (hc : cells + 2 ≤ R.cells) (hl : slots + (n + 4) ≤ R.slots) :
    ∃ (a : Addr) (T' : State) (h' : Heap) (vm1 : Vm) (units : Array UInt16), Stand p l e R (s.setVm vm1) m args below meth c T' locs (cells + 2) (slots + (n + 4)) ∧ T'.heap = h' ∧ Ext h h' ∧ s.Since vm1 h'.size ∧ Z.Warmed39 (s.setVm vm1).vm ∧ (s.setVm vm1).vm.findClass own = some m.cls ∧ own_J Z vm1 h' ∧
      Lit (s.setVm vm1) own index a ∧ utf16ToString? units = some text ∧ SlOf (own_at Z vm1 h') a units ∧ ∀ target, Steps p.tables e below (T'.setTop { g with pc := g.pc + 2, stack := .ref a :: g.stack }) target → Steps p.tables e below (T.setTop g) target := by
  have w0 : (Jvm.Cond.stringLink own index text).before args (s.setVm vm0) = true := mvS hZ w
  obtain ⟨k, cf, i, units, hk, hcf, hp, hu, hnm, htext, hres⟩ := Cond.stringLink_spec (s := s.setVm vm0) hown w0
  rcases hres with hop | ⟨a, hra⟩
  · subst eT
    have hH : ConstHeldL ({ (s.setVm vm0) with heap := T.heap, slotsUsed := T.slotsUsed } : State) own index := fun c' k' cf' i' u' a' q1 q2 q3 q4 q5 q6 => own_slState (hJ _ hmem c' k' cf' i' u' a' q1 q2 q3 q4 q5 q6) rfl rfl
    have w0' : (Jvm.Cond.stringLink own index text).before args ({ (s.setVm vm0) with heap := T.heap, slotsUsed := T.slotsUsed } : State) = true := mvS (s := { (s.setVm vm0) with heap := T.heap, slotsUsed := T.slotsUsed }) hZ w
    have hZ' : Z.Warmed39 ({ (s.setVm vm0) with heap := T.heap, slotsUsed := T.slotsUsed } : State).vm := hZ
    obtain ⟨a, T2, X2', hS2', ⟨k2, hk2, hr2⟩, hb, -, hint, ⟨u2, ht2, hin⟩, st⟩ := (own_reb X (by omega) (by omega)).ldcColdF (fun _ _ q => q) hx (own := own) hown w0' (fun d hd => by
      have q := wS d hd
      simp only [Bundle.stringAtoms, List.mem_cons, List.not_mem_nil, or_false] at hd
      rcases hd with rfl | rfl | rfl | rfl | rfl | rfl | rfl
      · exact mv hZ' q
      · exact mv hZ' q
      · exact mvA hZ' q
      · exact mv hZ' q
      · exact mv hZ' q
      · exact mv hZ' q
      · exact mv hZ' q) hH (fun u hu => Jvm.ClassFile.lat_of_text hu ht) hg hd hn hbig (by show 0 + 2 ≤ R.cells - cells; omega) (by show 0 + (n + 4) ≤ R.slots - slots; omega)
    have E := ext_of hb
    have hW2 : (s.setVm vm0).Warmed39 T2.vm := hS2'.1
    have hS2 : (s.setVm vm0).Since T2.vm T2.heap.size := ⟨hW2, fun j pr hj hp => ⟨Nat.le_trans X.same.2.1 (hS2'.2 j pr hj hp).1, (hS2'.2 j pr hj hp).2⟩⟩
    have X2 : Stand p l e R ((s.setVm vm0).setVm T2.vm) m args below meth c T2 locs (cells + (0 + 2)) (slots + (0 + (n + 4))) := own_rebBack X hW2 X2'
    rw [Nat.zero_add, Nat.zero_add] at X2
    have hTi : T.vm.interned = vm0.interned := X.warmed.interned_eq
    rw [hTi] at hint
    have hsl : SlOf (own_at Z T2.vm T2.heap) a u2 := own_slState (own_slIn hin) rfl rfl
    have hu2 : u2 = units := own_unitsEq ht2 htext ht
    subst hu2
    have hq5 : T2.vm.interned.find? (fun p => p.1 == u2) = some (u2, a) := by
      obtain ⟨k3, hk3, hke, -, ee, -⟩ := hW2.2.2.2 m.cls k hk
      cases hk3.symm.trans hk2
      rcases ee index with e0 | ⟨-, r, e1, hr | ⟨a3, t3, si, us, rfl, -, q3, q4, q5⟩⟩
      · rw [hr2, hop] at e0; cases e0
      · exfalso
        have hk0 : vm0.classes[m.cls]? = some k := hk
        cases r <;> simp [State.rightAt, hk0, hcf, hnm] at hr
      · rw [hcf] at q3 q4
        have e3 : si = i := by have q := q3.symm.trans hp; simpa using q
        subst e3
        have e4 : us = u2 := by simpa [ConstantPool.utf8?, hu] using q4.symm
        subst e4
        have ea : a3 = a := by have q := e1.symm.trans hr2; simpa using q
        subst ea
        exact q5
    have hZ2 : Z.Warmed39 T2.vm := State.Warmed39.trans (t := s.setVm vm0) hZ hW2
    refine ⟨a, T2, T2.heap, T2.vm, u2, X2, rfl, E, hS.trans hS2 E.1, hZ2, by rw [show (s.setVm T2.vm).vm = T2.vm from rfl, hW2.alike.findClass]; exact hown, ?_, ?_, ht2, hsl, st⟩
    · refine own_Jstep L hZ hJ hW2 (fun a' u' H => H.moved hW2.alike fun b c q => E.2 b c q) fun u' a' hf => ?_
      rcases hint with q | ⟨u3, a3, hu3, q⟩
      · rw [q] at hf; exact Or.inl hf
      · rw [q, Array.find?_push] at hf
        cases hold : vm0.interned.find? (fun p => p.1 == u') with
        | some pr => rw [hold] at hf; simp at hf; exact Or.inl (hold.trans (by rw [hf]))
        | none =>
          rw [hold] at hf
          simp only [Option.none_or] at hf
          split at hf
          · cases hf
            have e5 : u' = u2 := own_unitsEq hu3 ht2 ht
            subst e5
            have e6 : a' = a := by
              rw [q, Array.find?_push, hold] at hq5
              simpa using hq5
            subst e6
            exact Or.inr hsl
          · cases hf
    · have hf : T2.vm.findClass own = some m.cls := by rw [hW2.alike.findClass]; exact hown
      simp [Lit, State.resolvedAt?, hf, hk2, hr2]
  · have hLit : Lit (s.setVm vm0) own index a := by
      have hf : vm0.findClass own = some m.cls := hown
      have hk' : vm0.classes[m.cls]? = some k := hk
      simp [Lit, State.resolvedAt?, hf, hk', hra]
    have hsl : SlOf (own_at Z vm0 h) a units := hJ _ hmem m.cls k cf i units a hown hk hcf hp hu (Or.inl hra)
    refine ⟨a, T, h, vm0, units, X.more (by omega) (by omega), eT, ⟨Nat.le_refl _, fun _ _ q => q⟩, hS, hZ, hown, hJ, hLit, htext, hsl, ldcAgain X hx hZ hown w hLit hg hd⟩
end OwnLdc
/-- no String that the JVM holds for a constant of the list is x -/
def own_Apart (vm : Vm) (x : Addr) : Prop := ∀ e ∈ consts_1, ∀ (c : ClassId) (k : Class) (cf : ClassFile) (i : Nat) (units : Array UInt16) (a : Addr), vm.findClass e.1 = some c → vm.classes[c]? = some k → k.cf = some cf →
    cf.constantPool[e.2]? = some (.string i) → cf.constantPool[i]? = some (.utf8 units) → (k.resolved[e.2]? = some (some (.string a)) ∨ (k.resolved[e.2]? = some none ∧ vm.interned.find? (fun p => p.1 == units) = some (units, a))) → a ≠ x
theorem own_slValue {Z : State} {vm : Vm} {h : Heap} {a : Addr} {units : Array UInt16} (hZ : Z.Warmed39 vm) (H : SlOf (own_at Z vm h) a units) : ∃ b, Fld Z h a "java/lang/String" "value" "[B" (.ref b) := by
  have hal : Z.vm.Alike (own_at Z vm h).vm := hZ.alike
  obtain ⟨q, cS, rfl, ⟨⟨s1, s2, s3, ⟨cv, kv, iv', s4, s4'⟩, -, s6, -, s8, -⟩, -, -⟩, -⟩ := H
  obtain ⟨kv', z4⟩ := ff_back hal s4
  exact ⟨q.sd, q.sC, cv, kv', iv', q.fSV, s1, z4, s6, s2, s3, by rw [← hal.assignable]; exact s4', s8⟩
theorem own_apart {Z : State} {vm : Vm} {h : Heap} {x : Addr} (hZ : Z.Warmed39 vm) (hJ : own_J Z vm h) (F : Fld Z h x "java/lang/String" "value" "[B" .null) : own_Apart vm x := fun e he c k cf i units a h1 h2 h3 h4 h5 h6 => by
  obtain ⟨b, G⟩ := own_slValue hZ (hJ e he c k cf i units a h1 h2 h3 h4 h5 h6)
  exact Fld.ne G F (fun q => nomatch q)
theorem own_JkeepS {Z : State} {vm : Vm} {h h' : Heap} {x : Addr} {n : Nat} {a0 : Array Value} (hZ : Z.Warmed39 vm) (hJ : own_J Z vm h) (K : Keep h h' [x]) (hA : own_Apart vm x) (E : Exa Z h x "java/lang/String") (wi : (Jvm.Cond.instantiable "java/lang/String" n).before a0 Z = true) : own_J Z vm h' := fun e he c k cf i units a h1 h2 h3 h4 h5 h6 => by
  have ha : a ≠ x := hA e he c k cf i units a h1 h2 h3 h4 h5 h6
  obtain ⟨q, cS, e1, g2, g3, g4, g5⟩ := hJ e he c k cf i units a h1 h2 h3 h4 h5 h6
  have hal : Z.vm.Alike vm := hZ.alike
  obtain ⟨⟨s1, s2, s3, s4, s5, s6, s7, s8, s9, s10, s11, s12⟩, hfS, hcS⟩ := id g2
  have n2 : q.sd ≠ x := fun m => by
    obtain ⟨t1, k', t2, cm, t3⟩ := s11
    obtain ⟨kb, hkb, -⟩ := Vm.findClass_spec (show Z.vm.findClass "[B" = some q.SA.cls by rw [← hal.findClass]; exact g4)
    obtain ⟨kb', hkb', ekb⟩ := hal.2.2 _ _ hkb
    cases t2.symm.trans hkb'
    obtain ⟨c1, kx, x1, x2, x3, -, -⟩ := E
    cases (m ▸ s10).symm.trans x1
    obtain ⟨c2, k2, i1, i2, i3, -⟩ := Cond.instantiable_spec wi
    cases x2.symm.trans i1
    cases hkb.symm.trans i2
    rw [ekb] at t3
    rw [i3] at t3; cases t3
  exact ⟨q, cS, e1, SBG.Sl.carry (U := own_at Z vm h) (U' := own_at Z vm h') (Vm.Alike.refl vm) (K.2.1 _ _ s1 (by rw [e1]; simpa using ha)) (K.2.1 _ _ s10 (by simpa using n2)) g2, g3, g4, g5⟩
theorem own_JwrS {Z : State} {vm : Vm} {h h' : Heap} {x : Addr} {n sl : Nat} {v : Value} {a0 : Array Value} (hZ : Z.Warmed39 vm) (hJ : own_J Z vm h) (W : Wr h h' x sl v) (hA : own_Apart vm x) (E : Exa Z h x "java/lang/String") (wi : (Jvm.Cond.instantiable "java/lang/String" n).before a0 Z = true) : own_J Z vm h' := own_JkeepS hZ hJ (Keep.of_wr W) hA E wi
theorem own_litFacts {Z : State} {vm : Vm} {h : Heap} {a : Addr} {units : Array UInt16} {text : String} (hW : Z.Warmed39 vm) (H : SlOf (own_at Z vm h) a units) (hu : utf16ToString? units = some text) (ht : ∀ c ∈ text.toList, c.toNat < 256) :
    ∃ (b : Addr) (k : ClassId), Exa Z h a "java/lang/String" ∧ Fld Z h a "java/lang/String" "coder" "B" (.int 0) ∧ Fld Z h a "java/lang/String" "value" "[B" (.ref b) ∧ Arv Z h b k .byte (Int32.ofNat text.toList.length) (text.toList.map fun c => Value.int c.toNat.toUInt16.toUInt8.toInt8.toInt32) (.int 0) := by
  have e := Jvm.ClassFile.units_of_text hu ht
  obtain ⟨b, k, h1, h2, h3, h4⟩ := own_slFacts hW H (Jvm.ClassFile.lat_of_text hu ht)
  refine ⟨b, k, h1, h2, h3, ?_⟩
  have e2 : units.size = text.toList.length := by rw [← Array.length_toList, e, List.length_map]
  rw [e, List.map_map, e2] at h4
  exact h4
/-- the run from U comes to a return whose value, heap and written places Q takes; it has made at most kc cells of ks slots; String constants may have been resolved on the way -/
def own_GoW (p : Program) (e : Env) (below : List Frame) (s Z : State) (Q : Option Value → Heap → List Loc → Prop) (kc ks : Nat) (U : State) : Prop :=
  ∃ t o, Steps p.tables e below U t ∧ t.status = .running ∧ Ended t below o ∧ ∃ v L, o = .returned v ∧ (Q v t.heap L ∧ own_J Z t.vm t.heap) ∧ ReturnedEndW s o t L kc ks
section OwnKitW
variable {p : Program} {l : Launch} {e : Env} {R : Room} {s : State} {vm0 : Vm} {m : MethodId} {args : Array Value} {below : List Frame} {meth : Method} {c : Code} {T : State} {locs : List Loc} {cells slots kc ks : Nat} {Z : State} {a0 : Array Value} {h : Heap} {Q : Option Value → Heap → List Loc → Prop}
theorem own_since {vm : Vm} {k k' : Nat} (hS : s.Since vm k) (q : k ≤ k') : s.Since vm k' := ⟨hS.1, fun j p hj hp => ⟨(hS.2 j p hj hp).1, Nat.lt_of_lt_of_le (hS.2 j p hj hp).2 q⟩⟩
theorem own_goW {U U' : State} (f : ∀ t, Steps p.tables e below U' t → Steps p.tables e below U t) (g : own_GoW p e below s Z Q kc ks U') : own_GoW p e below s Z Q kc ks U := by
  obtain ⟨t, o, a, r⟩ := g
  exact ⟨t, o, f t a, r⟩
theorem own_sameMono {L : List Loc} {k n : Nat} {t : State} (hq : s.sameButNew t L k n) (hc : k ≤ kc) (hs : n ≤ ks) : s.sameButNew t L kc ks := hq.mono hc hs
theorem own_endW (X : Stand p l e R (s.setVm vm0) m args below meth c T locs cells slots) (hS : s.Since vm0 h.size) (hL : own_L Z a0) (hZ : Z.Warmed39 (s.setVm vm0).vm) (hJ : own_J Z vm0 h) (hlk : meth.locks = false) (eT : T.heap = h) {v : Option Value} (hv : meth.sig.returnType = none → v = none) (hc : cells ≤ kc) (hs : slots ≤ ks) (hq : Q v h locs) {U : State}
    (hst : ∀ fs, (∀ (f : JFrame) (acts : List Action), f.method = m → f.locked = none → f.entered = [] → (doReturn e (T.setTop f) acts v).1 = T.setFrames fs) → Steps p.tables e below U (T.setFrames fs)) : own_GoW p e below s Z Q kc ks U := by
  obtain ⟨fs, hr, hrun, hended, h1, h2, h3, h4⟩ := X.leaveW hS (by rw [eT]; exact Nat.le_refl _) (v := v) hv hlk
  refine ⟨_, _, hst fs hr, hrun, hended, v, locs, rfl, ⟨?_, ?_⟩, h1, h2, h3, own_sameMono h4 hc hs⟩
  · show Q v T.heap locs
    rw [eT]; exact hq
  · show own_J Z T.vm T.heap
    rw [eT]; exact own_Jwarm hL hZ hJ X.warmed
theorem own_retNW (X : Stand p l e R (s.setVm vm0) m args below meth c T locs cells slots) (hS : s.Since vm0 h.size) (hL : own_L Z a0) (hZ : Z.Warmed39 (s.setVm vm0).vm) (hJ : own_J Z vm0 h) (hx : p.tables.exec = Jvm.exec) (hlk : meth.locks = false) (eT : T.heap = h) {pc : Nat} {Ls : Array Slot} {z : Int32} {t : FieldType} {rest : List Value} (hret : meth.sig.returnType = some t) (ht : t = .boolean ∨ t = .byte ∨ t = .char ∨ t = .short)
    (hd : decode c.code pc = .ok (.ireturn, 1)) (hc : cells ≤ kc) (hs : slots ≤ ks) (hq : Q (some (.int (nar t z))) h locs) : own_GoW p e below s Z Q kc ks (T.setTop (mkF m pc Ls (.int z :: rest))) :=
  own_endW X hS hL hZ hJ hlk eT (fun q => by rw [hret] at q; cases q) hc hs hq fun fs hr => retN X hx hret ht hd hr
theorem own_retIW (X : Stand p l e R (s.setVm vm0) m args below meth c T locs cells slots) (hS : s.Since vm0 h.size) (hL : own_L Z a0) (hZ : Z.Warmed39 (s.setVm vm0).vm) (hJ : own_J Z vm0 h) (hx : p.tables.exec = Jvm.exec) (hlk : meth.locks = false) (eT : T.heap = h) {pc : Nat} {Ls : Array Slot} {z : Int32} {rest : List Value} (hret : meth.sig.returnType = some .int)
    (hd : decode c.code pc = .ok (.ireturn, 1)) (hc : cells ≤ kc) (hs : slots ≤ ks) (hq : Q (some (.int z)) h locs) : own_GoW p e below s Z Q kc ks (T.setTop (mkF m pc Ls (.int z :: rest))) :=
  own_endW X hS hL hZ hJ hlk eT (fun q => by rw [hret] at q; cases q) hc hs hq fun fs hr => retOut X hx hret rfl (Or.inl ⟨rfl, Or.inl rfl, z, rfl⟩) hd hr
theorem own_retJW (X : Stand p l e R (s.setVm vm0) m args below meth c T locs cells slots) (hS : s.Since vm0 h.size) (hL : own_L Z a0) (hZ : Z.Warmed39 (s.setVm vm0).vm) (hJ : own_J Z vm0 h) (hx : p.tables.exec = Jvm.exec) (hlk : meth.locks = false) (eT : T.heap = h) {pc : Nat} {Ls : Array Slot} {z : Int64} {rest : List Value} (hret : meth.sig.returnType = some .long)
    (hd : decode c.code pc = .ok (.lreturn, 1)) (hc : cells ≤ kc) (hs : slots ≤ ks) (hq : Q (some (.long z)) h locs) : own_GoW p e below s Z Q kc ks (T.setTop (mkF m pc Ls (.long z :: rest))) :=
  own_endW X hS hL hZ hJ hlk eT (fun q => by rw [hret] at q; cases q) hc hs hq fun fs hr => retOut X hx hret rfl (Or.inr (Or.inl ⟨rfl, rfl, z, rfl⟩)) hd hr
theorem own_retAW (X : Stand p l e R (s.setVm vm0) m args below meth c T locs cells slots) (hS : s.Since vm0 h.size) (hL : own_L Z a0) (hZ : Z.Warmed39 (s.setVm vm0).vm) (hJ : own_J Z vm0 h) (hx : p.tables.exec = Jvm.exec) (hlk : meth.locks = false) (eT : T.heap = h) {pc : Nat} {Ls : Array Slot} {v : Value} {t : FieldType} {rest : List Value} (hret : meth.sig.returnType = some t) (ht : t.isReference = true) (hv : v.isRef = true)
    (hd : decode c.code pc = .ok (.areturn, 1)) (hc : cells ≤ kc) (hs : slots ≤ ks) (hq : Q (some v) h locs) : own_GoW p e below s Z Q kc ks (T.setTop (mkF m pc Ls (v :: rest))) :=
  own_endW X hS hL hZ hJ hlk eT (fun q => by rw [hret] at q; cases q) hc hs hq fun fs hr => retOut X hx hret (by cases t <;> first | (cases ht; done) | (rcases ref_cases hv with rfl | ⟨_, rfl⟩ <;> rfl)) (Or.inr (Or.inr (Or.inr (Or.inr ⟨rfl, ht, hv⟩)))) hd hr
theorem own_retVW (X : Stand p l e R (s.setVm vm0) m args below meth c T locs cells slots) (hS : s.Since vm0 h.size) (hL : own_L Z a0) (hZ : Z.Warmed39 (s.setVm vm0).vm) (hJ : own_J Z vm0 h) (hx : p.tables.exec = Jvm.exec) (hlk : meth.locks = false) (eT : T.heap = h) {pc : Nat} {Ls : Array Slot} (hret : meth.sig.returnType = none)
    (hd : decode c.code pc = .ok (.return_, 1)) (hc : cells ≤ kc) (hs : slots ≤ ks) (hq : Q none h locs) : own_GoW p e below s Z Q kc ks (T.setTop (mkF m pc Ls [])) :=
  own_endW X hS hL hZ hJ hlk eT (fun _ => rfl) hc hs hq fun fs hr => X.returnOut hx hret hd hr
theorem own_metW {y : MethodName} {bytes : ByteArray} {maxL : Nat} {ret : Option FieldType} {ws : List Jvm.Cond} {rm : Room} {as' : Array Value} (kc ks : Nat) (hpl : plainFor y = true)
    (body : ∀ (p : Program) (e : Env) (s : State) (vm0 : Vm) (m : MethodId) (below : List Frame) (meth : Method) (c : Code) (T : State), Stand p l e rm (s.setVm vm0) m as' below meth c T [] 0 0 → s.Since vm0 h.size → own_J Z vm0 h → own_J Z s.vm s.heap → Z.Warmed39 s.vm → IB s vm0 [] → s.heap = h → p.tables.exec = Jvm.exec → c.code = bytes → c.maxLocals = maxL → meth.sig.returnType = ret → meth.locks = false → Z.Warmed39 (s.setVm vm0).vm → (s.setVm vm0).vm.findClass y.cls = some m.cls → meth.name = y.name → T.heap = h →
      own_GoW p e below s Z Q kc ks (T.setTop (entryFrame m as' maxL))) :
    MetFree l y (head1 (Jvm.Cond.code y bytes maxL ret :: ws) rm) (fun a U => a = as' ∧ Z.Warmed39 U.vm ∧ U.heap = h ∧ own_J Z U.vm U.heap) (fun _ _ _ _ _ => True) (fun _ U o U' => ∃ v L, o = .returned v ∧ (Q v U'.heap L ∧ own_J Z U'.vm U'.heap) ∧ ReturnedEndW U o U' L kc ks) := by
  refine MetFree.of_bodySF hpl hisR ?_
  intro p e s m args below meth c s₁ Bd hml hP hK
  obtain ⟨rfl, hZ, hh, hJ⟩ := hP
  obtain ⟨t, o, h1, h2, h3, h4⟩ := body p e s s.vm m below meth c s₁ (Stand.of_body Bd) ((State.WarmedH.refl s).since _) (by rw [← hh]; exact hJ) hJ hZ IB.start hh Bd.exec Bd.bytes hml Bd.returns Bd.notSynchronized hZ (findClass_of_methodNamed Bd.named) (name_of_methodNamed Bd.named Bd.method).1 (by rw [← hh, Bd.state]; rfl)
  exact ⟨t, o, h1, h2, h3, h4⟩
abbrev own_MetW (l : Launch) (Z : State) (h : Heap) (y : MethodName) (bytes : ByteArray) (maxL : Nat) (ret : Option FieldType) (rm : Room) (as' : Array Value) (Q : Option Value → Heap → List Loc → Prop) : Prop :=
  MetFree l y (head1 [Jvm.Cond.code y bytes maxL ret] rm) (fun a U => a = as' ∧ Z.Warmed39 U.vm ∧ U.heap = h ∧ own_J Z U.vm U.heap) (fun _ _ _ _ _ => True) (fun _ U o U' => ∃ v L, o = .returned v ∧ (Q v U'.heap L ∧ own_J Z U'.vm U'.heap) ∧ ReturnedEndW U o U' L rm.cells rm.slots)
end OwnKitW
section OwnBackJ
variable {p : Program} {l : Launch} {e : Env} {R : Room} {s : State} {vm0 : Vm} {m : MethodId} {args : Array Value} {below : List Frame} {meth : Method} {c : Code} {T : State} {locs : List Loc} {cells slots kc ks : Nat} {Z : State} {a0 : Array Value} {h : Heap} {Q : Option Value → Heap → List Loc → Prop}
theorem own_backJ {y : MethodName} {bytes : ByteArray} {maxL : Nat} {ret : Option FieldType} {rm : Room} {len W : Nat} {as' : Array Value} (hM : own_MetW l Z h y bytes maxL ret rm as' Q) (L : own_L Z a0)
    (hZ : Z.Warmed39 s.vm) (hJ : own_J Z s.vm h) (wc : (Jvm.Cond.code y bytes maxL ret).before a0 Z = true) (wz : (Jvm.Cond.initialized y.cls).before a0 Z = true) (hf : rm.frames + 1 ≤ R.frames) (hl : W + (maxL + 11) + rm.locals ≤ R.locals) :
    BackS l R p e below s args y len W (fun A a => a = as' ∧ A.U.heap = h ∧ A.cells + rm.cells ≤ R.cells ∧ A.slots + rm.slots ≤ R.slots)
      (fun A _ v B => ∃ L, (Q v B.U.heap L ∧ own_J Z B.U.vm B.U.heap) ∧ B.locs = A.locs ++ L ∧ B.cells = A.cells + rm.cells ∧ B.slots = A.slots + rm.slots) :=
  BackS.of_freeW (bytes := bytes) (maxL := maxL) (ret := ret) (E := fun _ _ o t L k n => k = rm.cells ∧ n = rm.slots ∧ ∃ v, o = .returned v ∧ (Q v t.heap L ∧ own_J Z t.vm t.heap)) hM hf hl
    (fun m meth c A a Y hp => have hU : Z.Warmed39 A.U.vm := wtrans hZ Y.warmed
      ⟨by show (Jvm.Cond.and _ .tt).before a A.U = true; rw [Cond.before_and, mv hU wc]; rfl, mv hU wc, mv hU wz, hp.2.2.1, hp.2.2.2⟩)
    (fun m meth c A a g mk Y hp => ⟨hp.1, wtrans hZ Y.warmed, hp.2.1, by
      have q : own_J Z A.U.vm h := own_Jwarm (s := s) L hZ hJ Y.warmed
      rw [← hp.2.1] at q; exact q⟩) (fun _ _ _ _ _ _ _ _ _ => trivial)
    (fun _ _ _ _ ⟨v, L, h1, h2, h3⟩ => ⟨L, _, _, h3, rfl, rfl, v, h1, h2⟩)
    (fun m meth c A a g mk v t L k n Y hp _ _ ⟨e1, e2, v', e3, e4⟩ => by cases e3; subst e1 e2; exact ⟨L, e4, rfl, rfl, rfl⟩)
end OwnBackJ
section OwnKitW2
variable {p : Program} {l : Launch} {e : Env} {R : Room} {s : State} {vm0 : Vm} {m : MethodId} {args : Array Value} {below : List Frame} {meth : Method} {c : Code} {T : State} {locs : List Loc} {cells slots kc ks : Nat} {Z : State} {a0 : Array Value} {h : Heap} {Q : Option Value → Heap → List Loc → Prop}
theorem own_callSW {y : MethodName} {bytes : ByteArray} {maxL : Nat} {ret : Option FieldType} {rm : Room} {as' : Array Value} {own : String} {index : Nat} (X : Stand p l e R (s.setVm vm0) m args below meth c T locs cells slots) (hS : s.Since vm0 h.size) (hL : own_L Z a0) (hJ : own_J Z vm0 h) (hx : p.tables.exec = Jvm.exec) (hZ : Z.Warmed39 (s.setVm vm0).vm) (hown : (s.setVm vm0).vm.findClass own = some m.cls)
    (w1 : (Jvm.Cond.methodLink own index y).before a0 Z = true) (w2 : (Jvm.Cond.static y).before a0 Z = true) (w3 : (Jvm.Cond.initialized y.cls).before a0 Z = true) (w4 : (Jvm.Cond.code y bytes maxL ret).before a0 Z = true) (hM : own_MetW l Z h y bytes maxL ret rm as' Q) (W : Nat) (nc ns : Nat) 
    (hc : cells + nc ≤ R.cells) (hs : slots + ns ≤ R.slots) (eT : T.heap = h) {g : JFrame} (hg : g.method = m) (hsize : g.locals.size = c.maxLocals)
    (argsL rest : List Value) (hlen : ∀ sig, parseMethodDescriptor y.desc = some sig → argsL.length = sig.parameters.length) (hstack : g.stack = argsL.reverse ++ rest) (has : argsL.toArray = as') (hdg : decode c.code g.pc = .ok (.invokestatic index, 3))
    (hy : y.cls ≠ "java/lang/invoke/MethodHandle" ∧ y.cls ≠ "java/lang/invoke/VarHandle" := by decide) (hf : rm.frames + 1 ≤ R.frames := by decide) (hl : W + (maxL + 11) + rm.locals ≤ R.locals := by decide) (hW : 2 * g.monitorRoom + (rest.map fun v => v.category).sum ≤ W := by exact Nat.le_of_eq rfl) (hnc : rm.cells = nc := by rfl) (hns : rm.slots = ns := by rfl) :
    ∃ v T' L, Stand p l e R (s.setVm T'.vm) m args below meth c T' (locs ++ L) (cells + nc) (slots + ns) ∧ s.Since T'.vm T'.heap.size ∧ Z.Warmed39 (s.setVm T'.vm).vm ∧ (s.setVm T'.vm).vm.findClass own = some m.cls ∧ Q v T'.heap L ∧ own_J Z T'.vm T'.heap ∧ ∀ target, Steps p.tables e below (T'.setTop { g with pc := g.pc + 3, stack := v.toList ++ rest }) target → Steps p.tables e below (T.setTop g) target := by
  subst hnc hns
  obtain ⟨v, _, ⟨T', L', k', n'⟩, -, X', hS', hgr, ⟨L, ⟨hQ, hJ'⟩, h1, h2, h3⟩, st⟩ := callSS X hx hown (mvT hZ w1) (mvT hZ w2) (mvT hZ w3) (mvT hZ w4) hy (own_backJ (W := W) hM hL hZ hJ w4 w3 hf hl) hg hsize hlen hstack hW hdg (fun _ _ => ⟨has, eT, hc, hs⟩)
  dsimp only [Pt.U, Pt.locs, Pt.cells, Pt.slots] at X' hS' hgr hQ hJ' h1 h2 h3 st
  subst h1 h2 h3
  have hS2 : s.Since T'.vm T'.heap.size := hS.trans hS' (by rw [← eT]; exact hgr)
  exact ⟨v, T', L, X', hS2, State.Warmed39.trans (t := s.setVm vm0) hZ hS'.1, by rw [show (s.setVm T'.vm).vm = T'.vm from rfl, hS'.1.alike.findClass]; exact hown, hQ, hJ', fun _ k => st.trans k⟩
theorem own_callIW {y : MethodName} {bytes : ByteArray} {maxL : Nat} {rm : Room} {as' : Array Value} {own : String} {index : Nat} (X : Stand p l e R (s.setVm vm0) m args below meth c T locs cells slots) (hS : s.Since vm0 h.size) (hL : own_L Z a0) (hJ : own_J Z vm0 h) (hx : p.tables.exec = Jvm.exec) (hZ : Z.Warmed39 (s.setVm vm0).vm) (hown : (s.setVm vm0).vm.findClass own = some m.cls)
    (w1 : (Jvm.Cond.methodLink own index y).before a0 Z = true) (w2 : (Jvm.Cond.instanceMethod y).before a0 Z = true) (w3 : (Jvm.Cond.initialized y.cls).before a0 Z = true) (w4 : (Jvm.Cond.code y bytes maxL none).before a0 Z = true) (hM : own_MetW l Z h y bytes maxL none rm as' Q) (W : Nat) (nc ns : Nat) (hy1 : y.name = "<init>")
    (hc : cells + nc ≤ R.cells) (hs : slots + ns ≤ R.slots) (eT : T.heap = h) {g : JFrame} (hg : g.method = m) (hsize : g.locals.size = c.maxLocals)
    (a : Addr) (argsL rest : List Value) (hlen : ∀ sig, parseMethodDescriptor y.desc = some sig → argsL.length = sig.parameters.length) (hstack : g.stack = argsL.reverse ++ .ref a :: rest) (has : (Value.ref a :: argsL).toArray = as') (hdg : decode c.code g.pc = .ok (.invokespecial index, 3))
    (hy : y.cls ≠ "java/lang/invoke/MethodHandle" ∧ y.cls ≠ "java/lang/invoke/VarHandle" := by decide) (hf : rm.frames + 1 ≤ R.frames := by decide) (hl : W + (maxL + 11) + rm.locals ≤ R.locals := by decide) (hW : 2 * g.monitorRoom + (rest.map fun v => v.category).sum ≤ W := by exact Nat.le_of_eq rfl) (hnc : rm.cells = nc := by rfl) (hns : rm.slots = ns := by rfl) :
    ∃ v T' L, Stand p l e R (s.setVm T'.vm) m args below meth c T' (locs ++ L) (cells + nc) (slots + ns) ∧ s.Since T'.vm T'.heap.size ∧ Z.Warmed39 (s.setVm T'.vm).vm ∧ (s.setVm T'.vm).vm.findClass own = some m.cls ∧ Q v T'.heap L ∧ own_J Z T'.vm T'.heap ∧ ∀ target, Steps p.tables e below (T'.setTop { g with pc := g.pc + 3, stack := v.toList ++ rest }) target → Steps p.tables e below (T.setTop g) target := by
  subst hnc hns
  obtain ⟨v, _, ⟨T', L', k', n'⟩, -, X', hS', hgr, ⟨L, ⟨hQ, hJ'⟩, h1, h2, h3⟩, st⟩ := X.specialBackS hx hy1 hown (mvT hZ w1) (mvT hZ w2) (mvT hZ w4) hy (own_backJ (W := W) hM hL hZ hJ w4 w3 hf hl) hg hsize (Steps.refl _) (a := a) (argsL := argsL) (rest := rest) hlen hstack hW hdg (fun _ _ => ⟨has, eT, hc, hs⟩)
  dsimp only [Pt.U, Pt.locs, Pt.cells, Pt.slots] at X' hS' hgr hQ hJ' h1 h2 h3 st
  subst h1 h2 h3
  have hS2 : s.Since T'.vm T'.heap.size := hS.trans hS' (by rw [← eT]; exact hgr)
  exact ⟨v, T', L, X', hS2, State.Warmed39.trans (t := s.setVm vm0) hZ hS'.1, by rw [show (s.setVm T'.vm).vm = T'.vm from rfl, hS'.1.alike.findClass]; exact hown, hQ, hJ', fun _ k => st.trans k⟩
theorem own_callVW {y z : MethodName} {bytes : ByteArray} {maxL : Nat} {ret : Option FieldType} {rm : Room} {as' : Array Value} {own C : String} {index : Nat} (X : Stand p l e R (s.setVm vm0) m args below meth c T locs cells slots) (hS : s.Since vm0 h.size) (hL : own_L Z a0) (hJ : own_J Z vm0 h) (hx : p.tables.exec = Jvm.exec) (hZ : Z.Warmed39 (s.setVm vm0).vm) (hown : (s.setVm vm0).vm.findClass own = some m.cls)
    (w1 : (Jvm.Cond.methodLink own index y).before a0 Z = true) (wd : (Jvm.Cond.declares y).before a0 Z = true) (nf : NotFace (s.setVm vm0) y) (wsel : (Jvm.Cond.selects C y z).before a0 Z = true) (w2 : (Jvm.Cond.instanceMethod z).before a0 Z = true) (w3 : (Jvm.Cond.initialized z.cls).before a0 Z = true) (w4 : (Jvm.Cond.code z bytes maxL ret).before a0 Z = true) (hM : own_MetW l Z h z bytes maxL ret rm as' Q) (W : Nat) (nc ns : Nat) 
    (hc : cells + nc ≤ R.cells) (hs : slots + ns ≤ R.slots) (eT : T.heap = h) {a : Addr} (E : Exa Z h a C) {g : JFrame} (hg : g.method = m) (hsize : g.locals.size = c.maxLocals)
    (argsL rest : List Value) (hlen : ∀ sig, parseMethodDescriptor y.desc = some sig → argsL.length = sig.parameters.length) (hstack : g.stack = argsL.reverse ++ .ref a :: rest) (has : (Value.ref a :: argsL).toArray = as') (hdg : decode c.code g.pc = .ok (.invokevirtual index, 3))
    (hy : y.cls ≠ "java/lang/invoke/MethodHandle" ∧ y.cls ≠ "java/lang/invoke/VarHandle" := by decide) (hf : rm.frames + 1 ≤ R.frames := by decide) (hl : W + (maxL + 11) + rm.locals ≤ R.locals := by decide) (hW : 2 * g.monitorRoom + (rest.map fun v => v.category).sum ≤ W := by exact Nat.le_of_eq rfl) (hnc : rm.cells = nc := by rfl) (hns : rm.slots = ns := by rfl) :
    ∃ v T' L, Stand p l e R (s.setVm T'.vm) m args below meth c T' (locs ++ L) (cells + nc) (slots + ns) ∧ s.Since T'.vm T'.heap.size ∧ Z.Warmed39 (s.setVm T'.vm).vm ∧ (s.setVm T'.vm).vm.findClass own = some m.cls ∧ Q v T'.heap L ∧ own_J Z T'.vm T'.heap ∧ ∀ target, Steps p.tables e below (T'.setTop { g with pc := g.pc + 3, stack := v.toList ++ rest }) target → Steps p.tables e below (T.setTop g) target := by
  subst hnc hns
  obtain ⟨cq, kq, qa, qb, qc⟩ := isOf hZ eT E
  obtain ⟨v, _, ⟨T', L', k', n'⟩, -, X', hS', hgr, ⟨L, ⟨hQ, hJ'⟩, h1, h2, h3⟩, st⟩ := X.virtualBackS hx hown (mvT hZ w1) (mvT hZ wd) nf (mvT hZ wsel) (mvT hZ w2) hy (own_backJ (W := W) hM hL hZ hJ w4 w3 hf hl) qa qc hg hsize (Steps.refl _) (argsL := argsL) (rest := rest) hlen hstack hW hdg (fun _ _ => ⟨has, eT, hc, hs⟩)
  dsimp only [Pt.U, Pt.locs, Pt.cells, Pt.slots] at X' hS' hgr hQ hJ' h1 h2 h3 st
  subst h1 h2 h3
  have hS2 : s.Since T'.vm T'.heap.size := hS.trans hS' (by rw [← eT]; exact hgr)
  exact ⟨v, T', L, X', hS2, State.Warmed39.trans (t := s.setVm vm0) hZ hS'.1, by rw [show (s.setVm T'.vm).vm = T'.vm from rfl, hS'.1.alike.findClass]; exact hown, hQ, hJ', fun _ k => st.trans k⟩
theorem own_callPW {y : MethodName} {bytes : ByteArray} {maxL : Nat} {ret : Option FieldType} {rm : Room} {as' : Array Value} {own C : String} {index : Nat} (X : Stand p l e R (s.setVm vm0) m args below meth c T locs cells slots) (hS : s.Since vm0 h.size) (hL : own_L Z a0) (hJ : own_J Z vm0 h) (hx : p.tables.exec = Jvm.exec) (hZ : Z.Warmed39 (s.setVm vm0).vm) (hown : (s.setVm vm0).vm.findClass own = some m.cls)
    (w1 : (Jvm.Cond.methodLink own index y).before a0 Z = true) (w2 : (Jvm.Cond.instanceMethod y).before a0 Z = true) (wsel : (Jvm.Cond.selects y.cls y y).before a0 Z = true) (wp : (Jvm.Cond.privateMethod y).before a0 Z = true) (w3 : (Jvm.Cond.initialized y.cls).before a0 Z = true) (w4 : (Jvm.Cond.code y bytes maxL ret).before a0 Z = true) (hM : own_MetW l Z h y bytes maxL ret rm as' Q) (W : Nat) (nc ns : Nat) 
    (hc : cells + nc ≤ R.cells) (hs : slots + ns ≤ R.slots) (eT : T.heap = h) {a : Addr} (E : Exa Z h a C) {g : JFrame} (hg : g.method = m) (hsize : g.locals.size = c.maxLocals)
    (argsL rest : List Value) (hlen : ∀ sig, parseMethodDescriptor y.desc = some sig → argsL.length = sig.parameters.length) (hstack : g.stack = argsL.reverse ++ .ref a :: rest) (has : (Value.ref a :: argsL).toArray = as') (hdg : decode c.code g.pc = .ok (.invokevirtual index, 3))
    (hy : y.cls ≠ "java/lang/invoke/MethodHandle" ∧ y.cls ≠ "java/lang/invoke/VarHandle" := by decide) (hf : rm.frames + 1 ≤ R.frames := by decide) (hl : W + (maxL + 11) + rm.locals ≤ R.locals := by decide) (hW : 2 * g.monitorRoom + (rest.map fun v => v.category).sum ≤ W := by exact Nat.le_of_eq rfl) (hnc : rm.cells = nc := by rfl) (hns : rm.slots = ns := by rfl) :
    ∃ v T' L, Stand p l e R (s.setVm T'.vm) m args below meth c T' (locs ++ L) (cells + nc) (slots + ns) ∧ s.Since T'.vm T'.heap.size ∧ Z.Warmed39 (s.setVm T'.vm).vm ∧ (s.setVm T'.vm).vm.findClass own = some m.cls ∧ Q v T'.heap L ∧ own_J Z T'.vm T'.heap ∧ ∀ target, Steps p.tables e below (T'.setTop { g with pc := g.pc + 3, stack := v.toList ++ rest }) target → Steps p.tables e below (T.setTop g) target := by
  subst hnc hns
  obtain ⟨cq, q1, q2⟩ := E.cell
  obtain ⟨v, _, ⟨T', L', k', n'⟩, -, X', hS', hgr, ⟨L, ⟨hQ, hJ'⟩, h1, h2, h3⟩, st⟩ := X.privateBackS hx hown (mvT hZ w1) (mvT hZ w2) (mvT hZ wsel) (Cond.privateMethod_at (mvP hZ wp (args := #[]))) (mvT hZ w4) hy (own_backJ (W := W) hM hL hZ hJ w4 w3 hf hl) hg hsize (Steps.refl _) (a := a) (by rw [eT]; exact q1) q2 (argsL := argsL) (rest := rest) hlen hstack hW hdg (fun _ _ => ⟨has, eT, hc, hs⟩)
  dsimp only [Pt.U, Pt.locs, Pt.cells, Pt.slots] at X' hS' hgr hQ hJ' h1 h2 h3 st
  subst h1 h2 h3
  have hS2 : s.Since T'.vm T'.heap.size := hS.trans hS' (by rw [← eT]; exact hgr)
  exact ⟨v, T', L, X', hS2, State.Warmed39.trans (t := s.setVm vm0) hZ hS'.1, by rw [show (s.setVm T'.vm).vm = T'.vm from rfl, hS'.1.alike.findClass]; exact hown, hQ, hJ', fun _ k => st.trans k⟩
theorem own_callFW {xi y : MethodName} {bytes : ByteArray} {maxL : Nat} {ret : Option FieldType} {rm : Room} {as' : Array Value} {own C : String} {index count : Nat} (X : Stand p l e R (s.setVm vm0) m args below meth c T locs cells slots) (hS : s.Since vm0 h.size) (hL : own_L Z a0) (hJ : own_J Z vm0 h) (hx : p.tables.exec = Jvm.exec) (hZ : Z.Warmed39 (s.setVm vm0).vm) (hown : (s.setVm vm0).vm.findClass own = some m.cls)
    (w1 : (Jvm.Cond.methodLink own index xi).before a0 Z = true) (wd : (Jvm.Cond.declares xi).before a0 Z = true) (wfa : (Jvm.Cond.interfaceMethod xi.cls xi.cls xi.name xi.desc).before a0 Z = true) (wsel : (Jvm.Cond.selects C xi y).before a0 Z = true) (w2 : (Jvm.Cond.instanceMethod y).before a0 Z = true) (wp : (Jvm.Cond.publicMethod y).before a0 Z = true) (wu : (Jvm.Cond.unhidden C xi.name xi.desc).before a0 Z = true) (wk : (Jvm.Cond.castable C xi.cls).before a0 Z = true) (w3 : (Jvm.Cond.initialized y.cls).before a0 Z = true) (w4 : (Jvm.Cond.code y bytes maxL ret).before a0 Z = true) (hfk : ((Jvm.Cond.interfaceMethod xi.cls xi.cls xi.name xi.desc).onTables && (Jvm.Cond.interfaceMethod xi.cls xi.cls xi.name xi.desc).keepsFace) = true) (hM : own_MetW l Z h y bytes maxL ret rm as' Q) (W : Nat) (nc ns : Nat) 
    (hc : cells + nc ≤ R.cells) (hs : slots + ns ≤ R.slots) (eT : T.heap = h) {a : Addr} (E : Exa Z h a C) {g : JFrame} (hg : g.method = m) (hsize : g.locals.size = c.maxLocals)
    (argsL rest : List Value) (hlen : ∀ sig, parseMethodDescriptor xi.desc = some sig → argsL.length = sig.parameters.length) (hstack : g.stack = argsL.reverse ++ .ref a :: rest) (has : (Value.ref a :: argsL).toArray = as') (hdg : decode c.code g.pc = .ok (.invokeinterface index count, 5))
    (hy : xi.cls ≠ "java/lang/invoke/MethodHandle" ∧ xi.cls ≠ "java/lang/invoke/VarHandle" := by decide) (hf : rm.frames + 1 ≤ R.frames := by decide) (hl : W + (maxL + 11) + rm.locals ≤ R.locals := by decide) (hW : 2 * g.monitorRoom + (rest.map fun v => v.category).sum ≤ W := by exact Nat.le_of_eq rfl) (hnc : rm.cells = nc := by rfl) (hns : rm.slots = ns := by rfl) :
    ∃ v T' L, Stand p l e R (s.setVm T'.vm) m args below meth c T' (locs ++ L) (cells + nc) (slots + ns) ∧ s.Since T'.vm T'.heap.size ∧ Z.Warmed39 (s.setVm T'.vm).vm ∧ (s.setVm T'.vm).vm.findClass own = some m.cls ∧ Q v T'.heap L ∧ own_J Z T'.vm T'.heap ∧ ∀ target, Steps p.tables e below (T'.setTop { g with pc := g.pc + 5, stack := v.toList ++ rest }) target → Steps p.tables e below (T.setTop g) target := by
  subst hnc hns
  obtain ⟨cq, kq, qa, qb, qc⟩ := isOf hZ eT E
  obtain ⟨v, _, ⟨T', L', k', n'⟩, -, X', hS', hgr, ⟨L, ⟨hQ, hJ'⟩, h1, h2, h3⟩, st⟩ := X.interfaceBackS hx hown (mvT hZ w1) (mvT hZ wd) (mvT hZ wfa hfk) (mvT hZ wsel) (mvT hZ w2) (mvT hZ wp) (mvT hZ wu) (mvT hZ wk) hy (own_backJ (W := W) hM hL hZ hJ w4 w3 hf hl) qa qb qc hg hsize (Steps.refl _) (argsL := argsL) (rest := rest) hlen hstack hW hdg (fun _ _ => ⟨has, eT, hc, hs⟩)
  dsimp only [Pt.U, Pt.locs, Pt.cells, Pt.slots] at X' hS' hgr hQ hJ' h1 h2 h3 st
  subst h1 h2 h3
  have hS2 : s.Since T'.vm T'.heap.size := hS.trans hS' (by rw [← eT]; exact hgr)
  exact ⟨v, T', L, X', hS2, State.Warmed39.trans (t := s.setVm vm0) hZ hS'.1, by rw [show (s.setVm T'.vm).vm = T'.vm from rfl, hS'.1.alike.findClass]; exact hown, hQ, hJ', fun _ k => st.trans k⟩
theorem own_callUW {y z : MethodName} {bytes : ByteArray} {maxL : Nat} {ret : Option FieldType} {rm : Room} {as' : Array Value} {own owner C : String} {index : Nat} (X : Stand p l e R (s.setVm vm0) m args below meth c T locs cells slots) (hS : s.Since vm0 h.size) (hL : own_L Z a0) (hJ : own_J Z vm0 h) (hx : p.tables.exec = Jvm.exec) (hZ : Z.Warmed39 (s.setVm vm0).vm) (hown : (s.setVm vm0).vm.findClass own = some m.cls)
    (w1 : (Jvm.Cond.methodLink own index y).before a0 Z = true) (wsm : (Jvm.Cond.sameMethod y.cls owner y.name y.desc).before a0 Z = true) (wd : (Jvm.Cond.declares ⟨owner, y.name, y.desc⟩).before a0 Z = true) (wsel : (Jvm.Cond.selects C y z).before a0 Z = true) (w2 : (Jvm.Cond.instanceMethod z).before a0 Z = true) (w3 : (Jvm.Cond.initialized z.cls).before a0 Z = true) (w4 : (Jvm.Cond.code z bytes maxL ret).before a0 Z = true) (hM : own_MetW l Z h z bytes maxL ret rm as' Q) (W : Nat) (nc ns : Nat) 
    (hc : cells + nc ≤ R.cells) (hs : slots + ns ≤ R.slots) (eT : T.heap = h) {a : Addr} (E : Exa Z h a C) {g : JFrame} (hg : g.method = m) (hsize : g.locals.size = c.maxLocals)
    (argsL rest : List Value) (hlen : ∀ sig, parseMethodDescriptor y.desc = some sig → argsL.length = sig.parameters.length) (hstack : g.stack = argsL.reverse ++ .ref a :: rest) (has : (Value.ref a :: argsL).toArray = as') (hdg : decode c.code g.pc = .ok (.invokevirtual index, 3))
    (howner : owner ≠ "java/lang/invoke/MethodHandle" ∧ owner ≠ "java/lang/invoke/VarHandle" := by decide) (hf : rm.frames + 1 ≤ R.frames := by decide) (hl : W + (maxL + 11) + rm.locals ≤ R.locals := by decide) (hW : 2 * g.monitorRoom + (rest.map fun v => v.category).sum ≤ W := by exact Nat.le_of_eq rfl) (hnc : rm.cells = nc := by rfl) (hns : rm.slots = ns := by rfl) :
    ∃ v T' L, Stand p l e R (s.setVm T'.vm) m args below meth c T' (locs ++ L) (cells + nc) (slots + ns) ∧ s.Since T'.vm T'.heap.size ∧ Z.Warmed39 (s.setVm T'.vm).vm ∧ (s.setVm T'.vm).vm.findClass own = some m.cls ∧ Q v T'.heap L ∧ own_J Z T'.vm T'.heap ∧ ∀ target, Steps p.tables e below (T'.setTop { g with pc := g.pc + 3, stack := v.toList ++ rest }) target → Steps p.tables e below (T.setTop g) target := by
  subst hnc hns
  obtain ⟨cq, kq, qa, qb, qc⟩ := isOf hZ eT E
  obtain ⟨v, _, ⟨T', L', k', n'⟩, -, X', hS', hgr, ⟨L, ⟨hQ, hJ'⟩, h1, h2, h3⟩, st⟩ := X.virtualBackUpS hx hown (mvT hZ w1) (mvT hZ wsm) (mvT hZ wd) howner (mvT hZ wsel) (mvT hZ w2) (own_backJ (W := W) hM hL hZ hJ w4 w3 hf hl) qa qc hg hsize (Steps.refl _) (argsL := argsL) (rest := rest) hlen hstack hW hdg (fun _ _ => ⟨has, eT, hc, hs⟩)
  dsimp only [Pt.U, Pt.locs, Pt.cells, Pt.slots] at X' hS' hgr hQ hJ' h1 h2 h3 st
  subst h1 h2 h3
  have hS2 : s.Since T'.vm T'.heap.size := hS.trans hS' (by rw [← eT]; exact hgr)
  exact ⟨v, T', L, X', hS2, State.Warmed39.trans (t := s.setVm vm0) hZ hS'.1, by rw [show (s.setVm T'.vm).vm = T'.vm from rfl, hS'.1.alike.findClass]; exact hown, hQ, hJ', fun _ k => st.trans k⟩
end OwnKitW2
theorem own_fd0 : parseFieldDescriptor "[B" = some (.array .byte) := by decide +kernel
theorem own_fd1 : parseFieldDescriptor "B" = some .byte := by decide +kernel
abbrev own_W (Z : State) (a0 : Array Value) : Prop := ∀ d ∈ tables_1, d.before a0 Z = true
abbrev own_y0 : MethodName := ⟨"java/lang/String", "<init>", "([CIILjava/lang/Void;)V"⟩
abbrev own_y1 : MethodName := ⟨"java/lang/String", "<init>", "([C)V"⟩
abbrev own_y2 : MethodName := ⟨"com/example/slotsholmen/slotsholmen/schema/GroupPointsAtTargetPinLaw", "word", "(I)Ljava/lang/String;"⟩
abbrev own_y3 : MethodName := ⟨"com/example/slotsholmen/slotsholmen/schema/GroupPointsAtTargetPinLaw", "section", "(I)Lcom/example/slotsholmen/slotsholmen/schema/Section;"⟩
abbrev own_y4 : MethodName := ⟨"com/example/slotsholmen/slotsholmen/schema/Group", "pointsAtTarget", "(Lcom/example/slotsholmen/slotsholmen/schema/Section;Ljava/lang/String;)Z"⟩
abbrev own_y5 : MethodName := ⟨"java/lang/String", "equals", "(Ljava/lang/Object;)Z"⟩
abbrev own_y6 : MethodName := ⟨"java/lang/String", "charAt", "(I)C"⟩
abbrev own_y7 : MethodName := ⟨"com/example/slotsholmen/slotsholmen/schema/GroupPointsAtTargetPinLaw", "cell", "(Ljava/lang/String;IICI)C"⟩
abbrev own_y8 : MethodName := ⟨"java/lang/String", "length", "()I"⟩
abbrev own_y9 : MethodName := ⟨"java/lang/Object", "<init>", "()V"⟩
theorem ow0 {Z : State} {a0 : Array Value} (hw : own_W Z a0) : (Cond.constant "com/example/slotsholmen/slotsholmen/schema/GroupPointsAtTargetPinLaw" (33 : Nat) (2147483647 : Int32)).before a0 Z = true := hw _ (List.mem_of_getElem? (i := 0) rfl)
theorem ow1 {Z : State} {a0 : Array Value} (hw : own_W Z a0) : (Cond.methodLink "com/example/slotsholmen/slotsholmen/schema/GroupPointsAtTargetPinLaw" (34 : Nat) own_y2).before a0 Z = true := hw _ (List.mem_of_getElem? (i := 1) rfl)
theorem ow2 {Z : State} {a0 : Array Value} (hw : own_W Z a0) : (Cond.static own_y2).before a0 Z = true := hw _ (List.mem_of_getElem? (i := 2) rfl)
theorem ow3 {Z : State} {a0 : Array Value} (hw : own_W Z a0) : (Cond.initialized "com/example/slotsholmen/slotsholmen/schema/GroupPointsAtTargetPinLaw").before a0 Z = true := hw _ (List.mem_of_getElem? (i := 3) rfl)
theorem ow4 {Z : State} {a0 : Array Value} (hw : own_W Z a0) : (Cond.code own_y2 method_2_code (1 : Nat) (Option.some (Jvm.ClassFile.FieldType.object "java/lang/String"))).before a0 Z = true := hw _ (List.mem_of_getElem? (i := 4) rfl)
theorem ow5 {Z : State} {a0 : Array Value} (hw : own_W Z a0) : (Cond.stringLink "com/example/slotsholmen/slotsholmen/schema/GroupPointsAtTargetPinLaw" (13 : Nat) "").before a0 Z = true := hw _ (List.mem_of_getElem? (i := 5) rfl)
theorem ow6 {Z : State} {a0 : Array Value} (hw : own_W Z a0) : (Cond.initialized "java/lang/String").before a0 Z = true := hw _ (List.mem_of_getElem? (i := 6) rfl)
theorem ow7 {Z : State} {a0 : Array Value} (hw : own_W Z a0) : (Cond.instantiable "java/lang/String" (4 : Nat)).before a0 Z = true := hw _ (List.mem_of_getElem? (i := 7) rfl)
theorem ow8 {Z : State} {a0 : Array Value} (hw : own_W Z a0) : (Cond.arrayClass Jvm.ClassFile.FieldType.byte).before a0 Z = true := hw _ (List.mem_of_getElem? (i := 8) rfl)
theorem ow9 {Z : State} {a0 : Array Value} (hw : own_W Z a0) : (Cond.laysFinal "java/lang/String" "java/lang/String" "value" "[B").before a0 Z = true := hw _ (List.mem_of_getElem? (i := 9) rfl)
theorem ow10 {Z : State} {a0 : Array Value} (hw : own_W Z a0) : (Cond.laysFinal "java/lang/String" "java/lang/String" "coder" "B").before a0 Z = true := hw _ (List.mem_of_getElem? (i := 10) rfl)
theorem ow11 {Z : State} {a0 : Array Value} (hw : own_W Z a0) : (Cond.soleField "java/lang/String" "value").before a0 Z = true := hw _ (List.mem_of_getElem? (i := 11) rfl)
theorem ow12 {Z : State} {a0 : Array Value} (hw : own_W Z a0) : (Cond.soleField "java/lang/String" "coder").before a0 Z = true := hw _ (List.mem_of_getElem? (i := 12) rfl)
theorem ow13 {Z : State} {a0 : Array Value} (hw : own_W Z a0) : (Cond.methodLink "com/example/slotsholmen/slotsholmen/schema/GroupPointsAtTargetPinLaw" (40 : Nat) own_y8).before a0 Z = true := hw _ (List.mem_of_getElem? (i := 13) rfl)
theorem ow14 {Z : State} {a0 : Array Value} (hw : own_W Z a0) : (Cond.declares own_y8).before a0 Z = true := hw _ (List.mem_of_getElem? (i := 14) rfl)
theorem ow15 {Z : State} {a0 : Array Value} (hw : own_W Z a0) : (Cond.instanceMethod own_y8).before a0 Z = true := hw _ (List.mem_of_getElem? (i := 15) rfl)
theorem ow16 {Z : State} {a0 : Array Value} (hw : own_W Z a0) : (Cond.selects "java/lang/String" own_y8 own_y8).before a0 Z = true := hw _ (List.mem_of_getElem? (i := 16) rfl)
theorem ow17 {Z : State} {a0 : Array Value} (hw : own_W Z a0) : (Cond.code own_y8 jdk_42_method_54_code (1 : Nat) (Option.some Jvm.ClassFile.FieldType.int)).before a0 Z = true := hw _ (List.mem_of_getElem? (i := 17) rfl)
theorem ow18 {Z : State} {a0 : Array Value} (hw : own_W Z a0) : (Cond.fieldLink "java/lang/String" (9 : Nat) "java/lang/String" "value" "[B").before a0 Z = true := hw _ (List.mem_of_getElem? (i := 18) rfl)
theorem ow25 {Z : State} {a0 : Array Value} (hw : own_W Z a0) : (Cond.fieldLink "java/lang/String" (15 : Nat) "java/lang/String" "coder" "B").before a0 Z = true := hw _ (List.mem_of_getElem? (i := 25) rfl)
theorem ow26 {Z : State} {a0 : Array Value} (hw : own_W Z a0) : (Cond.arrayClass Jvm.ClassFile.FieldType.char).before a0 Z = true := hw _ (List.mem_of_getElem? (i := 26) rfl)
theorem ow27 {Z : State} {a0 : Array Value} (hw : own_W Z a0) : (Cond.classLink "com/example/slotsholmen/slotsholmen/schema/GroupPointsAtTargetPinLaw" (28 : Nat) "java/lang/String").before a0 Z = true := hw _ (List.mem_of_getElem? (i := 27) rfl)
theorem ow28 {Z : State} {a0 : Array Value} (hw : own_W Z a0) : (Cond.methodLink "com/example/slotsholmen/slotsholmen/schema/GroupPointsAtTargetPinLaw" (48 : Nat) own_y1).before a0 Z = true := hw _ (List.mem_of_getElem? (i := 28) rfl)
theorem ow29 {Z : State} {a0 : Array Value} (hw : own_W Z a0) : (Cond.instanceMethod own_y1).before a0 Z = true := hw _ (List.mem_of_getElem? (i := 29) rfl)
theorem ow30 {Z : State} {a0 : Array Value} (hw : own_W Z a0) : (Cond.code own_y1 jdk_42_method_3_code (2 : Nat) (Option.none : Option Jvm.ClassFile.FieldType)).before a0 Z = true := hw _ (List.mem_of_getElem? (i := 30) rfl)
theorem ow31 {Z : State} {a0 : Array Value} (hw : own_W Z a0) : (Cond.methodLink "java/lang/String" (27 : Nat) own_y0).before a0 Z = true := hw _ (List.mem_of_getElem? (i := 31) rfl)
theorem ow32 {Z : State} {a0 : Array Value} (hw : own_W Z a0) : (Cond.instanceMethod own_y0).before a0 Z = true := hw _ (List.mem_of_getElem? (i := 32) rfl)
theorem ow34 {Z : State} {a0 : Array Value} (hw : own_W Z a0) : (Cond.code own_y0 jdk_42_method_149_code (6 : Nat) (Option.none : Option Jvm.ClassFile.FieldType)).before a0 Z = true := hw _ (List.mem_of_getElem? (i := 34) rfl)
theorem ow35 {Z : State} {a0 : Array Value} (hw : own_W Z a0) : (Cond.methodLink "java/lang/String" (1 : Nat) own_y9).before a0 Z = true := hw _ (List.mem_of_getElem? (i := 35) rfl)
theorem ow36 {Z : State} {a0 : Array Value} (hw : own_W Z a0) : (Cond.instanceMethod own_y9).before a0 Z = true := hw _ (List.mem_of_getElem? (i := 36) rfl)
theorem ow37 {Z : State} {a0 : Array Value} (hw : own_W Z a0) : (Cond.code own_y9 object_method_1_code (1 : Nat) (Option.none : Option Jvm.ClassFile.FieldType)).before a0 Z = true := hw _ (List.mem_of_getElem? (i := 37) rfl)
theorem ow38 {Z : State} {a0 : Array Value} (hw : own_W Z a0) : (Cond.stringLink "java/lang/String" (7 : Nat) "").before a0 Z = true := hw _ (List.mem_of_getElem? (i := 38) rfl)
theorem ow39 {Z : State} {a0 : Array Value} (hw : own_W Z a0) : (Cond.methodLink "com/example/slotsholmen/slotsholmen/schema/GroupPointsAtTargetPinLaw" (51 : Nat) own_y3).before a0 Z = true := hw _ (List.mem_of_getElem? (i := 39) rfl)
theorem ow40 {Z : State} {a0 : Array Value} (hw : own_W Z a0) : (Cond.static own_y3).before a0 Z = true := hw _ (List.mem_of_getElem? (i := 40) rfl)
theorem ow41 {Z : State} {a0 : Array Value} (hw : own_W Z a0) : (Cond.code own_y3 method_3_code (1 : Nat) (Option.some (Jvm.ClassFile.FieldType.object "com/example/slotsholmen/slotsholmen/schema/Section"))).before a0 Z = true := hw _ (List.mem_of_getElem? (i := 41) rfl)
theorem ow42 {Z : State} {a0 : Array Value} (hw : own_W Z a0) : (Cond.fieldLink "com/example/slotsholmen/slotsholmen/schema/GroupPointsAtTargetPinLaw" (15 : Nat) "com/example/slotsholmen/slotsholmen/schema/Section" "ATTRIBUTES" "Lcom/example/slotsholmen/slotsholmen/schema/Section;").before a0 Z = true := hw _ (List.mem_of_getElem? (i := 42) rfl)
theorem ow43 {Z : State} {a0 : Array Value} (hw : own_W Z a0) : (Cond.initialized "com/example/slotsholmen/slotsholmen/schema/Section").before a0 Z = true := hw _ (List.mem_of_getElem? (i := 43) rfl)
theorem ow44 {Z : State} {a0 : Array Value} (hw : own_W Z a0) : (Cond.laysStatic "com/example/slotsholmen/slotsholmen/schema/Section" "ATTRIBUTES" "Lcom/example/slotsholmen/slotsholmen/schema/Section;").before a0 Z = true := hw _ (List.mem_of_getElem? (i := 44) rfl)
theorem ow45 {Z : State} {a0 : Array Value} (hw : own_W Z a0) : (Cond.methodLink "com/example/slotsholmen/slotsholmen/schema/GroupPointsAtTargetPinLaw" (55 : Nat) own_y4).before a0 Z = true := hw _ (List.mem_of_getElem? (i := 45) rfl)
theorem ow46 {Z : State} {a0 : Array Value} (hw : own_W Z a0) : (Cond.static own_y4).before a0 Z = true := hw _ (List.mem_of_getElem? (i := 46) rfl)
theorem ow47 {Z : State} {a0 : Array Value} (hw : own_W Z a0) : (Cond.initialized "com/example/slotsholmen/slotsholmen/schema/Group").before a0 Z = true := hw _ (List.mem_of_getElem? (i := 47) rfl)
theorem ow48 {Z : State} {a0 : Array Value} (hw : own_W Z a0) : (Cond.code own_y4 prog_32_method_4_code (2 : Nat) (Option.some Jvm.ClassFile.FieldType.boolean)).before a0 Z = true := hw _ (List.mem_of_getElem? (i := 48) rfl)
theorem ow49 {Z : State} {a0 : Array Value} (hw : own_W Z a0) : (Cond.fieldLink "com/example/slotsholmen/slotsholmen/schema/Group" (55 : Nat) "com/example/slotsholmen/slotsholmen/schema/Section" "RELATIONS" "Lcom/example/slotsholmen/slotsholmen/schema/Section;").before a0 Z = true := hw _ (List.mem_of_getElem? (i := 49) rfl)
theorem ow50 {Z : State} {a0 : Array Value} (hw : own_W Z a0) : (Cond.laysStatic "com/example/slotsholmen/slotsholmen/schema/Section" "RELATIONS" "Lcom/example/slotsholmen/slotsholmen/schema/Section;").before a0 Z = true := hw _ (List.mem_of_getElem? (i := 50) rfl)
theorem ow51 {Z : State} {a0 : Array Value} (hw : own_W Z a0) : (Cond.stringLink "com/example/slotsholmen/slotsholmen/schema/GroupPointsAtTargetPinLaw" (7 : Nat) "uuid").before a0 Z = true := hw _ (List.mem_of_getElem? (i := 51) rfl)
theorem ow52 {Z : State} {a0 : Array Value} (hw : own_W Z a0) : (Cond.stringLink "com/example/slotsholmen/slotsholmen/schema/GroupPointsAtTargetPinLaw" (11 : Nat) "objekttype").before a0 Z = true := hw _ (List.mem_of_getElem? (i := 52) rfl)
theorem ow53 {Z : State} {a0 : Array Value} (hw : own_W Z a0) : (Cond.methodLink "com/example/slotsholmen/slotsholmen/schema/GroupPointsAtTargetPinLaw" (44 : Nat) own_y7).before a0 Z = true := hw _ (List.mem_of_getElem? (i := 53) rfl)
theorem ow54 {Z : State} {a0 : Array Value} (hw : own_W Z a0) : (Cond.static own_y7).before a0 Z = true := hw _ (List.mem_of_getElem? (i := 54) rfl)
theorem ow55 {Z : State} {a0 : Array Value} (hw : own_W Z a0) : (Cond.code own_y7 method_4_code (5 : Nat) (Option.some Jvm.ClassFile.FieldType.char)).before a0 Z = true := hw _ (List.mem_of_getElem? (i := 55) rfl)
theorem ow56 {Z : State} {a0 : Array Value} (hw : own_W Z a0) : (Cond.methodLink "com/example/slotsholmen/slotsholmen/schema/GroupPointsAtTargetPinLaw" (27 : Nat) own_y6).before a0 Z = true := hw _ (List.mem_of_getElem? (i := 56) rfl)
theorem ow57 {Z : State} {a0 : Array Value} (hw : own_W Z a0) : (Cond.declares own_y6).before a0 Z = true := hw _ (List.mem_of_getElem? (i := 57) rfl)
theorem ow58 {Z : State} {a0 : Array Value} (hw : own_W Z a0) : (Cond.instanceMethod own_y6).before a0 Z = true := hw _ (List.mem_of_getElem? (i := 58) rfl)
theorem ow59 {Z : State} {a0 : Array Value} (hw : own_W Z a0) : (Cond.selects "java/lang/String" own_y6 own_y6).before a0 Z = true := hw _ (List.mem_of_getElem? (i := 59) rfl)
theorem ow60 {Z : State} {a0 : Array Value} (hw : own_W Z a0) : (Cond.code own_y6 jdk_42_method_56_code (2 : Nat) (Option.some Jvm.ClassFile.FieldType.char)).before a0 Z = true := hw _ (List.mem_of_getElem? (i := 60) rfl)
theorem ow88 {Z : State} {a0 : Array Value} (hw : own_W Z a0) : (Cond.fieldLink "com/example/slotsholmen/slotsholmen/schema/GroupPointsAtTargetPinLaw" (24 : Nat) "com/example/slotsholmen/slotsholmen/schema/Section" "RELATIONS" "Lcom/example/slotsholmen/slotsholmen/schema/Section;").before a0 Z = true := hw _ (List.mem_of_getElem? (i := 88) rfl)
theorem ow89 {Z : State} {a0 : Array Value} (hw : own_W Z a0) : (Cond.stringLink "com/example/slotsholmen/slotsholmen/schema/Group" (30 : Nat) "uuid").before a0 Z = true := hw _ (List.mem_of_getElem? (i := 89) rfl)
theorem ow90 {Z : State} {a0 : Array Value} (hw : own_W Z a0) : (Cond.methodLink "com/example/slotsholmen/slotsholmen/schema/Group" (61 : Nat) own_y5).before a0 Z = true := hw _ (List.mem_of_getElem? (i := 90) rfl)
theorem ow91 {Z : State} {a0 : Array Value} (hw : own_W Z a0) : (Cond.declares own_y5).before a0 Z = true := hw _ (List.mem_of_getElem? (i := 91) rfl)
theorem ow92 {Z : State} {a0 : Array Value} (hw : own_W Z a0) : (Cond.instanceMethod own_y5).before a0 Z = true := hw _ (List.mem_of_getElem? (i := 92) rfl)
theorem ow93 {Z : State} {a0 : Array Value} (hw : own_W Z a0) : (Cond.selects "java/lang/String" own_y5 own_y5).before a0 Z = true := hw _ (List.mem_of_getElem? (i := 93) rfl)
theorem ow94 {Z : State} {a0 : Array Value} (hw : own_W Z a0) : (Cond.code own_y5 jdk_42_method_66_code (3 : Nat) (Option.some Jvm.ClassFile.FieldType.boolean)).before a0 Z = true := hw _ (List.mem_of_getElem? (i := 94) rfl)
theorem ow99 {Z : State} {a0 : Array Value} (hw : own_W Z a0) : (Cond.stringLink "com/example/slotsholmen/slotsholmen/schema/Group" (37 : Nat) "urn").before a0 Z = true := hw _ (List.mem_of_getElem? (i := 99) rfl)
theorem ow100 {Z : State} {a0 : Array Value} (hw : own_W Z a0) : (Cond.stringLink "com/example/slotsholmen/slotsholmen/schema/Group" (39 : Nat) "objekttype").before a0 Z = true := hw _ (List.mem_of_getElem? (i := 100) rfl)
theorem ow101 {Z : State} {a0 : Array Value} (hw : own_W Z a0) : (Cond.fieldLink "com/example/slotsholmen/slotsholmen/schema/GroupPointsAtTargetPinLaw" (21 : Nat) "com/example/slotsholmen/slotsholmen/schema/Section" "STATES" "Lcom/example/slotsholmen/slotsholmen/schema/Section;").before a0 Z = true := hw _ (List.mem_of_getElem? (i := 101) rfl)
theorem ow102 {Z : State} {a0 : Array Value} (hw : own_W Z a0) : (Cond.laysStatic "com/example/slotsholmen/slotsholmen/schema/Section" "STATES" "Lcom/example/slotsholmen/slotsholmen/schema/Section;").before a0 Z = true := hw _ (List.mem_of_getElem? (i := 102) rfl)
theorem ow103 {Z : State} {a0 : Array Value} (hw : own_W Z a0) : (Cond.stringLink "com/example/slotsholmen/slotsholmen/schema/GroupPointsAtTargetPinLaw" (9 : Nat) "urn").before a0 Z = true := hw _ (List.mem_of_getElem? (i := 103) rfl)
theorem own_sn0 {Z : State} {a0 : Array Value} (hw : own_W Z a0) : Jvm.RoadKit.slotOf Z "java/lang/String" "coder" "B" ≠ Jvm.RoadKit.slotOf Z "java/lang/String" "value" "[B" := slot_ne (Or.inr (ow10 hw)) (Or.inr (ow9 hw)) (by decide +kernel) (t := .byte) (t' := (.array .byte)) own_fd1 own_fd0
theorem own_Lhw {Z : State} {a0 : Array Value} (hw : own_W Z a0) : own_L Z a0 := by
  intro e he
  simp only [consts_1, List.mem_cons, List.not_mem_nil, or_false] at he
  rcases he with rfl | rfl | rfl | rfl | rfl | rfl | rfl | rfl
  · exact ⟨_, hw _ (List.mem_of_getElem? (i := 89) rfl)⟩
  · exact ⟨_, hw _ (List.mem_of_getElem? (i := 99) rfl)⟩
  · exact ⟨_, hw _ (List.mem_of_getElem? (i := 100) rfl)⟩
  · exact ⟨_, hw _ (List.mem_of_getElem? (i := 51) rfl)⟩
  · exact ⟨_, hw _ (List.mem_of_getElem? (i := 103) rfl)⟩
  · exact ⟨_, hw _ (List.mem_of_getElem? (i := 52) rfl)⟩
  · exact ⟨_, hw _ (List.mem_of_getElem? (i := 5) rfl)⟩
  · exact ⟨_, hw _ (List.mem_of_getElem? (i := 38) rfl)⟩
theorem own_Jstart {s : State} {a0 args : Array Value} {tb : Tables} {e : Env} (hw : ∀ d ∈ tables_1, d.before a0 s = true) (hcw : (Jvm.Cond.not (Jvm.Cond.eq (Jvm.Term.static "java/lang/String" "COMPACT_STRINGS" "Z") (Jvm.Term.int (0 : Int32)))).before a0 s = true) (hc : Calls_1 tb e args s) : own_J s s.vm s.heap := by
  intro e he
  have hh := hc.1 e he
  simp only [consts_1, List.mem_cons, List.not_mem_nil, or_false] at he
  rcases he with rfl | rfl | rfl | rfl | rfl | rfl | rfl | rfl
  · exact heldStart hh (hw _ (List.mem_of_getElem? (i := 89) rfl)) (by decide) hcw (hw _ (List.mem_of_getElem? (i := 8) rfl)) (hw _ (List.mem_of_getElem? (i := 7) rfl))
  · exact heldStart hh (hw _ (List.mem_of_getElem? (i := 99) rfl)) (by decide) hcw (hw _ (List.mem_of_getElem? (i := 8) rfl)) (hw _ (List.mem_of_getElem? (i := 7) rfl))
  · exact heldStart hh (hw _ (List.mem_of_getElem? (i := 100) rfl)) (by decide) hcw (hw _ (List.mem_of_getElem? (i := 8) rfl)) (hw _ (List.mem_of_getElem? (i := 7) rfl))
  · exact heldStart hh (hw _ (List.mem_of_getElem? (i := 51) rfl)) (by decide) hcw (hw _ (List.mem_of_getElem? (i := 8) rfl)) (hw _ (List.mem_of_getElem? (i := 7) rfl))
  · exact heldStart hh (hw _ (List.mem_of_getElem? (i := 103) rfl)) (by decide) hcw (hw _ (List.mem_of_getElem? (i := 8) rfl)) (hw _ (List.mem_of_getElem? (i := 7) rfl))
  · exact heldStart hh (hw _ (List.mem_of_getElem? (i := 52) rfl)) (by decide) hcw (hw _ (List.mem_of_getElem? (i := 8) rfl)) (hw _ (List.mem_of_getElem? (i := 7) rfl))
  · exact heldStart hh (hw _ (List.mem_of_getElem? (i := 5) rfl)) (by decide) hcw (hw _ (List.mem_of_getElem? (i := 8) rfl)) (hw _ (List.mem_of_getElem? (i := 7) rfl))
  · exact heldStart hh (hw _ (List.mem_of_getElem? (i := 38) rfl)) (by decide) hcw (hw _ (List.mem_of_getElem? (i := 8) rfl)) (hw _ (List.mem_of_getElem? (i := 7) rfl))
theorem own_pd_0 : parseMethodDescriptor "([CIILjava/lang/Void;)V" = some ⟨[(.array .char), .int, .int, (.object "java/lang/Void")], none⟩ := by decide +kernel
theorem own_pd_1 : parseMethodDescriptor "(Ljava/lang/Object;)Z" = some ⟨[(.object "java/lang/Object")], some .boolean⟩ := by decide +kernel
theorem own_pd_2 : parseMethodDescriptor "(I)C" = some ⟨[.int], some .char⟩ := by decide +kernel
theorem own_pd_3 : parseMethodDescriptor "(I)Lcom/example/slotsholmen/slotsholmen/schema/Section;" = some ⟨[.int], some (.object "com/example/slotsholmen/slotsholmen/schema/Section")⟩ := by decide +kernel
theorem own_pd_4 : parseMethodDescriptor "(Lcom/example/slotsholmen/slotsholmen/schema/Section;Ljava/lang/String;)Z" = some ⟨[(.object "com/example/slotsholmen/slotsholmen/schema/Section"), (.object "java/lang/String")], some .boolean⟩ := by decide +kernel
theorem own_pd_5 : parseMethodDescriptor "([C)V" = some ⟨[(.array .char)], none⟩ := by decide +kernel
theorem own_pd_6 : parseMethodDescriptor "(Ljava/lang/String;IICI)C" = some ⟨[(.object "java/lang/String"), .int, .int, .char, .int], some .char⟩ := by decide +kernel
theorem own_pd_7 : parseMethodDescriptor "()I" = some ⟨[], some .int⟩ := by decide +kernel
theorem own_pd_8 : parseMethodDescriptor "(I)Ljava/lang/String;" = some ⟨[.int], some (.object "java/lang/String")⟩ := by decide +kernel
theorem own_pn_0 : plainName "java/lang/String" = true := by first | (simp [plainName, overriddenIn]; done) | decide +kernel
theorem own_pn_1 : plainName "com/example/slotsholmen/slotsholmen/schema/GroupPointsAtTargetPinLaw" = true := by first | (simp [plainName, overriddenIn]; done) | decide +kernel
theorem own_pn_2 : plainName "com/example/slotsholmen/slotsholmen/schema/Group" = true := by first | (simp [plainName, overriddenIn]; done) | decide +kernel
theorem own_wS {Z : State} {a0 : Array Value} (hw : ∀ d ∈ tables_1, d.before a0 Z = true) : ∀ a ∈ Bundle.stringAtoms, a.before a0 Z = true := by
  intro d hd
  simp only [Bundle.stringAtoms, List.mem_cons, List.not_mem_nil, or_false] at hd
  rcases hd with rfl | rfl | rfl | rfl | rfl | rfl | rfl
  · exact (ow6 hw)
  · exact (ow7 hw)
  · exact (ow8 hw)
  · exact (ow9 hw)
  · exact (ow10 hw)
  · exact (ow11 hw)
  · exact (ow12 hw)
def own_C8 (c : Int32) : Prop := ¬ c < 0 ∧ ¬ (255 : Int32) < c
theorem own_c8m (x : Int32) : own_C8 (x &&& (255 : Int32)) := by
  have a1 := c_and x 255 (by decide)
  have a2 : (255 : Int32).toInt = 255 := by decide
  have a3 : (0 : Int32).toInt = 0 := by decide
  exact ⟨by rw [Int32.lt_iff_toInt_lt]; omega, by rw [Int32.lt_iff_toInt_lt]; omega⟩
theorem own_narM (x : Int32) : nar .char (x &&& (255 : Int32)) = (x &&& (255 : Int32)) := i2c_mask x
theorem own_nar8 {c : Int32} (h : own_C8 c) : nar .char c = c := by
  have a1 := c_i2c c
  have a2 : (255 : Int32).toInt = 255 := by decide
  have a3 : (0 : Int32).toInt = 0 := by decide
  have a4 := mt Int32.lt_iff_toInt_lt.mpr h.1
  have a5 := mt Int32.lt_iff_toInt_lt.mpr h.2
  exact Int32.toInt_inj.mp (by show c.toUInt32.toUInt16.toUInt32.toInt32.toInt = c.toInt; omega)
theorem own_shr0 (x : Int32) : x >>> ((0 : Int32) &&& 31) = x := by
  have a := c_ishr x 0 0 (by decide)
  exact Int32.toInt_inj.mp (by rw [a]; simp)
theorem own_shl0 (x : Int32) : x <<< ((0 : Int32) &&& 31) = x := by
  have a := c_ishl x 0 0 (by decide)
  have b := rng32 x
  have c := rng32 (x <<< ((0 : Int32) &&& 31))
  have e : ((2 ^ 0 : Nat) : Int) = 1 := rfl
  rw [e, Int.mul_one] at a
  exact Int32.toInt_inj.mp (by omega)
theorem own_narB (x : Int32) : nar .byte x.toInt8.toInt32 = x.toInt8.toInt32 := by
  have a1 := c_i2b x
  have a2 := c_i2b x.toInt8.toInt32
  exact Int32.toInt_inj.mp (by show x.toInt8.toInt32.toInt8.toInt32.toInt = x.toInt8.toInt32.toInt; omega)
theorem own_c8n {c : Int32} (h : own_C8 c) : own_C8 (nar .char c) := by rw [own_nar8 h]; exact h
theorem own_c8l (x : Int64) : own_C8 (((x &&& (255 : Int64)).toInt32).toUInt32.toUInt16.toUInt32.toInt32) := by
  have a1 := c_i2c ((x &&& (255 : Int64)).toInt32)
  have a2 : (255 : Int32).toInt = 255 := by decide
  have a3 : (0 : Int32).toInt = 0 := by decide
  have a4 := c_maskL x 255 8 (by decide) (by decide)
  have a5 := c_l2i (x &&& (255 : Int64))
  have a6 := rng32 ((x &&& (255 : Int64)).toInt32)
  exact ⟨by rw [Int32.lt_iff_toInt_lt]; omega, by rw [Int32.lt_iff_toInt_lt]; omega⟩
theorem own_b8 {c k : Int32} (h : own_C8 c) (k0 : 0 ≤ k.toInt) (k1 : k.toInt < 128) : c.toInt8.toInt32 = k ↔ c = k := by
  have a1 := c_i2b c
  have a2 : (255 : Int32).toInt = 255 := by decide
  have a3 : (0 : Int32).toInt = 0 := by decide
  have a4 := mt Int32.lt_iff_toInt_lt.mpr h.1
  have a5 := mt Int32.lt_iff_toInt_lt.mpr h.2
  constructor
  · intro q; have q' := congrArg Int32.toInt q; exact Int32.toInt_inj.mp (by omega)
  · intro q; have q' := congrArg Int32.toInt q; exact Int32.toInt_inj.mp (by omega)
theorem own_cN : ∀ c ∈ ([] : List Int32), own_C8 c := fun _ q => nomatch q
theorem own_cC {a : Int32} {l : List Int32} (h : own_C8 a) (t : ∀ c ∈ l, own_C8 c) : ∀ c ∈ a :: l, own_C8 c := fun c q => (List.mem_cons.mp q).elim (fun e => e ▸ h) (t c)
theorem own_sw1 {Z : State} {a0 : Array Value} (hw : ∀ d ∈ tables_1, d.before a0 Z = true) : ∀ d ∈ StrChars.Road.words, d.before a0 Z = true := fun d hd => hw d ((by decide +kernel : ∀ d ∈ StrChars.Road.words, d ∈ tables_1) d hd)
def own_Afar (Z : State) (h : Heap) (w : Addr) : Prop := (∀ a, Exa Z h a "java/lang/String" → a ≠ w) ∧ (∀ t k n vs d, Arv Z h t k .byte n vs d → t ≠ w)
theorem own_afE {Z : State} {h : Heap} {w : Addr} {C : String} {n : Nat} {a0 : Array Value} (E : Exa Z h w C) (hC : C ≠ "java/lang/String") (wi : (Jvm.Cond.instantiable C n).before a0 Z = true) : own_Afar Z h w := ⟨fun a F => ne_exa F E hC.symm, fun t k n vs d V => (Exa.neArv E V wi).symm⟩
theorem own_afV {Z : State} {h : Heap} {w : Addr} {k : ClassId} {ty : FieldType} {z : Int32} {vs : List Value} {d : Value} {n : Nat} {a0 : Array Value} (V : Arv Z h w k ty z vs d) (hty : ty ≠ .byte) (wi : (Jvm.Cond.instantiable "java/lang/String" n).before a0 Z = true) : own_Afar Z h w := ⟨fun a F => Exa.neArv F V wi, fun t k n vs d W => own_neTy W V hty.symm⟩
def own_Sl (Z : State) (h : Heap) (a : Addr) (cs : List Int32) : Prop := Exa Z h a "java/lang/String" ∧ Fld Z h a "java/lang/String" "coder" "B" (.int (0 : Int32)) ∧ ∃ (t : Addr) (k : ClassId), Fld Z h a "java/lang/String" "value" "[B" (.ref t) ∧ Arv Z h t k .byte (Int32.ofNat cs.length) (cs.map fun c => Value.int c.toInt8.toInt32) (.int (0 : Int32)) ∧ (∀ c ∈ cs, own_C8 c) ∧ cs.length ≤ 4000
theorem own_SlExt {Z : State} {h h' : Heap} {a : Addr} {cs : List Int32} (N : own_Sl Z h a cs) (X : Ext h h') : own_Sl Z h' a cs := by
  obtain ⟨g1, g2, t, k, g3, g4, g5⟩ := N
  exact ⟨g1.ext X, g2.ext X, t, k, g3.ext X, g4.ext X, g5⟩
theorem own_SlKeep {Z : State} {h h' : Heap} {a : Addr} {cs : List Int32} {ws : List Addr} (N : own_Sl Z h a cs) (K : Keep h h' ws) (q : ∀ w ∈ ws, own_Afar Z h w) : own_Sl Z h' a cs := by
  obtain ⟨g1, g2, t, k, g3, g4, g5⟩ := N
  have qa : a ∉ ws := fun hm => (q a hm).1 a g1 rfl
  exact ⟨g1.keep K, g2.keep K qa, t, k, g3.keep K qa, g4.keep K (fun hm => (q t hm).2 _ _ _ _ _ g4 rfl), g5⟩
theorem own_mkSl {Z : State} {h : Heap} {a t : Addr} {k : ClassId} {N : Int32} {vs : List Value} {cs : List Int32} (g1 : Exa Z h a "java/lang/String") (g2 : Fld Z h a "java/lang/String" "coder" "B" (.int (0 : Int32))) (g3 : Fld Z h a "java/lang/String" "value" "[B" (.ref t)) (g4 : Arv Z h t k .byte N vs (.int (0 : Int32)))
    (hN : N = Int32.ofNat cs.length) (hv : vs = cs.map fun c => Value.int c.toInt8.toInt32) (h8 : ∀ c ∈ cs, own_C8 c) (hl : cs.length ≤ 4000) : own_Sl Z h a cs := ⟨g1, g2, t, k, g3, hN ▸ hv ▸ g4, h8, hl⟩
def own_Qeq (cs ds : List Int32) (h : Heap) (v : Option Value) (h' : Heap) (L : List Loc) : Prop := ((v = some (.int 1) ∧ cs = ds) ∨ (v = some (.int 0) ∧ ¬ cs = ds)) ∧ L = [] ∧ h' = h
theorem own_c64 {cs : List Int32} (h : ∀ c ∈ cs, own_C8 c) : ∀ c ∈ cs, ¬ c < 0 ∧ ¬ (65535 : Int32) < c := fun c q => by
  have a := h c q
  have a1 := mt Int32.lt_iff_toInt_lt.mpr a.2
  have a2 : (255 : Int32).toInt = 255 := by decide
  have a3 : (65535 : Int32).toInt = 65535 := by decide
  exact ⟨a.1, by rw [Int32.lt_iff_toInt_lt]; omega⟩
theorem own_eqB {p : Program} {l : Launch} {e : Env} {R : Room} {s : State} {args : Array Value} {below : List Frame} {len W : Nat} {Z : State} {a0 : Array Value} {h : Heap} (hZ : Z.Warmed39 s.vm) (hw : ∀ d ∈ StrChars.Road.wordsEq, d.before a0 Z = true) {kI : Nat} (wi : (Jvm.Cond.instantiable "java/lang/String" kI).before a0 Z = true)
    {x y : Addr} {cs ds : List Int32} (H : own_Sl Z h x cs) (H' : own_Sl Z h y ds) {z : Int32} (S : Sta Z h "java/lang/String" "COMPACT_STRINGS" "Z" (.int z)) (hz : ¬ z = 0) (hfr : 2 ≤ R.frames) (hlo : W + 28 ≤ R.locals) :
    Back l R p e below s args (⟨"java/lang/String", "equals", "(Ljava/lang/Object;)Z"⟩ : MethodName) len W (fun P a => a = #[.ref x, .ref y] ∧ P.U.heap = h ∧ P.cells + 0 ≤ R.cells ∧ P.slots + 0 ≤ R.slots)
      (fun P _ v B => ∃ L, own_Qeq cs ds h v B.U.heap L ∧ B.locs = P.locs ++ L ∧ B.cells = P.cells + 0 ∧ B.slots = P.slots + 0) := by
  obtain ⟨g1, g2, t, k, g3, g4, g5, g6⟩ := H
  obtain ⟨f1, f2, u, k', f3, f4, f5, f6⟩ := H'
  exact StrChars.Road.eqW hZ hw wi g1 g3 g2 g4 (Or.inl ⟨rfl, rfl, rfl, fun c q => (g5 c q).2⟩) (own_c64 g5) g6 f1 f3 f2 f4 (Or.inl ⟨rfl, rfl, rfl, fun c q => (f5 c q).2⟩) (own_c64 f5) f6 S hz hfr hlo
theorem own_sw2 {Z : State} {a0 : Array Value} (hw : ∀ d ∈ tables_1, d.before a0 Z = true) : ∀ d ∈ StrChars.Road.wordsEq, d.before a0 Z = true := fun d hd => hw d ((by decide +kernel : ∀ d ∈ StrChars.Road.wordsEq, d ∈ tables_1) d hd)
def own_w (b : Int32) : List Int32 := if b = (0 : Int32) then [117, 117, 105, 100] else if b = (1 : Int32) then [117, 114, 110] else if b = (2 : Int32) then [111, 98, 106, 101, 107, 116, 116, 121, 112, 101] else []
def own_wl (b : Int32) : Int32 := Int32.ofNat (own_w b).length
def own_get (cs : List Int32) (j : Int32) : Int32 := cs.getD j.toNatClampNeg 0
def own_cell (cs : List Int32) (m p c i : Int32) : Int32 := if m = (1 : Int32) then (if i = p then c else own_get cs i) else if m = (3 : Int32) then (if i < p then own_get cs i else if i = p then c else own_get cs (i - (1 : Int32))) else own_get cs i
def own_nm (b m p c n : Int32) : List Int32 := (List.range n.toNatClampNeg).map fun i => own_cell (own_w b) m p c (Int32.ofNat i)
def own_PN (b m p n : Int32) : Prop := (m = (1 : Int32) ∧ n = own_wl b ∧ 0 ≤ p.toInt ∧ (p.toInt < (own_wl b).toInt ∨ ((own_wl b).toInt = 0 ∧ p.toInt = 0))) ∨ (m = (2 : Int32) ∧ n = p ∧ 0 ≤ p.toInt ∧ p.toInt ≤ (own_wl b).toInt) ∨ (m = (3 : Int32) ∧ n = own_wl b + (1 : Int32) ∧ 0 ≤ p.toInt ∧ p.toInt ≤ (own_wl b).toInt) ∨ (¬ m = (1 : Int32) ∧ ¬ m = (2 : Int32) ∧ ¬ m = (3 : Int32) ∧ p = (0 : Int32) ∧ n = own_wl b)
def own_V4 (x : Int32) : Prop := x = (0 : Int32) ∨ x = (1 : Int32) ∨ x = (2 : Int32) ∨ x = (3 : Int32)
def own_T (b m p c n : Int32) : Prop := b < (3 : Int32) ∧ (m = (0 : Int32) ∨ (m = (1 : Int32) ∧ c = own_get (own_w b) p) ∨ (m = (2 : Int32) ∧ n = own_wl b))
def own_In (cs : List Int32) (j : Int32) : Prop := ¬ j < (0 : Int32) ∧ j.toNatClampNeg < cs.length
def own_cok (cs : List Int32) (m p i : Int32) : Prop := if m = (1 : Int32) then (¬ i = p → own_In cs i) else if m = (3 : Int32) then ((i < p → own_In cs i) ∧ (¬ i < p → ¬ i = p → own_In cs (i - (1 : Int32)))) else own_In cs i
theorem own_fin {p : Int32} (h0 : 0 ≤ p.toInt) (h1 : p.toInt ≤ 10) : p = 0 ∨ p = 1 ∨ p = 2 ∨ p = 3 ∨ p = 4 ∨ p = 5 ∨ p = 6 ∨ p = 7 ∨ p = 8 ∨ p = 9 ∨ p = 10 := by
  have k : ∀ z : Int32, p.toInt = z.toInt → p = z := fun z q => Int32.toInt_inj.mp q
  have h : p.toInt = 0 ∨ p.toInt = 1 ∨ p.toInt = 2 ∨ p.toInt = 3 ∨ p.toInt = 4 ∨ p.toInt = 5 ∨ p.toInt = 6 ∨ p.toInt = 7 ∨ p.toInt = 8 ∨ p.toInt = 9 ∨ p.toInt = 10 := by omega
  rcases h with h | h | h | h | h | h | h | h | h | h | h
  · exact Or.inl (k 0 h)
  · exact Or.inr (Or.inl (k 1 h))
  · exact Or.inr (Or.inr (Or.inl (k 2 h)))
  · exact Or.inr (Or.inr (Or.inr (Or.inl (k 3 h))))
  · exact Or.inr (Or.inr (Or.inr (Or.inr (Or.inl (k 4 h)))))
  · exact Or.inr (Or.inr (Or.inr (Or.inr (Or.inr (Or.inl (k 5 h))))))
  · exact Or.inr (Or.inr (Or.inr (Or.inr (Or.inr (Or.inr (Or.inl (k 6 h)))))))
  · exact Or.inr (Or.inr (Or.inr (Or.inr (Or.inr (Or.inr (Or.inr (Or.inl (k 7 h))))))))
  · exact Or.inr (Or.inr (Or.inr (Or.inr (Or.inr (Or.inr (Or.inr (Or.inr (Or.inl (k 8 h)))))))))
  · exact Or.inr (Or.inr (Or.inr (Or.inr (Or.inr (Or.inr (Or.inr (Or.inr (Or.inr (Or.inl (k 9 h))))))))))
  · exact Or.inr (Or.inr (Or.inr (Or.inr (Or.inr (Or.inr (Or.inr (Or.inr (Or.inr (Or.inr (k 10 h))))))))))
theorem own_wlV {b : Int32} (h : own_V4 b) : (b = 0 ∧ own_wl b = 4) ∨ (b = 1 ∧ own_wl b = 3) ∨ (b = 2 ∧ own_wl b = 10) ∨ (b = 3 ∧ own_wl b = 0) := by
  rcases h with rfl | rfl | rfl | rfl
  · exact Or.inl ⟨rfl, by decide⟩
  · exact Or.inr (Or.inl ⟨rfl, by decide⟩)
  · exact Or.inr (Or.inr (Or.inl ⟨rfl, by decide⟩))
  · exact Or.inr (Or.inr (Or.inr ⟨rfl, by decide⟩))
theorem own_w0 : own_w 0 = [117, 117, 105, 100] := rfl
theorem own_w1 : own_w 1 = [117, 114, 110] := rfl
theorem own_w2 : own_w 2 = [111, 98, 106, 101, 107, 116, 116, 121, 112, 101] := rfl
theorem own_w3 : own_w 3 = [] := rfl
theorem own_tg_0_0_0 (c : Int32) : (own_nm 0 0 0 c 4 = own_w 0 ∨ own_nm 0 0 0 c 4 = own_w 1 ∨ own_nm 0 0 0 c 4 = own_w 2) ↔ own_T 0 0 0 c 4 := by
  have e : own_nm 0 0 0 c 4 = [117, 117, 105, 100] := rfl
  have d1 : own_wl 0 = 4 := by decide
  rw [e, own_w0, own_w1, own_w2]
  unfold own_T
  rw [own_w0, d1]
  simp +decide [own_get]
theorem own_tg_0_1_0 (c : Int32) : (own_nm 0 1 0 c 4 = own_w 0 ∨ own_nm 0 1 0 c 4 = own_w 1 ∨ own_nm 0 1 0 c 4 = own_w 2) ↔ own_T 0 1 0 c 4 := by
  have e : own_nm 0 1 0 c 4 = [c, 117, 105, 100] := rfl
  have d1 : own_wl 0 = 4 := by decide
  rw [e, own_w0, own_w1, own_w2]
  unfold own_T
  rw [own_w0, d1]
  simp +decide [own_get]
theorem own_tg_0_1_1 (c : Int32) : (own_nm 0 1 1 c 4 = own_w 0 ∨ own_nm 0 1 1 c 4 = own_w 1 ∨ own_nm 0 1 1 c 4 = own_w 2) ↔ own_T 0 1 1 c 4 := by
  have e : own_nm 0 1 1 c 4 = [117, c, 105, 100] := rfl
  have d1 : own_wl 0 = 4 := by decide
  rw [e, own_w0, own_w1, own_w2]
  unfold own_T
  rw [own_w0, d1]
  simp +decide [own_get]
theorem own_tg_0_1_2 (c : Int32) : (own_nm 0 1 2 c 4 = own_w 0 ∨ own_nm 0 1 2 c 4 = own_w 1 ∨ own_nm 0 1 2 c 4 = own_w 2) ↔ own_T 0 1 2 c 4 := by
  have e : own_nm 0 1 2 c 4 = [117, 117, c, 100] := rfl
  have d1 : own_wl 0 = 4 := by decide
  rw [e, own_w0, own_w1, own_w2]
  unfold own_T
  rw [own_w0, d1]
  simp +decide [own_get]
theorem own_tg_0_1_3 (c : Int32) : (own_nm 0 1 3 c 4 = own_w 0 ∨ own_nm 0 1 3 c 4 = own_w 1 ∨ own_nm 0 1 3 c 4 = own_w 2) ↔ own_T 0 1 3 c 4 := by
  have e : own_nm 0 1 3 c 4 = [117, 117, 105, c] := rfl
  have d1 : own_wl 0 = 4 := by decide
  rw [e, own_w0, own_w1, own_w2]
  unfold own_T
  rw [own_w0, d1]
  simp +decide [own_get]
theorem own_tg_0_2_0 (c : Int32) : (own_nm 0 2 0 c 0 = own_w 0 ∨ own_nm 0 2 0 c 0 = own_w 1 ∨ own_nm 0 2 0 c 0 = own_w 2) ↔ own_T 0 2 0 c 0 := by
  have e : own_nm 0 2 0 c 0 = [] := rfl
  have d1 : own_wl 0 = 4 := by decide
  rw [e, own_w0, own_w1, own_w2]
  unfold own_T
  rw [own_w0, d1]
  simp +decide [own_get]
theorem own_tg_0_2_1 (c : Int32) : (own_nm 0 2 1 c 1 = own_w 0 ∨ own_nm 0 2 1 c 1 = own_w 1 ∨ own_nm 0 2 1 c 1 = own_w 2) ↔ own_T 0 2 1 c 1 := by
  have e : own_nm 0 2 1 c 1 = [117] := rfl
  have d1 : own_wl 0 = 4 := by decide
  rw [e, own_w0, own_w1, own_w2]
  unfold own_T
  rw [own_w0, d1]
  simp +decide [own_get]
theorem own_tg_0_2_2 (c : Int32) : (own_nm 0 2 2 c 2 = own_w 0 ∨ own_nm 0 2 2 c 2 = own_w 1 ∨ own_nm 0 2 2 c 2 = own_w 2) ↔ own_T 0 2 2 c 2 := by
  have e : own_nm 0 2 2 c 2 = [117, 117] := rfl
  have d1 : own_wl 0 = 4 := by decide
  rw [e, own_w0, own_w1, own_w2]
  unfold own_T
  rw [own_w0, d1]
  simp +decide [own_get]
theorem own_tg_0_2_3 (c : Int32) : (own_nm 0 2 3 c 3 = own_w 0 ∨ own_nm 0 2 3 c 3 = own_w 1 ∨ own_nm 0 2 3 c 3 = own_w 2) ↔ own_T 0 2 3 c 3 := by
  have e : own_nm 0 2 3 c 3 = [117, 117, 105] := rfl
  have d1 : own_wl 0 = 4 := by decide
  rw [e, own_w0, own_w1, own_w2]
  unfold own_T
  rw [own_w0, d1]
  simp +decide [own_get]
theorem own_tg_0_2_4 (c : Int32) : (own_nm 0 2 4 c 4 = own_w 0 ∨ own_nm 0 2 4 c 4 = own_w 1 ∨ own_nm 0 2 4 c 4 = own_w 2) ↔ own_T 0 2 4 c 4 := by
  have e : own_nm 0 2 4 c 4 = [117, 117, 105, 100] := rfl
  have d1 : own_wl 0 = 4 := by decide
  rw [e, own_w0, own_w1, own_w2]
  unfold own_T
  rw [own_w0, d1]
  simp +decide [own_get]
theorem own_tg_0_3_0 (c : Int32) : (own_nm 0 3 0 c 5 = own_w 0 ∨ own_nm 0 3 0 c 5 = own_w 1 ∨ own_nm 0 3 0 c 5 = own_w 2) ↔ own_T 0 3 0 c 5 := by
  have e : own_nm 0 3 0 c 5 = [c, 117, 117, 105, 100] := rfl
  have d1 : own_wl 0 = 4 := by decide
  rw [e, own_w0, own_w1, own_w2]
  unfold own_T
  rw [own_w0, d1]
  simp +decide [own_get]
theorem own_tg_0_3_1 (c : Int32) : (own_nm 0 3 1 c 5 = own_w 0 ∨ own_nm 0 3 1 c 5 = own_w 1 ∨ own_nm 0 3 1 c 5 = own_w 2) ↔ own_T 0 3 1 c 5 := by
  have e : own_nm 0 3 1 c 5 = [117, c, 117, 105, 100] := rfl
  have d1 : own_wl 0 = 4 := by decide
  rw [e, own_w0, own_w1, own_w2]
  unfold own_T
  rw [own_w0, d1]
  simp +decide [own_get]
theorem own_tg_0_3_2 (c : Int32) : (own_nm 0 3 2 c 5 = own_w 0 ∨ own_nm 0 3 2 c 5 = own_w 1 ∨ own_nm 0 3 2 c 5 = own_w 2) ↔ own_T 0 3 2 c 5 := by
  have e : own_nm 0 3 2 c 5 = [117, 117, c, 105, 100] := rfl
  have d1 : own_wl 0 = 4 := by decide
  rw [e, own_w0, own_w1, own_w2]
  unfold own_T
  rw [own_w0, d1]
  simp +decide [own_get]
theorem own_tg_0_3_3 (c : Int32) : (own_nm 0 3 3 c 5 = own_w 0 ∨ own_nm 0 3 3 c 5 = own_w 1 ∨ own_nm 0 3 3 c 5 = own_w 2) ↔ own_T 0 3 3 c 5 := by
  have e : own_nm 0 3 3 c 5 = [117, 117, 105, c, 100] := rfl
  have d1 : own_wl 0 = 4 := by decide
  rw [e, own_w0, own_w1, own_w2]
  unfold own_T
  rw [own_w0, d1]
  simp +decide [own_get]
theorem own_tg_0_3_4 (c : Int32) : (own_nm 0 3 4 c 5 = own_w 0 ∨ own_nm 0 3 4 c 5 = own_w 1 ∨ own_nm 0 3 4 c 5 = own_w 2) ↔ own_T 0 3 4 c 5 := by
  have e : own_nm 0 3 4 c 5 = [117, 117, 105, 100, c] := rfl
  have d1 : own_wl 0 = 4 := by decide
  rw [e, own_w0, own_w1, own_w2]
  unfold own_T
  rw [own_w0, d1]
  simp +decide [own_get]
theorem own_tg_1_0_0 (c : Int32) : (own_nm 1 0 0 c 3 = own_w 0 ∨ own_nm 1 0 0 c 3 = own_w 1 ∨ own_nm 1 0 0 c 3 = own_w 2) ↔ own_T 1 0 0 c 3 := by
  have e : own_nm 1 0 0 c 3 = [117, 114, 110] := rfl
  have d1 : own_wl 1 = 3 := by decide
  rw [e, own_w0, own_w1, own_w2]
  unfold own_T
  rw [own_w1, d1]
  simp +decide [own_get]
theorem own_tg_1_1_0 (c : Int32) : (own_nm 1 1 0 c 3 = own_w 0 ∨ own_nm 1 1 0 c 3 = own_w 1 ∨ own_nm 1 1 0 c 3 = own_w 2) ↔ own_T 1 1 0 c 3 := by
  have e : own_nm 1 1 0 c 3 = [c, 114, 110] := rfl
  have d1 : own_wl 1 = 3 := by decide
  rw [e, own_w0, own_w1, own_w2]
  unfold own_T
  rw [own_w1, d1]
  simp +decide [own_get]
theorem own_tg_1_1_1 (c : Int32) : (own_nm 1 1 1 c 3 = own_w 0 ∨ own_nm 1 1 1 c 3 = own_w 1 ∨ own_nm 1 1 1 c 3 = own_w 2) ↔ own_T 1 1 1 c 3 := by
  have e : own_nm 1 1 1 c 3 = [117, c, 110] := rfl
  have d1 : own_wl 1 = 3 := by decide
  rw [e, own_w0, own_w1, own_w2]
  unfold own_T
  rw [own_w1, d1]
  simp +decide [own_get]
theorem own_tg_1_1_2 (c : Int32) : (own_nm 1 1 2 c 3 = own_w 0 ∨ own_nm 1 1 2 c 3 = own_w 1 ∨ own_nm 1 1 2 c 3 = own_w 2) ↔ own_T 1 1 2 c 3 := by
  have e : own_nm 1 1 2 c 3 = [117, 114, c] := rfl
  have d1 : own_wl 1 = 3 := by decide
  rw [e, own_w0, own_w1, own_w2]
  unfold own_T
  rw [own_w1, d1]
  simp +decide [own_get]
theorem own_tg_1_2_0 (c : Int32) : (own_nm 1 2 0 c 0 = own_w 0 ∨ own_nm 1 2 0 c 0 = own_w 1 ∨ own_nm 1 2 0 c 0 = own_w 2) ↔ own_T 1 2 0 c 0 := by
  have e : own_nm 1 2 0 c 0 = [] := rfl
  have d1 : own_wl 1 = 3 := by decide
  rw [e, own_w0, own_w1, own_w2]
  unfold own_T
  rw [own_w1, d1]
  simp +decide [own_get]
theorem own_tg_1_2_1 (c : Int32) : (own_nm 1 2 1 c 1 = own_w 0 ∨ own_nm 1 2 1 c 1 = own_w 1 ∨ own_nm 1 2 1 c 1 = own_w 2) ↔ own_T 1 2 1 c 1 := by
  have e : own_nm 1 2 1 c 1 = [117] := rfl
  have d1 : own_wl 1 = 3 := by decide
  rw [e, own_w0, own_w1, own_w2]
  unfold own_T
  rw [own_w1, d1]
  simp +decide [own_get]
theorem own_tg_1_2_2 (c : Int32) : (own_nm 1 2 2 c 2 = own_w 0 ∨ own_nm 1 2 2 c 2 = own_w 1 ∨ own_nm 1 2 2 c 2 = own_w 2) ↔ own_T 1 2 2 c 2 := by
  have e : own_nm 1 2 2 c 2 = [117, 114] := rfl
  have d1 : own_wl 1 = 3 := by decide
  rw [e, own_w0, own_w1, own_w2]
  unfold own_T
  rw [own_w1, d1]
  simp +decide [own_get]
theorem own_tg_1_2_3 (c : Int32) : (own_nm 1 2 3 c 3 = own_w 0 ∨ own_nm 1 2 3 c 3 = own_w 1 ∨ own_nm 1 2 3 c 3 = own_w 2) ↔ own_T 1 2 3 c 3 := by
  have e : own_nm 1 2 3 c 3 = [117, 114, 110] := rfl
  have d1 : own_wl 1 = 3 := by decide
  rw [e, own_w0, own_w1, own_w2]
  unfold own_T
  rw [own_w1, d1]
  simp +decide [own_get]
theorem own_tg_1_3_0 (c : Int32) : (own_nm 1 3 0 c 4 = own_w 0 ∨ own_nm 1 3 0 c 4 = own_w 1 ∨ own_nm 1 3 0 c 4 = own_w 2) ↔ own_T 1 3 0 c 4 := by
  have e : own_nm 1 3 0 c 4 = [c, 117, 114, 110] := rfl
  have d1 : own_wl 1 = 3 := by decide
  rw [e, own_w0, own_w1, own_w2]
  unfold own_T
  rw [own_w1, d1]
  simp +decide [own_get]
theorem own_tg_1_3_1 (c : Int32) : (own_nm 1 3 1 c 4 = own_w 0 ∨ own_nm 1 3 1 c 4 = own_w 1 ∨ own_nm 1 3 1 c 4 = own_w 2) ↔ own_T 1 3 1 c 4 := by
  have e : own_nm 1 3 1 c 4 = [117, c, 114, 110] := rfl
  have d1 : own_wl 1 = 3 := by decide
  rw [e, own_w0, own_w1, own_w2]
  unfold own_T
  rw [own_w1, d1]
  simp +decide [own_get]
theorem own_tg_1_3_2 (c : Int32) : (own_nm 1 3 2 c 4 = own_w 0 ∨ own_nm 1 3 2 c 4 = own_w 1 ∨ own_nm 1 3 2 c 4 = own_w 2) ↔ own_T 1 3 2 c 4 := by
  have e : own_nm 1 3 2 c 4 = [117, 114, c, 110] := rfl
  have d1 : own_wl 1 = 3 := by decide
  rw [e, own_w0, own_w1, own_w2]
  unfold own_T
  rw [own_w1, d1]
  simp +decide [own_get]
theorem own_tg_1_3_3 (c : Int32) : (own_nm 1 3 3 c 4 = own_w 0 ∨ own_nm 1 3 3 c 4 = own_w 1 ∨ own_nm 1 3 3 c 4 = own_w 2) ↔ own_T 1 3 3 c 4 := by
  have e : own_nm 1 3 3 c 4 = [117, 114, 110, c] := rfl
  have d1 : own_wl 1 = 3 := by decide
  rw [e, own_w0, own_w1, own_w2]
  unfold own_T
  rw [own_w1, d1]
  simp +decide [own_get]
theorem own_tg_2_0_0 (c : Int32) : (own_nm 2 0 0 c 10 = own_w 0 ∨ own_nm 2 0 0 c 10 = own_w 1 ∨ own_nm 2 0 0 c 10 = own_w 2) ↔ own_T 2 0 0 c 10 := by
  have e : own_nm 2 0 0 c 10 = [111, 98, 106, 101, 107, 116, 116, 121, 112, 101] := rfl
  have d1 : own_wl 2 = 10 := by decide
  rw [e, own_w0, own_w1, own_w2]
  unfold own_T
  rw [own_w2, d1]
  simp +decide [own_get]
theorem own_tg_2_1_0 (c : Int32) : (own_nm 2 1 0 c 10 = own_w 0 ∨ own_nm 2 1 0 c 10 = own_w 1 ∨ own_nm 2 1 0 c 10 = own_w 2) ↔ own_T 2 1 0 c 10 := by
  have e : own_nm 2 1 0 c 10 = [c, 98, 106, 101, 107, 116, 116, 121, 112, 101] := rfl
  have d1 : own_wl 2 = 10 := by decide
  rw [e, own_w0, own_w1, own_w2]
  unfold own_T
  rw [own_w2, d1]
  simp +decide [own_get]
theorem own_tg_2_1_1 (c : Int32) : (own_nm 2 1 1 c 10 = own_w 0 ∨ own_nm 2 1 1 c 10 = own_w 1 ∨ own_nm 2 1 1 c 10 = own_w 2) ↔ own_T 2 1 1 c 10 := by
  have e : own_nm 2 1 1 c 10 = [111, c, 106, 101, 107, 116, 116, 121, 112, 101] := rfl
  have d1 : own_wl 2 = 10 := by decide
  rw [e, own_w0, own_w1, own_w2]
  unfold own_T
  rw [own_w2, d1]
  simp +decide [own_get]
theorem own_tg_2_1_2 (c : Int32) : (own_nm 2 1 2 c 10 = own_w 0 ∨ own_nm 2 1 2 c 10 = own_w 1 ∨ own_nm 2 1 2 c 10 = own_w 2) ↔ own_T 2 1 2 c 10 := by
  have e : own_nm 2 1 2 c 10 = [111, 98, c, 101, 107, 116, 116, 121, 112, 101] := rfl
  have d1 : own_wl 2 = 10 := by decide
  rw [e, own_w0, own_w1, own_w2]
  unfold own_T
  rw [own_w2, d1]
  simp +decide [own_get]
theorem own_tg_2_1_3 (c : Int32) : (own_nm 2 1 3 c 10 = own_w 0 ∨ own_nm 2 1 3 c 10 = own_w 1 ∨ own_nm 2 1 3 c 10 = own_w 2) ↔ own_T 2 1 3 c 10 := by
  have e : own_nm 2 1 3 c 10 = [111, 98, 106, c, 107, 116, 116, 121, 112, 101] := rfl
  have d1 : own_wl 2 = 10 := by decide
  rw [e, own_w0, own_w1, own_w2]
  unfold own_T
  rw [own_w2, d1]
  simp +decide [own_get]
theorem own_tg_2_1_4 (c : Int32) : (own_nm 2 1 4 c 10 = own_w 0 ∨ own_nm 2 1 4 c 10 = own_w 1 ∨ own_nm 2 1 4 c 10 = own_w 2) ↔ own_T 2 1 4 c 10 := by
  have e : own_nm 2 1 4 c 10 = [111, 98, 106, 101, c, 116, 116, 121, 112, 101] := rfl
  have d1 : own_wl 2 = 10 := by decide
  rw [e, own_w0, own_w1, own_w2]
  unfold own_T
  rw [own_w2, d1]
  simp +decide [own_get]
theorem own_tg_2_1_5 (c : Int32) : (own_nm 2 1 5 c 10 = own_w 0 ∨ own_nm 2 1 5 c 10 = own_w 1 ∨ own_nm 2 1 5 c 10 = own_w 2) ↔ own_T 2 1 5 c 10 := by
  have e : own_nm 2 1 5 c 10 = [111, 98, 106, 101, 107, c, 116, 121, 112, 101] := rfl
  have d1 : own_wl 2 = 10 := by decide
  rw [e, own_w0, own_w1, own_w2]
  unfold own_T
  rw [own_w2, d1]
  simp +decide [own_get]
theorem own_tg_2_1_6 (c : Int32) : (own_nm 2 1 6 c 10 = own_w 0 ∨ own_nm 2 1 6 c 10 = own_w 1 ∨ own_nm 2 1 6 c 10 = own_w 2) ↔ own_T 2 1 6 c 10 := by
  have e : own_nm 2 1 6 c 10 = [111, 98, 106, 101, 107, 116, c, 121, 112, 101] := rfl
  have d1 : own_wl 2 = 10 := by decide
  rw [e, own_w0, own_w1, own_w2]
  unfold own_T
  rw [own_w2, d1]
  simp +decide [own_get]
theorem own_tg_2_1_7 (c : Int32) : (own_nm 2 1 7 c 10 = own_w 0 ∨ own_nm 2 1 7 c 10 = own_w 1 ∨ own_nm 2 1 7 c 10 = own_w 2) ↔ own_T 2 1 7 c 10 := by
  have e : own_nm 2 1 7 c 10 = [111, 98, 106, 101, 107, 116, 116, c, 112, 101] := rfl
  have d1 : own_wl 2 = 10 := by decide
  rw [e, own_w0, own_w1, own_w2]
  unfold own_T
  rw [own_w2, d1]
  simp +decide [own_get]
theorem own_tg_2_1_8 (c : Int32) : (own_nm 2 1 8 c 10 = own_w 0 ∨ own_nm 2 1 8 c 10 = own_w 1 ∨ own_nm 2 1 8 c 10 = own_w 2) ↔ own_T 2 1 8 c 10 := by
  have e : own_nm 2 1 8 c 10 = [111, 98, 106, 101, 107, 116, 116, 121, c, 101] := rfl
  have d1 : own_wl 2 = 10 := by decide
  rw [e, own_w0, own_w1, own_w2]
  unfold own_T
  rw [own_w2, d1]
  simp +decide [own_get]
theorem own_tg_2_1_9 (c : Int32) : (own_nm 2 1 9 c 10 = own_w 0 ∨ own_nm 2 1 9 c 10 = own_w 1 ∨ own_nm 2 1 9 c 10 = own_w 2) ↔ own_T 2 1 9 c 10 := by
  have e : own_nm 2 1 9 c 10 = [111, 98, 106, 101, 107, 116, 116, 121, 112, c] := rfl
  have d1 : own_wl 2 = 10 := by decide
  rw [e, own_w0, own_w1, own_w2]
  unfold own_T
  rw [own_w2, d1]
  simp +decide [own_get]
theorem own_tg_2_2_0 (c : Int32) : (own_nm 2 2 0 c 0 = own_w 0 ∨ own_nm 2 2 0 c 0 = own_w 1 ∨ own_nm 2 2 0 c 0 = own_w 2) ↔ own_T 2 2 0 c 0 := by
  have e : own_nm 2 2 0 c 0 = [] := rfl
  have d1 : own_wl 2 = 10 := by decide
  rw [e, own_w0, own_w1, own_w2]
  unfold own_T
  rw [own_w2, d1]
  simp +decide [own_get]
theorem own_tg_2_2_1 (c : Int32) : (own_nm 2 2 1 c 1 = own_w 0 ∨ own_nm 2 2 1 c 1 = own_w 1 ∨ own_nm 2 2 1 c 1 = own_w 2) ↔ own_T 2 2 1 c 1 := by
  have e : own_nm 2 2 1 c 1 = [111] := rfl
  have d1 : own_wl 2 = 10 := by decide
  rw [e, own_w0, own_w1, own_w2]
  unfold own_T
  rw [own_w2, d1]
  simp +decide [own_get]
theorem own_tg_2_2_2 (c : Int32) : (own_nm 2 2 2 c 2 = own_w 0 ∨ own_nm 2 2 2 c 2 = own_w 1 ∨ own_nm 2 2 2 c 2 = own_w 2) ↔ own_T 2 2 2 c 2 := by
  have e : own_nm 2 2 2 c 2 = [111, 98] := rfl
  have d1 : own_wl 2 = 10 := by decide
  rw [e, own_w0, own_w1, own_w2]
  unfold own_T
  rw [own_w2, d1]
  simp +decide [own_get]
theorem own_tg_2_2_3 (c : Int32) : (own_nm 2 2 3 c 3 = own_w 0 ∨ own_nm 2 2 3 c 3 = own_w 1 ∨ own_nm 2 2 3 c 3 = own_w 2) ↔ own_T 2 2 3 c 3 := by
  have e : own_nm 2 2 3 c 3 = [111, 98, 106] := rfl
  have d1 : own_wl 2 = 10 := by decide
  rw [e, own_w0, own_w1, own_w2]
  unfold own_T
  rw [own_w2, d1]
  simp +decide [own_get]
theorem own_tg_2_2_4 (c : Int32) : (own_nm 2 2 4 c 4 = own_w 0 ∨ own_nm 2 2 4 c 4 = own_w 1 ∨ own_nm 2 2 4 c 4 = own_w 2) ↔ own_T 2 2 4 c 4 := by
  have e : own_nm 2 2 4 c 4 = [111, 98, 106, 101] := rfl
  have d1 : own_wl 2 = 10 := by decide
  rw [e, own_w0, own_w1, own_w2]
  unfold own_T
  rw [own_w2, d1]
  simp +decide [own_get]
theorem own_tg_2_2_5 (c : Int32) : (own_nm 2 2 5 c 5 = own_w 0 ∨ own_nm 2 2 5 c 5 = own_w 1 ∨ own_nm 2 2 5 c 5 = own_w 2) ↔ own_T 2 2 5 c 5 := by
  have e : own_nm 2 2 5 c 5 = [111, 98, 106, 101, 107] := rfl
  have d1 : own_wl 2 = 10 := by decide
  rw [e, own_w0, own_w1, own_w2]
  unfold own_T
  rw [own_w2, d1]
  simp +decide [own_get]
theorem own_tg_2_2_6 (c : Int32) : (own_nm 2 2 6 c 6 = own_w 0 ∨ own_nm 2 2 6 c 6 = own_w 1 ∨ own_nm 2 2 6 c 6 = own_w 2) ↔ own_T 2 2 6 c 6 := by
  have e : own_nm 2 2 6 c 6 = [111, 98, 106, 101, 107, 116] := rfl
  have d1 : own_wl 2 = 10 := by decide
  rw [e, own_w0, own_w1, own_w2]
  unfold own_T
  rw [own_w2, d1]
  simp +decide [own_get]
theorem own_tg_2_2_7 (c : Int32) : (own_nm 2 2 7 c 7 = own_w 0 ∨ own_nm 2 2 7 c 7 = own_w 1 ∨ own_nm 2 2 7 c 7 = own_w 2) ↔ own_T 2 2 7 c 7 := by
  have e : own_nm 2 2 7 c 7 = [111, 98, 106, 101, 107, 116, 116] := rfl
  have d1 : own_wl 2 = 10 := by decide
  rw [e, own_w0, own_w1, own_w2]
  unfold own_T
  rw [own_w2, d1]
  simp +decide [own_get]
theorem own_tg_2_2_8 (c : Int32) : (own_nm 2 2 8 c 8 = own_w 0 ∨ own_nm 2 2 8 c 8 = own_w 1 ∨ own_nm 2 2 8 c 8 = own_w 2) ↔ own_T 2 2 8 c 8 := by
  have e : own_nm 2 2 8 c 8 = [111, 98, 106, 101, 107, 116, 116, 121] := rfl
  have d1 : own_wl 2 = 10 := by decide
  rw [e, own_w0, own_w1, own_w2]
  unfold own_T
  rw [own_w2, d1]
  simp +decide [own_get]
theorem own_tg_2_2_9 (c : Int32) : (own_nm 2 2 9 c 9 = own_w 0 ∨ own_nm 2 2 9 c 9 = own_w 1 ∨ own_nm 2 2 9 c 9 = own_w 2) ↔ own_T 2 2 9 c 9 := by
  have e : own_nm 2 2 9 c 9 = [111, 98, 106, 101, 107, 116, 116, 121, 112] := rfl
  have d1 : own_wl 2 = 10 := by decide
  rw [e, own_w0, own_w1, own_w2]
  unfold own_T
  rw [own_w2, d1]
  simp +decide [own_get]
theorem own_tg_2_2_10 (c : Int32) : (own_nm 2 2 10 c 10 = own_w 0 ∨ own_nm 2 2 10 c 10 = own_w 1 ∨ own_nm 2 2 10 c 10 = own_w 2) ↔ own_T 2 2 10 c 10 := by
  have e : own_nm 2 2 10 c 10 = [111, 98, 106, 101, 107, 116, 116, 121, 112, 101] := rfl
  have d1 : own_wl 2 = 10 := by decide
  rw [e, own_w0, own_w1, own_w2]
  unfold own_T
  rw [own_w2, d1]
  simp +decide [own_get]
theorem own_tg_2_3_0 (c : Int32) : (own_nm 2 3 0 c 11 = own_w 0 ∨ own_nm 2 3 0 c 11 = own_w 1 ∨ own_nm 2 3 0 c 11 = own_w 2) ↔ own_T 2 3 0 c 11 := by
  have e : own_nm 2 3 0 c 11 = [c, 111, 98, 106, 101, 107, 116, 116, 121, 112, 101] := rfl
  have d1 : own_wl 2 = 10 := by decide
  rw [e, own_w0, own_w1, own_w2]
  unfold own_T
  rw [own_w2, d1]
  simp +decide [own_get]
theorem own_tg_2_3_1 (c : Int32) : (own_nm 2 3 1 c 11 = own_w 0 ∨ own_nm 2 3 1 c 11 = own_w 1 ∨ own_nm 2 3 1 c 11 = own_w 2) ↔ own_T 2 3 1 c 11 := by
  have e : own_nm 2 3 1 c 11 = [111, c, 98, 106, 101, 107, 116, 116, 121, 112, 101] := rfl
  have d1 : own_wl 2 = 10 := by decide
  rw [e, own_w0, own_w1, own_w2]
  unfold own_T
  rw [own_w2, d1]
  simp +decide [own_get]
theorem own_tg_2_3_2 (c : Int32) : (own_nm 2 3 2 c 11 = own_w 0 ∨ own_nm 2 3 2 c 11 = own_w 1 ∨ own_nm 2 3 2 c 11 = own_w 2) ↔ own_T 2 3 2 c 11 := by
  have e : own_nm 2 3 2 c 11 = [111, 98, c, 106, 101, 107, 116, 116, 121, 112, 101] := rfl
  have d1 : own_wl 2 = 10 := by decide
  rw [e, own_w0, own_w1, own_w2]
  unfold own_T
  rw [own_w2, d1]
  simp +decide [own_get]
theorem own_tg_2_3_3 (c : Int32) : (own_nm 2 3 3 c 11 = own_w 0 ∨ own_nm 2 3 3 c 11 = own_w 1 ∨ own_nm 2 3 3 c 11 = own_w 2) ↔ own_T 2 3 3 c 11 := by
  have e : own_nm 2 3 3 c 11 = [111, 98, 106, c, 101, 107, 116, 116, 121, 112, 101] := rfl
  have d1 : own_wl 2 = 10 := by decide
  rw [e, own_w0, own_w1, own_w2]
  unfold own_T
  rw [own_w2, d1]
  simp +decide [own_get]
theorem own_tg_2_3_4 (c : Int32) : (own_nm 2 3 4 c 11 = own_w 0 ∨ own_nm 2 3 4 c 11 = own_w 1 ∨ own_nm 2 3 4 c 11 = own_w 2) ↔ own_T 2 3 4 c 11 := by
  have e : own_nm 2 3 4 c 11 = [111, 98, 106, 101, c, 107, 116, 116, 121, 112, 101] := rfl
  have d1 : own_wl 2 = 10 := by decide
  rw [e, own_w0, own_w1, own_w2]
  unfold own_T
  rw [own_w2, d1]
  simp +decide [own_get]
theorem own_tg_2_3_5 (c : Int32) : (own_nm 2 3 5 c 11 = own_w 0 ∨ own_nm 2 3 5 c 11 = own_w 1 ∨ own_nm 2 3 5 c 11 = own_w 2) ↔ own_T 2 3 5 c 11 := by
  have e : own_nm 2 3 5 c 11 = [111, 98, 106, 101, 107, c, 116, 116, 121, 112, 101] := rfl
  have d1 : own_wl 2 = 10 := by decide
  rw [e, own_w0, own_w1, own_w2]
  unfold own_T
  rw [own_w2, d1]
  simp +decide [own_get]
theorem own_tg_2_3_6 (c : Int32) : (own_nm 2 3 6 c 11 = own_w 0 ∨ own_nm 2 3 6 c 11 = own_w 1 ∨ own_nm 2 3 6 c 11 = own_w 2) ↔ own_T 2 3 6 c 11 := by
  have e : own_nm 2 3 6 c 11 = [111, 98, 106, 101, 107, 116, c, 116, 121, 112, 101] := rfl
  have d1 : own_wl 2 = 10 := by decide
  rw [e, own_w0, own_w1, own_w2]
  unfold own_T
  rw [own_w2, d1]
  simp +decide [own_get]
theorem own_tg_2_3_7 (c : Int32) : (own_nm 2 3 7 c 11 = own_w 0 ∨ own_nm 2 3 7 c 11 = own_w 1 ∨ own_nm 2 3 7 c 11 = own_w 2) ↔ own_T 2 3 7 c 11 := by
  have e : own_nm 2 3 7 c 11 = [111, 98, 106, 101, 107, 116, 116, c, 121, 112, 101] := rfl
  have d1 : own_wl 2 = 10 := by decide
  rw [e, own_w0, own_w1, own_w2]
  unfold own_T
  rw [own_w2, d1]
  simp +decide [own_get]
theorem own_tg_2_3_8 (c : Int32) : (own_nm 2 3 8 c 11 = own_w 0 ∨ own_nm 2 3 8 c 11 = own_w 1 ∨ own_nm 2 3 8 c 11 = own_w 2) ↔ own_T 2 3 8 c 11 := by
  have e : own_nm 2 3 8 c 11 = [111, 98, 106, 101, 107, 116, 116, 121, c, 112, 101] := rfl
  have d1 : own_wl 2 = 10 := by decide
  rw [e, own_w0, own_w1, own_w2]
  unfold own_T
  rw [own_w2, d1]
  simp +decide [own_get]
theorem own_tg_2_3_9 (c : Int32) : (own_nm 2 3 9 c 11 = own_w 0 ∨ own_nm 2 3 9 c 11 = own_w 1 ∨ own_nm 2 3 9 c 11 = own_w 2) ↔ own_T 2 3 9 c 11 := by
  have e : own_nm 2 3 9 c 11 = [111, 98, 106, 101, 107, 116, 116, 121, 112, c, 101] := rfl
  have d1 : own_wl 2 = 10 := by decide
  rw [e, own_w0, own_w1, own_w2]
  unfold own_T
  rw [own_w2, d1]
  simp +decide [own_get]
theorem own_tg_2_3_10 (c : Int32) : (own_nm 2 3 10 c 11 = own_w 0 ∨ own_nm 2 3 10 c 11 = own_w 1 ∨ own_nm 2 3 10 c 11 = own_w 2) ↔ own_T 2 3 10 c 11 := by
  have e : own_nm 2 3 10 c 11 = [111, 98, 106, 101, 107, 116, 116, 121, 112, 101, c] := rfl
  have d1 : own_wl 2 = 10 := by decide
  rw [e, own_w0, own_w1, own_w2]
  unfold own_T
  rw [own_w2, d1]
  simp +decide [own_get]
theorem own_tg_3_0_0 (c : Int32) : (own_nm 3 0 0 c 0 = own_w 0 ∨ own_nm 3 0 0 c 0 = own_w 1 ∨ own_nm 3 0 0 c 0 = own_w 2) ↔ own_T 3 0 0 c 0 := by
  have e : own_nm 3 0 0 c 0 = [] := rfl
  have d1 : own_wl 3 = 0 := by decide
  rw [e, own_w0, own_w1, own_w2]
  unfold own_T
  rw [own_w3, d1]
  simp +decide [own_get]
theorem own_tg_3_1_0 (c : Int32) : (own_nm 3 1 0 c 0 = own_w 0 ∨ own_nm 3 1 0 c 0 = own_w 1 ∨ own_nm 3 1 0 c 0 = own_w 2) ↔ own_T 3 1 0 c 0 := by
  have e : own_nm 3 1 0 c 0 = [] := rfl
  have d1 : own_wl 3 = 0 := by decide
  rw [e, own_w0, own_w1, own_w2]
  unfold own_T
  rw [own_w3, d1]
  simp +decide [own_get]
theorem own_tg_3_2_0 (c : Int32) : (own_nm 3 2 0 c 0 = own_w 0 ∨ own_nm 3 2 0 c 0 = own_w 1 ∨ own_nm 3 2 0 c 0 = own_w 2) ↔ own_T 3 2 0 c 0 := by
  have e : own_nm 3 2 0 c 0 = [] := rfl
  have d1 : own_wl 3 = 0 := by decide
  rw [e, own_w0, own_w1, own_w2]
  unfold own_T
  rw [own_w3, d1]
  simp +decide [own_get]
theorem own_tg_3_3_0 (c : Int32) : (own_nm 3 3 0 c 1 = own_w 0 ∨ own_nm 3 3 0 c 1 = own_w 1 ∨ own_nm 3 3 0 c 1 = own_w 2) ↔ own_T 3 3 0 c 1 := by
  have e : own_nm 3 3 0 c 1 = [c] := rfl
  have d1 : own_wl 3 = 0 := by decide
  rw [e, own_w0, own_w1, own_w2]
  unfold own_T
  rw [own_w3, d1]
  simp +decide [own_get]
theorem own_tgt {b m p c n : Int32} (hb : own_V4 b) (hm : own_V4 m) (h : own_PN b m p n) : (own_nm b m p c n = own_w 0 ∨ own_nm b m p c n = own_w 1 ∨ own_nm b m p c n = own_w 2) ↔ own_T b m p c n := by
  have e10 : ∀ z : Int32, own_V4 z → (own_wl z).toInt ≤ 10 := fun z hz => by rcases hz with rfl | rfl | rfl | rfl <;> decide
  have g := e10 b hb
  rcases h with ⟨rfl, rfl, h0, h1⟩ | ⟨rfl, rfl, h0, h1⟩ | ⟨rfl, rfl, h0, h1⟩ | ⟨n1, n2, n3, rfl, rfl⟩
  · rcases own_fin h0 (by omega) with rfl | rfl | rfl | rfl | rfl | rfl | rfl | rfl | rfl | rfl | rfl <;> rcases hb with rfl | rfl | rfl | rfl
    · exact own_tg_0_1_0 c
    · exact own_tg_1_1_0 c
    · exact own_tg_2_1_0 c
    · exact own_tg_3_1_0 c
    · exact own_tg_0_1_1 c
    · exact own_tg_1_1_1 c
    · exact own_tg_2_1_1 c
    · exact absurd h1 (by decide)
    · exact own_tg_0_1_2 c
    · exact own_tg_1_1_2 c
    · exact own_tg_2_1_2 c
    · exact absurd h1 (by decide)
    · exact own_tg_0_1_3 c
    · exact absurd h1 (by decide)
    · exact own_tg_2_1_3 c
    · exact absurd h1 (by decide)
    · exact absurd h1 (by decide)
    · exact absurd h1 (by decide)
    · exact own_tg_2_1_4 c
    · exact absurd h1 (by decide)
    · exact absurd h1 (by decide)
    · exact absurd h1 (by decide)
    · exact own_tg_2_1_5 c
    · exact absurd h1 (by decide)
    · exact absurd h1 (by decide)
    · exact absurd h1 (by decide)
    · exact own_tg_2_1_6 c
    · exact absurd h1 (by decide)
    · exact absurd h1 (by decide)
    · exact absurd h1 (by decide)
    · exact own_tg_2_1_7 c
    · exact absurd h1 (by decide)
    · exact absurd h1 (by decide)
    · exact absurd h1 (by decide)
    · exact own_tg_2_1_8 c
    · exact absurd h1 (by decide)
    · exact absurd h1 (by decide)
    · exact absurd h1 (by decide)
    · exact own_tg_2_1_9 c
    · exact absurd h1 (by decide)
    · exact absurd h1 (by decide)
    · exact absurd h1 (by decide)
    · exact absurd h1 (by decide)
    · exact absurd h1 (by decide)
  · rcases own_fin h0 (by omega) with rfl | rfl | rfl | rfl | rfl | rfl | rfl | rfl | rfl | rfl | rfl <;> rcases hb with rfl | rfl | rfl | rfl
    · exact own_tg_0_2_0 c
    · exact own_tg_1_2_0 c
    · exact own_tg_2_2_0 c
    · exact own_tg_3_2_0 c
    · exact own_tg_0_2_1 c
    · exact own_tg_1_2_1 c
    · exact own_tg_2_2_1 c
    · exact absurd h1 (by decide)
    · exact own_tg_0_2_2 c
    · exact own_tg_1_2_2 c
    · exact own_tg_2_2_2 c
    · exact absurd h1 (by decide)
    · exact own_tg_0_2_3 c
    · exact own_tg_1_2_3 c
    · exact own_tg_2_2_3 c
    · exact absurd h1 (by decide)
    · exact own_tg_0_2_4 c
    · exact absurd h1 (by decide)
    · exact own_tg_2_2_4 c
    · exact absurd h1 (by decide)
    · exact absurd h1 (by decide)
    · exact absurd h1 (by decide)
    · exact own_tg_2_2_5 c
    · exact absurd h1 (by decide)
    · exact absurd h1 (by decide)
    · exact absurd h1 (by decide)
    · exact own_tg_2_2_6 c
    · exact absurd h1 (by decide)
    · exact absurd h1 (by decide)
    · exact absurd h1 (by decide)
    · exact own_tg_2_2_7 c
    · exact absurd h1 (by decide)
    · exact absurd h1 (by decide)
    · exact absurd h1 (by decide)
    · exact own_tg_2_2_8 c
    · exact absurd h1 (by decide)
    · exact absurd h1 (by decide)
    · exact absurd h1 (by decide)
    · exact own_tg_2_2_9 c
    · exact absurd h1 (by decide)
    · exact absurd h1 (by decide)
    · exact absurd h1 (by decide)
    · exact own_tg_2_2_10 c
    · exact absurd h1 (by decide)
  · rcases own_fin h0 (by omega) with rfl | rfl | rfl | rfl | rfl | rfl | rfl | rfl | rfl | rfl | rfl <;> rcases hb with rfl | rfl | rfl | rfl
    · exact own_tg_0_3_0 c
    · exact own_tg_1_3_0 c
    · exact own_tg_2_3_0 c
    · exact own_tg_3_3_0 c
    · exact own_tg_0_3_1 c
    · exact own_tg_1_3_1 c
    · exact own_tg_2_3_1 c
    · exact absurd h1 (by decide)
    · exact own_tg_0_3_2 c
    · exact own_tg_1_3_2 c
    · exact own_tg_2_3_2 c
    · exact absurd h1 (by decide)
    · exact own_tg_0_3_3 c
    · exact own_tg_1_3_3 c
    · exact own_tg_2_3_3 c
    · exact absurd h1 (by decide)
    · exact own_tg_0_3_4 c
    · exact absurd h1 (by decide)
    · exact own_tg_2_3_4 c
    · exact absurd h1 (by decide)
    · exact absurd h1 (by decide)
    · exact absurd h1 (by decide)
    · exact own_tg_2_3_5 c
    · exact absurd h1 (by decide)
    · exact absurd h1 (by decide)
    · exact absurd h1 (by decide)
    · exact own_tg_2_3_6 c
    · exact absurd h1 (by decide)
    · exact absurd h1 (by decide)
    · exact absurd h1 (by decide)
    · exact own_tg_2_3_7 c
    · exact absurd h1 (by decide)
    · exact absurd h1 (by decide)
    · exact absurd h1 (by decide)
    · exact own_tg_2_3_8 c
    · exact absurd h1 (by decide)
    · exact absurd h1 (by decide)
    · exact absurd h1 (by decide)
    · exact own_tg_2_3_9 c
    · exact absurd h1 (by decide)
    · exact absurd h1 (by decide)
    · exact absurd h1 (by decide)
    · exact own_tg_2_3_10 c
    · exact absurd h1 (by decide)
  · rcases hm with rfl | rfl | rfl | rfl
    · rcases hb with rfl | rfl | rfl | rfl
      · exact own_tg_0_0_0 c
      · exact own_tg_1_0_0 c
      · exact own_tg_2_0_0 c
      · exact own_tg_3_0_0 c
    · exact absurd rfl n1
    · exact absurd rfl n2
    · exact absurd rfl n3
theorem own_un12 {b m p n : Int32} (hb : own_V4 b) (h : own_PN b m p n) : n = (0 : Int32) ∨ n = (1 : Int32) ∨ n = (2 : Int32) ∨ n = (3 : Int32) ∨ n = (4 : Int32) ∨ n = (5 : Int32) ∨ n = (6 : Int32) ∨ n = (7 : Int32) ∨ n = (8 : Int32) ∨ n = (9 : Int32) ∨ n = (10 : Int32) ∨ n = (11 : Int32) := by
  have hl := own_wlV hb
  have e0 : (0 : Int32).toInt = 0 := by decide
  have g : (own_wl b).toInt ≤ 10 ∧ 0 ≤ (own_wl b).toInt := by rcases hb with rfl | rfl | rfl | rfl <;> decide
  have k : 0 ≤ n.toInt ∧ n.toInt ≤ 11 := by
    rcases h with ⟨rfl, rfl, h0, h1⟩ | ⟨rfl, rfl, h0, h1⟩ | ⟨rfl, rfl, h0, h1⟩ | ⟨n1, n2, n3, rfl, rfl⟩
    · omega
    · omega
    · rcases hb with rfl | rfl | rfl | rfl <;> decide
    · omega
  have f : ∀ z : Int32, n.toInt = z.toInt → n = z := fun z q => Int32.toInt_inj.mp q
  have h : n.toInt = 0 ∨ n.toInt = 1 ∨ n.toInt = 2 ∨ n.toInt = 3 ∨ n.toInt = 4 ∨ n.toInt = 5 ∨ n.toInt = 6 ∨ n.toInt = 7 ∨ n.toInt = 8 ∨ n.toInt = 9 ∨ n.toInt = 10 ∨ n.toInt = 11 := by omega
  rcases h with h | h | h | h | h | h | h | h | h | h | h | h
  · exact Or.inl (f 0 h)
  · exact Or.inr (Or.inl (f 1 h))
  · exact Or.inr (Or.inr (Or.inl (f 2 h)))
  · exact Or.inr (Or.inr (Or.inr (Or.inl (f 3 h))))
  · exact Or.inr (Or.inr (Or.inr (Or.inr (Or.inl (f 4 h)))))
  · exact Or.inr (Or.inr (Or.inr (Or.inr (Or.inr (Or.inl (f 5 h))))))
  · exact Or.inr (Or.inr (Or.inr (Or.inr (Or.inr (Or.inr (Or.inl (f 6 h)))))))
  · exact Or.inr (Or.inr (Or.inr (Or.inr (Or.inr (Or.inr (Or.inr (Or.inl (f 7 h))))))))
  · exact Or.inr (Or.inr (Or.inr (Or.inr (Or.inr (Or.inr (Or.inr (Or.inr (Or.inl (f 8 h)))))))))
  · exact Or.inr (Or.inr (Or.inr (Or.inr (Or.inr (Or.inr (Or.inr (Or.inr (Or.inr (Or.inl (f 9 h))))))))))
  · exact Or.inr (Or.inr (Or.inr (Or.inr (Or.inr (Or.inr (Or.inr (Or.inr (Or.inr (Or.inr (Or.inl (f 10 h)))))))))))
  · exact Or.inr (Or.inr (Or.inr (Or.inr (Or.inr (Or.inr (Or.inr (Or.inr (Or.inr (Or.inr (Or.inr ((f 11 h))))))))))))
theorem own_nm_0 (b m p c : Int32) : own_nm b m p c (0 : Int32) = [] := rfl
theorem own_nm_1 (b m p c : Int32) : own_nm b m p c (1 : Int32) = [own_cell (own_w b) m p c (0 : Int32)] := rfl
theorem own_nm_2 (b m p c : Int32) : own_nm b m p c (2 : Int32) = [own_cell (own_w b) m p c (0 : Int32), own_cell (own_w b) m p c (1 : Int32)] := rfl
theorem own_nm_3 (b m p c : Int32) : own_nm b m p c (3 : Int32) = [own_cell (own_w b) m p c (0 : Int32), own_cell (own_w b) m p c (1 : Int32), own_cell (own_w b) m p c (2 : Int32)] := rfl
theorem own_nm_4 (b m p c : Int32) : own_nm b m p c (4 : Int32) = [own_cell (own_w b) m p c (0 : Int32), own_cell (own_w b) m p c (1 : Int32), own_cell (own_w b) m p c (2 : Int32), own_cell (own_w b) m p c (3 : Int32)] := rfl
theorem own_nm_5 (b m p c : Int32) : own_nm b m p c (5 : Int32) = [own_cell (own_w b) m p c (0 : Int32), own_cell (own_w b) m p c (1 : Int32), own_cell (own_w b) m p c (2 : Int32), own_cell (own_w b) m p c (3 : Int32), own_cell (own_w b) m p c (4 : Int32)] := rfl
theorem own_nm_6 (b m p c : Int32) : own_nm b m p c (6 : Int32) = [own_cell (own_w b) m p c (0 : Int32), own_cell (own_w b) m p c (1 : Int32), own_cell (own_w b) m p c (2 : Int32), own_cell (own_w b) m p c (3 : Int32), own_cell (own_w b) m p c (4 : Int32), own_cell (own_w b) m p c (5 : Int32)] := rfl
theorem own_nm_7 (b m p c : Int32) : own_nm b m p c (7 : Int32) = [own_cell (own_w b) m p c (0 : Int32), own_cell (own_w b) m p c (1 : Int32), own_cell (own_w b) m p c (2 : Int32), own_cell (own_w b) m p c (3 : Int32), own_cell (own_w b) m p c (4 : Int32), own_cell (own_w b) m p c (5 : Int32), own_cell (own_w b) m p c (6 : Int32)] := rfl
theorem own_nm_8 (b m p c : Int32) : own_nm b m p c (8 : Int32) = [own_cell (own_w b) m p c (0 : Int32), own_cell (own_w b) m p c (1 : Int32), own_cell (own_w b) m p c (2 : Int32), own_cell (own_w b) m p c (3 : Int32), own_cell (own_w b) m p c (4 : Int32), own_cell (own_w b) m p c (5 : Int32), own_cell (own_w b) m p c (6 : Int32), own_cell (own_w b) m p c (7 : Int32)] := rfl
theorem own_nm_9 (b m p c : Int32) : own_nm b m p c (9 : Int32) = [own_cell (own_w b) m p c (0 : Int32), own_cell (own_w b) m p c (1 : Int32), own_cell (own_w b) m p c (2 : Int32), own_cell (own_w b) m p c (3 : Int32), own_cell (own_w b) m p c (4 : Int32), own_cell (own_w b) m p c (5 : Int32), own_cell (own_w b) m p c (6 : Int32), own_cell (own_w b) m p c (7 : Int32), own_cell (own_w b) m p c (8 : Int32)] := rfl
theorem own_nm_10 (b m p c : Int32) : own_nm b m p c (10 : Int32) = [own_cell (own_w b) m p c (0 : Int32), own_cell (own_w b) m p c (1 : Int32), own_cell (own_w b) m p c (2 : Int32), own_cell (own_w b) m p c (3 : Int32), own_cell (own_w b) m p c (4 : Int32), own_cell (own_w b) m p c (5 : Int32), own_cell (own_w b) m p c (6 : Int32), own_cell (own_w b) m p c (7 : Int32), own_cell (own_w b) m p c (8 : Int32), own_cell (own_w b) m p c (9 : Int32)] := rfl
theorem own_nm_11 (b m p c : Int32) : own_nm b m p c (11 : Int32) = [own_cell (own_w b) m p c (0 : Int32), own_cell (own_w b) m p c (1 : Int32), own_cell (own_w b) m p c (2 : Int32), own_cell (own_w b) m p c (3 : Int32), own_cell (own_w b) m p c (4 : Int32), own_cell (own_w b) m p c (5 : Int32), own_cell (own_w b) m p c (6 : Int32), own_cell (own_w b) m p c (7 : Int32), own_cell (own_w b) m p c (8 : Int32), own_cell (own_w b) m p c (9 : Int32), own_cell (own_w b) m p c (10 : Int32)] := rfl
theorem own_InI {b j : Int32} (h0 : 0 ≤ j.toInt) (h1 : j.toInt < (own_wl b).toInt) (hb : own_V4 b) : own_In (own_w b) j := by
  have e0 : (0 : Int32).toInt = 0 := by decide
  have e : (own_wl b).toInt = (own_w b).length := by rcases hb with rfl | rfl | rfl | rfl <;> decide
  refine ⟨by rw [Int32.lt_iff_toInt_lt]; omega, ?_⟩
  show j.toInt.toNat < _
  omega
theorem own_cokL {b m p n i : Int32} (hb : own_V4 b) (h : own_PN b m p n) (h0 : 0 ≤ i.toInt) (h1 : i.toInt < n.toInt) : own_cok (own_w b) m p i := by
  have e1 : (1 : Int32).toInt = 1 := by decide
  have g : 0 ≤ (own_wl b).toInt ∧ (own_wl b).toInt ≤ 10 := by rcases hb with rfl | rfl | rfl | rfl <;> decide
  have gs : (own_wl b + 1).toInt = (own_wl b).toInt + 1 := by rcases hb with rfl | rfl | rfl | rfl <;> decide
  have i1 : 1 ≤ i.toInt → i.toInt ≤ 11 → (i - 1).toInt = i.toInt - 1 := fun a a' => by
    rw [Int32.toInt_sub, e1, Int.bmod_eq_of_le (by omega) (by omega)]
  unfold own_cok
  rcases h with ⟨rfl, rfl, p0, p1⟩ | ⟨rfl, rfl, p0, p1⟩ | ⟨rfl, rfl, p0, p1⟩ | ⟨n1, n2, n3, rfl, rfl⟩
  · rw [if_pos rfl]; exact fun _ => own_InI h0 h1 hb
  · rw [if_neg (by decide), if_neg (by decide)]; exact own_InI h0 (by omega) hb
  · rw [if_neg (by decide), if_pos rfl]
    refine ⟨fun q => own_InI h0 (by have := Int32.lt_iff_toInt_lt.mp q; omega) hb, fun q q' => ?_⟩
    have a1 := mt Int32.lt_iff_toInt_lt.mpr q
    have a2 := mt Int32.toInt_inj.mp q'
    have a3 := i1 (by omega) (by omega)
    exact own_InI (by omega) (by omega) hb
  · rw [if_neg n1, if_neg n3]; exact own_InI h0 h1 hb
theorem own_inP {b m p n : Int32} (hb : own_V4 b) (h : own_PN b m p n) (h1 : m = (1 : Int32)) (h3 : b < (3 : Int32)) : own_In (own_w b) p := by
  rcases h with ⟨rfl, rfl, p0, p1⟩ | ⟨rfl, rfl, p0, p1⟩ | ⟨rfl, rfl, p0, p1⟩ | ⟨n1, n2, n3, rfl, rfl⟩
  · refine own_InI p0 ?_ hb
    rcases p1 with p1 | ⟨p1, -⟩
    · exact p1
    · exfalso; rcases hb with rfl | rfl | rfl | rfl <;> revert p1 h3 <;> decide
  · exact absurd h1 (by decide)
  · exact absurd h1 (by decide)
  · exact absurd h1 n1
def own_V3 (x : Int32) : Prop := x = (0 : Int32) ∨ x = (1 : Int32) ∨ x = (2 : Int32)
theorem own_v32 {x : Int32} (h : own_V3 x) (h0 : ¬ x = (0 : Int32)) (h1 : ¬ x = (1 : Int32)) : x = (2 : Int32) := h.elim (fun q => absurd q h0) fun q => q.elim (fun q => absurd q h1) id
theorem own_v31 {x : Int32} (h : own_V3 x) (h0 : ¬ x = (0 : Int32)) (h1 : ¬ x = (2 : Int32)) : x = (1 : Int32) := h.elim (fun q => absurd q h0) fun q => q.elim id (fun q => absurd q h1)
theorem own_v30 {x : Int32} (h : own_V3 x) (h0 : ¬ x = (1 : Int32)) (h1 : ¬ x = (2 : Int32)) : x = (0 : Int32) := h.elim id fun q => q.elim (fun q => absurd q h0) (fun q => absurd q h1)
theorem own_V3mx (x : Int32) : own_V3 ((x &&& (2147483647 : Int32)) % (3 : Int32)) := by
  have a1 := c_mask x 2147483647 31 (by decide) (by decide)
  have a2 := c_irem (x &&& 2147483647) 3 3 (by decide)
  have k : ∀ z : Int32, ((x &&& 2147483647) % 3).toInt = z.toInt → ((x &&& 2147483647) % 3) = z := fun z q => Int32.toInt_inj.mp q
  have h : ((x &&& 2147483647) % 3).toInt = 0 ∨ ((x &&& 2147483647) % 3).toInt = 1 ∨ ((x &&& 2147483647) % 3).toInt = 2 := by omega
  rcases h with h | h | h
  · exact Or.inl (k 0 h)
  · exact Or.inr (Or.inl (k 1 h))
  · exact Or.inr (Or.inr (k 2 h))
theorem own_V4mx (x : Int32) : own_V4 ((x &&& (2147483647 : Int32)) % (4 : Int32)) := by
  have a1 := c_mask x 2147483647 31 (by decide) (by decide)
  have a2 := c_irem (x &&& 2147483647) 4 4 (by decide)
  have k : ∀ z : Int32, ((x &&& 2147483647) % 4).toInt = z.toInt → ((x &&& 2147483647) % 4) = z := fun z q => Int32.toInt_inj.mp q
  have h : ((x &&& 2147483647) % 4).toInt = 0 ∨ ((x &&& 2147483647) % 4).toInt = 1 ∨ ((x &&& 2147483647) % 4).toInt = 2 ∨ ((x &&& 2147483647) % 4).toInt = 3 := by omega
  rcases h with h | h | h | h
  · exact Or.inl (k 0 h)
  · exact Or.inr (Or.inl (k 1 h))
  · exact Or.inr (Or.inr (Or.inl (k 2 h)))
  · exact Or.inr (Or.inr (Or.inr (k 3 h)))
def own_B (v : Int32) (P : Prop) : Prop := (v = (1 : Int32) ∧ P) ∨ (v = (0 : Int32) ∧ ¬ P)
theorem own_BT {v : Int32} {P : Prop} (h : own_B v P) (q : ¬ v = (0 : Int32)) : P := h.elim (fun z => z.2) (fun z => absurd z.1 q)
theorem own_BF {v : Int32} {P : Prop} (h : own_B v P) (q : v = (0 : Int32)) : ¬ P := h.elim (fun z => absurd (z.1.symm.trans q) (by decide)) (fun z => z.2)
theorem own_w_0 {b : Int32} (h : b = (0 : Int32)) : own_w b = [117, 117, 105, 100] := by subst h; rfl
theorem own_w_1 {b : Int32} (h : b = (1 : Int32)) : own_w b = [117, 114, 110] := by subst h; rfl
theorem own_w_2 {b : Int32} (h : b = (2 : Int32)) : own_w b = [111, 98, 106, 101, 107, 116, 116, 121, 112, 101] := by subst h; rfl
theorem own_w_3 {b : Int32} (h0 : ¬ b = (0 : Int32)) (h1 : ¬ b = (1 : Int32)) (h2 : ¬ b = (2 : Int32)) : own_w b = [] := by unfold own_w; rw [if_neg h0, if_neg h1, if_neg h2]
theorem own_ckB {cs : List Int32} {m p i : Int32} (h : own_cok cs m p i) (h1 : m = (1 : Int32)) (h2 : ¬ i = p) : own_In cs i := by unfold own_cok at h; rw [if_pos h1] at h; exact h h2
theorem own_ckF {cs : List Int32} {m p i : Int32} (h : own_cok cs m p i) (h1 : ¬ m = (1 : Int32)) (h3 : ¬ m = (3 : Int32)) : own_In cs i := by unfold own_cok at h; rw [if_neg h1, if_neg h3] at h; exact h
theorem own_ckC {cs : List Int32} {m p i : Int32} (h : own_cok cs m p i) (h1 : ¬ m = (1 : Int32)) (h3 : m = (3 : Int32)) (hl : i < p) : own_In cs i := by unfold own_cok at h; rw [if_neg h1, if_pos h3] at h; exact h.1 hl
theorem own_ckE {cs : List Int32} {m p i : Int32} (h : own_cok cs m p i) (h1 : ¬ m = (1 : Int32)) (h3 : m = (3 : Int32)) (hl : ¬ i < p) (hn : ¬ i = p) : own_In cs (i - (1 : Int32)) := by unfold own_cok at h; rw [if_neg h1, if_pos h3] at h; exact h.2 hl hn
def own_Qv (x : Int32) (h : Heap) (v : Option Value) (h' : Heap) (L : List Loc) : Prop := v = some (.int x) ∧ L = [] ∧ h' = h
theorem own_lenB {p : Program} {l : Launch} {e : Env} {R : Room} {s : State} {args : Array Value} {below : List Frame} {len W : Nat} {Z : State} {a0 : Array Value} {h : Heap} (hZ : Z.Warmed39 s.vm) (hw : ∀ d ∈ StrChars.Road.wordsLen, d.before a0 Z = true) {kI : Nat} (wi : (Jvm.Cond.instantiable "java/lang/String" kI).before a0 Z = true)
    {x : Addr} {cs : List Int32} (H : own_Sl Z h x cs) {z : Int32} (S : Sta Z h "java/lang/String" "COMPACT_STRINGS" "Z" (.int z)) (hz : ¬ z = 0) (hfr : 2 ≤ R.frames) (hlo : W + 25 ≤ R.locals) :
    Back l R p e below s args (⟨"java/lang/String", "length", "()I"⟩ : MethodName) len W (fun P a => a = #[.ref x] ∧ P.U.heap = h ∧ P.cells + 0 ≤ R.cells ∧ P.slots + 0 ≤ R.slots)
      (fun P _ v B => ∃ L, own_Qv (Int32.ofNat cs.length) h v B.U.heap L ∧ B.locs = P.locs ++ L ∧ B.cells = P.cells + 0 ∧ B.slots = P.slots + 0) := by
  obtain ⟨g1, g2, t, k, g3, g4, g5, g6⟩ := H
  exact StrChars.Road.lenW hZ hw wi g1 g3 g2 g4 (Or.inl ⟨rfl, rfl, rfl, fun c q => (g5 c q).2⟩) (own_c64 g5) S hz g6 hfr hlo
theorem own_chB {p : Program} {l : Launch} {e : Env} {R : Room} {s : State} {args : Array Value} {below : List Frame} {len W : Nat} {Z : State} {a0 : Array Value} {h : Heap} (hZ : Z.Warmed39 s.vm) (hw : ∀ d ∈ StrChars.Road.wordsChN, d.before a0 Z = true) {kI : Nat} (wi : (Jvm.Cond.instantiable "java/lang/String" kI).before a0 Z = true)
    {x : Addr} {cs : List Int32} (H : own_Sl Z h x cs) {j : Int32} (hj : own_In cs j) {z : Int32} (S : Sta Z h "java/lang/String" "COMPACT_STRINGS" "Z" (.int z)) (hz : ¬ z = 0) {fm : Value} (F : Sta Z h "jdk/internal/util/Preconditions" "SIOOBE_FORMATTER" "Ljava/util/function/BiFunction;" fm) (rf : fm.isRef = true) (hfr : 4 ≤ R.frames) (hlo : W + 53 ≤ R.locals) :
    Back l R p e below s args (⟨"java/lang/String", "charAt", "(I)C"⟩ : MethodName) len W (fun P a => a = #[.ref x, .int j] ∧ P.U.heap = h ∧ P.cells + 0 ≤ R.cells ∧ P.slots + 0 ≤ R.slots)
      (fun P _ v B => ∃ L, own_Qv (own_get cs j) h v B.U.heap L ∧ B.locs = P.locs ++ L ∧ B.cells = P.cells + 0 ∧ B.slots = P.slots + 0) := by
  obtain ⟨g1, g2, t, k, g3, g4, g5, g6⟩ := H
  have e0 : (0 : Int32).toInt = 0 := by decide
  have a1 := mt Int32.lt_iff_toInt_lt.mpr hj.1
  have a2 := rng32 j
  have hh : j = Int32.ofNat j.toNatClampNeg := Int32.toInt_inj.mp (by
    have q : (Int32.ofNat j.toNatClampNeg).toInt = (j.toNatClampNeg : Int) := len_toInt (by show j.toInt.toNat < _; omega)
    rw [q]; show _ = ((j.toInt.toNat : Nat) : Int); omega)
  exact StrChars.Road.chN hZ hw wi g1 g3 g2 g4 (Or.inl ⟨rfl, rfl, rfl, fun c q => (g5 c q).2⟩) (own_c64 g5) S hz F rf g6 hj.2 hh hfr hlo
theorem own_c8get {Z : State} {h : Heap} {a : Addr} {cs : List Int32} {j : Int32} (H : own_Sl Z h a cs) (hj : own_In cs j) : own_C8 (own_get cs j) := by
  obtain ⟨g1, g2, t, k, g3, g4, g5, g6⟩ := H
  unfold own_get
  have e : cs.getD j.toNatClampNeg 0 = cs[j.toNatClampNeg]'hj.2 := by simp [List.getD_eq_getElem?_getD, hj.2]
  rw [e]
  exact g5 _ (List.getElem_mem _)
theorem own_sw3 {Z : State} {a0 : Array Value} (hw : ∀ d ∈ tables_1, d.before a0 Z = true) : ∀ d ∈ StrChars.Road.wordsLen, d.before a0 Z = true := fun d hd => hw d ((by decide +kernel : ∀ d ∈ StrChars.Road.wordsLen, d ∈ tables_1) d hd)
theorem own_sw4 {Z : State} {a0 : Array Value} (hw : ∀ d ∈ tables_1, d.before a0 Z = true) : ∀ d ∈ StrChars.Road.wordsChN, d.before a0 Z = true := fun d hd => hw d ((by decide +kernel : ∀ d ∈ StrChars.Road.wordsChN, d ∈ tables_1) d hd)
theorem own_clA {cs : List Int32} {m p c i : Int32} (h1 : m = (1 : Int32)) (h2 : i = p) (g : own_C8 c) : nar .char c = own_cell cs m p c i := by unfold own_cell; rw [if_pos h1, if_pos h2, own_nar8 g]
theorem own_clB {cs : List Int32} {m p c i : Int32} (h1 : m = (1 : Int32)) (h2 : ¬ i = p) (g : own_C8 (own_get cs i)) : nar .char (own_get cs i) = own_cell cs m p c i := by unfold own_cell; rw [if_pos h1, if_neg h2, own_nar8 g]
theorem own_clF {cs : List Int32} {m p c i : Int32} (h1 : ¬ m = (1 : Int32)) (h3 : ¬ m = (3 : Int32)) (g : own_C8 (own_get cs i)) : nar .char (own_get cs i) = own_cell cs m p c i := by unfold own_cell; rw [if_neg h1, if_neg h3, own_nar8 g]
theorem own_clC {cs : List Int32} {m p c i : Int32} (h1 : ¬ m = (1 : Int32)) (h3 : m = (3 : Int32)) (hl : i < p) (g : own_C8 (own_get cs i)) : nar .char (own_get cs i) = own_cell cs m p c i := by unfold own_cell; rw [if_neg h1, if_pos h3, if_pos hl, own_nar8 g]
theorem own_clD {cs : List Int32} {m p c i : Int32} (h1 : ¬ m = (1 : Int32)) (h3 : m = (3 : Int32)) (hl : ¬ i < p) (he : i = p) (g : own_C8 c) : nar .char c = own_cell cs m p c i := by unfold own_cell; rw [if_neg h1, if_pos h3, if_neg hl, if_pos he, own_nar8 g]
theorem own_clE {cs : List Int32} {m p c i : Int32} (h1 : ¬ m = (1 : Int32)) (h3 : m = (3 : Int32)) (hl : ¬ i < p) (he : ¬ i = p) (g : own_C8 (own_get cs (i - (1 : Int32)))) : nar .char (own_get cs (i - (1 : Int32))) = own_cell cs m p c i := by unfold own_cell; rw [if_neg h1, if_pos h3, if_neg hl, if_neg he, own_nar8 g]
theorem own_clP {x y : Int32} (e : nar .char x = y) (g : own_C8 x) : own_C8 y := e ▸ own_c8n g
theorem own_ne0 {x : Int32} (h : (0 : Int32) < x) : ¬ x = (0 : Int32) := fun q => by rw [q] at h; exact absurd h (by decide)
theorem own_wl1 {b : Int32} (h : own_V4 b) : ¬ (Int32.ofNat (own_w b).length + (1 : Int32)) = (0 : Int32) := by rcases h with rfl | rfl | rfl | rfl <;> decide
theorem own_PN1 {b m q : Int32} (h1 : m = (1 : Int32)) (hl : (0 : Int32) < Int32.ofNat (own_w b).length) : own_PN b m ((q &&& (2147483647 : Int32)) % Int32.ofNat (own_w b).length) (Int32.ofNat (own_w b).length) := by
  have a0 : (0 : Int32).toInt = 0 := by decide
  have a1 := c_mask q 2147483647 31 (by decide) (by decide)
  have a2 := c_irem (q &&& 2147483647) (Int32.ofNat (own_w b).length) _ rfl
  have a3 := Int32.lt_iff_toInt_lt.mp hl
  have a4 := Int.emod_nonneg (q &&& 2147483647).toInt (b := (Int32.ofNat (own_w b).length).toInt) (by omega)
  have a5 := Int.emod_lt_of_pos (q &&& 2147483647).toInt (b := (Int32.ofNat (own_w b).length).toInt) (by omega)
  have a6 := a2.1 (by omega)
  exact Or.inl ⟨h1, rfl, by omega, Or.inl (by show _ < (Int32.ofNat (own_w b).length).toInt; omega)⟩
theorem own_PN0 {b m : Int32} (hb : own_V4 b) (h1 : m = (1 : Int32)) (hl : ¬ (0 : Int32) < Int32.ofNat (own_w b).length) : own_PN b m (0 : Int32) (Int32.ofNat (own_w b).length) := by
  refine Or.inl ⟨h1, rfl, by decide, Or.inr ⟨?_, by decide⟩⟩
  rcases hb with rfl | rfl | rfl | rfl <;> revert hl <;> decide
theorem own_rem1 {b q : Int32} (hb : own_V4 b) : 0 ≤ ((q &&& (2147483647 : Int32)) % (Int32.ofNat (own_w b).length + (1 : Int32))).toInt ∧ ((q &&& (2147483647 : Int32)) % (Int32.ofNat (own_w b).length + (1 : Int32))).toInt ≤ (own_wl b).toInt := by
  have g : (Int32.ofNat (own_w b).length + (1 : Int32)).toInt = (own_wl b).toInt + 1 ∧ 0 ≤ (own_wl b).toInt := by rcases hb with rfl | rfl | rfl | rfl <;> decide
  have a1 := c_mask q 2147483647 31 (by decide) (by decide)
  have a2 := c_irem (q &&& 2147483647) (Int32.ofNat (own_w b).length + (1 : Int32)) _ rfl
  have a4 := Int.emod_nonneg (q &&& 2147483647).toInt (b := (Int32.ofNat (own_w b).length + (1 : Int32)).toInt) (by omega)
  have a5 := Int.emod_lt_of_pos (q &&& 2147483647).toInt (b := (Int32.ofNat (own_w b).length + (1 : Int32)).toInt) (by omega)
  have a6 := a2.1 (by omega)
  omega
theorem own_PN2 {b m q : Int32} (hb : own_V4 b) (h1 : m = (2 : Int32)) : own_PN b m ((q &&& (2147483647 : Int32)) % (Int32.ofNat (own_w b).length + (1 : Int32))) ((q &&& (2147483647 : Int32)) % (Int32.ofNat (own_w b).length + (1 : Int32))) := Or.inr (Or.inl ⟨h1, rfl, (own_rem1 hb).1, (own_rem1 hb).2⟩)
theorem own_PN3 {b m q : Int32} (hb : own_V4 b) (h1 : m = (3 : Int32)) : own_PN b m ((q &&& (2147483647 : Int32)) % (Int32.ofNat (own_w b).length + (1 : Int32))) (Int32.ofNat (own_w b).length + (1 : Int32)) := Or.inr (Or.inr (Or.inl ⟨h1, rfl, (own_rem1 hb).1, (own_rem1 hb).2⟩))
theorem own_PN4 {b m : Int32} (h1 : ¬ m = (1 : Int32)) (h2 : ¬ m = (2 : Int32)) (h3 : ¬ m = (3 : Int32)) : own_PN b m (0 : Int32) (Int32.ofNat (own_w b).length) := Or.inr (Or.inr (Or.inr ⟨h1, h2, h3, rfl, rfl⟩))
theorem own_neOrdK {args : Array Value} {s : State} {t1 t2 : Term} {wx wy : Addr} {C f : String} {k1 k2 : Int32} (hk : k1 ≠ k2) (n3 : (Jvm.Cond.eq (Term.field t1 C f "I") (Term.int k1)).value args s none s [] = some true) (n4 : (Jvm.Cond.eq (Term.field t2 C f "I") (Term.int k2)).value args s none s [] = some true)
    (e1 : t1.eval args s none [] s = some (.ref wx)) (e2 : t2.eval args s none [] s = some (.ref wy)) : wx ≠ wy := by
  rintro rfl
  have h1 := (fld_at e1).symm.trans (eqv_i (Term.int_eval k1) n3)
  have h2 := (fld_at e2).symm.trans (eqv_i (Term.int_eval k2) n4)
  rw [h1] at h2
  exact hk (by simpa using h2)
def own_Olds (Z : State) (zc : Int32) (wsf : Value) (ws0 : Addr) (ws1 : Addr) (ws2 : Addr) : Prop := Sta Z Z.heap "java/lang/String" "COMPACT_STRINGS" "Z" (.int zc) ∧ ¬ zc = (0 : Int32) ∧ Sta Z Z.heap "jdk/internal/util/Preconditions" "SIOOBE_FORMATTER" "Ljava/util/function/BiFunction;" wsf ∧ wsf.isRef = true ∧ Sta Z Z.heap "com/example/slotsholmen/slotsholmen/schema/Section" "ATTRIBUTES" "Lcom/example/slotsholmen/slotsholmen/schema/Section;" (.ref ws0) ∧ Sta Z Z.heap "com/example/slotsholmen/slotsholmen/schema/Section" "STATES" "Lcom/example/slotsholmen/slotsholmen/schema/Section;" (.ref ws1) ∧ Sta Z Z.heap "com/example/slotsholmen/slotsholmen/schema/Section" "RELATIONS" "Lcom/example/slotsholmen/slotsholmen/schema/Section;" (.ref ws2) ∧ Exa Z Z.heap ws0 "com/example/slotsholmen/slotsholmen/schema/Section" ∧ Exa Z Z.heap ws1 "com/example/slotsholmen/slotsholmen/schema/Section" ∧ Exa Z Z.heap ws2 "com/example/slotsholmen/slotsholmen/schema/Section" ∧ ws0 ≠ ws2 ∧ ws1 ≠ ws2
theorem d5_0 : decode jdk_42_method_149_code 0 = .ok (.aload_n 0, 1) := by decide +kernel
theorem d5_1 : decode jdk_42_method_149_code 1 = .ok (.invokespecial 1, 3) := by decide +kernel
theorem d5_4 : decode jdk_42_method_149_code 4 = .ok (.iload_n 3, 1) := by decide +kernel
theorem d5_5 : decode jdk_42_method_149_code 5 = .ok (.ifCond .ne 22, 3) := by decide +kernel
theorem d5_8 : decode jdk_42_method_149_code 8 = .ok (.aload_n 0, 1) := by decide +kernel
theorem d5_9 : decode jdk_42_method_149_code 9 = .ok (.ldc 7, 2) := by decide +kernel
theorem d5_11 : decode jdk_42_method_149_code 11 = .ok (.getfield 9, 3) := by decide +kernel
theorem d5_14 : decode jdk_42_method_149_code 14 = .ok (.putfield 9, 3) := by decide +kernel
theorem d5_17 : decode jdk_42_method_149_code 17 = .ok (.aload_n 0, 1) := by decide +kernel
theorem d5_18 : decode jdk_42_method_149_code 18 = .ok (.ldc 7, 2) := by decide +kernel
theorem d5_20 : decode jdk_42_method_149_code 20 = .ok (.getfield 15, 3) := by decide +kernel
theorem d5_23 : decode jdk_42_method_149_code 23 = .ok (.putfield 15, 3) := by decide +kernel
theorem d5_26 : decode jdk_42_method_149_code 26 = .ok (.return_, 1) := by decide +kernel
def Q_st2E (Z : State) (zc : Int32) (wsf : Value) (ws0 : Addr) (ws1 : Addr) (ws2 : Addr) (a1 : Addr) (a2 : Addr) (k : ClassId) (h0 : Heap) (v : Option Value) (h : Heap) (L : List Loc) : Prop := (∃ t : Addr, ∃ kt : ClassId, v = none ∧ Fr Z.heap.size L ∧ Keep h0 h [a1] ∧ Exa Z h a1 "java/lang/String" ∧ Fld Z h a1 "java/lang/String" "coder" "B" (.int (0 : Int32)) ∧ Fld Z h a1 "java/lang/String" "value" "[B" (.ref t) ∧ Arv Z h t kt .byte (0 : Int32) [] (.int (0 : Int32)))
theorem ef_st2E (m : MethodId) (x0 : Addr) (x1 : Addr) : entryFrame m #[(.ref x0), (.ref x1), (.int (0 : Int32)), (.int (0 : Int32)), .null] 6 = mkF m 0 #[rv x0, rv x1, iv (0 : Int32), iv (0 : Int32), .val .null, .unset] [] := by first | (simp [entryFrame, mkF, argsToLocals, Value.category]; done) | rfl
set_option maxRecDepth 65536 in
set_option maxHeartbeats 40000000 in
theorem rm_st2E (l : Launch) (Z : State) (a0 : Array Value) (hw : own_W Z a0) {zc : Int32} {wsf : Value} {ws0 : Addr} {ws1 : Addr} {ws2 : Addr} (hO : own_Olds Z zc wsf ws0 ws1 ws2) (ws : List Jvm.Cond) (a1 : Addr) (a2 : Addr) (k : ClassId) (h0 : Heap) (O0 : Ext Z.heap h0) (fp0 : Exa Z h0 a1 "java/lang/String") (fp1 : Fld Z h0 a1 "java/lang/String" "value" "[B" .null) (fp2 : Fld Z h0 a1 "java/lang/String" "coder" "B" (.int (0 : Int32))) (fp3 : Arv Z h0 a2 k .char (0 : Int32) [] (.int (0 : Int32))) (big_a1 : Z.heap.size ≤ a1) :
    MetFree l own_y0 (head1 (Jvm.Cond.code own_y0 jdk_42_method_149_code 6 none :: ws) ({ frames := 1, cells := 2, slots := 4, locals := 12 } : Room)) (fun a U => a = #[(.ref a1), (.ref a2), (.int (0 : Int32)), (.int (0 : Int32)), .null] ∧ Z.Warmed39 U.vm ∧ U.heap = h0 ∧ own_J Z U.vm U.heap) (fun _ _ _ _ _ => True) (fun _ U o U' => ∃ v L, o = .returned v ∧ ((Q_st2E Z zc wsf ws0 ws1 ws2 a1 a2 k h0) v U'.heap L ∧ own_J Z U'.vm U'.heap) ∧ ReturnedEndW U o U' L ({ frames := 1, cells := 2, slots := 4, locals := 12 } : Room).cells ({ frames := 1, cells := 2, slots := 4, locals := 12 } : Room).slots) := by
  refine own_metW (Q := (Q_st2E Z zc wsf ws0 ws1 ws2 a1 a2 k h0)) _ _ (plainFor_of_name own_pn_0) ?_
  intro p e s vm0 m below meth c T X0 hS hJ hJ0 hZ0 hI hs0 hx hby hml hret hlk hZ hown hnm e0
  replace hown : (s.setVm vm0).vm.findClass "java/lang/String" = some m.cls := hown
  replace hnm : meth.name = "<init>" := hnm
  have hml : c.maxLocals = 6 := hml
  obtain ⟨oCS, oCz, oSF, r_wsf, oS0, oS1, oS2, oSE0, oSE1, oSE2, oN02, oN12⟩ := id hO
  have N0 := Fr.nil Z.heap.size
  have hL := own_Lhw hw
  have K0 := Keep.refl h0 [a1]
  refine own_goW (fun _ k => castTop (ef_st2E m a1 a2) k) ?_
  have ne1 : a2 ≠ a1 := (Ne.symm (Exa.neArv fp0 fp3 (ow7 hw)))
  show own_GoW p e below s _ _ _ _ (T.setTop (mkF m 0 #[rv a1, rv a2, iv (0 : Int32), iv (0 : Int32), .val .null, .unset] []))
  refine own_goW (fun _ k => XS.aloadN X0.here hx rfl (hb hby d5_0) rfl rfl k) ?_
  obtain ⟨T2, X2, e2, st2⟩ := initO X0 hx hZ hown (ow35 hw) (ow36 hw) (ow37 hw) e0 (g := (mkF m 1 #[rv a1, rv a2, iv (0 : Int32), iv (0 : Int32), .val .null, .unset] [(.ref a1)])) rfl (by rw [hml]; rfl) rfl (hb hby d5_1) (by decide) (W := 0) (by show 2 * 0 + _ ≤ _; exact Nat.le_of_eq rfl) (by decide)
  refine own_goW st2 ?_
  clear st2 X0 e0
  refine own_goW (fun _ k => XS.iloadN X2.here hx rfl (hb hby d5_4) rfl (XS.ifNo X2.here hx rfl (hb hby d5_5) rfl ((if0 _ _).trans (teq (by decide : (0 : Int32) = (0 : Int32))).2) (XS.aloadN X2.here hx rfl (hb hby d5_8) rfl rfl k))) ?_
  show own_GoW p e below s _ _ _ _ (T2.setTop (mkF m 9 #[rv a1, rv a2, iv (0 : Int32), iv (0 : Int32), .val .null, .unset] [(.ref a1)]))
  obtain ⟨b3, T3, h3, vm3, u3, X3, e3, E3, hSn, hZn, hownn, hJn, li3, tx3, sl3, st3⟩ := own_ldcK X2 hS hx hZ hown hL (List.mem_of_getElem? (i := 7) rfl) (ow38 hw) (own_wS hw) e2 hJ (by decide) (g := (mkF m 9 #[rv a1, rv a2, iv (0 : Int32), iv (0 : Int32), .val .null, .unset] [(.ref a1)])) rfl (hb hby d5_9) (n := 0) (by decide) (by decide) (by show _ ≤ 2; omega) (by show _ ≤ 4; omega)
  refine own_goW st3 ?_
  clear st3 X2 e2
  replace hS := hSn
  replace hZ := hZn
  replace hown := hownn
  replace hJ := hJn
  clear hSn hZn hownn hJn
  replace fp0 := fp0.ext E3
  replace fp1 := fp1.ext E3
  replace fp2 := fp2.ext E3
  replace O0 := own_oldExt O0 E3
  replace K0 := K0.ext E3
  clear E3
  obtain ⟨t3, kt3, g13, g23, g33, g43⟩ := own_litFacts hZ sl3 tx3 (by decide)
  clear sl3 tx3
  replace g43 : Arv Z h3 t3 kt3 .byte (0 : Int32) [] (.int (0 : Int32)) := g43
  obtain ⟨T4, X4, e4, st4⟩ := getF X3 hx hZ hown (host := "") (Or.inl (ow18 hw)) Via.refl e3 g33 (g := (mkF m 11 #[rv a1, rv a2, iv (0 : Int32), iv (0 : Int32), .val .null, .unset] [(.ref b3), (.ref a1)])) rfl rfl (hb hby d5_11)
  refine own_goW st4 ?_
  clear st4 X3 e3
  obtain ⟨T5, h5, X5, e5, W5, st5⟩ := putF X4 hx hZ hown (host := "") (Or.inl (ow18 hw)) Via.refl e4 fp1 fp0 (Or.inr ⟨(ow9 hw), rfl, hnm⟩) (ow7 hw) (ty := (.array .byte)) own_fd0 rfl rfl (g := (mkF m 14 #[rv a1, rv a2, iv (0 : Int32), iv (0 : Int32), .val .null, .unset] [(.ref t3), (.ref a1)])) rfl rfl (hb hby d5_14)
  refine own_goW st5 ?_
  clear st5 X4 e4
  replace N0 := Fr.snoc X5 N0 big_a1
  have hAp_a1 := own_apart hZ hJ fp1
  replace hJ := own_JwrS hZ hJ W5 hAp_a1 fp0 (ow7 hw)
  have ne6 : b3 ≠ a1 := (Fld.ne g33 fp1 (fun q => nomatch q))
  have ne7 : t3 ≠ a1 := (Ne.symm (Exa.neArv fp0 g43 (ow7 hw)))
  replace fp0 := fp0.wr W5
  replace fp1 := fp1.same W5
  replace fp2 := fp2.other W5 (.inr (own_sn0 hw))
  replace g13 := g13.wr W5
  replace g23 := g23.other W5 (Or.inl ne6)
  replace g33 := g33.other W5 (Or.inl ne6)
  replace g43 := g43.other W5 ne7
  replace O0 := own_oldWr O0 W5 big_a1
  replace K0 := K0.wr W5 (Or.inl (List.mem_of_getElem? (i := 0) rfl))
  replace hS := own_since hS (Nat.le_of_eq W5.size.symm)
  clear W5
  refine own_goW (fun _ k => XS.aloadN X5.here hx rfl (hb hby d5_17) rfl rfl k) ?_
  refine own_goW (ldcAgain X5 hx hZ hown (ow38 hw) li3 (g := (mkF m 18 #[rv a1, rv a2, iv (0 : Int32), iv (0 : Int32), .val .null, .unset] [(.ref a1)])) rfl (hb hby d5_18)) ?_
  show own_GoW p e below s _ _ _ _ (T5.setTop (mkF m 20 #[rv a1, rv a2, iv (0 : Int32), iv (0 : Int32), .val .null, .unset] [(.ref b3), (.ref a1)]))
  obtain ⟨T9, X9, e9, st9⟩ := getF X5 hx hZ hown (host := "") (Or.inl (ow25 hw)) Via.refl e5 g23 (g := (mkF m 20 #[rv a1, rv a2, iv (0 : Int32), iv (0 : Int32), .val .null, .unset] [(.ref b3), (.ref a1)])) rfl rfl (hb hby d5_20)
  refine own_goW st9 ?_
  clear st9 X5 e5
  obtain ⟨T10, h10, X10, e10, W10, st10⟩ := putFN X9 hx hZ hown (ow25 hw) Via.refl e9 fp2 fp0 (Or.inr ⟨(ow10 hw), rfl, hnm⟩) (ow7 hw) (ty := .byte) (v' := (.int (0 : Int32))) own_fd1 rfl (by decide) (g := (mkF m 23 #[rv a1, rv a2, iv (0 : Int32), iv (0 : Int32), .val .null, .unset] [(.int (0 : Int32)), (.ref a1)])) rfl rfl (hb hby d5_23)
  refine own_goW st10 ?_
  clear st10 X9 e9
  replace N0 := Fr.snoc X10 N0 big_a1
  replace hJ := own_JwrS hZ hJ W10 hAp_a1 fp0 (ow7 hw)
  replace fp0 := fp0.wr W10
  replace fp1 := fp1.other W10 (.inr (own_sn0 hw).symm)
  replace fp2 := fp2.same W10
  replace g13 := g13.wr W10
  replace g23 := g23.other W10 (Or.inl ne6)
  replace g33 := g33.other W10 (Or.inl ne6)
  replace g43 := g43.other W10 ne7
  replace O0 := own_oldWr O0 W10 big_a1
  replace K0 := K0.wr W10 (Or.inl (List.mem_of_getElem? (i := 0) rfl))
  replace hS := own_since hS (Nat.le_of_eq W10.size.symm)
  clear W10
  show own_GoW p e below s _ _ _ _ (T10.setTop (mkF m 26 #[rv a1, rv a2, iv (0 : Int32), iv (0 : Int32), .val .null, .unset] []))
  refine own_retVW X10 hS hL hZ hJ hx hlk e10 hret (hb hby d5_26) (by show _ ≤ 2; omega) (by show _ ≤ 4; omega) ?_
  exact ⟨t3, kt3, rfl, N0, K0, fp0, fp2, fp1, g43⟩
theorem d4_0 : decode jdk_42_method_3_code 0 = .ok (.aload_n 0, 1) := by decide +kernel
theorem d4_1 : decode jdk_42_method_3_code 1 = .ok (.aload_n 1, 1) := by decide +kernel
theorem d4_2 : decode jdk_42_method_3_code 2 = .ok (.iconst 0, 1) := by decide +kernel
theorem d4_3 : decode jdk_42_method_3_code 3 = .ok (.aload_n 1, 1) := by decide +kernel
theorem d4_4 : decode jdk_42_method_3_code 4 = .ok (.arraylength, 1) := by decide +kernel
theorem d4_5 : decode jdk_42_method_3_code 5 = .ok (.aconst_null, 1) := by decide +kernel
theorem d4_6 : decode jdk_42_method_3_code 6 = .ok (.invokespecial 27, 3) := by decide +kernel
theorem d4_9 : decode jdk_42_method_3_code 9 = .ok (.return_, 1) := by decide +kernel
def Q_st1E (Z : State) (zc : Int32) (wsf : Value) (ws0 : Addr) (ws1 : Addr) (ws2 : Addr) (a1 : Addr) (a2 : Addr) (k : ClassId) (h0 : Heap) (v : Option Value) (h : Heap) (L : List Loc) : Prop := (∃ t : Addr, ∃ kt : ClassId, v = none ∧ Fr Z.heap.size L ∧ Keep h0 h [a1] ∧ Exa Z h a1 "java/lang/String" ∧ Fld Z h a1 "java/lang/String" "coder" "B" (.int (0 : Int32)) ∧ Fld Z h a1 "java/lang/String" "value" "[B" (.ref t) ∧ Arv Z h t kt .byte (0 : Int32) [] (.int (0 : Int32)))
theorem ef_st1E (m : MethodId) (x0 : Addr) (x1 : Addr) : entryFrame m #[(.ref x0), (.ref x1)] 2 = mkF m 0 #[rv x0, rv x1] [] := by first | (simp [entryFrame, mkF, argsToLocals, Value.category]; done) | rfl
set_option maxRecDepth 65536 in
set_option maxHeartbeats 40000000 in
theorem rm_st1E (l : Launch) (Z : State) (a0 : Array Value) (hw : own_W Z a0) {zc : Int32} {wsf : Value} {ws0 : Addr} {ws1 : Addr} {ws2 : Addr} (hO : own_Olds Z zc wsf ws0 ws1 ws2) (ws : List Jvm.Cond) (a1 : Addr) (a2 : Addr) (k : ClassId) (h0 : Heap) (O0 : Ext Z.heap h0) (fp0 : Exa Z h0 a1 "java/lang/String") (fp1 : Fld Z h0 a1 "java/lang/String" "value" "[B" .null) (fp2 : Fld Z h0 a1 "java/lang/String" "coder" "B" (.int (0 : Int32))) (fp3 : Arv Z h0 a2 k .char (0 : Int32) [] (.int (0 : Int32))) (big_a1 : Z.heap.size ≤ a1) :
    MetFree l own_y1 (head1 (Jvm.Cond.code own_y1 jdk_42_method_3_code 2 none :: ws) ({ frames := 2, cells := 2, slots := 4, locals := 29 } : Room)) (fun a U => a = #[(.ref a1), (.ref a2)] ∧ Z.Warmed39 U.vm ∧ U.heap = h0 ∧ own_J Z U.vm U.heap) (fun _ _ _ _ _ => True) (fun _ U o U' => ∃ v L, o = .returned v ∧ ((Q_st1E Z zc wsf ws0 ws1 ws2 a1 a2 k h0) v U'.heap L ∧ own_J Z U'.vm U'.heap) ∧ ReturnedEndW U o U' L ({ frames := 2, cells := 2, slots := 4, locals := 29 } : Room).cells ({ frames := 2, cells := 2, slots := 4, locals := 29 } : Room).slots) := by
  refine own_metW (Q := (Q_st1E Z zc wsf ws0 ws1 ws2 a1 a2 k h0)) _ _ (plainFor_of_name own_pn_0) ?_
  intro p e s vm0 m below meth c T X0 hS hJ hJ0 hZ0 hI hs0 hx hby hml hret hlk hZ hown hnm e0
  replace hown : (s.setVm vm0).vm.findClass "java/lang/String" = some m.cls := hown
  replace hnm : meth.name = "<init>" := hnm
  have hml : c.maxLocals = 2 := hml
  obtain ⟨oCS, oCz, oSF, r_wsf, oS0, oS1, oS2, oSE0, oSE1, oSE2, oN02, oN12⟩ := id hO
  have N0 := Fr.nil Z.heap.size
  have hL := own_Lhw hw
  have K0 := Keep.refl h0 [a1]
  refine own_goW (fun _ k => castTop (ef_st1E m a1 a2) k) ?_
  have ne1 : a2 ≠ a1 := (Ne.symm (Exa.neArv fp0 fp3 (ow7 hw)))
  show own_GoW p e below s _ _ _ _ (T.setTop (mkF m 0 #[rv a1, rv a2] []))
  refine own_goW (fun _ k => XS.aloadN X0.here hx rfl (hb hby d4_0) rfl rfl (XS.aloadN X0.here hx rfl (hb hby d4_1) rfl rfl (XS.iconst X0.here hx rfl (hb hby d4_2) (XS.aloadN X0.here hx rfl (hb hby d4_3) rfl rfl k)))) ?_
  show own_GoW p e below s _ _ _ _ (T.setTop (mkF m 4 #[rv a1, rv a2] [(.ref a2), (.int (0 : Int32)), (.ref a2), (.ref a1)]))
  obtain ⟨cl2, Ar2, -, S2, M2, -, -⟩ := id (fp3.keep K0 (ninS ne1 nin0))
  refine own_goW (X0.arraylength hx (by rw [e0]; exact Ar2.1) (State.isArrayOf_alike hZ.alike Ar2.2.1) (g := (mkF m 4 #[rv a1, rv a2] [(.ref a2), (.int (0 : Int32)), (.ref a2), (.ref a1)])) rfl rfl (hb hby d4_4)) ?_
  rw [len_of S2 M2]
  refine own_goW (fun _ k => XS.aconstNull X0.here hx rfl (hb hby d4_5) k) ?_
  obtain ⟨v3, T3, L3, X3, hSn, hZn, hownn, hQ3, hJn, st3⟩ := own_callIW (y := own_y0) X0 hS hL hJ hx hZ hown (ow31 hw) (ow32 hw) (ow6 hw) (ow34 hw) (rm_st2E l Z a0 hw hO [] a1 a2 k h0 O0 fp0 fp1 fp2 (fp3.keep K0 (ninS ne1 nin0)) big_a1) 0 2 4 rfl (by show _ ≤ 2; omega) (by show _ ≤ 4; omega) e0 (g := (mkF m 6 #[rv a1, rv a2] [.null, (.int (0 : Int32)), (.int (0 : Int32)), (.ref a2), (.ref a1)])) rfl (by rw [hml]; rfl) a1 [(.ref a2), (.int (0 : Int32)), (.int (0 : Int32)), .null] [] (lenOf own_pd_0 rfl) rfl rfl (hb hby d4_6)
  replace hS := hSn
  replace hZ := hZn
  replace hown := hownn
  replace hJ := hJn
  clear hSn hZn hownn hJn
  obtain ⟨w4, w5, rfl, Nc11, Kc10, f6, f7, f8, f9⟩ := hQ3
  refine own_goW st3 ?_
  clear st3 X0 e0
  replace N0 := Fr.app N0 Nc11
  clear Nc11
  replace fp0 := fp0.keep Kc10
  clear fp1
  clear fp2
  replace O0 := own_oldKeep O0 Kc10 (allS big_a1 all0)
  replace K0 := K0.trans Kc10 (allS (Or.inl (List.mem_of_getElem? (i := 0) rfl)) all0)
  clear Kc10
  show own_GoW p e below s _ _ _ _ (T3.setTop (mkF m 9 #[rv a1, rv a2] []))
  refine own_retVW X3 hS hL hZ hJ hx hlk (rfl : T3.heap = T3.heap) hret (hb hby d4_9) (by show _ ≤ 2; omega) (by show _ ≤ 4; omega) ?_
  exact ⟨w4, w5, rfl, N0, K0, f6, f7, f8, f9⟩
theorem d1_0 : decode method_2_code 0 = .ok (.iload_n 0, 1) := by decide +kernel
theorem d1_1 : decode method_2_code 1 = .ok (.ifCond .ne 6, 3) := by decide +kernel
theorem d1_4 : decode method_2_code 4 = .ok (.ldc 7, 2) := by decide +kernel
theorem d1_6 : decode method_2_code 6 = .ok (.areturn, 1) := by decide +kernel
theorem d1_7 : decode method_2_code 7 = .ok (.iload_n 0, 1) := by decide +kernel
theorem d1_8 : decode method_2_code 8 = .ok (.iconst 1, 1) := by decide +kernel
theorem d1_9 : decode method_2_code 9 = .ok (.if_icmp .ne 6, 3) := by decide +kernel
theorem d1_12 : decode method_2_code 12 = .ok (.ldc 9, 2) := by decide +kernel
theorem d1_14 : decode method_2_code 14 = .ok (.areturn, 1) := by decide +kernel
theorem d1_15 : decode method_2_code 15 = .ok (.iload_n 0, 1) := by decide +kernel
theorem d1_16 : decode method_2_code 16 = .ok (.iconst 2, 1) := by decide +kernel
theorem d1_17 : decode method_2_code 17 = .ok (.if_icmp .ne 6, 3) := by decide +kernel
theorem d1_20 : decode method_2_code 20 = .ok (.ldc 11, 2) := by decide +kernel
theorem d1_22 : decode method_2_code 22 = .ok (.areturn, 1) := by decide +kernel
theorem d1_23 : decode method_2_code 23 = .ok (.ldc 13, 2) := by decide +kernel
theorem d1_25 : decode method_2_code 25 = .ok (.areturn, 1) := by decide +kernel
def Q_word (Z : State) (zc : Int32) (wsf : Value) (ws0 : Addr) (ws1 : Addr) (ws2 : Addr) (p1 : Int32) (h0 : Heap) (v : Option Value) (h : Heap) (L : List Loc) : Prop := (∃ b : Addr, v = some (.ref b) ∧ Fr Z.heap.size L ∧ Keep h0 h [] ∧ Exa Z h b "java/lang/String" ∧ own_Sl Z h b (own_w p1))
theorem ef_word (m : MethodId) (x0 : Int32) : entryFrame m #[(.int x0)] 1 = mkF m 0 #[iv x0] [] := by first | (simp [entryFrame, mkF, argsToLocals, Value.category]; done) | rfl
set_option maxRecDepth 65536 in
set_option maxHeartbeats 40000000 in
theorem rm_word (l : Launch) (Z : State) (a0 : Array Value) (hw : own_W Z a0) {zc : Int32} {wsf : Value} {ws0 : Addr} {ws1 : Addr} {ws2 : Addr} (hO : own_Olds Z zc wsf ws0 ws1 ws2) (ws : List Jvm.Cond) (p1 : Int32) (h0 : Heap) (O0 : Ext Z.heap h0) :
    MetFree l own_y2 (head1 (Jvm.Cond.code own_y2 method_2_code 1 (some (.object "java/lang/String")) :: ws) ({ frames := 0, cells := 2, slots := 44, locals := 0 } : Room)) (fun a U => a = #[(.int p1)] ∧ Z.Warmed39 U.vm ∧ U.heap = h0 ∧ own_J Z U.vm U.heap) (fun _ _ _ _ _ => True) (fun _ U o U' => ∃ v L, o = .returned v ∧ ((Q_word Z zc wsf ws0 ws1 ws2 p1 h0) v U'.heap L ∧ own_J Z U'.vm U'.heap) ∧ ReturnedEndW U o U' L ({ frames := 0, cells := 2, slots := 44, locals := 0 } : Room).cells ({ frames := 0, cells := 2, slots := 44, locals := 0 } : Room).slots) := by
  refine own_metW (Q := (Q_word Z zc wsf ws0 ws1 ws2 p1 h0)) _ _ (plainFor_of_name own_pn_1) ?_
  intro p e s vm0 m below meth c T X0 hS hJ hJ0 hZ0 hI hs0 hx hby hml hret hlk hZ hown hnm e0
  replace hown : (s.setVm vm0).vm.findClass "com/example/slotsholmen/slotsholmen/schema/GroupPointsAtTargetPinLaw" = some m.cls := hown
  replace hnm : meth.name = "word" := hnm
  have hml : c.maxLocals = 1 := hml
  obtain ⟨oCS, oCz, oSF, r_wsf, oS0, oS1, oS2, oSE0, oSE1, oSE2, oN02, oN12⟩ := id hO
  have N0 := Fr.nil Z.heap.size
  have hL := own_Lhw hw
  have K0 := Keep.refl h0 []
  refine own_goW (fun _ k => castTop (ef_word m p1) k) ?_
  show own_GoW p e below s _ _ _ _ (T.setTop (mkF m 0 #[iv p1] []))
  refine own_goW (fun _ k => XS.iloadN X0.here hx rfl (hb hby d1_0) rfl k) ?_
  by_cases hc1 : p1 = (0 : Int32)
  · refine own_goW (fun _ k => XS.ifNo X0.here hx rfl (hb hby d1_1) rfl ((if0 _ _).trans (teq hc1).2) k) ?_
    show own_GoW p e below s _ _ _ _ (T.setTop (mkF m 4 #[iv p1] []))
    obtain ⟨b2, T2, h2, vm2, u2, X2, e2, E2, hSn, hZn, hownn, hJn, li2, tx2, sl2, st2⟩ := own_ldcK X0 hS hx hZ hown hL (List.mem_of_getElem? (i := 3) rfl) (ow51 hw) (own_wS hw) e0 hJ (by decide) (g := (mkF m 4 #[iv p1] [])) rfl (hb hby d1_4) (n := 16) (by decide) (by decide) (by show _ ≤ 2; omega) (by show _ ≤ 44; omega)
    refine own_goW st2 ?_
    clear st2 X0 e0
    replace hS := hSn
    replace hZ := hZn
    replace hown := hownn
    replace hJ := hJn
    clear hSn hZn hownn hJn
    replace O0 := own_oldExt O0 E2
    replace K0 := K0.ext E2
    clear E2
    obtain ⟨t2, kt2, g12, g22, g32, g42⟩ := own_litFacts hZ sl2 tx2 (by decide)
    clear sl2 tx2
    replace g42 : Arv Z h2 t2 kt2 .byte (4 : Int32) [(.int (117 : Int32)), (.int (117 : Int32)), (.int (105 : Int32)), (.int (100 : Int32))] (.int (0 : Int32)) := g42
    show own_GoW p e below s _ _ _ _ (T2.setTop (mkF m 6 #[iv p1] [(.ref b2)]))
    have sl3 : own_Sl Z h2 b2 (own_w p1) := by
      rw [own_w_0 hc1]
      exact own_mkSl (cs := [(117 : Int32), (117 : Int32), (105 : Int32), (100 : Int32)]) g12 g22 g32 g42 rfl (by simp +decide) (own_cC (⟨by decide, by decide⟩ : own_C8 (117 : Int32)) (own_cC (⟨by decide, by decide⟩ : own_C8 (117 : Int32)) (own_cC (⟨by decide, by decide⟩ : own_C8 (105 : Int32)) (own_cC (⟨by decide, by decide⟩ : own_C8 (100 : Int32)) own_cN)))) (Nat.le_of_ble_eq_true rfl)
    refine own_retAW X2 hS hL hZ hJ hx hlk e2 hret rfl rfl (hb hby d1_6) (by show _ ≤ 2; omega) (by show _ ≤ 44; omega) ?_
    exact ⟨b2, rfl, N0, K0, g12, sl3⟩
  · refine own_goW (fun _ k => XS.ifYes X0.here hx rfl (pc0 := 1) (pc' := 7) rfl (hb hby d1_1) rfl ((if0 _ _).trans (feq hc1).2) (by decide) (by decide) k) ?_
    show own_GoW p e below s _ _ _ _ (T.setTop (mkF m 7 #[iv p1] []))
    refine own_goW (fun _ k => XS.iloadN X0.here hx rfl (hb hby d1_7) rfl (XS.iconst X0.here hx rfl (hb hby d1_8) k)) ?_
    by_cases hc4 : p1 = (1 : Int32)
    · refine own_goW (fun _ k => XS.icmpNo X0.here hx rfl (hb hby d1_9) rfl (teq hc4).2 k) ?_
      show own_GoW p e below s _ _ _ _ (T.setTop (mkF m 12 #[iv p1] []))
      obtain ⟨b5, T5, h5, vm5, u5, X5, e5, E5, hSn, hZn, hownn, hJn, li5, tx5, sl5, st5⟩ := own_ldcK X0 hS hx hZ hown hL (List.mem_of_getElem? (i := 4) rfl) (ow103 hw) (own_wS hw) e0 hJ (by decide) (g := (mkF m 12 #[iv p1] [])) rfl (hb hby d1_12) (n := 12) (by decide) (by decide) (by show _ ≤ 2; omega) (by show _ ≤ 44; omega)
      refine own_goW st5 ?_
      clear st5 X0 e0
      replace hS := hSn
      replace hZ := hZn
      replace hown := hownn
      replace hJ := hJn
      clear hSn hZn hownn hJn
      replace O0 := own_oldExt O0 E5
      replace K0 := K0.ext E5
      clear E5
      obtain ⟨t5, kt5, g15, g25, g35, g45⟩ := own_litFacts hZ sl5 tx5 (by decide)
      clear sl5 tx5
      replace g45 : Arv Z h5 t5 kt5 .byte (3 : Int32) [(.int (117 : Int32)), (.int (114 : Int32)), (.int (110 : Int32))] (.int (0 : Int32)) := g45
      show own_GoW p e below s _ _ _ _ (T5.setTop (mkF m 14 #[iv p1] [(.ref b5)]))
      have sl6 : own_Sl Z h5 b5 (own_w p1) := by
        rw [own_w_1 hc4]
        exact own_mkSl (cs := [(117 : Int32), (114 : Int32), (110 : Int32)]) g15 g25 g35 g45 rfl (by simp +decide) (own_cC (⟨by decide, by decide⟩ : own_C8 (117 : Int32)) (own_cC (⟨by decide, by decide⟩ : own_C8 (114 : Int32)) (own_cC (⟨by decide, by decide⟩ : own_C8 (110 : Int32)) own_cN))) (Nat.le_of_ble_eq_true rfl)
      refine own_retAW X5 hS hL hZ hJ hx hlk e5 hret rfl rfl (hb hby d1_14) (by show _ ≤ 2; omega) (by show _ ≤ 44; omega) ?_
      exact ⟨b5, rfl, N0, K0, g15, sl6⟩
    · refine own_goW (fun _ k => XS.icmpYes X0.here hx rfl (pc0 := 9) (pc' := 15) rfl (hb hby d1_9) rfl (feq hc4).2 (by decide) (by decide) k) ?_
      show own_GoW p e below s _ _ _ _ (T.setTop (mkF m 15 #[iv p1] []))
      refine own_goW (fun _ k => XS.iloadN X0.here hx rfl (hb hby d1_15) rfl (XS.iconst X0.here hx rfl (hb hby d1_16) k)) ?_
      by_cases hc7 : p1 = (2 : Int32)
      · refine own_goW (fun _ k => XS.icmpNo X0.here hx rfl (hb hby d1_17) rfl (teq hc7).2 k) ?_
        show own_GoW p e below s _ _ _ _ (T.setTop (mkF m 20 #[iv p1] []))
        obtain ⟨b8, T8, h8, vm8, u8, X8, e8, E8, hSn, hZn, hownn, hJn, li8, tx8, sl8, st8⟩ := own_ldcK X0 hS hx hZ hown hL (List.mem_of_getElem? (i := 5) rfl) (ow52 hw) (own_wS hw) e0 hJ (by decide) (g := (mkF m 20 #[iv p1] [])) rfl (hb hby d1_20) (n := 40) (by decide) (by decide) (by show _ ≤ 2; omega) (by show _ ≤ 44; omega)
        refine own_goW st8 ?_
        clear st8 X0 e0
        replace hS := hSn
        replace hZ := hZn
        replace hown := hownn
        replace hJ := hJn
        clear hSn hZn hownn hJn
        replace O0 := own_oldExt O0 E8
        replace K0 := K0.ext E8
        clear E8
        obtain ⟨t8, kt8, g18, g28, g38, g48⟩ := own_litFacts hZ sl8 tx8 (by decide)
        clear sl8 tx8
        replace g48 : Arv Z h8 t8 kt8 .byte (10 : Int32) [(.int (111 : Int32)), (.int (98 : Int32)), (.int (106 : Int32)), (.int (101 : Int32)), (.int (107 : Int32)), (.int (116 : Int32)), (.int (116 : Int32)), (.int (121 : Int32)), (.int (112 : Int32)), (.int (101 : Int32))] (.int (0 : Int32)) := g48
        show own_GoW p e below s _ _ _ _ (T8.setTop (mkF m 22 #[iv p1] [(.ref b8)]))
        have sl9 : own_Sl Z h8 b8 (own_w p1) := by
          rw [own_w_2 hc7]
          exact own_mkSl (cs := [(111 : Int32), (98 : Int32), (106 : Int32), (101 : Int32), (107 : Int32), (116 : Int32), (116 : Int32), (121 : Int32), (112 : Int32), (101 : Int32)]) g18 g28 g38 g48 rfl (by simp +decide) (own_cC (⟨by decide, by decide⟩ : own_C8 (111 : Int32)) (own_cC (⟨by decide, by decide⟩ : own_C8 (98 : Int32)) (own_cC (⟨by decide, by decide⟩ : own_C8 (106 : Int32)) (own_cC (⟨by decide, by decide⟩ : own_C8 (101 : Int32)) (own_cC (⟨by decide, by decide⟩ : own_C8 (107 : Int32)) (own_cC (⟨by decide, by decide⟩ : own_C8 (116 : Int32)) (own_cC (⟨by decide, by decide⟩ : own_C8 (116 : Int32)) (own_cC (⟨by decide, by decide⟩ : own_C8 (121 : Int32)) (own_cC (⟨by decide, by decide⟩ : own_C8 (112 : Int32)) (own_cC (⟨by decide, by decide⟩ : own_C8 (101 : Int32)) own_cN)))))))))) (Nat.le_of_ble_eq_true rfl)
        refine own_retAW X8 hS hL hZ hJ hx hlk e8 hret rfl rfl (hb hby d1_22) (by show _ ≤ 2; omega) (by show _ ≤ 44; omega) ?_
        exact ⟨b8, rfl, N0, K0, g18, sl9⟩
      · refine own_goW (fun _ k => XS.icmpYes X0.here hx rfl (pc0 := 17) (pc' := 23) rfl (hb hby d1_17) rfl (feq hc7).2 (by decide) (by decide) k) ?_
        show own_GoW p e below s _ _ _ _ (T.setTop (mkF m 23 #[iv p1] []))
        obtain ⟨b10, T10, h10, vm10, u10, X10, e10, E10, hSn, hZn, hownn, hJn, li10, tx10, sl10, st10⟩ := own_ldcK X0 hS hx hZ hown hL (List.mem_of_getElem? (i := 6) rfl) (ow5 hw) (own_wS hw) e0 hJ (by decide) (g := (mkF m 23 #[iv p1] [])) rfl (hb hby d1_23) (n := 0) (by decide) (by decide) (by show _ ≤ 2; omega) (by show _ ≤ 44; omega)
        refine own_goW st10 ?_
        clear st10 X0 e0
        replace hS := hSn
        replace hZ := hZn
        replace hown := hownn
        replace hJ := hJn
        clear hSn hZn hownn hJn
        replace O0 := own_oldExt O0 E10
        replace K0 := K0.ext E10
        clear E10
        obtain ⟨t10, kt10, g110, g210, g310, g410⟩ := own_litFacts hZ sl10 tx10 (by decide)
        clear sl10 tx10
        replace g410 : Arv Z h10 t10 kt10 .byte (0 : Int32) [] (.int (0 : Int32)) := g410
        show own_GoW p e below s _ _ _ _ (T10.setTop (mkF m 25 #[iv p1] [(.ref b10)]))
        have sl11 : own_Sl Z h10 b10 (own_w p1) := by
          rw [own_w_3 hc1 hc4 hc7]
          exact own_mkSl (cs := []) g110 g210 g310 g410 rfl rfl own_cN (Nat.le_of_ble_eq_true rfl)
        refine own_retAW X10 hS hL hZ hJ hx hlk e10 hret rfl rfl (hb hby d1_25) (by show _ ≤ 2; omega) (by show _ ≤ 44; omega) ?_
        exact ⟨b10, rfl, N0, K0, g110, sl11⟩
theorem d7_0 : decode method_3_code 0 = .ok (.iload_n 0, 1) := by decide +kernel
theorem d7_1 : decode method_3_code 1 = .ok (.ifCond .ne 7, 3) := by decide +kernel
theorem d7_4 : decode method_3_code 4 = .ok (.getstatic 15, 3) := by decide +kernel
theorem d7_7 : decode method_3_code 7 = .ok (.areturn, 1) := by decide +kernel
theorem d7_8 : decode method_3_code 8 = .ok (.iload_n 0, 1) := by decide +kernel
theorem d7_9 : decode method_3_code 9 = .ok (.iconst 1, 1) := by decide +kernel
theorem d7_10 : decode method_3_code 10 = .ok (.if_icmp .ne 7, 3) := by decide +kernel
theorem d7_13 : decode method_3_code 13 = .ok (.getstatic 21, 3) := by decide +kernel
theorem d7_16 : decode method_3_code 16 = .ok (.areturn, 1) := by decide +kernel
theorem d7_17 : decode method_3_code 17 = .ok (.getstatic 24, 3) := by decide +kernel
theorem d7_20 : decode method_3_code 20 = .ok (.areturn, 1) := by decide +kernel
def Q_section (Z : State) (zc : Int32) (wsf : Value) (ws0 : Addr) (ws1 : Addr) (ws2 : Addr) (p1 : Int32) (h0 : Heap) (v : Option Value) (h : Heap) (L : List Loc) : Prop := (v = some (.ref ws0) ∧ Fr Z.heap.size L ∧ p1 = (0 : Int32) ∧ h = h0) ∨ (v = some (.ref ws1) ∧ Fr Z.heap.size L ∧ ¬ (p1 = (0 : Int32)) ∧ p1 = (1 : Int32) ∧ h = h0) ∨ (v = some (.ref ws2) ∧ Fr Z.heap.size L ∧ ¬ (p1 = (0 : Int32)) ∧ ¬ (p1 = (1 : Int32)) ∧ h = h0)
theorem ef_section (m : MethodId) (x0 : Int32) : entryFrame m #[(.int x0)] 1 = mkF m 0 #[iv x0] [] := by first | (simp [entryFrame, mkF, argsToLocals, Value.category]; done) | rfl
set_option maxRecDepth 65536 in
set_option maxHeartbeats 40000000 in
theorem rm_section (l : Launch) (Z : State) (a0 : Array Value) (hw : own_W Z a0) {zc : Int32} {wsf : Value} {ws0 : Addr} {ws1 : Addr} {ws2 : Addr} (hO : own_Olds Z zc wsf ws0 ws1 ws2) (ws : List Jvm.Cond) (p1 : Int32) (h0 : Heap) (O0 : Ext Z.heap h0) :
    own_MF l Z h0 own_y3 method_3_code 1 (some (.object "com/example/slotsholmen/slotsholmen/schema/Section")) ({ frames := 0, cells := 0, slots := 0, locals := 0 } : Room) #[(.int p1)] (Q_section Z zc wsf ws0 ws1 ws2 p1 h0) ws := by
  refine own_met (Q := (Q_section Z zc wsf ws0 ws1 ws2 p1 h0)) _ _ (plainFor_of_name own_pn_1) ?_
  intro p e s m below meth c T X0 hx hby hml hret hlk hZ hown hnm e0
  replace hown : s.vm.findClass "com/example/slotsholmen/slotsholmen/schema/GroupPointsAtTargetPinLaw" = some m.cls := hown
  replace hnm : meth.name = "section" := hnm
  have hml : c.maxLocals = 1 := hml
  obtain ⟨oCS, oCz, oSF, r_wsf, oS0, oS1, oS2, oSE0, oSE1, oSE2, oN02, oN12⟩ := id hO
  have N0 := Fr.nil Z.heap.size
  have K0 := Keep.refl h0 []
  refine own_go (fun _ k => castTop (ef_section m p1) k) ?_
  show own_Go p e below s _ _ _ (T.setTop (mkF m 0 #[iv p1] []))
  refine own_go (fun _ k => XS.iloadN X0.here hx rfl (hb hby d7_0) rfl k) ?_
  by_cases hc1 : p1 = (0 : Int32)
  · refine own_go (fun _ k => XS.ifNo X0.here hx rfl (hb hby d7_1) rfl ((if0 _ _).trans (teq hc1).2) k) ?_
    show own_Go p e below s _ _ _ (T.setTop (mkF m 4 #[iv p1] []))
    obtain ⟨T2, X2, e2, st2⟩ := getS2 X0 hx hZ hown (host := "") (Or.inl (ow42 hw)) Via.refl e0 (oS0.ext O0) (g := (mkF m 4 #[iv p1] [])) rfl (hb hby d7_4)
    refine own_go st2 ?_
    clear st2 X0 e0
    show own_Go p e below s _ _ _ (T2.setTop (mkF m 7 #[iv p1] [(.ref ws0)]))
    refine own_retA X2 hx hlk e2 hret rfl rfl (hb hby d7_7) (by show _ ≤ 0; omega) (by show _ ≤ 0; omega) ?_
    exact Or.inl ⟨rfl, N0, hc1, rfl⟩
  · refine own_go (fun _ k => XS.ifYes X0.here hx rfl (pc0 := 1) (pc' := 8) rfl (hb hby d7_1) rfl ((if0 _ _).trans (feq hc1).2) (by decide) (by decide) k) ?_
    show own_Go p e below s _ _ _ (T.setTop (mkF m 8 #[iv p1] []))
    refine own_go (fun _ k => XS.iloadN X0.here hx rfl (hb hby d7_8) rfl (XS.iconst X0.here hx rfl (hb hby d7_9) k)) ?_
    by_cases hc3 : p1 = (1 : Int32)
    · refine own_go (fun _ k => XS.icmpNo X0.here hx rfl (hb hby d7_10) rfl (teq hc3).2 k) ?_
      show own_Go p e below s _ _ _ (T.setTop (mkF m 13 #[iv p1] []))
      obtain ⟨T4, X4, e4, st4⟩ := getS2 X0 hx hZ hown (host := "") (Or.inl (ow101 hw)) Via.refl e0 (oS1.ext O0) (g := (mkF m 13 #[iv p1] [])) rfl (hb hby d7_13)
      refine own_go st4 ?_
      clear st4 X0 e0
      show own_Go p e below s _ _ _ (T4.setTop (mkF m 16 #[iv p1] [(.ref ws1)]))
      refine own_retA X4 hx hlk e4 hret rfl rfl (hb hby d7_16) (by show _ ≤ 0; omega) (by show _ ≤ 0; omega) ?_
      exact Or.inr (Or.inl ⟨rfl, N0, hc1, hc3, rfl⟩)
    · refine own_go (fun _ k => XS.icmpYes X0.here hx rfl (pc0 := 10) (pc' := 17) rfl (hb hby d7_10) rfl (feq hc3).2 (by decide) (by decide) k) ?_
      show own_Go p e below s _ _ _ (T.setTop (mkF m 17 #[iv p1] []))
      obtain ⟨T5, X5, e5, st5⟩ := getS2 X0 hx hZ hown (host := "") (Or.inl (ow88 hw)) Via.refl e0 (oS2.ext O0) (g := (mkF m 17 #[iv p1] [])) rfl (hb hby d7_17)
      refine own_go st5 ?_
      clear st5 X0 e0
      show own_Go p e below s _ _ _ (T5.setTop (mkF m 20 #[iv p1] [(.ref ws2)]))
      refine own_retA X5 hx hlk e5 hret rfl rfl (hb hby d7_20) (by show _ ≤ 0; omega) (by show _ ≤ 0; omega) ?_
      exact Or.inr (Or.inr (⟨rfl, N0, hc1, hc3, rfl⟩))
theorem d8_0 : decode prog_32_method_4_code 0 = .ok (.aload_n 0, 1) := by decide +kernel
theorem d8_1 : decode prog_32_method_4_code 1 = .ok (.getstatic 55, 3) := by decide +kernel
theorem d8_4 : decode prog_32_method_4_code 4 = .ok (.if_acmp .ne 34, 3) := by decide +kernel
theorem d8_38 : decode prog_32_method_4_code 38 = .ok (.iconst 0, 1) := by decide +kernel
theorem d8_39 : decode prog_32_method_4_code 39 = .ok (.ireturn, 1) := by decide +kernel
def Q_pat0 (Z : State) (zc : Int32) (wsf : Value) (ws0 : Addr) (ws1 : Addr) (ws2 : Addr) (a2 : Addr) (h0 : Heap) (v : Option Value) (h : Heap) (L : List Loc) : Prop := (v = some (.int (0 : Int32)) ∧ Fr Z.heap.size L ∧ h = h0)
theorem ef_pat0 (m : MethodId) (x0 : Addr) (x1 : Addr) : entryFrame m #[(.ref x0), (.ref x1)] 2 = mkF m 0 #[rv x0, rv x1] [] := by first | (simp [entryFrame, mkF, argsToLocals, Value.category]; done) | rfl
set_option maxRecDepth 65536 in
set_option maxHeartbeats 40000000 in
theorem rm_pat0 (l : Launch) (Z : State) (a0 : Array Value) (hw : own_W Z a0) {zc : Int32} {wsf : Value} {ws0 : Addr} {ws1 : Addr} {ws2 : Addr} (hO : own_Olds Z zc wsf ws0 ws1 ws2) (ws : List Jvm.Cond) (a2 : Addr) (h0 : Heap) (O0 : Ext Z.heap h0) :
    own_MF l Z h0 own_y4 prog_32_method_4_code 2 (some .boolean) ({ frames := 0, cells := 0, slots := 0, locals := 0 } : Room) #[(.ref ws0), (.ref a2)] (Q_pat0 Z zc wsf ws0 ws1 ws2 a2 h0) ws := by
  refine own_met (Q := (Q_pat0 Z zc wsf ws0 ws1 ws2 a2 h0)) _ _ (plainFor_of_name own_pn_2) ?_
  intro p e s m below meth c T X0 hx hby hml hret hlk hZ hown hnm e0
  replace hown : s.vm.findClass "com/example/slotsholmen/slotsholmen/schema/Group" = some m.cls := hown
  replace hnm : meth.name = "pointsAtTarget" := hnm
  have hml : c.maxLocals = 2 := hml
  obtain ⟨oCS, oCz, oSF, r_wsf, oS0, oS1, oS2, oSE0, oSE1, oSE2, oN02, oN12⟩ := id hO
  have N0 := Fr.nil Z.heap.size
  have K0 := Keep.refl h0 []
  refine own_go (fun _ k => castTop (ef_pat0 m ws0 a2) k) ?_
  show own_Go p e below s _ _ _ (T.setTop (mkF m 0 #[rv ws0, rv a2] []))
  refine own_go (fun _ k => XS.aloadN X0.here hx rfl (hb hby d8_0) rfl rfl k) ?_
  obtain ⟨T1, X1, e1, st1⟩ := getS2 X0 hx hZ hown (host := "") (Or.inl (ow49 hw)) Via.refl e0 (oS2.ext O0) (g := (mkF m 1 #[rv ws0, rv a2] [(.ref ws0)])) rfl (hb hby d8_1)
  refine own_go st1 ?_
  clear st1 X0 e0
  refine own_go (fun _ k => Jvm.RoadKit.acmp (g := (mkF m 4 #[rv ws0, rv a2] [(.ref ws2), (.ref ws0)])) X1 hx rfl rfl rfl (pc0 := 4) (pc' := 38) (same := false) rfl (hb hby d8_4) rfl (decide_eq_false fun q => oN02 (Value.ref.inj q)) (by decide) (by decide) (XS.iconst X1.here hx rfl (hb hby d8_38) k)) ?_
  show own_Go p e below s _ _ _ (T1.setTop (mkF m 39 #[rv ws0, rv a2] [(.int (0 : Int32))]))
  refine own_retN X1 hx hlk e1 (t := .boolean) hret (by simp) (hb hby d8_39) (by show _ ≤ 0; omega) (by show _ ≤ 0; omega) ?_
  exact ⟨rfl, N0, rfl⟩
def Q_pat1 (Z : State) (zc : Int32) (wsf : Value) (ws0 : Addr) (ws1 : Addr) (ws2 : Addr) (a2 : Addr) (h0 : Heap) (v : Option Value) (h : Heap) (L : List Loc) : Prop := (v = some (.int (0 : Int32)) ∧ Fr Z.heap.size L ∧ h = h0)
theorem ef_pat1 (m : MethodId) (x0 : Addr) (x1 : Addr) : entryFrame m #[(.ref x0), (.ref x1)] 2 = mkF m 0 #[rv x0, rv x1] [] := by first | (simp [entryFrame, mkF, argsToLocals, Value.category]; done) | rfl
set_option maxRecDepth 65536 in
set_option maxHeartbeats 40000000 in
theorem rm_pat1 (l : Launch) (Z : State) (a0 : Array Value) (hw : own_W Z a0) {zc : Int32} {wsf : Value} {ws0 : Addr} {ws1 : Addr} {ws2 : Addr} (hO : own_Olds Z zc wsf ws0 ws1 ws2) (ws : List Jvm.Cond) (a2 : Addr) (h0 : Heap) (O0 : Ext Z.heap h0) :
    own_MF l Z h0 own_y4 prog_32_method_4_code 2 (some .boolean) ({ frames := 0, cells := 0, slots := 0, locals := 0 } : Room) #[(.ref ws1), (.ref a2)] (Q_pat1 Z zc wsf ws0 ws1 ws2 a2 h0) ws := by
  refine own_met (Q := (Q_pat1 Z zc wsf ws0 ws1 ws2 a2 h0)) _ _ (plainFor_of_name own_pn_2) ?_
  intro p e s m below meth c T X0 hx hby hml hret hlk hZ hown hnm e0
  replace hown : s.vm.findClass "com/example/slotsholmen/slotsholmen/schema/Group" = some m.cls := hown
  replace hnm : meth.name = "pointsAtTarget" := hnm
  have hml : c.maxLocals = 2 := hml
  obtain ⟨oCS, oCz, oSF, r_wsf, oS0, oS1, oS2, oSE0, oSE1, oSE2, oN02, oN12⟩ := id hO
  have N0 := Fr.nil Z.heap.size
  have K0 := Keep.refl h0 []
  refine own_go (fun _ k => castTop (ef_pat1 m ws1 a2) k) ?_
  show own_Go p e below s _ _ _ (T.setTop (mkF m 0 #[rv ws1, rv a2] []))
  refine own_go (fun _ k => XS.aloadN X0.here hx rfl (hb hby d8_0) rfl rfl k) ?_
  obtain ⟨T1, X1, e1, st1⟩ := getS2 X0 hx hZ hown (host := "") (Or.inl (ow49 hw)) Via.refl e0 (oS2.ext O0) (g := (mkF m 1 #[rv ws1, rv a2] [(.ref ws1)])) rfl (hb hby d8_1)
  refine own_go st1 ?_
  clear st1 X0 e0
  refine own_go (fun _ k => Jvm.RoadKit.acmp (g := (mkF m 4 #[rv ws1, rv a2] [(.ref ws2), (.ref ws1)])) X1 hx rfl rfl rfl (pc0 := 4) (pc' := 38) (same := false) rfl (hb hby d8_4) rfl (decide_eq_false fun q => oN12 (Value.ref.inj q)) (by decide) (by decide) (XS.iconst X1.here hx rfl (hb hby d8_38) k)) ?_
  show own_Go p e below s _ _ _ (T1.setTop (mkF m 39 #[rv ws1, rv a2] [(.int (0 : Int32))]))
  refine own_retN X1 hx hlk e1 (t := .boolean) hret (by simp) (hb hby d8_39) (by show _ ≤ 0; omega) (by show _ ≤ 0; omega) ?_
  exact ⟨rfl, N0, rfl⟩
theorem d8_7 : decode prog_32_method_4_code 7 = .ok (.aload_n 1, 1) := by decide +kernel
theorem d8_8 : decode prog_32_method_4_code 8 = .ok (.ldc 30, 2) := by decide +kernel
theorem d8_10 : decode prog_32_method_4_code 10 = .ok (.invokevirtual 61, 3) := by decide +kernel
theorem d8_13 : decode prog_32_method_4_code 13 = .ok (.ifCond .ne 21, 3) := by decide +kernel
theorem d8_16 : decode prog_32_method_4_code 16 = .ok (.aload_n 1, 1) := by decide +kernel
theorem d8_17 : decode prog_32_method_4_code 17 = .ok (.ldc 37, 2) := by decide +kernel
theorem d8_19 : decode prog_32_method_4_code 19 = .ok (.invokevirtual 61, 3) := by decide +kernel
theorem d8_22 : decode prog_32_method_4_code 22 = .ok (.ifCond .ne 12, 3) := by decide +kernel
theorem d8_25 : decode prog_32_method_4_code 25 = .ok (.aload_n 1, 1) := by decide +kernel
theorem d8_26 : decode prog_32_method_4_code 26 = .ok (.ldc 39, 2) := by decide +kernel
theorem d8_28 : decode prog_32_method_4_code 28 = .ok (.invokevirtual 61, 3) := by decide +kernel
theorem d8_31 : decode prog_32_method_4_code 31 = .ok (.ifCond .eq 7, 3) := by decide +kernel
theorem d8_34 : decode prog_32_method_4_code 34 = .ok (.iconst 1, 1) := by decide +kernel
theorem d8_35 : decode prog_32_method_4_code 35 = .ok (.goto 4, 3) := by decide +kernel
def Q_pat2 (Z : State) (zc : Int32) (wsf : Value) (ws0 : Addr) (ws1 : Addr) (ws2 : Addr) (a2 : Addr) (cs_ : List Int32) (h0 : Heap) (v : Option Value) (h : Heap) (L : List Loc) : Prop := (v = some (.int (1 : Int32)) ∧ Fr Z.heap.size L ∧ cs_ = (own_w (0 : Int32)) ∧ Keep h0 h []) ∨ (v = some (.int (1 : Int32)) ∧ Fr Z.heap.size L ∧ ¬ (cs_ = (own_w (0 : Int32))) ∧ cs_ = (own_w (1 : Int32)) ∧ Keep h0 h []) ∨ (v = some (.int (1 : Int32)) ∧ Fr Z.heap.size L ∧ ¬ (cs_ = (own_w (0 : Int32))) ∧ ¬ (cs_ = (own_w (1 : Int32))) ∧ cs_ = (own_w (2 : Int32)) ∧ Keep h0 h []) ∨ (v = some (.int (0 : Int32)) ∧ Fr Z.heap.size L ∧ ¬ (cs_ = (own_w (0 : Int32))) ∧ ¬ (cs_ = (own_w (1 : Int32))) ∧ ¬ (cs_ = (own_w (2 : Int32))) ∧ Keep h0 h [])
theorem ef_pat2 (m : MethodId) (x0 : Addr) (x1 : Addr) : entryFrame m #[(.ref x0), (.ref x1)] 2 = mkF m 0 #[rv x0, rv x1] [] := by first | (simp [entryFrame, mkF, argsToLocals, Value.category]; done) | rfl
set_option maxRecDepth 65536 in
set_option maxHeartbeats 40000000 in
theorem rm_pat2 (l : Launch) (Z : State) (a0 : Array Value) (hw : own_W Z a0) {zc : Int32} {wsf : Value} {ws0 : Addr} {ws1 : Addr} {ws2 : Addr} (hO : own_Olds Z zc wsf ws0 ws1 ws2) (ws : List Jvm.Cond) (a2 : Addr) (cs_ : List Int32) (h0 : Heap) (O0 : Ext Z.heap h0) (fp0 : Exa Z h0 a2 "java/lang/String") (fp1 : own_Sl Z h0 a2 cs_) :
    MetFree l own_y4 (head1 (Jvm.Cond.code own_y4 prog_32_method_4_code 2 (some .boolean) :: ws) ({ frames := 3, cells := 6, slots := 80, locals := 28 } : Room)) (fun a U => a = #[(.ref ws2), (.ref a2)] ∧ Z.Warmed39 U.vm ∧ U.heap = h0 ∧ own_J Z U.vm U.heap) (fun _ _ _ _ _ => True) (fun _ U o U' => ∃ v L, o = .returned v ∧ ((Q_pat2 Z zc wsf ws0 ws1 ws2 a2 cs_ h0) v U'.heap L ∧ own_J Z U'.vm U'.heap) ∧ ReturnedEndW U o U' L ({ frames := 3, cells := 6, slots := 80, locals := 28 } : Room).cells ({ frames := 3, cells := 6, slots := 80, locals := 28 } : Room).slots) := by
  refine own_metW (Q := (Q_pat2 Z zc wsf ws0 ws1 ws2 a2 cs_ h0)) _ _ (plainFor_of_name own_pn_2) ?_
  intro p e s vm0 m below meth c T X0 hS hJ hJ0 hZ0 hI hs0 hx hby hml hret hlk hZ hown hnm e0
  replace hown : (s.setVm vm0).vm.findClass "com/example/slotsholmen/slotsholmen/schema/Group" = some m.cls := hown
  replace hnm : meth.name = "pointsAtTarget" := hnm
  have hml : c.maxLocals = 2 := hml
  obtain ⟨oCS, oCz, oSF, r_wsf, oS0, oS1, oS2, oSE0, oSE1, oSE2, oN02, oN12⟩ := id hO
  have N0 := Fr.nil Z.heap.size
  have hL := own_Lhw hw
  have K0 := Keep.refl h0 []
  refine own_goW (fun _ k => castTop (ef_pat2 m ws2 a2) k) ?_
  show own_GoW p e below s _ _ _ _ (T.setTop (mkF m 0 #[rv ws2, rv a2] []))
  refine own_goW (fun _ k => XS.aloadN X0.here hx rfl (hb hby d8_0) rfl rfl k) ?_
  obtain ⟨T1, X1, e1, st1⟩ := getS2 X0 hx hZ hown (host := "") (Or.inl (ow49 hw)) Via.refl e0 (oS2.ext O0) (g := (mkF m 1 #[rv ws2, rv a2] [(.ref ws2)])) rfl (hb hby d8_1)
  refine own_goW st1 ?_
  clear st1 X0 e0
  refine own_goW (fun _ k => Jvm.RoadKit.acmp (g := (mkF m 4 #[rv ws2, rv a2] [(.ref ws2), (.ref ws2)])) X1 hx rfl rfl rfl (pc0 := 4) (pc' := 7) (same := true) rfl (hb hby d8_4) rfl (decide_eq_true rfl) (by decide) (by decide) (XS.aloadN X1.here hx rfl (hb hby d8_7) rfl rfl k)) ?_
  obtain ⟨b2, T2, h2, vm2, u2, X2, e2, E2, hSn, hZn, hownn, hJn, li2, tx2, sl2, st2⟩ := own_ldcK X1 hS hx hZ hown hL (List.mem_of_getElem? (i := 0) rfl) (ow89 hw) (own_wS hw) e1 hJ (by decide) (g := (mkF m 8 #[rv ws2, rv a2] [(.ref a2)])) rfl (hb hby d8_8) (n := 16) (by decide) (by decide) (by show _ ≤ 6; omega) (by show _ ≤ 80; omega)
  refine own_goW st2 ?_
  clear st2 X1 e1
  replace hS := hSn
  replace hZ := hZn
  replace hown := hownn
  replace hJ := hJn
  clear hSn hZn hownn hJn
  replace O0 := own_oldExt O0 E2
  replace K0 := K0.ext E2
  clear E2
  obtain ⟨t2, kt2, g12, g22, g32, g42⟩ := own_litFacts hZ sl2 tx2 (by decide)
  clear sl2 tx2
  replace g42 : Arv Z h2 t2 kt2 .byte (4 : Int32) [(.int (117 : Int32)), (.int (117 : Int32)), (.int (105 : Int32)), (.int (100 : Int32))] (.int (0 : Int32)) := g42
  show own_GoW p e below s _ _ _ _ (T2.setTop (mkF m 10 #[rv ws2, rv a2] [(.ref b2), (.ref a2)]))
  have sl3 : own_Sl Z h2 b2 (own_w (0 : Int32)) := own_mkSl (cs := [(117 : Int32), (117 : Int32), (105 : Int32), (100 : Int32)]) g12 g22 g32 g42 rfl (by simp +decide) (own_cC (⟨by decide, by decide⟩ : own_C8 (117 : Int32)) (own_cC (⟨by decide, by decide⟩ : own_C8 (117 : Int32)) (own_cC (⟨by decide, by decide⟩ : own_C8 (105 : Int32)) (own_cC (⟨by decide, by decide⟩ : own_C8 (100 : Int32)) own_cN)))) (Nat.le_of_ble_eq_true rfl)
  obtain ⟨v4, T4, L4, X4, hQ4, st4⟩ := own_callVB (y := own_y5) (z := own_y5) X2 hx hZ hown (ow90 hw) (ow91 hw) (notFace_of_selects (args := #[]) (mvT hZ (ow93 hw))) (ow93 hw) (ow92 hw) (ow6 hw) (ow94 hw) 0 0 0 (own_eqB (W := 0) hZ (own_sw2 hw) (kI := 4) (ow7 hw) (own_SlKeep fp1 K0 all0) sl3 (oCS.ext O0) oCz (by decide) (by decide)) (by show _ ≤ 6; omega) (by show _ ≤ 80; omega) e2 (fp0.keep K0) (g := (mkF m 10 #[rv ws2, rv a2] [(.ref b2), (.ref a2)])) rfl (by rw [hml]; rfl) [(.ref b2)] [] (lenOf own_pd_1 rfl) rfl rfl (hb hby d8_10)
  obtain ⟨hv4, rfl, eh4⟩ := hQ4
  rcases hv4 with ⟨rfl, hc4⟩ | ⟨rfl, hc4⟩
  · refine own_goW st4 ?_
    clear st4 X2 e2
    replace N0 := Fr.app N0 (Fr.nil Z.heap.size)
    show own_GoW p e below s _ _ _ _ (T4.setTop (mkF m 13 #[rv ws2, rv a2] [(.int (1 : Int32))]))
    refine own_goW (fun _ k => XS.ifYes X4.here hx rfl (pc0 := 13) (pc' := 34) rfl (hb hby d8_13) rfl ((if0 _ _).trans (feq (by decide : ¬ ((1 : Int32) = (0 : Int32)))).2) (by decide) (by decide) (XS.iconst X4.here hx rfl (hb hby d8_34) (XS.goto X4.here hx rfl (pc0 := 35) (pc' := 39) rfl (hb hby d8_35) (by decide) (by decide) k))) ?_
    show own_GoW p e below s _ _ _ _ (T4.setTop (mkF m 39 #[rv ws2, rv a2] [(.int (1 : Int32))]))
    refine own_retNW X4 hS hL hZ hJ hx hlk eh4 (t := .boolean) hret (by simp) (hb hby d8_39) (by show _ ≤ 6; omega) (by show _ ≤ 80; omega) ?_
    exact Or.inl ⟨rfl, N0, hc4, K0⟩
  · refine own_goW st4 ?_
    clear st4 X2 e2
    replace N0 := Fr.app N0 (Fr.nil Z.heap.size)
    show own_GoW p e below s _ _ _ _ (T4.setTop (mkF m 13 #[rv ws2, rv a2] [(.int (0 : Int32))]))
    refine own_goW (fun _ k => XS.ifNo X4.here hx rfl (hb hby d8_13) rfl ((if0 _ _).trans (teq (by decide : (0 : Int32) = (0 : Int32))).2) (XS.aloadN X4.here hx rfl (hb hby d8_16) rfl rfl k)) ?_
    obtain ⟨b5, T5, h5, vm5, u5, X5, e5, E5, hSn, hZn, hownn, hJn, li5, tx5, sl5, st5⟩ := own_ldcK X4 hS hx hZ hown hL (List.mem_of_getElem? (i := 1) rfl) (ow99 hw) (own_wS hw) eh4 hJ (by decide) (g := (mkF m 17 #[rv ws2, rv a2] [(.ref a2)])) rfl (hb hby d8_17) (n := 12) (by decide) (by decide) (by show _ ≤ 6; omega) (by show _ ≤ 80; omega)
    refine own_goW st5 ?_
    clear st5 X4 eh4
    replace hS := hSn
    replace hZ := hZn
    replace hown := hownn
    replace hJ := hJn
    clear hSn hZn hownn hJn
    replace g12 := g12.ext E5
    replace g22 := g22.ext E5
    replace g32 := g32.ext E5
    replace g42 := g42.ext E5
    replace sl3 := own_SlExt sl3 E5
    replace O0 := own_oldExt O0 E5
    replace K0 := K0.ext E5
    clear E5
    obtain ⟨t5, kt5, g15, g25, g35, g45⟩ := own_litFacts hZ sl5 tx5 (by decide)
    clear sl5 tx5
    replace g45 : Arv Z h5 t5 kt5 .byte (3 : Int32) [(.int (117 : Int32)), (.int (114 : Int32)), (.int (110 : Int32))] (.int (0 : Int32)) := g45
    show own_GoW p e below s _ _ _ _ (T5.setTop (mkF m 19 #[rv ws2, rv a2] [(.ref b5), (.ref a2)]))
    have sl6 : own_Sl Z h5 b5 (own_w (1 : Int32)) := own_mkSl (cs := [(117 : Int32), (114 : Int32), (110 : Int32)]) g15 g25 g35 g45 rfl (by simp +decide) (own_cC (⟨by decide, by decide⟩ : own_C8 (117 : Int32)) (own_cC (⟨by decide, by decide⟩ : own_C8 (114 : Int32)) (own_cC (⟨by decide, by decide⟩ : own_C8 (110 : Int32)) own_cN))) (Nat.le_of_ble_eq_true rfl)
    obtain ⟨v7, T7, L7, X7, hQ7, st7⟩ := own_callVB (y := own_y5) (z := own_y5) X5 hx hZ hown (ow90 hw) (ow91 hw) (notFace_of_selects (args := #[]) (mvT hZ (ow93 hw))) (ow93 hw) (ow92 hw) (ow6 hw) (ow94 hw) 0 0 0 (own_eqB (W := 0) hZ (own_sw2 hw) (kI := 4) (ow7 hw) (own_SlKeep fp1 K0 all0) sl6 (oCS.ext O0) oCz (by decide) (by decide)) (by show _ ≤ 6; omega) (by show _ ≤ 80; omega) e5 (fp0.keep K0) (g := (mkF m 19 #[rv ws2, rv a2] [(.ref b5), (.ref a2)])) rfl (by rw [hml]; rfl) [(.ref b5)] [] (lenOf own_pd_1 rfl) rfl rfl (hb hby d8_19)
    obtain ⟨hv7, rfl, eh7⟩ := hQ7
    rcases hv7 with ⟨rfl, hc7⟩ | ⟨rfl, hc7⟩
    · refine own_goW st7 ?_
      clear st7 X5 e5
      replace N0 := Fr.app N0 (Fr.nil Z.heap.size)
      show own_GoW p e below s _ _ _ _ (T7.setTop (mkF m 22 #[rv ws2, rv a2] [(.int (1 : Int32))]))
      refine own_goW (fun _ k => XS.ifYes X7.here hx rfl (pc0 := 22) (pc' := 34) rfl (hb hby d8_22) rfl ((if0 _ _).trans (feq (by decide : ¬ ((1 : Int32) = (0 : Int32)))).2) (by decide) (by decide) (XS.iconst X7.here hx rfl (hb hby d8_34) (XS.goto X7.here hx rfl (pc0 := 35) (pc' := 39) rfl (hb hby d8_35) (by decide) (by decide) k))) ?_
      show own_GoW p e below s _ _ _ _ (T7.setTop (mkF m 39 #[rv ws2, rv a2] [(.int (1 : Int32))]))
      refine own_retNW X7 hS hL hZ hJ hx hlk eh7 (t := .boolean) hret (by simp) (hb hby d8_39) (by show _ ≤ 6; omega) (by show _ ≤ 80; omega) ?_
      exact Or.inr (Or.inl ⟨rfl, N0, hc4, hc7, K0⟩)
    · refine own_goW st7 ?_
      clear st7 X5 e5
      replace N0 := Fr.app N0 (Fr.nil Z.heap.size)
      show own_GoW p e below s _ _ _ _ (T7.setTop (mkF m 22 #[rv ws2, rv a2] [(.int (0 : Int32))]))
      refine own_goW (fun _ k => XS.ifNo X7.here hx rfl (hb hby d8_22) rfl ((if0 _ _).trans (teq (by decide : (0 : Int32) = (0 : Int32))).2) (XS.aloadN X7.here hx rfl (hb hby d8_25) rfl rfl k)) ?_
      obtain ⟨b8, T8, h8, vm8, u8, X8, e8, E8, hSn, hZn, hownn, hJn, li8, tx8, sl8, st8⟩ := own_ldcK X7 hS hx hZ hown hL (List.mem_of_getElem? (i := 2) rfl) (ow100 hw) (own_wS hw) eh7 hJ (by decide) (g := (mkF m 26 #[rv ws2, rv a2] [(.ref a2)])) rfl (hb hby d8_26) (n := 40) (by decide) (by decide) (by show _ ≤ 6; omega) (by show _ ≤ 80; omega)
      refine own_goW st8 ?_
      clear st8 X7 eh7
      replace hS := hSn
      replace hZ := hZn
      replace hown := hownn
      replace hJ := hJn
      clear hSn hZn hownn hJn
      replace g12 := g12.ext E8
      replace g22 := g22.ext E8
      replace g32 := g32.ext E8
      replace g42 := g42.ext E8
      replace sl3 := own_SlExt sl3 E8
      replace g15 := g15.ext E8
      replace g25 := g25.ext E8
      replace g35 := g35.ext E8
      replace g45 := g45.ext E8
      replace sl6 := own_SlExt sl6 E8
      replace O0 := own_oldExt O0 E8
      replace K0 := K0.ext E8
      clear E8
      obtain ⟨t8, kt8, g18, g28, g38, g48⟩ := own_litFacts hZ sl8 tx8 (by decide)
      clear sl8 tx8
      replace g48 : Arv Z h8 t8 kt8 .byte (10 : Int32) [(.int (111 : Int32)), (.int (98 : Int32)), (.int (106 : Int32)), (.int (101 : Int32)), (.int (107 : Int32)), (.int (116 : Int32)), (.int (116 : Int32)), (.int (121 : Int32)), (.int (112 : Int32)), (.int (101 : Int32))] (.int (0 : Int32)) := g48
      show own_GoW p e below s _ _ _ _ (T8.setTop (mkF m 28 #[rv ws2, rv a2] [(.ref b8), (.ref a2)]))
      have sl9 : own_Sl Z h8 b8 (own_w (2 : Int32)) := own_mkSl (cs := [(111 : Int32), (98 : Int32), (106 : Int32), (101 : Int32), (107 : Int32), (116 : Int32), (116 : Int32), (121 : Int32), (112 : Int32), (101 : Int32)]) g18 g28 g38 g48 rfl (by simp +decide) (own_cC (⟨by decide, by decide⟩ : own_C8 (111 : Int32)) (own_cC (⟨by decide, by decide⟩ : own_C8 (98 : Int32)) (own_cC (⟨by decide, by decide⟩ : own_C8 (106 : Int32)) (own_cC (⟨by decide, by decide⟩ : own_C8 (101 : Int32)) (own_cC (⟨by decide, by decide⟩ : own_C8 (107 : Int32)) (own_cC (⟨by decide, by decide⟩ : own_C8 (116 : Int32)) (own_cC (⟨by decide, by decide⟩ : own_C8 (116 : Int32)) (own_cC (⟨by decide, by decide⟩ : own_C8 (121 : Int32)) (own_cC (⟨by decide, by decide⟩ : own_C8 (112 : Int32)) (own_cC (⟨by decide, by decide⟩ : own_C8 (101 : Int32)) own_cN)))))))))) (Nat.le_of_ble_eq_true rfl)
      obtain ⟨v10, T10, L10, X10, hQ10, st10⟩ := own_callVB (y := own_y5) (z := own_y5) X8 hx hZ hown (ow90 hw) (ow91 hw) (notFace_of_selects (args := #[]) (mvT hZ (ow93 hw))) (ow93 hw) (ow92 hw) (ow6 hw) (ow94 hw) 0 0 0 (own_eqB (W := 0) hZ (own_sw2 hw) (kI := 4) (ow7 hw) (own_SlKeep fp1 K0 all0) sl9 (oCS.ext O0) oCz (by decide) (by decide)) (by show _ ≤ 6; omega) (by show _ ≤ 80; omega) e8 (fp0.keep K0) (g := (mkF m 28 #[rv ws2, rv a2] [(.ref b8), (.ref a2)])) rfl (by rw [hml]; rfl) [(.ref b8)] [] (lenOf own_pd_1 rfl) rfl rfl (hb hby d8_28)
      obtain ⟨hv10, rfl, eh10⟩ := hQ10
      rcases hv10 with ⟨rfl, hc10⟩ | ⟨rfl, hc10⟩
      · refine own_goW st10 ?_
        clear st10 X8 e8
        replace N0 := Fr.app N0 (Fr.nil Z.heap.size)
        show own_GoW p e below s _ _ _ _ (T10.setTop (mkF m 31 #[rv ws2, rv a2] [(.int (1 : Int32))]))
        refine own_goW (fun _ k => XS.ifNo X10.here hx rfl (hb hby d8_31) rfl ((if0 _ _).trans (feq (by decide : ¬ ((1 : Int32) = (0 : Int32)))).1) (XS.iconst X10.here hx rfl (hb hby d8_34) (XS.goto X10.here hx rfl (pc0 := 35) (pc' := 39) rfl (hb hby d8_35) (by decide) (by decide) k))) ?_
        show own_GoW p e below s _ _ _ _ (T10.setTop (mkF m 39 #[rv ws2, rv a2] [(.int (1 : Int32))]))
        refine own_retNW X10 hS hL hZ hJ hx hlk eh10 (t := .boolean) hret (by simp) (hb hby d8_39) (by show _ ≤ 6; omega) (by show _ ≤ 80; omega) ?_
        exact Or.inr (Or.inr (Or.inl ⟨rfl, N0, hc4, hc7, hc10, K0⟩))
      · refine own_goW st10 ?_
        clear st10 X8 e8
        replace N0 := Fr.app N0 (Fr.nil Z.heap.size)
        show own_GoW p e below s _ _ _ _ (T10.setTop (mkF m 31 #[rv ws2, rv a2] [(.int (0 : Int32))]))
        refine own_goW (fun _ k => XS.ifYes X10.here hx rfl (pc0 := 31) (pc' := 38) rfl (hb hby d8_31) rfl ((if0 _ _).trans (teq (by decide : (0 : Int32) = (0 : Int32))).1) (by decide) (by decide) (XS.iconst X10.here hx rfl (hb hby d8_38) k)) ?_
        show own_GoW p e below s _ _ _ _ (T10.setTop (mkF m 39 #[rv ws2, rv a2] [(.int (0 : Int32))]))
        refine own_retNW X10 hS hL hZ hJ hx hlk eh10 (t := .boolean) hret (by simp) (hb hby d8_39) (by show _ ≤ 6; omega) (by show _ ≤ 80; omega) ?_
        exact Or.inr (Or.inr (Or.inr (⟨rfl, N0, hc4, hc7, hc10, K0⟩)))
theorem d9_0 : decode method_4_code 0 = .ok (.iload_n 1, 1) := by decide +kernel
theorem d9_1 : decode method_4_code 1 = .ok (.iconst 1, 1) := by decide +kernel
theorem d9_2 : decode method_4_code 2 = .ok (.if_icmp .ne 20, 3) := by decide +kernel
theorem d9_5 : decode method_4_code 5 = .ok (.iload 4, 2) := by decide +kernel
theorem d9_7 : decode method_4_code 7 = .ok (.iload_n 2, 1) := by decide +kernel
theorem d9_8 : decode method_4_code 8 = .ok (.if_icmp .ne 7, 3) := by decide +kernel
theorem d9_11 : decode method_4_code 11 = .ok (.iload_n 3, 1) := by decide +kernel
theorem d9_12 : decode method_4_code 12 = .ok (.goto 9, 3) := by decide +kernel
theorem d9_15 : decode method_4_code 15 = .ok (.aload_n 0, 1) := by decide +kernel
theorem d9_16 : decode method_4_code 16 = .ok (.iload 4, 2) := by decide +kernel
theorem d9_18 : decode method_4_code 18 = .ok (.invokevirtual 27, 3) := by decide +kernel
theorem d9_21 : decode method_4_code 21 = .ok (.ireturn, 1) := by decide +kernel
theorem d9_22 : decode method_4_code 22 = .ok (.iload_n 1, 1) := by decide +kernel
theorem d9_23 : decode method_4_code 23 = .ok (.iconst 3, 1) := by decide +kernel
theorem d9_24 : decode method_4_code 24 = .ok (.if_icmp .ne 33, 3) := by decide +kernel
theorem d9_27 : decode method_4_code 27 = .ok (.iload 4, 2) := by decide +kernel
theorem d9_29 : decode method_4_code 29 = .ok (.iload_n 2, 1) := by decide +kernel
theorem d9_30 : decode method_4_code 30 = .ok (.if_icmp .ge 10, 3) := by decide +kernel
theorem d9_33 : decode method_4_code 33 = .ok (.aload_n 0, 1) := by decide +kernel
theorem d9_34 : decode method_4_code 34 = .ok (.iload 4, 2) := by decide +kernel
theorem d9_36 : decode method_4_code 36 = .ok (.invokevirtual 27, 3) := by decide +kernel
theorem d9_39 : decode method_4_code 39 = .ok (.ireturn, 1) := by decide +kernel
theorem d9_40 : decode method_4_code 40 = .ok (.iload 4, 2) := by decide +kernel
theorem d9_42 : decode method_4_code 42 = .ok (.iload_n 2, 1) := by decide +kernel
theorem d9_43 : decode method_4_code 43 = .ok (.if_icmp .ne 5, 3) := by decide +kernel
theorem d9_46 : decode method_4_code 46 = .ok (.iload_n 3, 1) := by decide +kernel
theorem d9_47 : decode method_4_code 47 = .ok (.ireturn, 1) := by decide +kernel
theorem d9_48 : decode method_4_code 48 = .ok (.aload_n 0, 1) := by decide +kernel
theorem d9_49 : decode method_4_code 49 = .ok (.iload 4, 2) := by decide +kernel
theorem d9_51 : decode method_4_code 51 = .ok (.iconst 1, 1) := by decide +kernel
theorem d9_52 : decode method_4_code 52 = .ok (.isub, 1) := by decide +kernel
theorem d9_53 : decode method_4_code 53 = .ok (.invokevirtual 27, 3) := by decide +kernel
theorem d9_56 : decode method_4_code 56 = .ok (.ireturn, 1) := by decide +kernel
theorem d9_57 : decode method_4_code 57 = .ok (.aload_n 0, 1) := by decide +kernel
theorem d9_58 : decode method_4_code 58 = .ok (.iload 4, 2) := by decide +kernel
theorem d9_60 : decode method_4_code 60 = .ok (.invokevirtual 27, 3) := by decide +kernel
theorem d9_63 : decode method_4_code 63 = .ok (.ireturn, 1) := by decide +kernel
def Q_cell (Z : State) (zc : Int32) (wsf : Value) (ws0 : Addr) (ws1 : Addr) (ws2 : Addr) (a1 : Addr) (p2 : Int32) (p3 : Int32) (p4 : Int32) (p5 : Int32) (cs_ : List Int32) (h0 : Heap) (v : Option Value) (h : Heap) (L : List Loc) : Prop := (v = some (.int (own_cell cs_ p2 p3 p4 p5)) ∧ Fr Z.heap.size L ∧ own_C8 (own_cell cs_ p2 p3 p4 p5) ∧ h = h0)
theorem ef_cell (m : MethodId) (x0 : Addr) (x1 : Int32) (x2 : Int32) (x3 : Int32) (x4 : Int32) : entryFrame m #[(.ref x0), (.int x1), (.int x2), (.int x3), (.int x4)] 5 = mkF m 0 #[rv x0, iv x1, iv x2, iv x3, iv x4] [] := by first | (simp [entryFrame, mkF, argsToLocals, Value.category]; done) | rfl
set_option maxRecDepth 65536 in
set_option maxHeartbeats 40000000 in
theorem rm_cell (l : Launch) (Z : State) (a0 : Array Value) (hw : own_W Z a0) {zc : Int32} {wsf : Value} {ws0 : Addr} {ws1 : Addr} {ws2 : Addr} (hO : own_Olds Z zc wsf ws0 ws1 ws2) (ws : List Jvm.Cond) (a1 : Addr) (p2 : Int32) (p3 : Int32) (p4 : Int32) (p5 : Int32) (cs_ : List Int32) (h0 : Heap) (O0 : Ext Z.heap h0) (fp0 : Exa Z h0 a1 "java/lang/String") (fp1 : own_Sl Z h0 a1 cs_) (hcok : own_cok cs_ p2 p3 p5) (hc8 : own_C8 p4) :
    own_MF l Z h0 own_y7 method_4_code 5 (some .char) ({ frames := 5, cells := 0, slots := 0, locals := 53 } : Room) #[(.ref a1), (.int p2), (.int p3), (.int p4), (.int p5)] (Q_cell Z zc wsf ws0 ws1 ws2 a1 p2 p3 p4 p5 cs_ h0) ws := by
  refine own_met (Q := (Q_cell Z zc wsf ws0 ws1 ws2 a1 p2 p3 p4 p5 cs_ h0)) _ _ (plainFor_of_name own_pn_1) ?_
  intro p e s m below meth c T X0 hx hby hml hret hlk hZ hown hnm e0
  replace hown : s.vm.findClass "com/example/slotsholmen/slotsholmen/schema/GroupPointsAtTargetPinLaw" = some m.cls := hown
  replace hnm : meth.name = "cell" := hnm
  have hml : c.maxLocals = 5 := hml
  obtain ⟨oCS, oCz, oSF, r_wsf, oS0, oS1, oS2, oSE0, oSE1, oSE2, oN02, oN12⟩ := id hO
  have N0 := Fr.nil Z.heap.size
  have K0 := Keep.refl h0 []
  refine own_go (fun _ k => castTop (ef_cell m a1 p2 p3 p4 p5) k) ?_
  show own_Go p e below s _ _ _ (T.setTop (mkF m 0 #[rv a1, iv p2, iv p3, iv p4, iv p5] []))
  refine own_go (fun _ k => XS.iloadN X0.here hx rfl (hb hby d9_0) rfl (XS.iconst X0.here hx rfl (hb hby d9_1) k)) ?_
  by_cases hc1 : p2 = (1 : Int32)
  · refine own_go (fun _ k => XS.icmpNo X0.here hx rfl (hb hby d9_2) rfl (teq hc1).2 k) ?_
    show own_Go p e below s _ _ _ (T.setTop (mkF m 5 #[rv a1, iv p2, iv p3, iv p4, iv p5] []))
    refine own_go (fun _ k => XS.iload X0.here hx rfl (hb hby d9_5) rfl (XS.iloadN X0.here hx rfl (hb hby d9_7) rfl k)) ?_
    by_cases hc2 : p5 = p3
    · refine own_go (fun _ k => XS.icmpNo X0.here hx rfl (hb hby d9_8) rfl (teq hc2).2 k) ?_
      show own_Go p e below s _ _ _ (T.setTop (mkF m 11 #[rv a1, iv p2, iv p3, iv p4, iv p5] []))
      refine own_go (fun _ k => XS.iloadN X0.here hx rfl (hb hby d9_11) rfl (XS.goto X0.here hx rfl (pc0 := 12) (pc' := 21) rfl (hb hby d9_12) (by decide) (by decide) k)) ?_
      show own_Go p e below s _ _ _ (T.setTop (mkF m 21 #[rv a1, iv p2, iv p3, iv p4, iv p5] [(.int p4)]))
      refine own_retN X0 hx hlk e0 (t := .char) hret (by simp) (hb hby d9_21) (by show _ ≤ 0; omega) (by show _ ≤ 0; omega) ?_
      exact ⟨(congrArg (fun z => some (Value.int z)) (own_clA hc1 hc2 hc8)), N0, (own_clP (own_clA hc1 hc2 hc8) hc8), rfl⟩
    · refine own_go (fun _ k => XS.icmpYes X0.here hx rfl (pc0 := 8) (pc' := 15) rfl (hb hby d9_8) rfl (feq hc2).2 (by decide) (by decide) k) ?_
      show own_Go p e below s _ _ _ (T.setTop (mkF m 15 #[rv a1, iv p2, iv p3, iv p4, iv p5] []))
      refine own_go (fun _ k => XS.aloadN X0.here hx rfl (hb hby d9_15) rfl rfl (XS.iload X0.here hx rfl (hb hby d9_16) rfl k)) ?_
      obtain ⟨v3, T3, L3, X3, hQ3, st3⟩ := own_callVB (y := own_y6) (z := own_y6) X0 hx hZ hown (ow56 hw) (ow57 hw) (notFace_of_selects (args := #[]) (mvT hZ (ow59 hw))) (ow59 hw) (ow58 hw) (ow6 hw) (ow60 hw) 0 0 0 (own_chB (W := 0) hZ (own_sw4 hw) (kI := 4) (ow7 hw) (own_SlKeep fp1 K0 all0) (own_ckB hcok hc1 hc2) (oCS.ext O0) oCz (oSF.ext O0) r_wsf (by decide) (by decide)) (by show _ ≤ 0; omega) (by show _ ≤ 0; omega) e0 (fp0.keep K0) (g := (mkF m 18 #[rv a1, iv p2, iv p3, iv p4, iv p5] [(.int p5), (.ref a1)])) rfl (by rw [hml]; rfl) [(.int p5)] [] (lenOf own_pd_2 rfl) rfl rfl (hb hby d9_18)
      obtain ⟨rfl, rfl, eh3⟩ := hQ3
      refine own_go st3 ?_
      clear st3 X0 e0
      replace N0 := Fr.app N0 (Fr.nil Z.heap.size)
      show own_Go p e below s _ _ _ (T3.setTop (mkF m 21 #[rv a1, iv p2, iv p3, iv p4, iv p5] [(.int (own_get cs_ p5))]))
      refine own_retN X3 hx hlk eh3 (t := .char) hret (by simp) (hb hby d9_21) (by show _ ≤ 0; omega) (by show _ ≤ 0; omega) ?_
      exact ⟨(congrArg (fun z => some (Value.int z)) (own_clB hc1 hc2 (own_c8get (own_SlKeep fp1 K0 all0) (own_ckB hcok hc1 hc2)))), N0, (own_clP (own_clB hc1 hc2 (own_c8get (own_SlKeep fp1 K0 all0) (own_ckB hcok hc1 hc2))) (own_c8get (own_SlKeep fp1 K0 all0) (own_ckB hcok hc1 hc2))), rfl⟩
  · refine own_go (fun _ k => XS.icmpYes X0.here hx rfl (pc0 := 2) (pc' := 22) rfl (hb hby d9_2) rfl (feq hc1).2 (by decide) (by decide) k) ?_
    show own_Go p e below s _ _ _ (T.setTop (mkF m 22 #[rv a1, iv p2, iv p3, iv p4, iv p5] []))
    refine own_go (fun _ k => XS.iloadN X0.here hx rfl (hb hby d9_22) rfl (XS.iconst X0.here hx rfl (hb hby d9_23) k)) ?_
    by_cases hc4 : p2 = (3 : Int32)
    · refine own_go (fun _ k => XS.icmpNo X0.here hx rfl (hb hby d9_24) rfl (teq hc4).2 k) ?_
      show own_Go p e below s _ _ _ (T.setTop (mkF m 27 #[rv a1, iv p2, iv p3, iv p4, iv p5] []))
      refine own_go (fun _ k => XS.iload X0.here hx rfl (hb hby d9_27) rfl (XS.iloadN X0.here hx rfl (hb hby d9_29) rfl k)) ?_
      by_cases hc5 : p5 < p3
      · refine own_go (fun _ k => XS.icmpNo X0.here hx rfl (hb hby d9_30) rfl (tlt hc5).2.1 k) ?_
        show own_Go p e below s _ _ _ (T.setTop (mkF m 33 #[rv a1, iv p2, iv p3, iv p4, iv p5] []))
        refine own_go (fun _ k => XS.aloadN X0.here hx rfl (hb hby d9_33) rfl rfl (XS.iload X0.here hx rfl (hb hby d9_34) rfl k)) ?_
        obtain ⟨v6, T6, L6, X6, hQ6, st6⟩ := own_callVB (y := own_y6) (z := own_y6) X0 hx hZ hown (ow56 hw) (ow57 hw) (notFace_of_selects (args := #[]) (mvT hZ (ow59 hw))) (ow59 hw) (ow58 hw) (ow6 hw) (ow60 hw) 0 0 0 (own_chB (W := 0) hZ (own_sw4 hw) (kI := 4) (ow7 hw) (own_SlKeep fp1 K0 all0) (own_ckC hcok hc1 hc4 hc5) (oCS.ext O0) oCz (oSF.ext O0) r_wsf (by decide) (by decide)) (by show _ ≤ 0; omega) (by show _ ≤ 0; omega) e0 (fp0.keep K0) (g := (mkF m 36 #[rv a1, iv p2, iv p3, iv p4, iv p5] [(.int p5), (.ref a1)])) rfl (by rw [hml]; rfl) [(.int p5)] [] (lenOf own_pd_2 rfl) rfl rfl (hb hby d9_36)
        obtain ⟨rfl, rfl, eh6⟩ := hQ6
        refine own_go st6 ?_
        clear st6 X0 e0
        replace N0 := Fr.app N0 (Fr.nil Z.heap.size)
        show own_Go p e below s _ _ _ (T6.setTop (mkF m 39 #[rv a1, iv p2, iv p3, iv p4, iv p5] [(.int (own_get cs_ p5))]))
        refine own_retN X6 hx hlk eh6 (t := .char) hret (by simp) (hb hby d9_39) (by show _ ≤ 0; omega) (by show _ ≤ 0; omega) ?_
        exact ⟨(congrArg (fun z => some (Value.int z)) (own_clC hc1 hc4 hc5 (own_c8get (own_SlKeep fp1 K0 all0) (own_ckC hcok hc1 hc4 hc5)))), N0, (own_clP (own_clC hc1 hc4 hc5 (own_c8get (own_SlKeep fp1 K0 all0) (own_ckC hcok hc1 hc4 hc5))) (own_c8get (own_SlKeep fp1 K0 all0) (own_ckC hcok hc1 hc4 hc5))), rfl⟩
      · refine own_go (fun _ k => XS.icmpYes X0.here hx rfl (pc0 := 30) (pc' := 40) rfl (hb hby d9_30) rfl (flt hc5).2.1 (by decide) (by decide) k) ?_
        show own_Go p e below s _ _ _ (T.setTop (mkF m 40 #[rv a1, iv p2, iv p3, iv p4, iv p5] []))
        refine own_go (fun _ k => XS.iload X0.here hx rfl (hb hby d9_40) rfl (XS.iloadN X0.here hx rfl (hb hby d9_42) rfl k)) ?_
        by_cases hc7 : p5 = p3
        · refine own_go (fun _ k => XS.icmpNo X0.here hx rfl (hb hby d9_43) rfl (teq hc7).2 k) ?_
          show own_Go p e below s _ _ _ (T.setTop (mkF m 46 #[rv a1, iv p2, iv p3, iv p4, iv p5] []))
          refine own_go (fun _ k => XS.iloadN X0.here hx rfl (hb hby d9_46) rfl k) ?_
          show own_Go p e below s _ _ _ (T.setTop (mkF m 47 #[rv a1, iv p2, iv p3, iv p4, iv p5] [(.int p4)]))
          refine own_retN X0 hx hlk e0 (t := .char) hret (by simp) (hb hby d9_47) (by show _ ≤ 0; omega) (by show _ ≤ 0; omega) ?_
          exact ⟨(congrArg (fun z => some (Value.int z)) (own_clD hc1 hc4 hc5 hc7 hc8)), N0, (own_clP (own_clD hc1 hc4 hc5 hc7 hc8) hc8), rfl⟩
        · refine own_go (fun _ k => XS.icmpYes X0.here hx rfl (pc0 := 43) (pc' := 48) rfl (hb hby d9_43) rfl (feq hc7).2 (by decide) (by decide) k) ?_
          show own_Go p e below s _ _ _ (T.setTop (mkF m 48 #[rv a1, iv p2, iv p3, iv p4, iv p5] []))
          refine own_go (fun _ k => XS.aloadN X0.here hx rfl (hb hby d9_48) rfl rfl (XS.iload X0.here hx rfl (hb hby d9_49) rfl (XS.iconst X0.here hx rfl (hb hby d9_51) (XS.isub X0.here hx rfl (hb hby d9_52) rfl k)))) ?_
          obtain ⟨v8, T8, L8, X8, hQ8, st8⟩ := own_callVB (y := own_y6) (z := own_y6) X0 hx hZ hown (ow56 hw) (ow57 hw) (notFace_of_selects (args := #[]) (mvT hZ (ow59 hw))) (ow59 hw) (ow58 hw) (ow6 hw) (ow60 hw) 0 0 0 (own_chB (W := 0) hZ (own_sw4 hw) (kI := 4) (ow7 hw) (own_SlKeep fp1 K0 all0) (own_ckE hcok hc1 hc4 hc5 hc7) (oCS.ext O0) oCz (oSF.ext O0) r_wsf (by decide) (by decide)) (by show _ ≤ 0; omega) (by show _ ≤ 0; omega) e0 (fp0.keep K0) (g := (mkF m 53 #[rv a1, iv p2, iv p3, iv p4, iv p5] [(.int (p5 - (1 : Int32))), (.ref a1)])) rfl (by rw [hml]; rfl) [(.int (p5 - (1 : Int32)))] [] (lenOf own_pd_2 rfl) rfl rfl (hb hby d9_53)
          obtain ⟨rfl, rfl, eh8⟩ := hQ8
          refine own_go st8 ?_
          clear st8 X0 e0
          replace N0 := Fr.app N0 (Fr.nil Z.heap.size)
          show own_Go p e below s _ _ _ (T8.setTop (mkF m 56 #[rv a1, iv p2, iv p3, iv p4, iv p5] [(.int (own_get cs_ (p5 - (1 : Int32))))]))
          refine own_retN X8 hx hlk eh8 (t := .char) hret (by simp) (hb hby d9_56) (by show _ ≤ 0; omega) (by show _ ≤ 0; omega) ?_
          exact ⟨(congrArg (fun z => some (Value.int z)) (own_clE hc1 hc4 hc5 hc7 (own_c8get (own_SlKeep fp1 K0 all0) (own_ckE hcok hc1 hc4 hc5 hc7)))), N0, (own_clP (own_clE hc1 hc4 hc5 hc7 (own_c8get (own_SlKeep fp1 K0 all0) (own_ckE hcok hc1 hc4 hc5 hc7))) (own_c8get (own_SlKeep fp1 K0 all0) (own_ckE hcok hc1 hc4 hc5 hc7))), rfl⟩
    · refine own_go (fun _ k => XS.icmpYes X0.here hx rfl (pc0 := 24) (pc' := 57) rfl (hb hby d9_24) rfl (feq hc4).2 (by decide) (by decide) k) ?_
      show own_Go p e below s _ _ _ (T.setTop (mkF m 57 #[rv a1, iv p2, iv p3, iv p4, iv p5] []))
      refine own_go (fun _ k => XS.aloadN X0.here hx rfl (hb hby d9_57) rfl rfl (XS.iload X0.here hx rfl (hb hby d9_58) rfl k)) ?_
      obtain ⟨v9, T9, L9, X9, hQ9, st9⟩ := own_callVB (y := own_y6) (z := own_y6) X0 hx hZ hown (ow56 hw) (ow57 hw) (notFace_of_selects (args := #[]) (mvT hZ (ow59 hw))) (ow59 hw) (ow58 hw) (ow6 hw) (ow60 hw) 0 0 0 (own_chB (W := 0) hZ (own_sw4 hw) (kI := 4) (ow7 hw) (own_SlKeep fp1 K0 all0) (own_ckF hcok hc1 hc4) (oCS.ext O0) oCz (oSF.ext O0) r_wsf (by decide) (by decide)) (by show _ ≤ 0; omega) (by show _ ≤ 0; omega) e0 (fp0.keep K0) (g := (mkF m 60 #[rv a1, iv p2, iv p3, iv p4, iv p5] [(.int p5), (.ref a1)])) rfl (by rw [hml]; rfl) [(.int p5)] [] (lenOf own_pd_2 rfl) rfl rfl (hb hby d9_60)
      obtain ⟨rfl, rfl, eh9⟩ := hQ9
      refine own_go st9 ?_
      clear st9 X0 e0
      replace N0 := Fr.app N0 (Fr.nil Z.heap.size)
      show own_Go p e below s _ _ _ (T9.setTop (mkF m 63 #[rv a1, iv p2, iv p3, iv p4, iv p5] [(.int (own_get cs_ p5))]))
      refine own_retN X9 hx hlk eh9 (t := .char) hret (by simp) (hb hby d9_63) (by show _ ≤ 0; omega) (by show _ ≤ 0; omega) ?_
      exact ⟨(congrArg (fun z => some (Value.int z)) (own_clF hc1 hc4 (own_c8get (own_SlKeep fp1 K0 all0) (own_ckF hcok hc1 hc4)))), N0, (own_clP (own_clF hc1 hc4 (own_c8get (own_SlKeep fp1 K0 all0) (own_ckF hcok hc1 hc4))) (own_c8get (own_SlKeep fp1 K0 all0) (own_ckF hcok hc1 hc4))), rfl⟩
def Q_law (Z : State) (zc : Int32) (wsf : Value) (ws0 : Addr) (ws1 : Addr) (ws2 : Addr) (p1 : Int32) (p2 : Int32) (p3 : Int32) (p4 : Int32) (p5 : Int32) (h0 : Heap) (v : Option Value) (h : Heap) (L : List Loc) : Prop := (v = some (.int (1 : Int32)) ∧ Fr Z.heap.size L ∧ Keep h0 h [])
set_option maxRecDepth 65536 in
set_option maxHeartbeats 40000000 in
theorem sg_s455 {l : Launch} {Z : State} {a0 : Array Value} (hw : own_W Z a0) {zc : Int32} {wsf : Value} {ws0 : Addr} {ws1 : Addr} {ws2 : Addr} (hO : own_Olds Z zc wsf ws0 ws1 ws2) {p : Program} {e : Env} {s : State} {vm0 : Vm} {m : MethodId} {args : Array Value} {below : List Frame} {meth : Method} {c : Code} {T : State} {locs : List Loc} {cells slots : Nat} (p1 : Int32) (p2 : Int32) (p3 : Int32) (p4 : Int32) (p5 : Int32) (uk : Int32) (ub : Int32) (um : Int32) (uc : Int32) (up : Int32) (un : Int32) (wd_ : Addr) (yq : Slot) (yr : Slot) (nm_ : Addr) (vt : Int32) (h0 hs1 : Heap)
    (X0 : Stand p l e room_1 (s.setVm vm0) m args below meth c T locs cells slots) (hS : s.Since vm0 hs1.size) (hL : own_L Z a0) (hJ : own_J Z vm0 hs1) (hx : p.tables.exec = Jvm.exec) (hby : c.code = code) (hml : c.maxLocals = 18) (hret : meth.sig.returnType = some .boolean) (hlk : meth.locks = false) (hZ : Z.Warmed39 (s.setVm vm0).vm) (hown : (s.setVm vm0).vm.findClass "com/example/slotsholmen/slotsholmen/schema/GroupPointsAtTargetPinLaw" = some m.cls) (hnm : meth.name = "law") (e0 : T.heap = hs1) (N0 : Fr Z.heap.size locs) (O0 : Ext Z.heap hs1) (K0 : Keep h0 hs1 []) (fp0 : Exa Z hs1 nm_ "java/lang/String") (fp1 : own_Sl Z hs1 nm_ (own_nm ub um up uc un)) (huk : own_V3 uk) (hub : own_V4 ub) (hum : own_V4 um) (hPN : own_PN ub um up un) (hvt : own_B vt (own_T ub um up uc un)) (hcells : cells ≤ 14) (hslots : slots ≤ 300) :
    own_GoW p e below s Z (Q_law Z zc wsf ws0 ws1 ws2 p1 p2 p3 p4 p5 h0) room_1.cells room_1.slots (T.setTop (mkF m 455 #[iv p1, iv p2, iv p3, iv p4, iv p5, iv uk, iv ub, iv um, rv wd_, iv (Int32.ofNat (own_w ub).length), iv uc, yq, iv up, iv un, yr, rv nm_, .unset, .unset] [(.int vt)])) := by
  obtain ⟨oCS, oCz, oSF, r_wsf, oS0, oS1, oS2, oSE0, oSE1, oSE2, oN02, oN12⟩ := id hO
  have K1 := Keep.refl hs1 []
  show own_GoW p e below s _ _ _ _ (T.setTop (mkF m 455 #[iv p1, iv p2, iv p3, iv p4, iv p5, iv uk, iv ub, iv um, rv wd_, iv (Int32.ofNat (own_w ub).length), iv uc, yq, iv up, iv un, yr, rv nm_, .unset, .unset] [(.int vt)]))
  refine own_goW (fun _ k => XS.istore X0.here hx rfl (hb hby at_455) rfl (l' := #[iv p1, iv p2, iv p3, iv p4, iv p5, iv uk, iv ub, iv um, rv wd_, iv (Int32.ofNat (own_w ub).length), iv uc, yq, iv up, iv un, yr, rv nm_, iv vt, .unset]) rfl (XS.iload X0.here hx rfl (hb hby at_457) rfl (XS.iconst X0.here hx rfl (hb hby at_459) k))) ?_
  by_cases hc1 : uk = (2 : Int32)
  · refine own_goW (fun _ k => XS.icmpNo X0.here hx rfl (hb hby at_460) rfl (teq hc1).2 k) ?_
    show own_GoW p e below s _ _ _ _ (T.setTop (mkF m 463 #[iv p1, iv p2, iv p3, iv p4, iv p5, iv uk, iv ub, iv um, rv wd_, iv (Int32.ofNat (own_w ub).length), iv uc, yq, iv up, iv un, yr, rv nm_, iv vt, .unset] []))
    refine own_goW (fun _ k => XS.iload X0.here hx rfl (hb hby at_463) rfl k) ?_
    by_cases hc2 : vt = (0 : Int32)
    · refine own_goW (fun _ k => XS.ifYes X0.here hx rfl (pc0 := 465) (pc' := 472) rfl (hb hby at_465) rfl ((if0 _ _).trans (teq hc2).1) (by decide) (by decide) k) ?_
      show own_GoW p e below s _ _ _ _ (T.setTop (mkF m 472 #[iv p1, iv p2, iv p3, iv p4, iv p5, iv uk, iv ub, iv um, rv wd_, iv (Int32.ofNat (own_w ub).length), iv uc, yq, iv up, iv un, yr, rv nm_, iv vt, .unset] []))
      refine own_goW (fun _ k => XS.iconst X0.here hx rfl (hb hby at_472) (XS.istore X0.here hx rfl (hb hby at_473) rfl (l' := #[iv p1, iv p2, iv p3, iv p4, iv p5, iv uk, iv ub, iv um, rv wd_, iv (Int32.ofNat (own_w ub).length), iv uc, yq, iv up, iv un, yr, rv nm_, iv vt, iv (0 : Int32)]) rfl (XS.iload X0.here hx rfl (hb hby at_475) rfl k))) ?_
      obtain ⟨v3, T3, L3, X3, hQ3, st3⟩ := own_callS (y := own_y3) X0 hx hZ hown (ow39 hw) (ow40 hw) (ow3 hw) (ow41 hw) (rm_section l Z a0 hw hO [] uk hs1 O0) 0 0 0 (by show _ ≤ 32; omega) (by show _ ≤ 8384; omega) e0 (g := (mkF m 477 #[iv p1, iv p2, iv p3, iv p4, iv p5, iv uk, iv ub, iv um, rv wd_, iv (Int32.ofNat (own_w ub).length), iv uc, yq, iv up, iv un, yr, rv nm_, iv vt, iv (0 : Int32)] [(.int uk)])) rfl (by rw [hml]; rfl) [(.int uk)] [] (lenOf own_pd_3 rfl) rfl rfl (hb hby at_477)
      rcases hQ3 with hQ3 | hQ3 | hQ3
      · obtain ⟨rfl, Nc6, hp4, Kc5⟩ := hQ3
        refine own_goW st3 ?_
        clear st3 X0 e0
        replace N0 := Fr.app N0 Nc6
        clear Nc6
        exact absurd hp4 (show ¬ uk = (0 : Int32) from by rw [hc1]; decide)
      · obtain ⟨rfl, Nc10, hp7, hp8, Kc9⟩ := hQ3
        refine own_goW st3 ?_
        clear st3 X0 e0
        replace N0 := Fr.app N0 Nc10
        clear Nc10
        exact absurd hp8 (show ¬ uk = (1 : Int32) from by rw [hc1]; decide)
      · obtain ⟨rfl, Nc14, hp11, hp12, Kc13⟩ := hQ3
        refine own_goW st3 ?_
        clear st3 X0 e0
        replace N0 := Fr.app N0 Nc14
        clear Nc14
        show own_GoW p e below s _ _ _ _ (T3.setTop (mkF m 480 #[iv p1, iv p2, iv p3, iv p4, iv p5, iv uk, iv ub, iv um, rv wd_, iv (Int32.ofNat (own_w ub).length), iv uc, yq, iv up, iv un, yr, rv nm_, iv vt, iv (0 : Int32)] [(.ref ws2)]))
        refine own_goW (fun _ k => XS.aload X3.here hx rfl (hb hby at_480) rfl rfl k) ?_
        obtain ⟨v15, T15, L15, X15, hSn, hZn, hownn, hQ15, hJn, st15⟩ := own_callSW (y := own_y4) X3 hS hL hJ hx hZ hown (ow45 hw) (ow46 hw) (ow47 hw) (ow48 hw) (rm_pat2 l Z a0 hw hO [] nm_ (own_nm ub um up uc un) hs1 O0 (fp0.keep K1) (own_SlKeep fp1 K1 all0)) 0 6 80 (by show _ ≤ 32; omega) (by show _ ≤ 8384; omega) Kc13 (g := (mkF m 482 #[iv p1, iv p2, iv p3, iv p4, iv p5, iv uk, iv ub, iv um, rv wd_, iv (Int32.ofNat (own_w ub).length), iv uc, yq, iv up, iv un, yr, rv nm_, iv vt, iv (0 : Int32)] [(.ref nm_), (.ref ws2)])) rfl (by rw [hml]; rfl) [(.ref ws2), (.ref nm_)] [] (lenOf own_pd_4 rfl) rfl rfl (hb hby at_482)
        replace hS := hSn
        replace hZ := hZn
        replace hown := hownn
        replace hJ := hJn
        clear hSn hZn hownn hJn
        rcases hQ15 with hQ15 | hQ15 | hQ15 | hQ15
        · obtain ⟨rfl, Nc18, hp16, Kc17⟩ := hQ15
          refine own_goW st15 ?_
          clear st15 X3 Kc13
          replace N0 := Fr.app N0 Nc18
          clear Nc18
          replace O0 := own_oldKeep O0 Kc17 all0
          replace K0 := K0.trans Kc17 all0
          replace K1 := K1.trans Kc17 all0
          clear Kc17
          show own_GoW p e below s _ _ _ _ (T15.setTop (mkF m 485 #[iv p1, iv p2, iv p3, iv p4, iv p5, iv uk, iv ub, iv um, rv wd_, iv (Int32.ofNat (own_w ub).length), iv uc, yq, iv up, iv un, yr, rv nm_, iv vt, iv (0 : Int32)] [(.int (1 : Int32))]))
          refine own_goW (fun _ k => XS.iload X15.here hx rfl (hb hby at_485) rfl (XS.icmpYes X15.here hx rfl (pc0 := 487) (pc' := 494) rfl (hb hby at_487) rfl (feq (by decide : ¬ ((1 : Int32) = (0 : Int32)))).2 (by decide) (by decide) (XS.iconst X15.here hx rfl (hb hby at_494) k))) ?_
          show own_GoW p e below s _ _ _ _ (T15.setTop (mkF m 495 #[iv p1, iv p2, iv p3, iv p4, iv p5, iv uk, iv ub, iv um, rv wd_, iv (Int32.ofNat (own_w ub).length), iv uc, yq, iv up, iv un, yr, rv nm_, iv vt, iv (0 : Int32)] [(.int (0 : Int32))]))
          refine own_retNW X15 hS hL hZ hJ hx hlk (rfl : T15.heap = T15.heap) (t := .boolean) hret (by simp) (hb hby at_495) (by show _ ≤ 32; omega) (by show _ ≤ 8384; omega) ?_
          exact absurd ((own_tgt hub hum hPN (c := uc)).mp (Or.inl hp16)) (own_BF hvt hc2)
        · obtain ⟨rfl, Nc22, hp19, hp20, Kc21⟩ := hQ15
          refine own_goW st15 ?_
          clear st15 X3 Kc13
          replace N0 := Fr.app N0 Nc22
          clear Nc22
          replace O0 := own_oldKeep O0 Kc21 all0
          replace K0 := K0.trans Kc21 all0
          replace K1 := K1.trans Kc21 all0
          clear Kc21
          show own_GoW p e below s _ _ _ _ (T15.setTop (mkF m 485 #[iv p1, iv p2, iv p3, iv p4, iv p5, iv uk, iv ub, iv um, rv wd_, iv (Int32.ofNat (own_w ub).length), iv uc, yq, iv up, iv un, yr, rv nm_, iv vt, iv (0 : Int32)] [(.int (1 : Int32))]))
          refine own_goW (fun _ k => XS.iload X15.here hx rfl (hb hby at_485) rfl (XS.icmpYes X15.here hx rfl (pc0 := 487) (pc' := 494) rfl (hb hby at_487) rfl (feq (by decide : ¬ ((1 : Int32) = (0 : Int32)))).2 (by decide) (by decide) (XS.iconst X15.here hx rfl (hb hby at_494) k))) ?_
          show own_GoW p e below s _ _ _ _ (T15.setTop (mkF m 495 #[iv p1, iv p2, iv p3, iv p4, iv p5, iv uk, iv ub, iv um, rv wd_, iv (Int32.ofNat (own_w ub).length), iv uc, yq, iv up, iv un, yr, rv nm_, iv vt, iv (0 : Int32)] [(.int (0 : Int32))]))
          refine own_retNW X15 hS hL hZ hJ hx hlk (rfl : T15.heap = T15.heap) (t := .boolean) hret (by simp) (hb hby at_495) (by show _ ≤ 32; omega) (by show _ ≤ 8384; omega) ?_
          exact absurd ((own_tgt hub hum hPN (c := uc)).mp (Or.inr (Or.inl hp20))) (own_BF hvt hc2)
        · obtain ⟨rfl, Nc27, hp23, hp24, hp25, Kc26⟩ := hQ15
          refine own_goW st15 ?_
          clear st15 X3 Kc13
          replace N0 := Fr.app N0 Nc27
          clear Nc27
          replace O0 := own_oldKeep O0 Kc26 all0
          replace K0 := K0.trans Kc26 all0
          replace K1 := K1.trans Kc26 all0
          clear Kc26
          show own_GoW p e below s _ _ _ _ (T15.setTop (mkF m 485 #[iv p1, iv p2, iv p3, iv p4, iv p5, iv uk, iv ub, iv um, rv wd_, iv (Int32.ofNat (own_w ub).length), iv uc, yq, iv up, iv un, yr, rv nm_, iv vt, iv (0 : Int32)] [(.int (1 : Int32))]))
          refine own_goW (fun _ k => XS.iload X15.here hx rfl (hb hby at_485) rfl (XS.icmpYes X15.here hx rfl (pc0 := 487) (pc' := 494) rfl (hb hby at_487) rfl (feq (by decide : ¬ ((1 : Int32) = (0 : Int32)))).2 (by decide) (by decide) (XS.iconst X15.here hx rfl (hb hby at_494) k))) ?_
          show own_GoW p e below s _ _ _ _ (T15.setTop (mkF m 495 #[iv p1, iv p2, iv p3, iv p4, iv p5, iv uk, iv ub, iv um, rv wd_, iv (Int32.ofNat (own_w ub).length), iv uc, yq, iv up, iv un, yr, rv nm_, iv vt, iv (0 : Int32)] [(.int (0 : Int32))]))
          refine own_retNW X15 hS hL hZ hJ hx hlk (rfl : T15.heap = T15.heap) (t := .boolean) hret (by simp) (hb hby at_495) (by show _ ≤ 32; omega) (by show _ ≤ 8384; omega) ?_
          exact absurd ((own_tgt hub hum hPN (c := uc)).mp (Or.inr (Or.inr hp25))) (own_BF hvt hc2)
        · obtain ⟨rfl, Nc32, hp28, hp29, hp30, Kc31⟩ := hQ15
          refine own_goW st15 ?_
          clear st15 X3 Kc13
          replace N0 := Fr.app N0 Nc32
          clear Nc32
          replace O0 := own_oldKeep O0 Kc31 all0
          replace K0 := K0.trans Kc31 all0
          replace K1 := K1.trans Kc31 all0
          clear Kc31
          show own_GoW p e below s _ _ _ _ (T15.setTop (mkF m 485 #[iv p1, iv p2, iv p3, iv p4, iv p5, iv uk, iv ub, iv um, rv wd_, iv (Int32.ofNat (own_w ub).length), iv uc, yq, iv up, iv un, yr, rv nm_, iv vt, iv (0 : Int32)] [(.int (0 : Int32))]))
          refine own_goW (fun _ k => XS.iload X15.here hx rfl (hb hby at_485) rfl (XS.icmpNo X15.here hx rfl (hb hby at_487) rfl (teq (by decide : (0 : Int32) = (0 : Int32))).2 (XS.iconst X15.here hx rfl (hb hby at_490) (XS.goto X15.here hx rfl (pc0 := 491) (pc' := 495) rfl (hb hby at_491) (by decide) (by decide) k)))) ?_
          show own_GoW p e below s _ _ _ _ (T15.setTop (mkF m 495 #[iv p1, iv p2, iv p3, iv p4, iv p5, iv uk, iv ub, iv um, rv wd_, iv (Int32.ofNat (own_w ub).length), iv uc, yq, iv up, iv un, yr, rv nm_, iv vt, iv (0 : Int32)] [(.int (1 : Int32))]))
          refine own_retNW X15 hS hL hZ hJ hx hlk (rfl : T15.heap = T15.heap) (t := .boolean) hret (by simp) (hb hby at_495) (by show _ ≤ 32; omega) (by show _ ≤ 8384; omega) ?_
          exact ⟨rfl, N0, K0⟩
    · refine own_goW (fun _ k => XS.ifNo X0.here hx rfl (hb hby at_465) rfl ((if0 _ _).trans (feq hc2).1) k) ?_
      show own_GoW p e below s _ _ _ _ (T.setTop (mkF m 468 #[iv p1, iv p2, iv p3, iv p4, iv p5, iv uk, iv ub, iv um, rv wd_, iv (Int32.ofNat (own_w ub).length), iv uc, yq, iv up, iv un, yr, rv nm_, iv vt, .unset] []))
      refine own_goW (fun _ k => XS.iconst X0.here hx rfl (hb hby at_468) (XS.goto X0.here hx rfl (pc0 := 469) (pc' := 473) rfl (hb hby at_469) (by decide) (by decide) (XS.istore X0.here hx rfl (hb hby at_473) rfl (l' := #[iv p1, iv p2, iv p3, iv p4, iv p5, iv uk, iv ub, iv um, rv wd_, iv (Int32.ofNat (own_w ub).length), iv uc, yq, iv up, iv un, yr, rv nm_, iv vt, iv (1 : Int32)]) rfl (XS.iload X0.here hx rfl (hb hby at_475) rfl k)))) ?_
      obtain ⟨v33, T33, L33, X33, hQ33, st33⟩ := own_callS (y := own_y3) X0 hx hZ hown (ow39 hw) (ow40 hw) (ow3 hw) (ow41 hw) (rm_section l Z a0 hw hO [] uk hs1 O0) 0 0 0 (by show _ ≤ 32; omega) (by show _ ≤ 8384; omega) e0 (g := (mkF m 477 #[iv p1, iv p2, iv p3, iv p4, iv p5, iv uk, iv ub, iv um, rv wd_, iv (Int32.ofNat (own_w ub).length), iv uc, yq, iv up, iv un, yr, rv nm_, iv vt, iv (1 : Int32)] [(.int uk)])) rfl (by rw [hml]; rfl) [(.int uk)] [] (lenOf own_pd_3 rfl) rfl rfl (hb hby at_477)
      rcases hQ33 with hQ33 | hQ33 | hQ33
      · obtain ⟨rfl, Nc36, hp34, Kc35⟩ := hQ33
        refine own_goW st33 ?_
        clear st33 X0 e0
        replace N0 := Fr.app N0 Nc36
        clear Nc36
        exact absurd hp34 (show ¬ uk = (0 : Int32) from by rw [hc1]; decide)
      · obtain ⟨rfl, Nc40, hp37, hp38, Kc39⟩ := hQ33
        refine own_goW st33 ?_
        clear st33 X0 e0
        replace N0 := Fr.app N0 Nc40
        clear Nc40
        exact absurd hp38 (show ¬ uk = (1 : Int32) from by rw [hc1]; decide)
      · obtain ⟨rfl, Nc44, hp41, hp42, Kc43⟩ := hQ33
        refine own_goW st33 ?_
        clear st33 X0 e0
        replace N0 := Fr.app N0 Nc44
        clear Nc44
        show own_GoW p e below s _ _ _ _ (T33.setTop (mkF m 480 #[iv p1, iv p2, iv p3, iv p4, iv p5, iv uk, iv ub, iv um, rv wd_, iv (Int32.ofNat (own_w ub).length), iv uc, yq, iv up, iv un, yr, rv nm_, iv vt, iv (1 : Int32)] [(.ref ws2)]))
        refine own_goW (fun _ k => XS.aload X33.here hx rfl (hb hby at_480) rfl rfl k) ?_
        obtain ⟨v45, T45, L45, X45, hSn, hZn, hownn, hQ45, hJn, st45⟩ := own_callSW (y := own_y4) X33 hS hL hJ hx hZ hown (ow45 hw) (ow46 hw) (ow47 hw) (ow48 hw) (rm_pat2 l Z a0 hw hO [] nm_ (own_nm ub um up uc un) hs1 O0 (fp0.keep K1) (own_SlKeep fp1 K1 all0)) 0 6 80 (by show _ ≤ 32; omega) (by show _ ≤ 8384; omega) Kc43 (g := (mkF m 482 #[iv p1, iv p2, iv p3, iv p4, iv p5, iv uk, iv ub, iv um, rv wd_, iv (Int32.ofNat (own_w ub).length), iv uc, yq, iv up, iv un, yr, rv nm_, iv vt, iv (1 : Int32)] [(.ref nm_), (.ref ws2)])) rfl (by rw [hml]; rfl) [(.ref ws2), (.ref nm_)] [] (lenOf own_pd_4 rfl) rfl rfl (hb hby at_482)
        replace hS := hSn
        replace hZ := hZn
        replace hown := hownn
        replace hJ := hJn
        clear hSn hZn hownn hJn
        rcases hQ45 with hQ45 | hQ45 | hQ45 | hQ45
        · obtain ⟨rfl, Nc48, hp46, Kc47⟩ := hQ45
          refine own_goW st45 ?_
          clear st45 X33 Kc43
          replace N0 := Fr.app N0 Nc48
          clear Nc48
          replace O0 := own_oldKeep O0 Kc47 all0
          replace K0 := K0.trans Kc47 all0
          replace K1 := K1.trans Kc47 all0
          clear Kc47
          show own_GoW p e below s _ _ _ _ (T45.setTop (mkF m 485 #[iv p1, iv p2, iv p3, iv p4, iv p5, iv uk, iv ub, iv um, rv wd_, iv (Int32.ofNat (own_w ub).length), iv uc, yq, iv up, iv un, yr, rv nm_, iv vt, iv (1 : Int32)] [(.int (1 : Int32))]))
          refine own_goW (fun _ k => XS.iload X45.here hx rfl (hb hby at_485) rfl (XS.icmpNo X45.here hx rfl (hb hby at_487) rfl (teq (by decide : (1 : Int32) = (1 : Int32))).2 (XS.iconst X45.here hx rfl (hb hby at_490) (XS.goto X45.here hx rfl (pc0 := 491) (pc' := 495) rfl (hb hby at_491) (by decide) (by decide) k)))) ?_
          show own_GoW p e below s _ _ _ _ (T45.setTop (mkF m 495 #[iv p1, iv p2, iv p3, iv p4, iv p5, iv uk, iv ub, iv um, rv wd_, iv (Int32.ofNat (own_w ub).length), iv uc, yq, iv up, iv un, yr, rv nm_, iv vt, iv (1 : Int32)] [(.int (1 : Int32))]))
          refine own_retNW X45 hS hL hZ hJ hx hlk (rfl : T45.heap = T45.heap) (t := .boolean) hret (by simp) (hb hby at_495) (by show _ ≤ 32; omega) (by show _ ≤ 8384; omega) ?_
          exact ⟨rfl, N0, K0⟩
        · obtain ⟨rfl, Nc52, hp49, hp50, Kc51⟩ := hQ45
          refine own_goW st45 ?_
          clear st45 X33 Kc43
          replace N0 := Fr.app N0 Nc52
          clear Nc52
          replace O0 := own_oldKeep O0 Kc51 all0
          replace K0 := K0.trans Kc51 all0
          replace K1 := K1.trans Kc51 all0
          clear Kc51
          show own_GoW p e below s _ _ _ _ (T45.setTop (mkF m 485 #[iv p1, iv p2, iv p3, iv p4, iv p5, iv uk, iv ub, iv um, rv wd_, iv (Int32.ofNat (own_w ub).length), iv uc, yq, iv up, iv un, yr, rv nm_, iv vt, iv (1 : Int32)] [(.int (1 : Int32))]))
          refine own_goW (fun _ k => XS.iload X45.here hx rfl (hb hby at_485) rfl (XS.icmpNo X45.here hx rfl (hb hby at_487) rfl (teq (by decide : (1 : Int32) = (1 : Int32))).2 (XS.iconst X45.here hx rfl (hb hby at_490) (XS.goto X45.here hx rfl (pc0 := 491) (pc' := 495) rfl (hb hby at_491) (by decide) (by decide) k)))) ?_
          show own_GoW p e below s _ _ _ _ (T45.setTop (mkF m 495 #[iv p1, iv p2, iv p3, iv p4, iv p5, iv uk, iv ub, iv um, rv wd_, iv (Int32.ofNat (own_w ub).length), iv uc, yq, iv up, iv un, yr, rv nm_, iv vt, iv (1 : Int32)] [(.int (1 : Int32))]))
          refine own_retNW X45 hS hL hZ hJ hx hlk (rfl : T45.heap = T45.heap) (t := .boolean) hret (by simp) (hb hby at_495) (by show _ ≤ 32; omega) (by show _ ≤ 8384; omega) ?_
          exact ⟨rfl, N0, K0⟩
        · obtain ⟨rfl, Nc57, hp53, hp54, hp55, Kc56⟩ := hQ45
          refine own_goW st45 ?_
          clear st45 X33 Kc43
          replace N0 := Fr.app N0 Nc57
          clear Nc57
          replace O0 := own_oldKeep O0 Kc56 all0
          replace K0 := K0.trans Kc56 all0
          replace K1 := K1.trans Kc56 all0
          clear Kc56
          show own_GoW p e below s _ _ _ _ (T45.setTop (mkF m 485 #[iv p1, iv p2, iv p3, iv p4, iv p5, iv uk, iv ub, iv um, rv wd_, iv (Int32.ofNat (own_w ub).length), iv uc, yq, iv up, iv un, yr, rv nm_, iv vt, iv (1 : Int32)] [(.int (1 : Int32))]))
          refine own_goW (fun _ k => XS.iload X45.here hx rfl (hb hby at_485) rfl (XS.icmpNo X45.here hx rfl (hb hby at_487) rfl (teq (by decide : (1 : Int32) = (1 : Int32))).2 (XS.iconst X45.here hx rfl (hb hby at_490) (XS.goto X45.here hx rfl (pc0 := 491) (pc' := 495) rfl (hb hby at_491) (by decide) (by decide) k)))) ?_
          show own_GoW p e below s _ _ _ _ (T45.setTop (mkF m 495 #[iv p1, iv p2, iv p3, iv p4, iv p5, iv uk, iv ub, iv um, rv wd_, iv (Int32.ofNat (own_w ub).length), iv uc, yq, iv up, iv un, yr, rv nm_, iv vt, iv (1 : Int32)] [(.int (1 : Int32))]))
          refine own_retNW X45 hS hL hZ hJ hx hlk (rfl : T45.heap = T45.heap) (t := .boolean) hret (by simp) (hb hby at_495) (by show _ ≤ 32; omega) (by show _ ≤ 8384; omega) ?_
          exact ⟨rfl, N0, K0⟩
        · obtain ⟨rfl, Nc62, hp58, hp59, hp60, Kc61⟩ := hQ45
          refine own_goW st45 ?_
          clear st45 X33 Kc43
          replace N0 := Fr.app N0 Nc62
          clear Nc62
          replace O0 := own_oldKeep O0 Kc61 all0
          replace K0 := K0.trans Kc61 all0
          replace K1 := K1.trans Kc61 all0
          clear Kc61
          show own_GoW p e below s _ _ _ _ (T45.setTop (mkF m 485 #[iv p1, iv p2, iv p3, iv p4, iv p5, iv uk, iv ub, iv um, rv wd_, iv (Int32.ofNat (own_w ub).length), iv uc, yq, iv up, iv un, yr, rv nm_, iv vt, iv (1 : Int32)] [(.int (0 : Int32))]))
          refine own_goW (fun _ k => XS.iload X45.here hx rfl (hb hby at_485) rfl (XS.icmpYes X45.here hx rfl (pc0 := 487) (pc' := 494) rfl (hb hby at_487) rfl (feq (by decide : ¬ ((0 : Int32) = (1 : Int32)))).2 (by decide) (by decide) (XS.iconst X45.here hx rfl (hb hby at_494) k))) ?_
          show own_GoW p e below s _ _ _ _ (T45.setTop (mkF m 495 #[iv p1, iv p2, iv p3, iv p4, iv p5, iv uk, iv ub, iv um, rv wd_, iv (Int32.ofNat (own_w ub).length), iv uc, yq, iv up, iv un, yr, rv nm_, iv vt, iv (1 : Int32)] [(.int (0 : Int32))]))
          refine own_retNW X45 hS hL hZ hJ hx hlk (rfl : T45.heap = T45.heap) (t := .boolean) hret (by simp) (hb hby at_495) (by show _ ≤ 32; omega) (by show _ ≤ 8384; omega) ?_
          exact absurd ((own_tgt hub hum hPN (c := uc)).mpr (own_BT hvt hc2)) (fun q => q.elim hp58 (fun q => q.elim hp59 hp60))
  · refine own_goW (fun _ k => XS.icmpYes X0.here hx rfl (pc0 := 460) (pc' := 472) rfl (hb hby at_460) rfl (feq hc1).2 (by decide) (by decide) k) ?_
    show own_GoW p e below s _ _ _ _ (T.setTop (mkF m 472 #[iv p1, iv p2, iv p3, iv p4, iv p5, iv uk, iv ub, iv um, rv wd_, iv (Int32.ofNat (own_w ub).length), iv uc, yq, iv up, iv un, yr, rv nm_, iv vt, .unset] []))
    refine own_goW (fun _ k => XS.iconst X0.here hx rfl (hb hby at_472) (XS.istore X0.here hx rfl (hb hby at_473) rfl (l' := #[iv p1, iv p2, iv p3, iv p4, iv p5, iv uk, iv ub, iv um, rv wd_, iv (Int32.ofNat (own_w ub).length), iv uc, yq, iv up, iv un, yr, rv nm_, iv vt, iv (0 : Int32)]) rfl (XS.iload X0.here hx rfl (hb hby at_475) rfl k))) ?_
    obtain ⟨v63, T63, L63, X63, hQ63, st63⟩ := own_callS (y := own_y3) X0 hx hZ hown (ow39 hw) (ow40 hw) (ow3 hw) (ow41 hw) (rm_section l Z a0 hw hO [] uk hs1 O0) 0 0 0 (by show _ ≤ 32; omega) (by show _ ≤ 8384; omega) e0 (g := (mkF m 477 #[iv p1, iv p2, iv p3, iv p4, iv p5, iv uk, iv ub, iv um, rv wd_, iv (Int32.ofNat (own_w ub).length), iv uc, yq, iv up, iv un, yr, rv nm_, iv vt, iv (0 : Int32)] [(.int uk)])) rfl (by rw [hml]; rfl) [(.int uk)] [] (lenOf own_pd_3 rfl) rfl rfl (hb hby at_477)
    rcases hQ63 with hQ63 | hQ63 | hQ63
    · obtain ⟨rfl, Nc66, hp64, Kc65⟩ := hQ63
      refine own_goW st63 ?_
      clear st63 X0 e0
      replace N0 := Fr.app N0 Nc66
      clear Nc66
      show own_GoW p e below s _ _ _ _ (T63.setTop (mkF m 480 #[iv p1, iv p2, iv p3, iv p4, iv p5, iv uk, iv ub, iv um, rv wd_, iv (Int32.ofNat (own_w ub).length), iv uc, yq, iv up, iv un, yr, rv nm_, iv vt, iv (0 : Int32)] [(.ref ws0)]))
      refine own_goW (fun _ k => XS.aload X63.here hx rfl (hb hby at_480) rfl rfl k) ?_
      obtain ⟨v67, T67, L67, X67, hQ67, st67⟩ := own_callS (y := own_y4) X63 hx hZ hown (ow45 hw) (ow46 hw) (ow47 hw) (ow48 hw) (rm_pat0 l Z a0 hw hO [] nm_ hs1 O0) 0 0 0 (by show _ ≤ 32; omega) (by show _ ≤ 8384; omega) Kc65 (g := (mkF m 482 #[iv p1, iv p2, iv p3, iv p4, iv p5, iv uk, iv ub, iv um, rv wd_, iv (Int32.ofNat (own_w ub).length), iv uc, yq, iv up, iv un, yr, rv nm_, iv vt, iv (0 : Int32)] [(.ref nm_), (.ref ws0)])) rfl (by rw [hml]; rfl) [(.ref ws0), (.ref nm_)] [] (lenOf own_pd_4 rfl) rfl rfl (hb hby at_482)
      obtain ⟨rfl, Nc69, Kc68⟩ := hQ67
      refine own_goW st67 ?_
      clear st67 X63 Kc65
      replace N0 := Fr.app N0 Nc69
      clear Nc69
      refine own_goW (fun _ k => XS.iload X67.here hx rfl (hb hby at_485) rfl (XS.icmpNo X67.here hx rfl (hb hby at_487) rfl (teq (by decide : (0 : Int32) = (0 : Int32))).2 (XS.iconst X67.here hx rfl (hb hby at_490) k))) ?_
      show own_GoW p e below s _ _ _ _ (T67.setTop (mkF m 491 #[iv p1, iv p2, iv p3, iv p4, iv p5, iv uk, iv ub, iv um, rv wd_, iv (Int32.ofNat (own_w ub).length), iv uc, yq, iv up, iv un, yr, rv nm_, iv vt, iv (0 : Int32)] [(.int (1 : Int32))]))
      refine own_goW (fun _ k => XS.goto X67.here hx rfl (pc0 := 491) (pc' := 495) rfl (hb hby at_491) (by decide) (by decide) k) ?_
      show own_GoW p e below s _ _ _ _ (T67.setTop (mkF m 495 #[iv p1, iv p2, iv p3, iv p4, iv p5, iv uk, iv ub, iv um, rv wd_, iv (Int32.ofNat (own_w ub).length), iv uc, yq, iv up, iv un, yr, rv nm_, iv vt, iv (0 : Int32)] [(.int (1 : Int32))]))
      refine own_retNW X67 hS hL hZ hJ hx hlk Kc68 (t := .boolean) hret (by simp) (hb hby at_495) (by show _ ≤ 32; omega) (by show _ ≤ 8384; omega) ?_
      exact ⟨rfl, N0, K0⟩
    · obtain ⟨rfl, Nc73, hp70, hp71, Kc72⟩ := hQ63
      refine own_goW st63 ?_
      clear st63 X0 e0
      replace N0 := Fr.app N0 Nc73
      clear Nc73
      show own_GoW p e below s _ _ _ _ (T63.setTop (mkF m 480 #[iv p1, iv p2, iv p3, iv p4, iv p5, iv uk, iv ub, iv um, rv wd_, iv (Int32.ofNat (own_w ub).length), iv uc, yq, iv up, iv un, yr, rv nm_, iv vt, iv (0 : Int32)] [(.ref ws1)]))
      refine own_goW (fun _ k => XS.aload X63.here hx rfl (hb hby at_480) rfl rfl k) ?_
      obtain ⟨v74, T74, L74, X74, hQ74, st74⟩ := own_callS (y := own_y4) X63 hx hZ hown (ow45 hw) (ow46 hw) (ow47 hw) (ow48 hw) (rm_pat1 l Z a0 hw hO [] nm_ hs1 O0) 0 0 0 (by show _ ≤ 32; omega) (by show _ ≤ 8384; omega) Kc72 (g := (mkF m 482 #[iv p1, iv p2, iv p3, iv p4, iv p5, iv uk, iv ub, iv um, rv wd_, iv (Int32.ofNat (own_w ub).length), iv uc, yq, iv up, iv un, yr, rv nm_, iv vt, iv (0 : Int32)] [(.ref nm_), (.ref ws1)])) rfl (by rw [hml]; rfl) [(.ref ws1), (.ref nm_)] [] (lenOf own_pd_4 rfl) rfl rfl (hb hby at_482)
      obtain ⟨rfl, Nc76, Kc75⟩ := hQ74
      refine own_goW st74 ?_
      clear st74 X63 Kc72
      replace N0 := Fr.app N0 Nc76
      clear Nc76
      refine own_goW (fun _ k => XS.iload X74.here hx rfl (hb hby at_485) rfl (XS.icmpNo X74.here hx rfl (hb hby at_487) rfl (teq (by decide : (0 : Int32) = (0 : Int32))).2 (XS.iconst X74.here hx rfl (hb hby at_490) k))) ?_
      show own_GoW p e below s _ _ _ _ (T74.setTop (mkF m 491 #[iv p1, iv p2, iv p3, iv p4, iv p5, iv uk, iv ub, iv um, rv wd_, iv (Int32.ofNat (own_w ub).length), iv uc, yq, iv up, iv un, yr, rv nm_, iv vt, iv (0 : Int32)] [(.int (1 : Int32))]))
      refine own_goW (fun _ k => XS.goto X74.here hx rfl (pc0 := 491) (pc' := 495) rfl (hb hby at_491) (by decide) (by decide) k) ?_
      show own_GoW p e below s _ _ _ _ (T74.setTop (mkF m 495 #[iv p1, iv p2, iv p3, iv p4, iv p5, iv uk, iv ub, iv um, rv wd_, iv (Int32.ofNat (own_w ub).length), iv uc, yq, iv up, iv un, yr, rv nm_, iv vt, iv (0 : Int32)] [(.int (1 : Int32))]))
      refine own_retNW X74 hS hL hZ hJ hx hlk Kc75 (t := .boolean) hret (by simp) (hb hby at_495) (by show _ ≤ 32; omega) (by show _ ≤ 8384; omega) ?_
      exact ⟨rfl, N0, K0⟩
    · obtain ⟨rfl, Nc80, hp77, hp78, Kc79⟩ := hQ63
      refine own_goW st63 ?_
      clear st63 X0 e0
      replace N0 := Fr.app N0 Nc80
      clear Nc80
      exact absurd (own_v31 huk hp77 hc1) hp78
set_option maxRecDepth 65536 in
set_option maxHeartbeats 40000000 in
theorem sg_s406 {l : Launch} {Z : State} {a0 : Array Value} (hw : own_W Z a0) {zc : Int32} {wsf : Value} {ws0 : Addr} {ws1 : Addr} {ws2 : Addr} (hO : own_Olds Z zc wsf ws0 ws1 ws2) {p : Program} {e : Env} {s : State} {vm0 : Vm} {m : MethodId} {args : Array Value} {below : List Frame} {meth : Method} {c : Code} {T : State} {locs : List Loc} {cells slots : Nat} (p1 : Int32) (p2 : Int32) (p3 : Int32) (p4 : Int32) (p5 : Int32) (uk : Int32) (ub : Int32) (um : Int32) (uc : Int32) (up : Int32) (un : Int32) (wd_ : Addr) (yq : Slot) (yr : Slot) (nm_ : Addr) (h0 hs1 : Heap)
    (X0 : Stand p l e room_1 (s.setVm vm0) m args below meth c T locs cells slots) (hS : s.Since vm0 hs1.size) (hL : own_L Z a0) (hJ : own_J Z vm0 hs1) (hx : p.tables.exec = Jvm.exec) (hby : c.code = code) (hml : c.maxLocals = 18) (hret : meth.sig.returnType = some .boolean) (hlk : meth.locks = false) (hZ : Z.Warmed39 (s.setVm vm0).vm) (hown : (s.setVm vm0).vm.findClass "com/example/slotsholmen/slotsholmen/schema/GroupPointsAtTargetPinLaw" = some m.cls) (hnm : meth.name = "law") (e0 : T.heap = hs1) (N0 : Fr Z.heap.size locs) (O0 : Ext Z.heap hs1) (K0 : Keep h0 hs1 []) (fp0 : Exa Z hs1 wd_ "java/lang/String") (fp1 : own_Sl Z hs1 wd_ (own_w ub)) (fp2 : Exa Z hs1 nm_ "java/lang/String") (fp3 : own_Sl Z hs1 nm_ (own_nm ub um up uc un)) (huk : own_V3 uk) (hub : own_V4 ub) (hum : own_V4 um) (hPN : own_PN ub um up un) (huc : own_C8 uc) (hcells : cells ≤ 14) (hslots : slots ≤ 300) :
    own_GoW p e below s Z (Q_law Z zc wsf ws0 ws1 ws2 p1 p2 p3 p4 p5 h0) room_1.cells room_1.slots (T.setTop (mkF m 406 #[iv p1, iv p2, iv p3, iv p4, iv p5, iv uk, iv ub, iv um, rv wd_, iv (Int32.ofNat (own_w ub).length), iv uc, yq, iv up, iv un, yr, .unset, .unset, .unset] [(.ref nm_)])) := by
  obtain ⟨oCS, oCz, oSF, r_wsf, oS0, oS1, oS2, oSE0, oSE1, oSE2, oN02, oN12⟩ := id hO
  have K1 := Keep.refl hs1 []
  show own_GoW p e below s _ _ _ _ (T.setTop (mkF m 406 #[iv p1, iv p2, iv p3, iv p4, iv p5, iv uk, iv ub, iv um, rv wd_, iv (Int32.ofNat (own_w ub).length), iv uc, yq, iv up, iv un, yr, .unset, .unset, .unset] [(.ref nm_)]))
  refine own_goW (fun _ k => XS.astore X0.here hx rfl (hb hby at_406) rfl rfl (l' := #[iv p1, iv p2, iv p3, iv p4, iv p5, iv uk, iv ub, iv um, rv wd_, iv (Int32.ofNat (own_w ub).length), iv uc, yq, iv up, iv un, yr, rv nm_, .unset, .unset]) rfl (XS.iload X0.here hx rfl (hb hby at_408) rfl (XS.iconst X0.here hx rfl (hb hby at_410) k))) ?_
  by_cases hc81 : ub < (3 : Int32)
  · refine own_goW (fun _ k => XS.icmpNo X0.here hx rfl (hb hby at_411) rfl (tlt hc81).2.1 k) ?_
    show own_GoW p e below s _ _ _ _ (T.setTop (mkF m 414 #[iv p1, iv p2, iv p3, iv p4, iv p5, iv uk, iv ub, iv um, rv wd_, iv (Int32.ofNat (own_w ub).length), iv uc, yq, iv up, iv un, yr, rv nm_, .unset, .unset] []))
    refine own_goW (fun _ k => XS.iload X0.here hx rfl (hb hby at_414) rfl k) ?_
    by_cases hc82 : um = (0 : Int32)
    · refine own_goW (fun _ k => XS.ifYes X0.here hx rfl (pc0 := 416) (pc' := 450) rfl (hb hby at_416) rfl ((if0 _ _).trans (teq hc82).1) (by decide) (by decide) k) ?_
      show own_GoW p e below s _ _ _ _ (T.setTop (mkF m 450 #[iv p1, iv p2, iv p3, iv p4, iv p5, iv uk, iv ub, iv um, rv wd_, iv (Int32.ofNat (own_w ub).length), iv uc, yq, iv up, iv un, yr, rv nm_, .unset, .unset] []))
      refine own_goW (fun _ k => XS.iconst X0.here hx rfl (hb hby at_450) (XS.goto X0.here hx rfl (pc0 := 451) (pc' := 455) rfl (hb hby at_451) (by decide) (by decide) k)) ?_
      show own_GoW p e below s _ _ _ _ (T.setTop (mkF m 455 #[iv p1, iv p2, iv p3, iv p4, iv p5, iv uk, iv ub, iv um, rv wd_, iv (Int32.ofNat (own_w ub).length), iv uc, yq, iv up, iv un, yr, rv nm_, .unset, .unset] [(.int (1 : Int32))]))
      exact sg_s455 hw hO p1 p2 p3 p4 p5 uk ub um uc up un wd_ (yq : Slot) (yr : Slot) nm_ (1 : Int32) h0 hs1 X0 hS hL hJ hx hby hml hret hlk hZ hown hnm e0 N0 O0 K0 (fp2.keep K1) (own_SlKeep fp3 K1 all0) huk hub hum hPN (Or.inl ⟨rfl, hc81, Or.inl hc82⟩) (by omega) (by omega)
    · refine own_goW (fun _ k => XS.ifNo X0.here hx rfl (hb hby at_416) rfl ((if0 _ _).trans (feq hc82).1) k) ?_
      show own_GoW p e below s _ _ _ _ (T.setTop (mkF m 419 #[iv p1, iv p2, iv p3, iv p4, iv p5, iv uk, iv ub, iv um, rv wd_, iv (Int32.ofNat (own_w ub).length), iv uc, yq, iv up, iv un, yr, rv nm_, .unset, .unset] []))
      refine own_goW (fun _ k => XS.iload X0.here hx rfl (hb hby at_419) rfl (XS.iconst X0.here hx rfl (hb hby at_421) k)) ?_
      by_cases hc83 : um = (1 : Int32)
      · refine own_goW (fun _ k => XS.icmpNo X0.here hx rfl (hb hby at_422) rfl (teq hc83).2 k) ?_
        show own_GoW p e below s _ _ _ _ (T.setTop (mkF m 425 #[iv p1, iv p2, iv p3, iv p4, iv p5, iv uk, iv ub, iv um, rv wd_, iv (Int32.ofNat (own_w ub).length), iv uc, yq, iv up, iv un, yr, rv nm_, .unset, .unset] []))
        refine own_goW (fun _ k => XS.iload X0.here hx rfl (hb hby at_425) rfl (XS.aload X0.here hx rfl (hb hby at_427) rfl rfl (XS.iload X0.here hx rfl (hb hby at_429) rfl k))) ?_
        obtain ⟨v84, T84, L84, X84, hQ84, st84⟩ := own_callVB (y := own_y6) (z := own_y6) X0 hx hZ hown (ow56 hw) (ow57 hw) (notFace_of_selects (args := #[]) (mvT hZ (ow59 hw))) (ow59 hw) (ow58 hw) (ow6 hw) (ow60 hw) 1 0 0 (own_chB (W := 1) hZ (own_sw4 hw) (kI := 4) (ow7 hw) (own_SlKeep fp1 K1 all0) (own_inP hub hPN hc83 hc81) (oCS.ext O0) oCz (oSF.ext O0) r_wsf (by decide) (by decide)) (by show _ ≤ 32; omega) (by show _ ≤ 8384; omega) e0 (fp0.keep K1) (g := (mkF m 431 #[iv p1, iv p2, iv p3, iv p4, iv p5, iv uk, iv ub, iv um, rv wd_, iv (Int32.ofNat (own_w ub).length), iv uc, yq, iv up, iv un, yr, rv nm_, .unset, .unset] [(.int up), (.ref wd_), (.int uc)])) rfl (by rw [hml]; rfl) [(.int up)] [(.int uc)] (lenOf own_pd_2 rfl) rfl rfl (hb hby at_431)
        obtain ⟨rfl, rfl, eh84⟩ := hQ84
        refine own_goW st84 ?_
        clear st84 X0 e0
        replace N0 := Fr.app N0 (Fr.nil Z.heap.size)
        by_cases hc85 : uc = (own_get (own_w ub) up)
        · refine own_goW (fun _ k => XS.icmpYes X84.here hx rfl (pc0 := 434) (pc' := 450) rfl (hb hby at_434) rfl (teq hc85).1 (by decide) (by decide) k) ?_
          show own_GoW p e below s _ _ _ _ (T84.setTop (mkF m 450 #[iv p1, iv p2, iv p3, iv p4, iv p5, iv uk, iv ub, iv um, rv wd_, iv (Int32.ofNat (own_w ub).length), iv uc, yq, iv up, iv un, yr, rv nm_, .unset, .unset] []))
          refine own_goW (fun _ k => XS.iconst X84.here hx rfl (hb hby at_450) (XS.goto X84.here hx rfl (pc0 := 451) (pc' := 455) rfl (hb hby at_451) (by decide) (by decide) k)) ?_
          show own_GoW p e below s _ _ _ _ (T84.setTop (mkF m 455 #[iv p1, iv p2, iv p3, iv p4, iv p5, iv uk, iv ub, iv um, rv wd_, iv (Int32.ofNat (own_w ub).length), iv uc, yq, iv up, iv un, yr, rv nm_, .unset, .unset] [(.int (1 : Int32))]))
          exact sg_s455 hw hO p1 p2 p3 p4 p5 uk ub um uc up un wd_ (yq : Slot) (yr : Slot) nm_ (1 : Int32) h0 hs1 X84 hS hL hJ hx hby hml hret hlk hZ hown hnm eh84 N0 O0 K0 (fp2.keep K1) (own_SlKeep fp3 K1 all0) huk hub hum hPN (Or.inl ⟨rfl, hc81, Or.inr (Or.inl ⟨hc83, hc85⟩)⟩) (by omega) (by omega)
        · refine own_goW (fun _ k => XS.icmpNo X84.here hx rfl (hb hby at_434) rfl (feq hc85).1 k) ?_
          show own_GoW p e below s _ _ _ _ (T84.setTop (mkF m 437 #[iv p1, iv p2, iv p3, iv p4, iv p5, iv uk, iv ub, iv um, rv wd_, iv (Int32.ofNat (own_w ub).length), iv uc, yq, iv up, iv un, yr, rv nm_, .unset, .unset] []))
          refine own_goW (fun _ k => XS.iload X84.here hx rfl (hb hby at_437) rfl (XS.iconst X84.here hx rfl (hb hby at_439) (XS.icmpYes X84.here hx rfl (pc0 := 440) (pc' := 454) rfl (hb hby at_440) rfl (feq (show ¬ um = (2 : Int32) from by rw [hc83]; decide)).2 (by decide) (by decide) (XS.iconst X84.here hx rfl (hb hby at_454) k)))) ?_
          show own_GoW p e below s _ _ _ _ (T84.setTop (mkF m 455 #[iv p1, iv p2, iv p3, iv p4, iv p5, iv uk, iv ub, iv um, rv wd_, iv (Int32.ofNat (own_w ub).length), iv uc, yq, iv up, iv un, yr, rv nm_, .unset, .unset] [(.int (0 : Int32))]))
          exact sg_s455 hw hO p1 p2 p3 p4 p5 uk ub um uc up un wd_ (yq : Slot) (yr : Slot) nm_ (0 : Int32) h0 hs1 X84 hS hL hJ hx hby hml hret hlk hZ hown hnm eh84 N0 O0 K0 (fp2.keep K1) (own_SlKeep fp3 K1 all0) huk hub hum hPN (Or.inr ⟨rfl, fun h => h.2.elim hc82 (fun q => q.elim (fun q => hc85 q.2) (fun q => (show ¬ um = (2 : Int32) from by rw [hc83]; decide) q.1))⟩) (by omega) (by omega)
      · refine own_goW (fun _ k => XS.icmpYes X0.here hx rfl (pc0 := 422) (pc' := 437) rfl (hb hby at_422) rfl (feq hc83).2 (by decide) (by decide) k) ?_
        show own_GoW p e below s _ _ _ _ (T.setTop (mkF m 437 #[iv p1, iv p2, iv p3, iv p4, iv p5, iv uk, iv ub, iv um, rv wd_, iv (Int32.ofNat (own_w ub).length), iv uc, yq, iv up, iv un, yr, rv nm_, .unset, .unset] []))
        refine own_goW (fun _ k => XS.iload X0.here hx rfl (hb hby at_437) rfl (XS.iconst X0.here hx rfl (hb hby at_439) k)) ?_
        by_cases hc86 : um = (2 : Int32)
        · refine own_goW (fun _ k => XS.icmpNo X0.here hx rfl (hb hby at_440) rfl (teq hc86).2 k) ?_
          show own_GoW p e below s _ _ _ _ (T.setTop (mkF m 443 #[iv p1, iv p2, iv p3, iv p4, iv p5, iv uk, iv ub, iv um, rv wd_, iv (Int32.ofNat (own_w ub).length), iv uc, yq, iv up, iv un, yr, rv nm_, .unset, .unset] []))
          refine own_goW (fun _ k => XS.iload X0.here hx rfl (hb hby at_443) rfl (XS.iload X0.here hx rfl (hb hby at_445) rfl k)) ?_
          by_cases hc87 : un = (Int32.ofNat (own_w ub).length)
          · refine own_goW (fun _ k => XS.icmpNo X0.here hx rfl (hb hby at_447) rfl (teq hc87).2 k) ?_
            show own_GoW p e below s _ _ _ _ (T.setTop (mkF m 450 #[iv p1, iv p2, iv p3, iv p4, iv p5, iv uk, iv ub, iv um, rv wd_, iv (Int32.ofNat (own_w ub).length), iv uc, yq, iv up, iv un, yr, rv nm_, .unset, .unset] []))
            refine own_goW (fun _ k => XS.iconst X0.here hx rfl (hb hby at_450) (XS.goto X0.here hx rfl (pc0 := 451) (pc' := 455) rfl (hb hby at_451) (by decide) (by decide) k)) ?_
            show own_GoW p e below s _ _ _ _ (T.setTop (mkF m 455 #[iv p1, iv p2, iv p3, iv p4, iv p5, iv uk, iv ub, iv um, rv wd_, iv (Int32.ofNat (own_w ub).length), iv uc, yq, iv up, iv un, yr, rv nm_, .unset, .unset] [(.int (1 : Int32))]))
            exact sg_s455 hw hO p1 p2 p3 p4 p5 uk ub um uc up un wd_ (yq : Slot) (yr : Slot) nm_ (1 : Int32) h0 hs1 X0 hS hL hJ hx hby hml hret hlk hZ hown hnm e0 N0 O0 K0 (fp2.keep K1) (own_SlKeep fp3 K1 all0) huk hub hum hPN (Or.inl ⟨rfl, hc81, Or.inr (Or.inr ⟨hc86, hc87⟩)⟩) (by omega) (by omega)
          · refine own_goW (fun _ k => XS.icmpYes X0.here hx rfl (pc0 := 447) (pc' := 454) rfl (hb hby at_447) rfl (feq hc87).2 (by decide) (by decide) k) ?_
            show own_GoW p e below s _ _ _ _ (T.setTop (mkF m 454 #[iv p1, iv p2, iv p3, iv p4, iv p5, iv uk, iv ub, iv um, rv wd_, iv (Int32.ofNat (own_w ub).length), iv uc, yq, iv up, iv un, yr, rv nm_, .unset, .unset] []))
            refine own_goW (fun _ k => XS.iconst X0.here hx rfl (hb hby at_454) k) ?_
            show own_GoW p e below s _ _ _ _ (T.setTop (mkF m 455 #[iv p1, iv p2, iv p3, iv p4, iv p5, iv uk, iv ub, iv um, rv wd_, iv (Int32.ofNat (own_w ub).length), iv uc, yq, iv up, iv un, yr, rv nm_, .unset, .unset] [(.int (0 : Int32))]))
            exact sg_s455 hw hO p1 p2 p3 p4 p5 uk ub um uc up un wd_ (yq : Slot) (yr : Slot) nm_ (0 : Int32) h0 hs1 X0 hS hL hJ hx hby hml hret hlk hZ hown hnm e0 N0 O0 K0 (fp2.keep K1) (own_SlKeep fp3 K1 all0) huk hub hum hPN (Or.inr ⟨rfl, fun h => h.2.elim hc82 (fun q => q.elim (fun q => hc83 q.1) (fun q => hc87 q.2))⟩) (by omega) (by omega)
        · refine own_goW (fun _ k => XS.icmpYes X0.here hx rfl (pc0 := 440) (pc' := 454) rfl (hb hby at_440) rfl (feq hc86).2 (by decide) (by decide) k) ?_
          show own_GoW p e below s _ _ _ _ (T.setTop (mkF m 454 #[iv p1, iv p2, iv p3, iv p4, iv p5, iv uk, iv ub, iv um, rv wd_, iv (Int32.ofNat (own_w ub).length), iv uc, yq, iv up, iv un, yr, rv nm_, .unset, .unset] []))
          refine own_goW (fun _ k => XS.iconst X0.here hx rfl (hb hby at_454) k) ?_
          show own_GoW p e below s _ _ _ _ (T.setTop (mkF m 455 #[iv p1, iv p2, iv p3, iv p4, iv p5, iv uk, iv ub, iv um, rv wd_, iv (Int32.ofNat (own_w ub).length), iv uc, yq, iv up, iv un, yr, rv nm_, .unset, .unset] [(.int (0 : Int32))]))
          exact sg_s455 hw hO p1 p2 p3 p4 p5 uk ub um uc up un wd_ (yq : Slot) (yr : Slot) nm_ (0 : Int32) h0 hs1 X0 hS hL hJ hx hby hml hret hlk hZ hown hnm e0 N0 O0 K0 (fp2.keep K1) (own_SlKeep fp3 K1 all0) huk hub hum hPN (Or.inr ⟨rfl, fun h => h.2.elim hc82 (fun q => q.elim (fun q => hc83 q.1) (fun q => hc86 q.1))⟩) (by omega) (by omega)
  · refine own_goW (fun _ k => XS.icmpYes X0.here hx rfl (pc0 := 411) (pc' := 454) rfl (hb hby at_411) rfl (flt hc81).2.1 (by decide) (by decide) k) ?_
    show own_GoW p e below s _ _ _ _ (T.setTop (mkF m 454 #[iv p1, iv p2, iv p3, iv p4, iv p5, iv uk, iv ub, iv um, rv wd_, iv (Int32.ofNat (own_w ub).length), iv uc, yq, iv up, iv un, yr, rv nm_, .unset, .unset] []))
    refine own_goW (fun _ k => XS.iconst X0.here hx rfl (hb hby at_454) k) ?_
    show own_GoW p e below s _ _ _ _ (T.setTop (mkF m 455 #[iv p1, iv p2, iv p3, iv p4, iv p5, iv uk, iv ub, iv um, rv wd_, iv (Int32.ofNat (own_w ub).length), iv uc, yq, iv up, iv un, yr, rv nm_, .unset, .unset] [(.int (0 : Int32))]))
    exact sg_s455 hw hO p1 p2 p3 p4 p5 uk ub um uc up un wd_ (yq : Slot) (yr : Slot) nm_ (0 : Int32) h0 hs1 X0 hS hL hJ hx hby hml hret hlk hZ hown hnm e0 N0 O0 K0 (fp2.keep K1) (own_SlKeep fp3 K1 all0) huk hub hum hPN (Or.inr ⟨rfl, fun h => hc81 h.1⟩) (by omega) (by omega)
set_option maxRecDepth 65536 in
set_option maxHeartbeats 40000000 in
theorem sg_s135 {l : Launch} {Z : State} {a0 : Array Value} (hw : own_W Z a0) {zc : Int32} {wsf : Value} {ws0 : Addr} {ws1 : Addr} {ws2 : Addr} (hO : own_Olds Z zc wsf ws0 ws1 ws2) {p : Program} {e : Env} {s : State} {vm0 : Vm} {m : MethodId} {args : Array Value} {below : List Frame} {meth : Method} {c : Code} {T : State} {locs : List Loc} {cells slots : Nat} (p1 : Int32) (p2 : Int32) (p3 : Int32) (p4 : Int32) (p5 : Int32) (uk : Int32) (ub : Int32) (um : Int32) (uc : Int32) (up : Int32) (un : Int32) (wd_ : Addr) (yq : Slot) (h0 hs1 : Heap)
    (X0 : Stand p l e room_1 (s.setVm vm0) m args below meth c T locs cells slots) (hS : s.Since vm0 hs1.size) (hL : own_L Z a0) (hJ : own_J Z vm0 hs1) (hx : p.tables.exec = Jvm.exec) (hby : c.code = code) (hml : c.maxLocals = 18) (hret : meth.sig.returnType = some .boolean) (hlk : meth.locks = false) (hZ : Z.Warmed39 (s.setVm vm0).vm) (hown : (s.setVm vm0).vm.findClass "com/example/slotsholmen/slotsholmen/schema/GroupPointsAtTargetPinLaw" = some m.cls) (hnm : meth.name = "law") (e0 : T.heap = hs1) (N0 : Fr Z.heap.size locs) (O0 : Ext Z.heap hs1) (K0 : Keep h0 hs1 []) (fp0 : Exa Z hs1 wd_ "java/lang/String") (fp1 : own_Sl Z hs1 wd_ (own_w ub)) (huk : own_V3 uk) (hub : own_V4 ub) (hum : own_V4 um) (hPN : own_PN ub um up un) (huc : own_C8 uc) (hcells : cells ≤ 4) (hslots : slots ≤ 100) :
    own_GoW p e below s Z (Q_law Z zc wsf ws0 ws1 ws2 p1 p2 p3 p4 p5 h0) room_1.cells room_1.slots (T.setTop (mkF m 135 #[iv p1, iv p2, iv p3, iv p4, iv p5, iv uk, iv ub, iv um, rv wd_, iv (Int32.ofNat (own_w ub).length), iv uc, yq, iv up, iv un, .unset, .unset, .unset, .unset] [])) := by
  obtain ⟨oCS, oCz, oSF, r_wsf, oS0, oS1, oS2, oSE0, oSE1, oSE2, oN02, oN12⟩ := id hO
  have K1 := Keep.refl hs1 []
  show own_GoW p e below s _ _ _ _ (T.setTop (mkF m 135 #[iv p1, iv p2, iv p3, iv p4, iv p5, iv uk, iv ub, iv um, rv wd_, iv (Int32.ofNat (own_w ub).length), iv uc, yq, iv up, iv un, .unset, .unset, .unset, .unset] []))
  refine own_goW (fun _ k => XS.iload X0.here hx rfl (hb hby at_135) rfl k) ?_
  show own_GoW p e below s _ _ _ _ (T.setTop (mkF m 137 #[iv p1, iv p2, iv p3, iv p4, iv p5, iv uk, iv ub, iv um, rv wd_, iv (Int32.ofNat (own_w ub).length), iv uc, yq, iv up, iv un, .unset, .unset, .unset, .unset] [(.int un)]))
  rcases own_un12 hub hPN with rfl | rfl | rfl | rfl | rfl | rfl | rfl | rfl | rfl | rfl | rfl | rfl
  · show own_GoW p e below s _ _ _ _ (T.setTop (mkF m 137 #[iv p1, iv p2, iv p3, iv p4, iv p5, iv uk, iv ub, iv um, rv wd_, iv (Int32.ofNat (own_w ub).length), iv uc, yq, iv up, iv (0 : Int32), .unset, .unset, .unset, .unset] [(.int (0 : Int32))]))
    show own_GoW p e below s _ _ _ _ (T.setTop (mkF m 137 #[iv p1, iv p2, iv p3, iv p4, iv p5, iv uk, iv ub, iv um, rv wd_, iv (Int32.ofNat (own_w ub).length), iv uc, yq, iv up, iv (0 : Int32), .unset, .unset, .unset, .unset] [(.int (0 : Int32))]))
    obtain ⟨T88, h88, k88, X88, e88, E88, A88, st88⟩ := newP (aty := .char) X0 hx hZ (ow26 hw) e0 (g := (mkF m 137 #[iv p1, iv p2, iv p3, iv p4, iv p5, iv uk, iv ub, iv um, rv wd_, iv (Int32.ofNat (own_w ub).length), iv uc, yq, iv up, iv (0 : Int32), .unset, .unset, .unset, .unset] [(.int (0 : Int32))])) rfl (hb hby at_137) rfl (by decide) (cap := 0) (by decide) (by decide) (by show _ ≤ 32; omega) (by show _ ≤ 8384; omega)
    obtain ⟨b88, g88⟩ : ∃ z, z = hs1.size := ⟨_, rfl⟩
    rw [← g88] at A88 st88
    refine own_goW st88 ?_
    clear st88 X0 e0
    have ge88 := Nat.le_of_eq g88.symm
    have big89 : Z.heap.size ≤ b88 := Nat.le_trans O0.1 ge88
    have sz90 : h0.size ≤ b88 := Nat.le_trans K0.1 ge88
    have sz91 : hs1.size ≤ b88 := Nat.le_trans K1.1 ge88
    replace O0 := own_oldExt O0 E88
    replace K0 := K0.ext E88
    replace K1 := K1.ext E88
    replace hS := own_since hS E88.1
    replace hJ := own_Jext hJ E88
    clear E88
    have f92 : Arv Z h88 b88 k88 .char (0 : Int32) [] (.int (0 : Int32)) := (Arv.new A88 (by decide)).pad (pad_rep [] (.int (0 : Int32)) 0)
    refine own_goW (fun _ k => XS.astore X88.here hx rfl (hb hby at_139) rfl rfl (l' := #[iv p1, iv p2, iv p3, iv p4, iv p5, iv uk, iv ub, iv um, rv wd_, iv (Int32.ofNat (own_w ub).length), iv uc, yq, iv up, iv (0 : Int32), rv b88, .unset, .unset, .unset]) rfl (XS.iload X88.here hx rfl (hb hby at_141) rfl (XS.ifYes X88.here hx rfl (pc0 := 143) (pc' := 162) rfl (hb hby at_143) rfl ((if0 _ _).trans (flt (by decide : ¬ ((0 : Int32) < (0 : Int32)))).2.2.2) (by decide) (by decide) (XS.iload X88.here hx rfl (hb hby at_162) rfl k)))) ?_
    show own_GoW p e below s _ _ _ _ (T88.setTop (mkF m 164 #[iv p1, iv p2, iv p3, iv p4, iv p5, iv uk, iv ub, iv um, rv wd_, iv (Int32.ofNat (own_w ub).length), iv uc, yq, iv up, iv (0 : Int32), rv b88, .unset, .unset, .unset] [(.int (0 : Int32))]))
    refine own_goW (fun _ k => XS.iconst X88.here hx rfl (hb hby at_164) (XS.icmpYes X88.here hx rfl (pc0 := 165) (pc' := 184) rfl (hb hby at_165) rfl (flt (by decide : ¬ ((1 : Int32) < (0 : Int32)))).2.2.2 (by decide) (by decide) (XS.iload X88.here hx rfl (hb hby at_184) rfl (XS.iconst X88.here hx rfl (hb hby at_186) (XS.icmpYes X88.here hx rfl (pc0 := 187) (pc' := 206) rfl (hb hby at_187) rfl (flt (by decide : ¬ ((2 : Int32) < (0 : Int32)))).2.2.2 (by decide) (by decide) k))))) ?_
    show own_GoW p e below s _ _ _ _ (T88.setTop (mkF m 206 #[iv p1, iv p2, iv p3, iv p4, iv p5, iv uk, iv ub, iv um, rv wd_, iv (Int32.ofNat (own_w ub).length), iv uc, yq, iv up, iv (0 : Int32), rv b88, .unset, .unset, .unset] []))
    refine own_goW (fun _ k => XS.iload X88.here hx rfl (hb hby at_206) rfl (XS.iconst X88.here hx rfl (hb hby at_208) (XS.icmpYes X88.here hx rfl (pc0 := 209) (pc' := 228) rfl (hb hby at_209) rfl (flt (by decide : ¬ ((3 : Int32) < (0 : Int32)))).2.2.2 (by decide) (by decide) (XS.iload X88.here hx rfl (hb hby at_228) rfl (XS.iconst X88.here hx rfl (hb hby at_230) k))))) ?_
    show own_GoW p e below s _ _ _ _ (T88.setTop (mkF m 231 #[iv p1, iv p2, iv p3, iv p4, iv p5, iv uk, iv ub, iv um, rv wd_, iv (Int32.ofNat (own_w ub).length), iv uc, yq, iv up, iv (0 : Int32), rv b88, .unset, .unset, .unset] [(.int (4 : Int32)), (.int (0 : Int32))]))
    refine own_goW (fun _ k => XS.icmpYes X88.here hx rfl (pc0 := 231) (pc' := 250) rfl (hb hby at_231) rfl (flt (by decide : ¬ ((4 : Int32) < (0 : Int32)))).2.2.2 (by decide) (by decide) (XS.iload X88.here hx rfl (hb hby at_250) rfl (XS.iconst X88.here hx rfl (hb hby at_252) (XS.icmpYes X88.here hx rfl (pc0 := 253) (pc' := 272) rfl (hb hby at_253) rfl (flt (by decide : ¬ ((5 : Int32) < (0 : Int32)))).2.2.2 (by decide) (by decide) (XS.iload X88.here hx rfl (hb hby at_272) rfl k))))) ?_
    show own_GoW p e below s _ _ _ _ (T88.setTop (mkF m 274 #[iv p1, iv p2, iv p3, iv p4, iv p5, iv uk, iv ub, iv um, rv wd_, iv (Int32.ofNat (own_w ub).length), iv uc, yq, iv up, iv (0 : Int32), rv b88, .unset, .unset, .unset] [(.int (0 : Int32))]))
    refine own_goW (fun _ k => XS.bipush X88.here hx rfl (hb hby at_274) (XS.icmpYes X88.here hx rfl (pc0 := 276) (pc' := 297) rfl (hb hby at_276) rfl (flt (by decide : ¬ ((6 : Int32) < (0 : Int32)))).2.2.2 (by decide) (by decide) (XS.iload X88.here hx rfl (hb hby at_297) rfl (XS.bipush X88.here hx rfl (hb hby at_299) (XS.icmpYes X88.here hx rfl (pc0 := 301) (pc' := 322) rfl (hb hby at_301) rfl (flt (by decide : ¬ ((7 : Int32) < (0 : Int32)))).2.2.2 (by decide) (by decide) k))))) ?_
    show own_GoW p e below s _ _ _ _ (T88.setTop (mkF m 322 #[iv p1, iv p2, iv p3, iv p4, iv p5, iv uk, iv ub, iv um, rv wd_, iv (Int32.ofNat (own_w ub).length), iv uc, yq, iv up, iv (0 : Int32), rv b88, .unset, .unset, .unset] []))
    refine own_goW (fun _ k => XS.iload X88.here hx rfl (hb hby at_322) rfl (XS.bipush X88.here hx rfl (hb hby at_324) (XS.icmpYes X88.here hx rfl (pc0 := 326) (pc' := 347) rfl (hb hby at_326) rfl (flt (by decide : ¬ ((8 : Int32) < (0 : Int32)))).2.2.2 (by decide) (by decide) (XS.iload X88.here hx rfl (hb hby at_347) rfl (XS.bipush X88.here hx rfl (hb hby at_349) k))))) ?_
    show own_GoW p e below s _ _ _ _ (T88.setTop (mkF m 351 #[iv p1, iv p2, iv p3, iv p4, iv p5, iv uk, iv ub, iv um, rv wd_, iv (Int32.ofNat (own_w ub).length), iv uc, yq, iv up, iv (0 : Int32), rv b88, .unset, .unset, .unset] [(.int (9 : Int32)), (.int (0 : Int32))]))
    refine own_goW (fun _ k => XS.icmpYes X88.here hx rfl (pc0 := 351) (pc' := 372) rfl (hb hby at_351) rfl (flt (by decide : ¬ ((9 : Int32) < (0 : Int32)))).2.2.2 (by decide) (by decide) (XS.iload X88.here hx rfl (hb hby at_372) rfl (XS.bipush X88.here hx rfl (hb hby at_374) (XS.icmpYes X88.here hx rfl (pc0 := 376) (pc' := 397) rfl (hb hby at_376) rfl (flt (by decide : ¬ ((10 : Int32) < (0 : Int32)))).2.2.2 (by decide) (by decide) k)))) ?_
    obtain ⟨T93, h93, X93, e93, E93, A93, D93, -, st93⟩ := newO X88 hx hZ hown (ow27 hw) (ow7 hw) (ow6 hw) e88 (g := (mkF m 397 #[iv p1, iv p2, iv p3, iv p4, iv p5, iv uk, iv ub, iv um, rv wd_, iv (Int32.ofNat (own_w ub).length), iv uc, yq, iv up, iv (0 : Int32), rv b88, .unset, .unset, .unset] [])) rfl (hb hby at_397) (by show _ ≤ 32; omega) (by show _ ≤ 8384; omega)
    obtain ⟨b93, g93⟩ : ∃ z, z = h88.size := ⟨_, rfl⟩
    rw [← g93] at A93 D93 st93
    refine own_goW st93 ?_
    clear st93 X88 e88
    have ge93 := Nat.le_of_eq g93.symm
    have ne94 : b88 ≠ b93 := Nat.ne_of_lt (Nat.lt_of_lt_of_le f92.lt ge93)
    have big95 : Z.heap.size ≤ b93 := Nat.le_trans O0.1 ge93
    have sz96 : h0.size ≤ b93 := Nat.le_trans K0.1 ge93
    have sz97 : hs1.size ≤ b93 := Nat.le_trans K1.1 ge93
    replace f92 := f92.ext E93
    replace O0 := own_oldExt O0 E93
    replace K0 := K0.ext E93
    replace K1 := K1.ext E93
    replace hS := own_since hS E93.1
    replace hJ := own_Jext hJ E93
    clear E93
    have f98 : Fld Z h93 b93 "java/lang/String" "value" "[B" .null := D93 (Or.inr (ow9 hw)) (ty := (.array .byte)) own_fd0
    have f99 : Fld Z h93 b93 "java/lang/String" "coder" "B" (.int (0 : Int32)) := D93 (Or.inr (ow10 hw)) (ty := .byte) own_fd1
    show own_GoW p e below s _ _ _ _ (T93.setTop (mkF m 400 #[iv p1, iv p2, iv p3, iv p4, iv p5, iv uk, iv ub, iv um, rv wd_, iv (Int32.ofNat (own_w ub).length), iv uc, yq, iv up, iv (0 : Int32), rv b88, .unset, .unset, .unset] [(.ref b93)]))
    refine own_goW (fun _ k => XS.dup X93.here hx rfl (hb hby at_400) rfl rfl (XS.aload X93.here hx rfl (hb hby at_401) rfl rfl k)) ?_
    obtain ⟨v100, T100, L100, X100, hSn, hZn, hownn, hQ100, hJn, st100⟩ := own_callIW (y := own_y1) X93 hS hL hJ hx hZ hown (ow28 hw) (ow29 hw) (ow6 hw) (ow30 hw) (rm_st1E l Z a0 hw hO [] b93 b88 k88 h93 O0 A93 f98 f99 f92 big95) 1 2 4 rfl (by show _ ≤ 32; omega) (by show _ ≤ 8384; omega) e93 (g := (mkF m 403 #[iv p1, iv p2, iv p3, iv p4, iv p5, iv uk, iv ub, iv um, rv wd_, iv (Int32.ofNat (own_w ub).length), iv uc, yq, iv up, iv (0 : Int32), rv b88, .unset, .unset, .unset] [(.ref b88), (.ref b93), (.ref b93)])) rfl (by rw [hml]; rfl) b93 [(.ref b88)] [(.ref b93)] (lenOf own_pd_5 rfl) rfl rfl (hb hby at_403)
    replace hS := hSn
    replace hZ := hZn
    replace hown := hownn
    replace hJ := hJn
    clear hSn hZn hownn hJn
    obtain ⟨w101, w102, rfl, Nc108, Kc107, f103, f104, f105, f106⟩ := hQ100
    refine own_goW st100 ?_
    clear st100 X93 e93
    replace N0 := Fr.app N0 Nc108
    clear Nc108
    replace f92 := f92.keep Kc107 (ninS ne94 nin0)
    replace A93 := A93.keep Kc107
    clear f98
    clear f99
    replace O0 := own_oldKeep O0 Kc107 (allS big95 all0)
    replace K0 := K0.trans Kc107 (allS (Or.inr sz96) all0)
    replace K1 := K1.trans Kc107 (allS (Or.inr sz97) all0)
    clear Kc107
    show own_GoW p e below s _ _ _ _ (T100.setTop (mkF m 406 #[iv p1, iv p2, iv p3, iv p4, iv p5, iv uk, iv ub, iv um, rv wd_, iv (Int32.ofNat (own_w ub).length), iv uc, yq, iv up, iv (0 : Int32), rv b88, .unset, .unset, .unset] [(.ref b93)]))
    have sl109 : own_Sl Z T100.heap b93 (own_nm ub um up uc (0 : Int32)) := by
      rw [own_nm_0]
      exact own_mkSl (cs := []) f103 f104 f105 f106 rfl rfl own_cN (Nat.le_of_ble_eq_true rfl)
    exact sg_s406 hw hO p1 p2 p3 p4 p5 uk ub um uc up (0 : Int32) wd_ (yq : Slot) (rv b88 : Slot) b93 h0 T100.heap X100 hS hL hJ hx hby hml hret hlk hZ hown hnm (rfl : T100.heap = T100.heap) N0 O0 K0 (fp0.keep K1) (own_SlKeep fp1 K1 all0) f103 sl109 huk hub hum hPN huc (by omega) (by omega)
  · show own_GoW p e below s _ _ _ _ (T.setTop (mkF m 137 #[iv p1, iv p2, iv p3, iv p4, iv p5, iv uk, iv ub, iv um, rv wd_, iv (Int32.ofNat (own_w ub).length), iv uc, yq, iv up, iv (1 : Int32), .unset, .unset, .unset, .unset] [(.int (1 : Int32))]))
    show own_GoW p e below s _ _ _ _ (T.setTop (mkF m 137 #[iv p1, iv p2, iv p3, iv p4, iv p5, iv uk, iv ub, iv um, rv wd_, iv (Int32.ofNat (own_w ub).length), iv uc, yq, iv up, iv (1 : Int32), .unset, .unset, .unset, .unset] [(.int (1 : Int32))]))
    obtain ⟨T110, h110, k110, X110, e110, E110, A110, st110⟩ := newP (aty := .char) X0 hx hZ (ow26 hw) e0 (g := (mkF m 137 #[iv p1, iv p2, iv p3, iv p4, iv p5, iv uk, iv ub, iv um, rv wd_, iv (Int32.ofNat (own_w ub).length), iv uc, yq, iv up, iv (1 : Int32), .unset, .unset, .unset, .unset] [(.int (1 : Int32))])) rfl (hb hby at_137) rfl (by decide) (cap := 1) (by decide) (by decide) (by show _ ≤ 32; omega) (by show _ ≤ 8384; omega)
    obtain ⟨b110, g110⟩ : ∃ z, z = hs1.size := ⟨_, rfl⟩
    rw [← g110] at A110 st110
    refine own_goW st110 ?_
    clear st110 X0 e0
    have ge110 := Nat.le_of_eq g110.symm
    have big111 : Z.heap.size ≤ b110 := Nat.le_trans O0.1 ge110
    have sz112 : h0.size ≤ b110 := Nat.le_trans K0.1 ge110
    have sz113 : hs1.size ≤ b110 := Nat.le_trans K1.1 ge110
    replace O0 := own_oldExt O0 E110
    replace K0 := K0.ext E110
    replace K1 := K1.ext E110
    replace hS := own_since hS E110.1
    replace hJ := own_Jext hJ E110
    clear E110
    have f114 : Arv Z h110 b110 k110 .char (1 : Int32) [(.int (0 : Int32))] (.int (0 : Int32)) := (Arv.new A110 (by decide)).pad (pad_rep [] (.int (0 : Int32)) 1)
    refine own_goW (fun _ k => XS.astore X110.here hx rfl (hb hby at_139) rfl rfl (l' := #[iv p1, iv p2, iv p3, iv p4, iv p5, iv uk, iv ub, iv um, rv wd_, iv (Int32.ofNat (own_w ub).length), iv uc, yq, iv up, iv (1 : Int32), rv b110, .unset, .unset, .unset]) rfl (XS.iload X110.here hx rfl (hb hby at_141) rfl (XS.ifNo X110.here hx rfl (hb hby at_143) rfl ((if0 _ _).trans (tlt (by decide : (0 : Int32) < (1 : Int32))).2.2.2) (XS.aload X110.here hx rfl (hb hby at_146) rfl rfl k)))) ?_
    show own_GoW p e below s _ _ _ _ (T110.setTop (mkF m 148 #[iv p1, iv p2, iv p3, iv p4, iv p5, iv uk, iv ub, iv um, rv wd_, iv (Int32.ofNat (own_w ub).length), iv uc, yq, iv up, iv (1 : Int32), rv b110, .unset, .unset, .unset] [(.ref b110)]))
    refine own_goW (fun _ k => XS.iconst X110.here hx rfl (hb hby at_148) (XS.aload X110.here hx rfl (hb hby at_149) rfl rfl (XS.iload X110.here hx rfl (hb hby at_151) rfl (XS.iload X110.here hx rfl (hb hby at_153) rfl (XS.iload X110.here hx rfl (hb hby at_155) rfl k))))) ?_
    show own_GoW p e below s _ _ _ _ (T110.setTop (mkF m 157 #[iv p1, iv p2, iv p3, iv p4, iv p5, iv uk, iv ub, iv um, rv wd_, iv (Int32.ofNat (own_w ub).length), iv uc, yq, iv up, iv (1 : Int32), rv b110, .unset, .unset, .unset] [(.int uc), (.int up), (.int um), (.ref wd_), (.int (0 : Int32)), (.ref b110)]))
    refine own_goW (fun _ k => XS.iconst X110.here hx rfl (hb hby at_157) k) ?_
    obtain ⟨v115, T115, L115, X115, hQ115, st115⟩ := own_callS (y := own_y7) X110 hx hZ hown (ow53 hw) (ow54 hw) (ow3 hw) (ow55 hw) (rm_cell l Z a0 hw hO [] wd_ um up uc (0 : Int32) (own_w ub) h110 O0 (fp0.keep K1) (own_SlKeep fp1 K1 all0) (own_cokL hub hPN (by decide) (by decide)) huc) 2 0 0 (by show _ ≤ 32; omega) (by show _ ≤ 8384; omega) e110 (g := (mkF m 158 #[iv p1, iv p2, iv p3, iv p4, iv p5, iv uk, iv ub, iv um, rv wd_, iv (Int32.ofNat (own_w ub).length), iv uc, yq, iv up, iv (1 : Int32), rv b110, .unset, .unset, .unset] [(.int (0 : Int32)), (.int uc), (.int up), (.int um), (.ref wd_), (.int (0 : Int32)), (.ref b110)])) rfl (by rw [hml]; rfl) [(.ref wd_), (.int um), (.int up), (.int uc), (.int (0 : Int32))] [(.int (0 : Int32)), (.ref b110)] (lenOf own_pd_6 rfl) rfl rfl (hb hby at_158)
    obtain ⟨rfl, Nc118, hp116, Kc117⟩ := hQ115
    refine own_goW st115 ?_
    clear st115 X110 e110
    replace N0 := Fr.app N0 Nc118
    clear Nc118
    obtain ⟨cl119, Ar119, q119, S119, M119, P119, G119⟩ := id f114
    have hin119 : ¬ ((0 : Int32) < 0 ∨ cl119.slots.size ≤ ((0 : Int32)).toNatClampNeg) := inb_of S119 ⟨by decide, by decide⟩
    obtain ⟨T120, h120, X120, e120, W120, st120⟩ := stC X115 hx hZ Kc117 Ar119 (j := (0 : Int32)) hin119 (g := (mkF m 161 #[iv p1, iv p2, iv p3, iv p4, iv p5, iv uk, iv ub, iv um, rv wd_, iv (Int32.ofNat (own_w ub).length), iv uc, yq, iv up, iv (1 : Int32), rv b110, .unset, .unset, .unset] [(.int (own_cell (own_w ub) um up uc (0 : Int32))), (.int (0 : Int32)), (.ref b110)])) rfl rfl (hb hby at_161)
    refine own_goW st120 ?_
    clear st120 X115 Kc117
    rw [own_nar8 hp116] at W120
    have f121 : Arv Z h120 b110 k110 .char (1 : Int32) [(.int (own_cell (own_w ub) um up uc (0 : Int32)))] (.int (0 : Int32)) := Arv.set Ar119 q119 S119 M119 P119 G119 (by have q := fits_nar_char (own_cell (own_w ub) um up uc (0 : Int32)); rw [own_nar8 hp116] at q; exact q) W120 0 rfl (Nat.le_of_ble_eq_true rfl)
    replace N0 := Fr.snoc X120 N0 big111
    replace hJ := own_Jwr hZ hJ W120 (own_farV f114 (by decide) (ow7 hw))
    clear f114
    replace O0 := own_oldWr O0 W120 big111
    replace K0 := K0.wr W120 (Or.inr sz112)
    replace K1 := K1.wr W120 (Or.inr sz113)
    replace hS := own_since hS (Nat.le_of_eq W120.size.symm)
    clear W120
    clear Ar119 q119 S119 M119 P119 G119 hin119
    refine own_goW (fun _ k => XS.iload X120.here hx rfl (hb hby at_162) rfl (XS.iconst X120.here hx rfl (hb hby at_164) k)) ?_
    show own_GoW p e below s _ _ _ _ (T120.setTop (mkF m 165 #[iv p1, iv p2, iv p3, iv p4, iv p5, iv uk, iv ub, iv um, rv wd_, iv (Int32.ofNat (own_w ub).length), iv uc, yq, iv up, iv (1 : Int32), rv b110, .unset, .unset, .unset] [(.int (1 : Int32)), (.int (1 : Int32))]))
    refine own_goW (fun _ k => XS.icmpYes X120.here hx rfl (pc0 := 165) (pc' := 184) rfl (hb hby at_165) rfl (flt (by decide : ¬ ((1 : Int32) < (1 : Int32)))).2.2.2 (by decide) (by decide) (XS.iload X120.here hx rfl (hb hby at_184) rfl (XS.iconst X120.here hx rfl (hb hby at_186) (XS.icmpYes X120.here hx rfl (pc0 := 187) (pc' := 206) rfl (hb hby at_187) rfl (flt (by decide : ¬ ((2 : Int32) < (1 : Int32)))).2.2.2 (by decide) (by decide) (XS.iload X120.here hx rfl (hb hby at_206) rfl k))))) ?_
    show own_GoW p e below s _ _ _ _ (T120.setTop (mkF m 208 #[iv p1, iv p2, iv p3, iv p4, iv p5, iv uk, iv ub, iv um, rv wd_, iv (Int32.ofNat (own_w ub).length), iv uc, yq, iv up, iv (1 : Int32), rv b110, .unset, .unset, .unset] [(.int (1 : Int32))]))
    refine own_goW (fun _ k => XS.iconst X120.here hx rfl (hb hby at_208) (XS.icmpYes X120.here hx rfl (pc0 := 209) (pc' := 228) rfl (hb hby at_209) rfl (flt (by decide : ¬ ((3 : Int32) < (1 : Int32)))).2.2.2 (by decide) (by decide) (XS.iload X120.here hx rfl (hb hby at_228) rfl (XS.iconst X120.here hx rfl (hb hby at_230) (XS.icmpYes X120.here hx rfl (pc0 := 231) (pc' := 250) rfl (hb hby at_231) rfl (flt (by decide : ¬ ((4 : Int32) < (1 : Int32)))).2.2.2 (by decide) (by decide) k))))) ?_
    show own_GoW p e below s _ _ _ _ (T120.setTop (mkF m 250 #[iv p1, iv p2, iv p3, iv p4, iv p5, iv uk, iv ub, iv um, rv wd_, iv (Int32.ofNat (own_w ub).length), iv uc, yq, iv up, iv (1 : Int32), rv b110, .unset, .unset, .unset] []))
    refine own_goW (fun _ k => XS.iload X120.here hx rfl (hb hby at_250) rfl (XS.iconst X120.here hx rfl (hb hby at_252) (XS.icmpYes X120.here hx rfl (pc0 := 253) (pc' := 272) rfl (hb hby at_253) rfl (flt (by decide : ¬ ((5 : Int32) < (1 : Int32)))).2.2.2 (by decide) (by decide) (XS.iload X120.here hx rfl (hb hby at_272) rfl (XS.bipush X120.here hx rfl (hb hby at_274) k))))) ?_
    show own_GoW p e below s _ _ _ _ (T120.setTop (mkF m 276 #[iv p1, iv p2, iv p3, iv p4, iv p5, iv uk, iv ub, iv um, rv wd_, iv (Int32.ofNat (own_w ub).length), iv uc, yq, iv up, iv (1 : Int32), rv b110, .unset, .unset, .unset] [(.int (6 : Int32)), (.int (1 : Int32))]))
    refine own_goW (fun _ k => XS.icmpYes X120.here hx rfl (pc0 := 276) (pc' := 297) rfl (hb hby at_276) rfl (flt (by decide : ¬ ((6 : Int32) < (1 : Int32)))).2.2.2 (by decide) (by decide) (XS.iload X120.here hx rfl (hb hby at_297) rfl (XS.bipush X120.here hx rfl (hb hby at_299) (XS.icmpYes X120.here hx rfl (pc0 := 301) (pc' := 322) rfl (hb hby at_301) rfl (flt (by decide : ¬ ((7 : Int32) < (1 : Int32)))).2.2.2 (by decide) (by decide) (XS.iload X120.here hx rfl (hb hby at_322) rfl k))))) ?_
    show own_GoW p e below s _ _ _ _ (T120.setTop (mkF m 324 #[iv p1, iv p2, iv p3, iv p4, iv p5, iv uk, iv ub, iv um, rv wd_, iv (Int32.ofNat (own_w ub).length), iv uc, yq, iv up, iv (1 : Int32), rv b110, .unset, .unset, .unset] [(.int (1 : Int32))]))
    refine own_goW (fun _ k => XS.bipush X120.here hx rfl (hb hby at_324) (XS.icmpYes X120.here hx rfl (pc0 := 326) (pc' := 347) rfl (hb hby at_326) rfl (flt (by decide : ¬ ((8 : Int32) < (1 : Int32)))).2.2.2 (by decide) (by decide) (XS.iload X120.here hx rfl (hb hby at_347) rfl (XS.bipush X120.here hx rfl (hb hby at_349) (XS.icmpYes X120.here hx rfl (pc0 := 351) (pc' := 372) rfl (hb hby at_351) rfl (flt (by decide : ¬ ((9 : Int32) < (1 : Int32)))).2.2.2 (by decide) (by decide) k))))) ?_
    show own_GoW p e below s _ _ _ _ (T120.setTop (mkF m 372 #[iv p1, iv p2, iv p3, iv p4, iv p5, iv uk, iv ub, iv um, rv wd_, iv (Int32.ofNat (own_w ub).length), iv uc, yq, iv up, iv (1 : Int32), rv b110, .unset, .unset, .unset] []))
    refine own_goW (fun _ k => XS.iload X120.here hx rfl (hb hby at_372) rfl (XS.bipush X120.here hx rfl (hb hby at_374) (XS.icmpYes X120.here hx rfl (pc0 := 376) (pc' := 397) rfl (hb hby at_376) rfl (flt (by decide : ¬ ((10 : Int32) < (1 : Int32)))).2.2.2 (by decide) (by decide) k))) ?_
    obtain ⟨T122, h122, X122, e122, E122, A122, D122, -, st122⟩ := newO X120 hx hZ hown (ow27 hw) (ow7 hw) (ow6 hw) e120 (g := (mkF m 397 #[iv p1, iv p2, iv p3, iv p4, iv p5, iv uk, iv ub, iv um, rv wd_, iv (Int32.ofNat (own_w ub).length), iv uc, yq, iv up, iv (1 : Int32), rv b110, .unset, .unset, .unset] [])) rfl (hb hby at_397) (by show _ ≤ 32; omega) (by show _ ≤ 8384; omega)
    obtain ⟨b122, g122⟩ : ∃ z, z = h120.size := ⟨_, rfl⟩
    rw [← g122] at A122 D122 st122
    refine own_goW st122 ?_
    clear st122 X120 e120
    have ge122 := Nat.le_of_eq g122.symm
    have ne123 : b110 ≠ b122 := Nat.ne_of_lt (Nat.lt_of_lt_of_le f121.lt ge122)
    have big124 : Z.heap.size ≤ b122 := Nat.le_trans O0.1 ge122
    have sz125 : h0.size ≤ b122 := Nat.le_trans K0.1 ge122
    have sz126 : hs1.size ≤ b122 := Nat.le_trans K1.1 ge122
    replace f121 := f121.ext E122
    replace O0 := own_oldExt O0 E122
    replace K0 := K0.ext E122
    replace K1 := K1.ext E122
    replace hS := own_since hS E122.1
    replace hJ := own_Jext hJ E122
    clear E122
    have f127 : Fld Z h122 b122 "java/lang/String" "value" "[B" .null := D122 (Or.inr (ow9 hw)) (ty := (.array .byte)) own_fd0
    have f128 : Fld Z h122 b122 "java/lang/String" "coder" "B" (.int (0 : Int32)) := D122 (Or.inr (ow10 hw)) (ty := .byte) own_fd1
    refine own_goW (fun _ k => XS.dup X122.here hx rfl (hb hby at_400) rfl rfl k) ?_
    show own_GoW p e below s _ _ _ _ (T122.setTop (mkF m 401 #[iv p1, iv p2, iv p3, iv p4, iv p5, iv uk, iv ub, iv um, rv wd_, iv (Int32.ofNat (own_w ub).length), iv uc, yq, iv up, iv (1 : Int32), rv b110, .unset, .unset, .unset] [(.ref b122), (.ref b122)]))
    refine own_goW (fun _ k => XS.aload X122.here hx rfl (hb hby at_401) rfl rfl k) ?_
    obtain ⟨v129, T129, L129, X129, hQ129, st129⟩ := own_callIB (y := own_y1) X122 hx hZ hown (ow28 hw) (ow29 hw) (ow6 hw) (ow30 hw) 1 1 1 (StrChars.Road.backV (W := 1) hZ (own_sw1 hw) (kI := 4) (ow7 hw) (cs := ([(own_cell (own_w ub) um up uc (0 : Int32))] : List Int32)) (bs := ([(own_cell (own_w ub) um up uc (0 : Int32))] : List Int32).map (fun c => c.toInt8.toInt32)) (n := 1) (n0 := Z.heap.size) big124 (Nat.le_trans O0.1 (Nat.le_refl _)) A122 f127 f128 f121 (oCS.ext O0) oCz rfl rfl (by decide) (by decide) (own_cC hp116 own_cN) rfl (by decide) (by decide)) rfl (by show _ ≤ 32; omega) (by show _ ≤ 8384; omega) e122 (g := (mkF m 403 #[iv p1, iv p2, iv p3, iv p4, iv p5, iv uk, iv ub, iv um, rv wd_, iv (Int32.ofNat (own_w ub).length), iv uc, yq, iv up, iv (1 : Int32), rv b110, .unset, .unset, .unset] [(.ref b110), (.ref b122), (.ref b122)])) rfl (by rw [hml]; rfl) b122 [(.ref b110)] [(.ref b122)] (lenOf own_pd_5 rfl) rfl rfl (hb hby at_403)
    obtain ⟨rfl, Nc129, Kc129, f1129, f2129, t129, kb129, tb129, ts129, tn129, f3129, f4129⟩ := hQ129
    refine own_goW st129 ?_
    clear st129 X122 e122
    replace N0 := Fr.app N0 Nc129
    clear Nc129
    replace hS := own_since hS Kc129.1
    have ne130 : b110 ≠ t129 := Nat.ne_of_lt (Nat.lt_of_lt_of_le f121.lt ts129)
    have ne131 : b122 ≠ t129 := Nat.ne_of_lt (Nat.lt_of_lt_of_le A122.lt ts129)
    have big132 : Z.heap.size ≤ t129 := Nat.le_trans O0.1 ts129
    have sz133 : h0.size ≤ t129 := Nat.le_trans K0.1 ts129
    have sz134 : hs1.size ≤ t129 := Nat.le_trans K1.1 ts129
    have hAp_b122 := own_apart hZ hJ f127
    replace hJ := own_JkeepS hZ hJ Kc129 hAp_b122 A122 (ow7 hw)
    replace f121 := f121.keep Kc129 (ninS ne123 nin0)
    replace A122 := A122.keep Kc129
    clear f127
    clear f128
    replace O0 := own_oldKeep O0 Kc129 (allS big124 all0)
    replace K0 := K0.trans Kc129 (allS (Or.inr sz125) all0)
    replace K1 := K1.trans Kc129 (allS (Or.inr sz126) all0)
    clear Kc129
    replace f4129 : Arv Z T129.heap t129 kb129 .byte (1 : Int32) [(.int ((own_cell (own_w ub) um up uc (0 : Int32)).toInt8.toInt32))] (.int (0 : Int32)) := f4129
    show own_GoW p e below s _ _ _ _ (T129.setTop (mkF m 406 #[iv p1, iv p2, iv p3, iv p4, iv p5, iv uk, iv ub, iv um, rv wd_, iv (Int32.ofNat (own_w ub).length), iv uc, yq, iv up, iv (1 : Int32), rv b110, .unset, .unset, .unset] [(.ref b122)]))
    have sl135 : own_Sl Z T129.heap b122 (own_nm ub um up uc (1 : Int32)) := by
      rw [own_nm_1]
      exact own_mkSl (cs := [(own_cell (own_w ub) um up uc (0 : Int32))]) f1129 f2129 f3129 f4129 rfl rfl (own_cC hp116 own_cN) (Nat.le_of_ble_eq_true rfl)
    exact sg_s406 hw hO p1 p2 p3 p4 p5 uk ub um uc up (1 : Int32) wd_ (yq : Slot) (rv b110 : Slot) b122 h0 T129.heap X129 hS hL hJ hx hby hml hret hlk hZ hown hnm (rfl : T129.heap = T129.heap) N0 O0 K0 (fp0.keep K1) (own_SlKeep fp1 K1 all0) f1129 sl135 huk hub hum hPN huc (by omega) (by omega)
  · show own_GoW p e below s _ _ _ _ (T.setTop (mkF m 137 #[iv p1, iv p2, iv p3, iv p4, iv p5, iv uk, iv ub, iv um, rv wd_, iv (Int32.ofNat (own_w ub).length), iv uc, yq, iv up, iv (2 : Int32), .unset, .unset, .unset, .unset] [(.int (2 : Int32))]))
    show own_GoW p e below s _ _ _ _ (T.setTop (mkF m 137 #[iv p1, iv p2, iv p3, iv p4, iv p5, iv uk, iv ub, iv um, rv wd_, iv (Int32.ofNat (own_w ub).length), iv uc, yq, iv up, iv (2 : Int32), .unset, .unset, .unset, .unset] [(.int (2 : Int32))]))
    obtain ⟨T136, h136, k136, X136, e136, E136, A136, st136⟩ := newP (aty := .char) X0 hx hZ (ow26 hw) e0 (g := (mkF m 137 #[iv p1, iv p2, iv p3, iv p4, iv p5, iv uk, iv ub, iv um, rv wd_, iv (Int32.ofNat (own_w ub).length), iv uc, yq, iv up, iv (2 : Int32), .unset, .unset, .unset, .unset] [(.int (2 : Int32))])) rfl (hb hby at_137) rfl (by decide) (cap := 2) (by decide) (by decide) (by show _ ≤ 32; omega) (by show _ ≤ 8384; omega)
    obtain ⟨b136, g136⟩ : ∃ z, z = hs1.size := ⟨_, rfl⟩
    rw [← g136] at A136 st136
    refine own_goW st136 ?_
    clear st136 X0 e0
    have ge136 := Nat.le_of_eq g136.symm
    have big137 : Z.heap.size ≤ b136 := Nat.le_trans O0.1 ge136
    have sz138 : h0.size ≤ b136 := Nat.le_trans K0.1 ge136
    have sz139 : hs1.size ≤ b136 := Nat.le_trans K1.1 ge136
    replace O0 := own_oldExt O0 E136
    replace K0 := K0.ext E136
    replace K1 := K1.ext E136
    replace hS := own_since hS E136.1
    replace hJ := own_Jext hJ E136
    clear E136
    have f140 : Arv Z h136 b136 k136 .char (2 : Int32) [(.int (0 : Int32)), (.int (0 : Int32))] (.int (0 : Int32)) := (Arv.new A136 (by decide)).pad (pad_rep [] (.int (0 : Int32)) 2)
    refine own_goW (fun _ k => XS.astore X136.here hx rfl (hb hby at_139) rfl rfl (l' := #[iv p1, iv p2, iv p3, iv p4, iv p5, iv uk, iv ub, iv um, rv wd_, iv (Int32.ofNat (own_w ub).length), iv uc, yq, iv up, iv (2 : Int32), rv b136, .unset, .unset, .unset]) rfl (XS.iload X136.here hx rfl (hb hby at_141) rfl (XS.ifNo X136.here hx rfl (hb hby at_143) rfl ((if0 _ _).trans (tlt (by decide : (0 : Int32) < (2 : Int32))).2.2.2) (XS.aload X136.here hx rfl (hb hby at_146) rfl rfl k)))) ?_
    show own_GoW p e below s _ _ _ _ (T136.setTop (mkF m 148 #[iv p1, iv p2, iv p3, iv p4, iv p5, iv uk, iv ub, iv um, rv wd_, iv (Int32.ofNat (own_w ub).length), iv uc, yq, iv up, iv (2 : Int32), rv b136, .unset, .unset, .unset] [(.ref b136)]))
    refine own_goW (fun _ k => XS.iconst X136.here hx rfl (hb hby at_148) (XS.aload X136.here hx rfl (hb hby at_149) rfl rfl (XS.iload X136.here hx rfl (hb hby at_151) rfl (XS.iload X136.here hx rfl (hb hby at_153) rfl (XS.iload X136.here hx rfl (hb hby at_155) rfl k))))) ?_
    show own_GoW p e below s _ _ _ _ (T136.setTop (mkF m 157 #[iv p1, iv p2, iv p3, iv p4, iv p5, iv uk, iv ub, iv um, rv wd_, iv (Int32.ofNat (own_w ub).length), iv uc, yq, iv up, iv (2 : Int32), rv b136, .unset, .unset, .unset] [(.int uc), (.int up), (.int um), (.ref wd_), (.int (0 : Int32)), (.ref b136)]))
    refine own_goW (fun _ k => XS.iconst X136.here hx rfl (hb hby at_157) k) ?_
    obtain ⟨v141, T141, L141, X141, hQ141, st141⟩ := own_callS (y := own_y7) X136 hx hZ hown (ow53 hw) (ow54 hw) (ow3 hw) (ow55 hw) (rm_cell l Z a0 hw hO [] wd_ um up uc (0 : Int32) (own_w ub) h136 O0 (fp0.keep K1) (own_SlKeep fp1 K1 all0) (own_cokL hub hPN (by decide) (by decide)) huc) 2 0 0 (by show _ ≤ 32; omega) (by show _ ≤ 8384; omega) e136 (g := (mkF m 158 #[iv p1, iv p2, iv p3, iv p4, iv p5, iv uk, iv ub, iv um, rv wd_, iv (Int32.ofNat (own_w ub).length), iv uc, yq, iv up, iv (2 : Int32), rv b136, .unset, .unset, .unset] [(.int (0 : Int32)), (.int uc), (.int up), (.int um), (.ref wd_), (.int (0 : Int32)), (.ref b136)])) rfl (by rw [hml]; rfl) [(.ref wd_), (.int um), (.int up), (.int uc), (.int (0 : Int32))] [(.int (0 : Int32)), (.ref b136)] (lenOf own_pd_6 rfl) rfl rfl (hb hby at_158)
    obtain ⟨rfl, Nc144, hp142, Kc143⟩ := hQ141
    refine own_goW st141 ?_
    clear st141 X136 e136
    replace N0 := Fr.app N0 Nc144
    clear Nc144
    obtain ⟨cl145, Ar145, q145, S145, M145, P145, G145⟩ := id f140
    have hin145 : ¬ ((0 : Int32) < 0 ∨ cl145.slots.size ≤ ((0 : Int32)).toNatClampNeg) := inb_of S145 ⟨by decide, by decide⟩
    obtain ⟨T146, h146, X146, e146, W146, st146⟩ := stC X141 hx hZ Kc143 Ar145 (j := (0 : Int32)) hin145 (g := (mkF m 161 #[iv p1, iv p2, iv p3, iv p4, iv p5, iv uk, iv ub, iv um, rv wd_, iv (Int32.ofNat (own_w ub).length), iv uc, yq, iv up, iv (2 : Int32), rv b136, .unset, .unset, .unset] [(.int (own_cell (own_w ub) um up uc (0 : Int32))), (.int (0 : Int32)), (.ref b136)])) rfl rfl (hb hby at_161)
    refine own_goW st146 ?_
    clear st146 X141 Kc143
    rw [own_nar8 hp142] at W146
    have f147 : Arv Z h146 b136 k136 .char (2 : Int32) [(.int (own_cell (own_w ub) um up uc (0 : Int32))), (.int (0 : Int32))] (.int (0 : Int32)) := Arv.set Ar145 q145 S145 M145 P145 G145 (by have q := fits_nar_char (own_cell (own_w ub) um up uc (0 : Int32)); rw [own_nar8 hp142] at q; exact q) W146 0 rfl (Nat.le_of_ble_eq_true rfl)
    replace N0 := Fr.snoc X146 N0 big137
    replace hJ := own_Jwr hZ hJ W146 (own_farV f140 (by decide) (ow7 hw))
    clear f140
    replace O0 := own_oldWr O0 W146 big137
    replace K0 := K0.wr W146 (Or.inr sz138)
    replace K1 := K1.wr W146 (Or.inr sz139)
    replace hS := own_since hS (Nat.le_of_eq W146.size.symm)
    clear W146
    clear Ar145 q145 S145 M145 P145 G145 hin145
    refine own_goW (fun _ k => XS.iload X146.here hx rfl (hb hby at_162) rfl (XS.iconst X146.here hx rfl (hb hby at_164) k)) ?_
    show own_GoW p e below s _ _ _ _ (T146.setTop (mkF m 165 #[iv p1, iv p2, iv p3, iv p4, iv p5, iv uk, iv ub, iv um, rv wd_, iv (Int32.ofNat (own_w ub).length), iv uc, yq, iv up, iv (2 : Int32), rv b136, .unset, .unset, .unset] [(.int (1 : Int32)), (.int (2 : Int32))]))
    refine own_goW (fun _ k => XS.icmpNo X146.here hx rfl (hb hby at_165) rfl (tlt (by decide : (1 : Int32) < (2 : Int32))).2.2.2 (XS.aload X146.here hx rfl (hb hby at_168) rfl rfl (XS.iconst X146.here hx rfl (hb hby at_170) (XS.aload X146.here hx rfl (hb hby at_171) rfl rfl (XS.iload X146.here hx rfl (hb hby at_173) rfl k))))) ?_
    show own_GoW p e below s _ _ _ _ (T146.setTop (mkF m 175 #[iv p1, iv p2, iv p3, iv p4, iv p5, iv uk, iv ub, iv um, rv wd_, iv (Int32.ofNat (own_w ub).length), iv uc, yq, iv up, iv (2 : Int32), rv b136, .unset, .unset, .unset] [(.int um), (.ref wd_), (.int (1 : Int32)), (.ref b136)]))
    refine own_goW (fun _ k => XS.iload X146.here hx rfl (hb hby at_175) rfl (XS.iload X146.here hx rfl (hb hby at_177) rfl (XS.iconst X146.here hx rfl (hb hby at_179) k))) ?_
    obtain ⟨v148, T148, L148, X148, hQ148, st148⟩ := own_callS (y := own_y7) X146 hx hZ hown (ow53 hw) (ow54 hw) (ow3 hw) (ow55 hw) (rm_cell l Z a0 hw hO [] wd_ um up uc (1 : Int32) (own_w ub) h146 O0 (fp0.keep K1) (own_SlKeep fp1 K1 all0) (own_cokL hub hPN (by decide) (by decide)) huc) 2 0 0 (by show _ ≤ 32; omega) (by show _ ≤ 8384; omega) e146 (g := (mkF m 180 #[iv p1, iv p2, iv p3, iv p4, iv p5, iv uk, iv ub, iv um, rv wd_, iv (Int32.ofNat (own_w ub).length), iv uc, yq, iv up, iv (2 : Int32), rv b136, .unset, .unset, .unset] [(.int (1 : Int32)), (.int uc), (.int up), (.int um), (.ref wd_), (.int (1 : Int32)), (.ref b136)])) rfl (by rw [hml]; rfl) [(.ref wd_), (.int um), (.int up), (.int uc), (.int (1 : Int32))] [(.int (1 : Int32)), (.ref b136)] (lenOf own_pd_6 rfl) rfl rfl (hb hby at_180)
    obtain ⟨rfl, Nc151, hp149, Kc150⟩ := hQ148
    refine own_goW st148 ?_
    clear st148 X146 e146
    replace N0 := Fr.app N0 Nc151
    clear Nc151
    obtain ⟨cl152, Ar152, q152, S152, M152, P152, G152⟩ := id f147
    have hin152 : ¬ ((1 : Int32) < 0 ∨ cl152.slots.size ≤ ((1 : Int32)).toNatClampNeg) := inb_of S152 ⟨by decide, by decide⟩
    obtain ⟨T153, h153, X153, e153, W153, st153⟩ := stC X148 hx hZ Kc150 Ar152 (j := (1 : Int32)) hin152 (g := (mkF m 183 #[iv p1, iv p2, iv p3, iv p4, iv p5, iv uk, iv ub, iv um, rv wd_, iv (Int32.ofNat (own_w ub).length), iv uc, yq, iv up, iv (2 : Int32), rv b136, .unset, .unset, .unset] [(.int (own_cell (own_w ub) um up uc (1 : Int32))), (.int (1 : Int32)), (.ref b136)])) rfl rfl (hb hby at_183)
    refine own_goW st153 ?_
    clear st153 X148 Kc150
    rw [own_nar8 hp149] at W153
    have f154 : Arv Z h153 b136 k136 .char (2 : Int32) [(.int (own_cell (own_w ub) um up uc (0 : Int32))), (.int (own_cell (own_w ub) um up uc (1 : Int32)))] (.int (0 : Int32)) := Arv.set Ar152 q152 S152 M152 P152 G152 (by have q := fits_nar_char (own_cell (own_w ub) um up uc (1 : Int32)); rw [own_nar8 hp149] at q; exact q) W153 1 rfl (Nat.le_of_ble_eq_true rfl)
    replace N0 := Fr.snoc X153 N0 big137
    replace hJ := own_Jwr hZ hJ W153 (own_farV f147 (by decide) (ow7 hw))
    clear f147
    replace O0 := own_oldWr O0 W153 big137
    replace K0 := K0.wr W153 (Or.inr sz138)
    replace K1 := K1.wr W153 (Or.inr sz139)
    replace hS := own_since hS (Nat.le_of_eq W153.size.symm)
    clear W153
    clear Ar152 q152 S152 M152 P152 G152 hin152
    show own_GoW p e below s _ _ _ _ (T153.setTop (mkF m 184 #[iv p1, iv p2, iv p3, iv p4, iv p5, iv uk, iv ub, iv um, rv wd_, iv (Int32.ofNat (own_w ub).length), iv uc, yq, iv up, iv (2 : Int32), rv b136, .unset, .unset, .unset] []))
    refine own_goW (fun _ k => XS.iload X153.here hx rfl (hb hby at_184) rfl (XS.iconst X153.here hx rfl (hb hby at_186) (XS.icmpYes X153.here hx rfl (pc0 := 187) (pc' := 206) rfl (hb hby at_187) rfl (flt (by decide : ¬ ((2 : Int32) < (2 : Int32)))).2.2.2 (by decide) (by decide) (XS.iload X153.here hx rfl (hb hby at_206) rfl (XS.iconst X153.here hx rfl (hb hby at_208) k))))) ?_
    show own_GoW p e below s _ _ _ _ (T153.setTop (mkF m 209 #[iv p1, iv p2, iv p3, iv p4, iv p5, iv uk, iv ub, iv um, rv wd_, iv (Int32.ofNat (own_w ub).length), iv uc, yq, iv up, iv (2 : Int32), rv b136, .unset, .unset, .unset] [(.int (3 : Int32)), (.int (2 : Int32))]))
    refine own_goW (fun _ k => XS.icmpYes X153.here hx rfl (pc0 := 209) (pc' := 228) rfl (hb hby at_209) rfl (flt (by decide : ¬ ((3 : Int32) < (2 : Int32)))).2.2.2 (by decide) (by decide) (XS.iload X153.here hx rfl (hb hby at_228) rfl (XS.iconst X153.here hx rfl (hb hby at_230) (XS.icmpYes X153.here hx rfl (pc0 := 231) (pc' := 250) rfl (hb hby at_231) rfl (flt (by decide : ¬ ((4 : Int32) < (2 : Int32)))).2.2.2 (by decide) (by decide) (XS.iload X153.here hx rfl (hb hby at_250) rfl k))))) ?_
    show own_GoW p e below s _ _ _ _ (T153.setTop (mkF m 252 #[iv p1, iv p2, iv p3, iv p4, iv p5, iv uk, iv ub, iv um, rv wd_, iv (Int32.ofNat (own_w ub).length), iv uc, yq, iv up, iv (2 : Int32), rv b136, .unset, .unset, .unset] [(.int (2 : Int32))]))
    refine own_goW (fun _ k => XS.iconst X153.here hx rfl (hb hby at_252) (XS.icmpYes X153.here hx rfl (pc0 := 253) (pc' := 272) rfl (hb hby at_253) rfl (flt (by decide : ¬ ((5 : Int32) < (2 : Int32)))).2.2.2 (by decide) (by decide) (XS.iload X153.here hx rfl (hb hby at_272) rfl (XS.bipush X153.here hx rfl (hb hby at_274) (XS.icmpYes X153.here hx rfl (pc0 := 276) (pc' := 297) rfl (hb hby at_276) rfl (flt (by decide : ¬ ((6 : Int32) < (2 : Int32)))).2.2.2 (by decide) (by decide) k))))) ?_
    show own_GoW p e below s _ _ _ _ (T153.setTop (mkF m 297 #[iv p1, iv p2, iv p3, iv p4, iv p5, iv uk, iv ub, iv um, rv wd_, iv (Int32.ofNat (own_w ub).length), iv uc, yq, iv up, iv (2 : Int32), rv b136, .unset, .unset, .unset] []))
    refine own_goW (fun _ k => XS.iload X153.here hx rfl (hb hby at_297) rfl (XS.bipush X153.here hx rfl (hb hby at_299) (XS.icmpYes X153.here hx rfl (pc0 := 301) (pc' := 322) rfl (hb hby at_301) rfl (flt (by decide : ¬ ((7 : Int32) < (2 : Int32)))).2.2.2 (by decide) (by decide) (XS.iload X153.here hx rfl (hb hby at_322) rfl (XS.bipush X153.here hx rfl (hb hby at_324) k))))) ?_
    show own_GoW p e below s _ _ _ _ (T153.setTop (mkF m 326 #[iv p1, iv p2, iv p3, iv p4, iv p5, iv uk, iv ub, iv um, rv wd_, iv (Int32.ofNat (own_w ub).length), iv uc, yq, iv up, iv (2 : Int32), rv b136, .unset, .unset, .unset] [(.int (8 : Int32)), (.int (2 : Int32))]))
    refine own_goW (fun _ k => XS.icmpYes X153.here hx rfl (pc0 := 326) (pc' := 347) rfl (hb hby at_326) rfl (flt (by decide : ¬ ((8 : Int32) < (2 : Int32)))).2.2.2 (by decide) (by decide) (XS.iload X153.here hx rfl (hb hby at_347) rfl (XS.bipush X153.here hx rfl (hb hby at_349) (XS.icmpYes X153.here hx rfl (pc0 := 351) (pc' := 372) rfl (hb hby at_351) rfl (flt (by decide : ¬ ((9 : Int32) < (2 : Int32)))).2.2.2 (by decide) (by decide) (XS.iload X153.here hx rfl (hb hby at_372) rfl k))))) ?_
    show own_GoW p e below s _ _ _ _ (T153.setTop (mkF m 374 #[iv p1, iv p2, iv p3, iv p4, iv p5, iv uk, iv ub, iv um, rv wd_, iv (Int32.ofNat (own_w ub).length), iv uc, yq, iv up, iv (2 : Int32), rv b136, .unset, .unset, .unset] [(.int (2 : Int32))]))
    refine own_goW (fun _ k => XS.bipush X153.here hx rfl (hb hby at_374) (XS.icmpYes X153.here hx rfl (pc0 := 376) (pc' := 397) rfl (hb hby at_376) rfl (flt (by decide : ¬ ((10 : Int32) < (2 : Int32)))).2.2.2 (by decide) (by decide) k)) ?_
    obtain ⟨T155, h155, X155, e155, E155, A155, D155, -, st155⟩ := newO X153 hx hZ hown (ow27 hw) (ow7 hw) (ow6 hw) e153 (g := (mkF m 397 #[iv p1, iv p2, iv p3, iv p4, iv p5, iv uk, iv ub, iv um, rv wd_, iv (Int32.ofNat (own_w ub).length), iv uc, yq, iv up, iv (2 : Int32), rv b136, .unset, .unset, .unset] [])) rfl (hb hby at_397) (by show _ ≤ 32; omega) (by show _ ≤ 8384; omega)
    obtain ⟨b155, g155⟩ : ∃ z, z = h153.size := ⟨_, rfl⟩
    rw [← g155] at A155 D155 st155
    refine own_goW st155 ?_
    clear st155 X153 e153
    have ge155 := Nat.le_of_eq g155.symm
    have ne156 : b136 ≠ b155 := Nat.ne_of_lt (Nat.lt_of_lt_of_le f154.lt ge155)
    have big157 : Z.heap.size ≤ b155 := Nat.le_trans O0.1 ge155
    have sz158 : h0.size ≤ b155 := Nat.le_trans K0.1 ge155
    have sz159 : hs1.size ≤ b155 := Nat.le_trans K1.1 ge155
    replace f154 := f154.ext E155
    replace O0 := own_oldExt O0 E155
    replace K0 := K0.ext E155
    replace K1 := K1.ext E155
    replace hS := own_since hS E155.1
    replace hJ := own_Jext hJ E155
    clear E155
    have f160 : Fld Z h155 b155 "java/lang/String" "value" "[B" .null := D155 (Or.inr (ow9 hw)) (ty := (.array .byte)) own_fd0
    have f161 : Fld Z h155 b155 "java/lang/String" "coder" "B" (.int (0 : Int32)) := D155 (Or.inr (ow10 hw)) (ty := .byte) own_fd1
    refine own_goW (fun _ k => XS.dup X155.here hx rfl (hb hby at_400) rfl rfl (XS.aload X155.here hx rfl (hb hby at_401) rfl rfl k)) ?_
    show own_GoW p e below s _ _ _ _ (T155.setTop (mkF m 403 #[iv p1, iv p2, iv p3, iv p4, iv p5, iv uk, iv ub, iv um, rv wd_, iv (Int32.ofNat (own_w ub).length), iv uc, yq, iv up, iv (2 : Int32), rv b136, .unset, .unset, .unset] [(.ref b136), (.ref b155), (.ref b155)]))
    obtain ⟨v162, T162, L162, X162, hQ162, st162⟩ := own_callIB (y := own_y1) X155 hx hZ hown (ow28 hw) (ow29 hw) (ow6 hw) (ow30 hw) 1 1 2 (StrChars.Road.backV (W := 1) hZ (own_sw1 hw) (kI := 4) (ow7 hw) (cs := ([(own_cell (own_w ub) um up uc (0 : Int32)), (own_cell (own_w ub) um up uc (1 : Int32))] : List Int32)) (bs := ([(own_cell (own_w ub) um up uc (0 : Int32)), (own_cell (own_w ub) um up uc (1 : Int32))] : List Int32).map (fun c => c.toInt8.toInt32)) (n := 2) (n0 := Z.heap.size) big157 (Nat.le_trans O0.1 (Nat.le_refl _)) A155 f160 f161 f154 (oCS.ext O0) oCz rfl rfl (by decide) (by decide) (own_cC hp142 (own_cC hp149 own_cN)) rfl (by decide) (by decide)) rfl (by show _ ≤ 32; omega) (by show _ ≤ 8384; omega) e155 (g := (mkF m 403 #[iv p1, iv p2, iv p3, iv p4, iv p5, iv uk, iv ub, iv um, rv wd_, iv (Int32.ofNat (own_w ub).length), iv uc, yq, iv up, iv (2 : Int32), rv b136, .unset, .unset, .unset] [(.ref b136), (.ref b155), (.ref b155)])) rfl (by rw [hml]; rfl) b155 [(.ref b136)] [(.ref b155)] (lenOf own_pd_5 rfl) rfl rfl (hb hby at_403)
    obtain ⟨rfl, Nc162, Kc162, f1162, f2162, t162, kb162, tb162, ts162, tn162, f3162, f4162⟩ := hQ162
    refine own_goW st162 ?_
    clear st162 X155 e155
    replace N0 := Fr.app N0 Nc162
    clear Nc162
    replace hS := own_since hS Kc162.1
    have ne163 : b136 ≠ t162 := Nat.ne_of_lt (Nat.lt_of_lt_of_le f154.lt ts162)
    have ne164 : b155 ≠ t162 := Nat.ne_of_lt (Nat.lt_of_lt_of_le A155.lt ts162)
    have big165 : Z.heap.size ≤ t162 := Nat.le_trans O0.1 ts162
    have sz166 : h0.size ≤ t162 := Nat.le_trans K0.1 ts162
    have sz167 : hs1.size ≤ t162 := Nat.le_trans K1.1 ts162
    have hAp_b155 := own_apart hZ hJ f160
    replace hJ := own_JkeepS hZ hJ Kc162 hAp_b155 A155 (ow7 hw)
    replace f154 := f154.keep Kc162 (ninS ne156 nin0)
    replace A155 := A155.keep Kc162
    clear f160
    clear f161
    replace O0 := own_oldKeep O0 Kc162 (allS big157 all0)
    replace K0 := K0.trans Kc162 (allS (Or.inr sz158) all0)
    replace K1 := K1.trans Kc162 (allS (Or.inr sz159) all0)
    clear Kc162
    replace f4162 : Arv Z T162.heap t162 kb162 .byte (2 : Int32) [(.int ((own_cell (own_w ub) um up uc (0 : Int32)).toInt8.toInt32)), (.int ((own_cell (own_w ub) um up uc (1 : Int32)).toInt8.toInt32))] (.int (0 : Int32)) := f4162
    show own_GoW p e below s _ _ _ _ (T162.setTop (mkF m 406 #[iv p1, iv p2, iv p3, iv p4, iv p5, iv uk, iv ub, iv um, rv wd_, iv (Int32.ofNat (own_w ub).length), iv uc, yq, iv up, iv (2 : Int32), rv b136, .unset, .unset, .unset] [(.ref b155)]))
    have sl168 : own_Sl Z T162.heap b155 (own_nm ub um up uc (2 : Int32)) := by
      rw [own_nm_2]
      exact own_mkSl (cs := [(own_cell (own_w ub) um up uc (0 : Int32)), (own_cell (own_w ub) um up uc (1 : Int32))]) f1162 f2162 f3162 f4162 rfl rfl (own_cC hp142 (own_cC hp149 own_cN)) (Nat.le_of_ble_eq_true rfl)
    exact sg_s406 hw hO p1 p2 p3 p4 p5 uk ub um uc up (2 : Int32) wd_ (yq : Slot) (rv b136 : Slot) b155 h0 T162.heap X162 hS hL hJ hx hby hml hret hlk hZ hown hnm (rfl : T162.heap = T162.heap) N0 O0 K0 (fp0.keep K1) (own_SlKeep fp1 K1 all0) f1162 sl168 huk hub hum hPN huc (by omega) (by omega)
  · show own_GoW p e below s _ _ _ _ (T.setTop (mkF m 137 #[iv p1, iv p2, iv p3, iv p4, iv p5, iv uk, iv ub, iv um, rv wd_, iv (Int32.ofNat (own_w ub).length), iv uc, yq, iv up, iv (3 : Int32), .unset, .unset, .unset, .unset] [(.int (3 : Int32))]))
    show own_GoW p e below s _ _ _ _ (T.setTop (mkF m 137 #[iv p1, iv p2, iv p3, iv p4, iv p5, iv uk, iv ub, iv um, rv wd_, iv (Int32.ofNat (own_w ub).length), iv uc, yq, iv up, iv (3 : Int32), .unset, .unset, .unset, .unset] [(.int (3 : Int32))]))
    obtain ⟨T169, h169, k169, X169, e169, E169, A169, st169⟩ := newP (aty := .char) X0 hx hZ (ow26 hw) e0 (g := (mkF m 137 #[iv p1, iv p2, iv p3, iv p4, iv p5, iv uk, iv ub, iv um, rv wd_, iv (Int32.ofNat (own_w ub).length), iv uc, yq, iv up, iv (3 : Int32), .unset, .unset, .unset, .unset] [(.int (3 : Int32))])) rfl (hb hby at_137) rfl (by decide) (cap := 3) (by decide) (by decide) (by show _ ≤ 32; omega) (by show _ ≤ 8384; omega)
    obtain ⟨b169, g169⟩ : ∃ z, z = hs1.size := ⟨_, rfl⟩
    rw [← g169] at A169 st169
    refine own_goW st169 ?_
    clear st169 X0 e0
    have ge169 := Nat.le_of_eq g169.symm
    have big170 : Z.heap.size ≤ b169 := Nat.le_trans O0.1 ge169
    have sz171 : h0.size ≤ b169 := Nat.le_trans K0.1 ge169
    have sz172 : hs1.size ≤ b169 := Nat.le_trans K1.1 ge169
    replace O0 := own_oldExt O0 E169
    replace K0 := K0.ext E169
    replace K1 := K1.ext E169
    replace hS := own_since hS E169.1
    replace hJ := own_Jext hJ E169
    clear E169
    have f173 : Arv Z h169 b169 k169 .char (3 : Int32) [(.int (0 : Int32)), (.int (0 : Int32)), (.int (0 : Int32))] (.int (0 : Int32)) := (Arv.new A169 (by decide)).pad (pad_rep [] (.int (0 : Int32)) 3)
    refine own_goW (fun _ k => XS.astore X169.here hx rfl (hb hby at_139) rfl rfl (l' := #[iv p1, iv p2, iv p3, iv p4, iv p5, iv uk, iv ub, iv um, rv wd_, iv (Int32.ofNat (own_w ub).length), iv uc, yq, iv up, iv (3 : Int32), rv b169, .unset, .unset, .unset]) rfl (XS.iload X169.here hx rfl (hb hby at_141) rfl (XS.ifNo X169.here hx rfl (hb hby at_143) rfl ((if0 _ _).trans (tlt (by decide : (0 : Int32) < (3 : Int32))).2.2.2) (XS.aload X169.here hx rfl (hb hby at_146) rfl rfl k)))) ?_
    show own_GoW p e below s _ _ _ _ (T169.setTop (mkF m 148 #[iv p1, iv p2, iv p3, iv p4, iv p5, iv uk, iv ub, iv um, rv wd_, iv (Int32.ofNat (own_w ub).length), iv uc, yq, iv up, iv (3 : Int32), rv b169, .unset, .unset, .unset] [(.ref b169)]))
    refine own_goW (fun _ k => XS.iconst X169.here hx rfl (hb hby at_148) (XS.aload X169.here hx rfl (hb hby at_149) rfl rfl (XS.iload X169.here hx rfl (hb hby at_151) rfl (XS.iload X169.here hx rfl (hb hby at_153) rfl (XS.iload X169.here hx rfl (hb hby at_155) rfl k))))) ?_
    show own_GoW p e below s _ _ _ _ (T169.setTop (mkF m 157 #[iv p1, iv p2, iv p3, iv p4, iv p5, iv uk, iv ub, iv um, rv wd_, iv (Int32.ofNat (own_w ub).length), iv uc, yq, iv up, iv (3 : Int32), rv b169, .unset, .unset, .unset] [(.int uc), (.int up), (.int um), (.ref wd_), (.int (0 : Int32)), (.ref b169)]))
    refine own_goW (fun _ k => XS.iconst X169.here hx rfl (hb hby at_157) k) ?_
    obtain ⟨v174, T174, L174, X174, hQ174, st174⟩ := own_callS (y := own_y7) X169 hx hZ hown (ow53 hw) (ow54 hw) (ow3 hw) (ow55 hw) (rm_cell l Z a0 hw hO [] wd_ um up uc (0 : Int32) (own_w ub) h169 O0 (fp0.keep K1) (own_SlKeep fp1 K1 all0) (own_cokL hub hPN (by decide) (by decide)) huc) 2 0 0 (by show _ ≤ 32; omega) (by show _ ≤ 8384; omega) e169 (g := (mkF m 158 #[iv p1, iv p2, iv p3, iv p4, iv p5, iv uk, iv ub, iv um, rv wd_, iv (Int32.ofNat (own_w ub).length), iv uc, yq, iv up, iv (3 : Int32), rv b169, .unset, .unset, .unset] [(.int (0 : Int32)), (.int uc), (.int up), (.int um), (.ref wd_), (.int (0 : Int32)), (.ref b169)])) rfl (by rw [hml]; rfl) [(.ref wd_), (.int um), (.int up), (.int uc), (.int (0 : Int32))] [(.int (0 : Int32)), (.ref b169)] (lenOf own_pd_6 rfl) rfl rfl (hb hby at_158)
    obtain ⟨rfl, Nc177, hp175, Kc176⟩ := hQ174
    refine own_goW st174 ?_
    clear st174 X169 e169
    replace N0 := Fr.app N0 Nc177
    clear Nc177
    obtain ⟨cl178, Ar178, q178, S178, M178, P178, G178⟩ := id f173
    have hin178 : ¬ ((0 : Int32) < 0 ∨ cl178.slots.size ≤ ((0 : Int32)).toNatClampNeg) := inb_of S178 ⟨by decide, by decide⟩
    obtain ⟨T179, h179, X179, e179, W179, st179⟩ := stC X174 hx hZ Kc176 Ar178 (j := (0 : Int32)) hin178 (g := (mkF m 161 #[iv p1, iv p2, iv p3, iv p4, iv p5, iv uk, iv ub, iv um, rv wd_, iv (Int32.ofNat (own_w ub).length), iv uc, yq, iv up, iv (3 : Int32), rv b169, .unset, .unset, .unset] [(.int (own_cell (own_w ub) um up uc (0 : Int32))), (.int (0 : Int32)), (.ref b169)])) rfl rfl (hb hby at_161)
    refine own_goW st179 ?_
    clear st179 X174 Kc176
    rw [own_nar8 hp175] at W179
    have f180 : Arv Z h179 b169 k169 .char (3 : Int32) [(.int (own_cell (own_w ub) um up uc (0 : Int32))), (.int (0 : Int32)), (.int (0 : Int32))] (.int (0 : Int32)) := Arv.set Ar178 q178 S178 M178 P178 G178 (by have q := fits_nar_char (own_cell (own_w ub) um up uc (0 : Int32)); rw [own_nar8 hp175] at q; exact q) W179 0 rfl (Nat.le_of_ble_eq_true rfl)
    replace N0 := Fr.snoc X179 N0 big170
    replace hJ := own_Jwr hZ hJ W179 (own_farV f173 (by decide) (ow7 hw))
    clear f173
    replace O0 := own_oldWr O0 W179 big170
    replace K0 := K0.wr W179 (Or.inr sz171)
    replace K1 := K1.wr W179 (Or.inr sz172)
    replace hS := own_since hS (Nat.le_of_eq W179.size.symm)
    clear W179
    clear Ar178 q178 S178 M178 P178 G178 hin178
    refine own_goW (fun _ k => XS.iload X179.here hx rfl (hb hby at_162) rfl (XS.iconst X179.here hx rfl (hb hby at_164) k)) ?_
    show own_GoW p e below s _ _ _ _ (T179.setTop (mkF m 165 #[iv p1, iv p2, iv p3, iv p4, iv p5, iv uk, iv ub, iv um, rv wd_, iv (Int32.ofNat (own_w ub).length), iv uc, yq, iv up, iv (3 : Int32), rv b169, .unset, .unset, .unset] [(.int (1 : Int32)), (.int (3 : Int32))]))
    refine own_goW (fun _ k => XS.icmpNo X179.here hx rfl (hb hby at_165) rfl (tlt (by decide : (1 : Int32) < (3 : Int32))).2.2.2 (XS.aload X179.here hx rfl (hb hby at_168) rfl rfl (XS.iconst X179.here hx rfl (hb hby at_170) (XS.aload X179.here hx rfl (hb hby at_171) rfl rfl (XS.iload X179.here hx rfl (hb hby at_173) rfl k))))) ?_
    show own_GoW p e below s _ _ _ _ (T179.setTop (mkF m 175 #[iv p1, iv p2, iv p3, iv p4, iv p5, iv uk, iv ub, iv um, rv wd_, iv (Int32.ofNat (own_w ub).length), iv uc, yq, iv up, iv (3 : Int32), rv b169, .unset, .unset, .unset] [(.int um), (.ref wd_), (.int (1 : Int32)), (.ref b169)]))
    refine own_goW (fun _ k => XS.iload X179.here hx rfl (hb hby at_175) rfl (XS.iload X179.here hx rfl (hb hby at_177) rfl (XS.iconst X179.here hx rfl (hb hby at_179) k))) ?_
    obtain ⟨v181, T181, L181, X181, hQ181, st181⟩ := own_callS (y := own_y7) X179 hx hZ hown (ow53 hw) (ow54 hw) (ow3 hw) (ow55 hw) (rm_cell l Z a0 hw hO [] wd_ um up uc (1 : Int32) (own_w ub) h179 O0 (fp0.keep K1) (own_SlKeep fp1 K1 all0) (own_cokL hub hPN (by decide) (by decide)) huc) 2 0 0 (by show _ ≤ 32; omega) (by show _ ≤ 8384; omega) e179 (g := (mkF m 180 #[iv p1, iv p2, iv p3, iv p4, iv p5, iv uk, iv ub, iv um, rv wd_, iv (Int32.ofNat (own_w ub).length), iv uc, yq, iv up, iv (3 : Int32), rv b169, .unset, .unset, .unset] [(.int (1 : Int32)), (.int uc), (.int up), (.int um), (.ref wd_), (.int (1 : Int32)), (.ref b169)])) rfl (by rw [hml]; rfl) [(.ref wd_), (.int um), (.int up), (.int uc), (.int (1 : Int32))] [(.int (1 : Int32)), (.ref b169)] (lenOf own_pd_6 rfl) rfl rfl (hb hby at_180)
    obtain ⟨rfl, Nc184, hp182, Kc183⟩ := hQ181
    refine own_goW st181 ?_
    clear st181 X179 e179
    replace N0 := Fr.app N0 Nc184
    clear Nc184
    obtain ⟨cl185, Ar185, q185, S185, M185, P185, G185⟩ := id f180
    have hin185 : ¬ ((1 : Int32) < 0 ∨ cl185.slots.size ≤ ((1 : Int32)).toNatClampNeg) := inb_of S185 ⟨by decide, by decide⟩
    obtain ⟨T186, h186, X186, e186, W186, st186⟩ := stC X181 hx hZ Kc183 Ar185 (j := (1 : Int32)) hin185 (g := (mkF m 183 #[iv p1, iv p2, iv p3, iv p4, iv p5, iv uk, iv ub, iv um, rv wd_, iv (Int32.ofNat (own_w ub).length), iv uc, yq, iv up, iv (3 : Int32), rv b169, .unset, .unset, .unset] [(.int (own_cell (own_w ub) um up uc (1 : Int32))), (.int (1 : Int32)), (.ref b169)])) rfl rfl (hb hby at_183)
    refine own_goW st186 ?_
    clear st186 X181 Kc183
    rw [own_nar8 hp182] at W186
    have f187 : Arv Z h186 b169 k169 .char (3 : Int32) [(.int (own_cell (own_w ub) um up uc (0 : Int32))), (.int (own_cell (own_w ub) um up uc (1 : Int32))), (.int (0 : Int32))] (.int (0 : Int32)) := Arv.set Ar185 q185 S185 M185 P185 G185 (by have q := fits_nar_char (own_cell (own_w ub) um up uc (1 : Int32)); rw [own_nar8 hp182] at q; exact q) W186 1 rfl (Nat.le_of_ble_eq_true rfl)
    replace N0 := Fr.snoc X186 N0 big170
    replace hJ := own_Jwr hZ hJ W186 (own_farV f180 (by decide) (ow7 hw))
    clear f180
    replace O0 := own_oldWr O0 W186 big170
    replace K0 := K0.wr W186 (Or.inr sz171)
    replace K1 := K1.wr W186 (Or.inr sz172)
    replace hS := own_since hS (Nat.le_of_eq W186.size.symm)
    clear W186
    clear Ar185 q185 S185 M185 P185 G185 hin185
    show own_GoW p e below s _ _ _ _ (T186.setTop (mkF m 184 #[iv p1, iv p2, iv p3, iv p4, iv p5, iv uk, iv ub, iv um, rv wd_, iv (Int32.ofNat (own_w ub).length), iv uc, yq, iv up, iv (3 : Int32), rv b169, .unset, .unset, .unset] []))
    refine own_goW (fun _ k => XS.iload X186.here hx rfl (hb hby at_184) rfl (XS.iconst X186.here hx rfl (hb hby at_186) (XS.icmpNo X186.here hx rfl (hb hby at_187) rfl (tlt (by decide : (2 : Int32) < (3 : Int32))).2.2.2 (XS.aload X186.here hx rfl (hb hby at_190) rfl rfl (XS.iconst X186.here hx rfl (hb hby at_192) k))))) ?_
    show own_GoW p e below s _ _ _ _ (T186.setTop (mkF m 193 #[iv p1, iv p2, iv p3, iv p4, iv p5, iv uk, iv ub, iv um, rv wd_, iv (Int32.ofNat (own_w ub).length), iv uc, yq, iv up, iv (3 : Int32), rv b169, .unset, .unset, .unset] [(.int (2 : Int32)), (.ref b169)]))
    refine own_goW (fun _ k => XS.aload X186.here hx rfl (hb hby at_193) rfl rfl (XS.iload X186.here hx rfl (hb hby at_195) rfl (XS.iload X186.here hx rfl (hb hby at_197) rfl (XS.iload X186.here hx rfl (hb hby at_199) rfl (XS.iconst X186.here hx rfl (hb hby at_201) k))))) ?_
    show own_GoW p e below s _ _ _ _ (T186.setTop (mkF m 202 #[iv p1, iv p2, iv p3, iv p4, iv p5, iv uk, iv ub, iv um, rv wd_, iv (Int32.ofNat (own_w ub).length), iv uc, yq, iv up, iv (3 : Int32), rv b169, .unset, .unset, .unset] [(.int (2 : Int32)), (.int uc), (.int up), (.int um), (.ref wd_), (.int (2 : Int32)), (.ref b169)]))
    obtain ⟨v188, T188, L188, X188, hQ188, st188⟩ := own_callS (y := own_y7) X186 hx hZ hown (ow53 hw) (ow54 hw) (ow3 hw) (ow55 hw) (rm_cell l Z a0 hw hO [] wd_ um up uc (2 : Int32) (own_w ub) h186 O0 (fp0.keep K1) (own_SlKeep fp1 K1 all0) (own_cokL hub hPN (by decide) (by decide)) huc) 2 0 0 (by show _ ≤ 32; omega) (by show _ ≤ 8384; omega) e186 (g := (mkF m 202 #[iv p1, iv p2, iv p3, iv p4, iv p5, iv uk, iv ub, iv um, rv wd_, iv (Int32.ofNat (own_w ub).length), iv uc, yq, iv up, iv (3 : Int32), rv b169, .unset, .unset, .unset] [(.int (2 : Int32)), (.int uc), (.int up), (.int um), (.ref wd_), (.int (2 : Int32)), (.ref b169)])) rfl (by rw [hml]; rfl) [(.ref wd_), (.int um), (.int up), (.int uc), (.int (2 : Int32))] [(.int (2 : Int32)), (.ref b169)] (lenOf own_pd_6 rfl) rfl rfl (hb hby at_202)
    obtain ⟨rfl, Nc191, hp189, Kc190⟩ := hQ188
    refine own_goW st188 ?_
    clear st188 X186 e186
    replace N0 := Fr.app N0 Nc191
    clear Nc191
    obtain ⟨cl192, Ar192, q192, S192, M192, P192, G192⟩ := id f187
    have hin192 : ¬ ((2 : Int32) < 0 ∨ cl192.slots.size ≤ ((2 : Int32)).toNatClampNeg) := inb_of S192 ⟨by decide, by decide⟩
    obtain ⟨T193, h193, X193, e193, W193, st193⟩ := stC X188 hx hZ Kc190 Ar192 (j := (2 : Int32)) hin192 (g := (mkF m 205 #[iv p1, iv p2, iv p3, iv p4, iv p5, iv uk, iv ub, iv um, rv wd_, iv (Int32.ofNat (own_w ub).length), iv uc, yq, iv up, iv (3 : Int32), rv b169, .unset, .unset, .unset] [(.int (own_cell (own_w ub) um up uc (2 : Int32))), (.int (2 : Int32)), (.ref b169)])) rfl rfl (hb hby at_205)
    refine own_goW st193 ?_
    clear st193 X188 Kc190
    rw [own_nar8 hp189] at W193
    have f194 : Arv Z h193 b169 k169 .char (3 : Int32) [(.int (own_cell (own_w ub) um up uc (0 : Int32))), (.int (own_cell (own_w ub) um up uc (1 : Int32))), (.int (own_cell (own_w ub) um up uc (2 : Int32)))] (.int (0 : Int32)) := Arv.set Ar192 q192 S192 M192 P192 G192 (by have q := fits_nar_char (own_cell (own_w ub) um up uc (2 : Int32)); rw [own_nar8 hp189] at q; exact q) W193 2 rfl (Nat.le_of_ble_eq_true rfl)
    replace N0 := Fr.snoc X193 N0 big170
    replace hJ := own_Jwr hZ hJ W193 (own_farV f187 (by decide) (ow7 hw))
    clear f187
    replace O0 := own_oldWr O0 W193 big170
    replace K0 := K0.wr W193 (Or.inr sz171)
    replace K1 := K1.wr W193 (Or.inr sz172)
    replace hS := own_since hS (Nat.le_of_eq W193.size.symm)
    clear W193
    clear Ar192 q192 S192 M192 P192 G192 hin192
    refine own_goW (fun _ k => XS.iload X193.here hx rfl (hb hby at_206) rfl (XS.iconst X193.here hx rfl (hb hby at_208) (XS.icmpYes X193.here hx rfl (pc0 := 209) (pc' := 228) rfl (hb hby at_209) rfl (flt (by decide : ¬ ((3 : Int32) < (3 : Int32)))).2.2.2 (by decide) (by decide) k))) ?_
    show own_GoW p e below s _ _ _ _ (T193.setTop (mkF m 228 #[iv p1, iv p2, iv p3, iv p4, iv p5, iv uk, iv ub, iv um, rv wd_, iv (Int32.ofNat (own_w ub).length), iv uc, yq, iv up, iv (3 : Int32), rv b169, .unset, .unset, .unset] []))
    refine own_goW (fun _ k => XS.iload X193.here hx rfl (hb hby at_228) rfl (XS.iconst X193.here hx rfl (hb hby at_230) (XS.icmpYes X193.here hx rfl (pc0 := 231) (pc' := 250) rfl (hb hby at_231) rfl (flt (by decide : ¬ ((4 : Int32) < (3 : Int32)))).2.2.2 (by decide) (by decide) (XS.iload X193.here hx rfl (hb hby at_250) rfl (XS.iconst X193.here hx rfl (hb hby at_252) k))))) ?_
    show own_GoW p e below s _ _ _ _ (T193.setTop (mkF m 253 #[iv p1, iv p2, iv p3, iv p4, iv p5, iv uk, iv ub, iv um, rv wd_, iv (Int32.ofNat (own_w ub).length), iv uc, yq, iv up, iv (3 : Int32), rv b169, .unset, .unset, .unset] [(.int (5 : Int32)), (.int (3 : Int32))]))
    refine own_goW (fun _ k => XS.icmpYes X193.here hx rfl (pc0 := 253) (pc' := 272) rfl (hb hby at_253) rfl (flt (by decide : ¬ ((5 : Int32) < (3 : Int32)))).2.2.2 (by decide) (by decide) (XS.iload X193.here hx rfl (hb hby at_272) rfl (XS.bipush X193.here hx rfl (hb hby at_274) (XS.icmpYes X193.here hx rfl (pc0 := 276) (pc' := 297) rfl (hb hby at_276) rfl (flt (by decide : ¬ ((6 : Int32) < (3 : Int32)))).2.2.2 (by decide) (by decide) (XS.iload X193.here hx rfl (hb hby at_297) rfl k))))) ?_
    show own_GoW p e below s _ _ _ _ (T193.setTop (mkF m 299 #[iv p1, iv p2, iv p3, iv p4, iv p5, iv uk, iv ub, iv um, rv wd_, iv (Int32.ofNat (own_w ub).length), iv uc, yq, iv up, iv (3 : Int32), rv b169, .unset, .unset, .unset] [(.int (3 : Int32))]))
    refine own_goW (fun _ k => XS.bipush X193.here hx rfl (hb hby at_299) (XS.icmpYes X193.here hx rfl (pc0 := 301) (pc' := 322) rfl (hb hby at_301) rfl (flt (by decide : ¬ ((7 : Int32) < (3 : Int32)))).2.2.2 (by decide) (by decide) (XS.iload X193.here hx rfl (hb hby at_322) rfl (XS.bipush X193.here hx rfl (hb hby at_324) (XS.icmpYes X193.here hx rfl (pc0 := 326) (pc' := 347) rfl (hb hby at_326) rfl (flt (by decide : ¬ ((8 : Int32) < (3 : Int32)))).2.2.2 (by decide) (by decide) k))))) ?_
    show own_GoW p e below s _ _ _ _ (T193.setTop (mkF m 347 #[iv p1, iv p2, iv p3, iv p4, iv p5, iv uk, iv ub, iv um, rv wd_, iv (Int32.ofNat (own_w ub).length), iv uc, yq, iv up, iv (3 : Int32), rv b169, .unset, .unset, .unset] []))
    refine own_goW (fun _ k => XS.iload X193.here hx rfl (hb hby at_347) rfl (XS.bipush X193.here hx rfl (hb hby at_349) (XS.icmpYes X193.here hx rfl (pc0 := 351) (pc' := 372) rfl (hb hby at_351) rfl (flt (by decide : ¬ ((9 : Int32) < (3 : Int32)))).2.2.2 (by decide) (by decide) (XS.iload X193.here hx rfl (hb hby at_372) rfl (XS.bipush X193.here hx rfl (hb hby at_374) k))))) ?_
    show own_GoW p e below s _ _ _ _ (T193.setTop (mkF m 376 #[iv p1, iv p2, iv p3, iv p4, iv p5, iv uk, iv ub, iv um, rv wd_, iv (Int32.ofNat (own_w ub).length), iv uc, yq, iv up, iv (3 : Int32), rv b169, .unset, .unset, .unset] [(.int (10 : Int32)), (.int (3 : Int32))]))
    refine own_goW (fun _ k => XS.icmpYes X193.here hx rfl (pc0 := 376) (pc' := 397) rfl (hb hby at_376) rfl (flt (by decide : ¬ ((10 : Int32) < (3 : Int32)))).2.2.2 (by decide) (by decide) k) ?_
    obtain ⟨T195, h195, X195, e195, E195, A195, D195, -, st195⟩ := newO X193 hx hZ hown (ow27 hw) (ow7 hw) (ow6 hw) e193 (g := (mkF m 397 #[iv p1, iv p2, iv p3, iv p4, iv p5, iv uk, iv ub, iv um, rv wd_, iv (Int32.ofNat (own_w ub).length), iv uc, yq, iv up, iv (3 : Int32), rv b169, .unset, .unset, .unset] [])) rfl (hb hby at_397) (by show _ ≤ 32; omega) (by show _ ≤ 8384; omega)
    obtain ⟨b195, g195⟩ : ∃ z, z = h193.size := ⟨_, rfl⟩
    rw [← g195] at A195 D195 st195
    refine own_goW st195 ?_
    clear st195 X193 e193
    have ge195 := Nat.le_of_eq g195.symm
    have ne196 : b169 ≠ b195 := Nat.ne_of_lt (Nat.lt_of_lt_of_le f194.lt ge195)
    have big197 : Z.heap.size ≤ b195 := Nat.le_trans O0.1 ge195
    have sz198 : h0.size ≤ b195 := Nat.le_trans K0.1 ge195
    have sz199 : hs1.size ≤ b195 := Nat.le_trans K1.1 ge195
    replace f194 := f194.ext E195
    replace O0 := own_oldExt O0 E195
    replace K0 := K0.ext E195
    replace K1 := K1.ext E195
    replace hS := own_since hS E195.1
    replace hJ := own_Jext hJ E195
    clear E195
    have f200 : Fld Z h195 b195 "java/lang/String" "value" "[B" .null := D195 (Or.inr (ow9 hw)) (ty := (.array .byte)) own_fd0
    have f201 : Fld Z h195 b195 "java/lang/String" "coder" "B" (.int (0 : Int32)) := D195 (Or.inr (ow10 hw)) (ty := .byte) own_fd1
    refine own_goW (fun _ k => XS.dup X195.here hx rfl (hb hby at_400) rfl rfl (XS.aload X195.here hx rfl (hb hby at_401) rfl rfl k)) ?_
    obtain ⟨v202, T202, L202, X202, hQ202, st202⟩ := own_callIB (y := own_y1) X195 hx hZ hown (ow28 hw) (ow29 hw) (ow6 hw) (ow30 hw) 1 1 3 (StrChars.Road.backV (W := 1) hZ (own_sw1 hw) (kI := 4) (ow7 hw) (cs := ([(own_cell (own_w ub) um up uc (0 : Int32)), (own_cell (own_w ub) um up uc (1 : Int32)), (own_cell (own_w ub) um up uc (2 : Int32))] : List Int32)) (bs := ([(own_cell (own_w ub) um up uc (0 : Int32)), (own_cell (own_w ub) um up uc (1 : Int32)), (own_cell (own_w ub) um up uc (2 : Int32))] : List Int32).map (fun c => c.toInt8.toInt32)) (n := 3) (n0 := Z.heap.size) big197 (Nat.le_trans O0.1 (Nat.le_refl _)) A195 f200 f201 f194 (oCS.ext O0) oCz rfl rfl (by decide) (by decide) (own_cC hp175 (own_cC hp182 (own_cC hp189 own_cN))) rfl (by decide) (by decide)) rfl (by show _ ≤ 32; omega) (by show _ ≤ 8384; omega) e195 (g := (mkF m 403 #[iv p1, iv p2, iv p3, iv p4, iv p5, iv uk, iv ub, iv um, rv wd_, iv (Int32.ofNat (own_w ub).length), iv uc, yq, iv up, iv (3 : Int32), rv b169, .unset, .unset, .unset] [(.ref b169), (.ref b195), (.ref b195)])) rfl (by rw [hml]; rfl) b195 [(.ref b169)] [(.ref b195)] (lenOf own_pd_5 rfl) rfl rfl (hb hby at_403)
    obtain ⟨rfl, Nc202, Kc202, f1202, f2202, t202, kb202, tb202, ts202, tn202, f3202, f4202⟩ := hQ202
    refine own_goW st202 ?_
    clear st202 X195 e195
    replace N0 := Fr.app N0 Nc202
    clear Nc202
    replace hS := own_since hS Kc202.1
    have ne203 : b169 ≠ t202 := Nat.ne_of_lt (Nat.lt_of_lt_of_le f194.lt ts202)
    have ne204 : b195 ≠ t202 := Nat.ne_of_lt (Nat.lt_of_lt_of_le A195.lt ts202)
    have big205 : Z.heap.size ≤ t202 := Nat.le_trans O0.1 ts202
    have sz206 : h0.size ≤ t202 := Nat.le_trans K0.1 ts202
    have sz207 : hs1.size ≤ t202 := Nat.le_trans K1.1 ts202
    have hAp_b195 := own_apart hZ hJ f200
    replace hJ := own_JkeepS hZ hJ Kc202 hAp_b195 A195 (ow7 hw)
    replace f194 := f194.keep Kc202 (ninS ne196 nin0)
    replace A195 := A195.keep Kc202
    clear f200
    clear f201
    replace O0 := own_oldKeep O0 Kc202 (allS big197 all0)
    replace K0 := K0.trans Kc202 (allS (Or.inr sz198) all0)
    replace K1 := K1.trans Kc202 (allS (Or.inr sz199) all0)
    clear Kc202
    replace f4202 : Arv Z T202.heap t202 kb202 .byte (3 : Int32) [(.int ((own_cell (own_w ub) um up uc (0 : Int32)).toInt8.toInt32)), (.int ((own_cell (own_w ub) um up uc (1 : Int32)).toInt8.toInt32)), (.int ((own_cell (own_w ub) um up uc (2 : Int32)).toInt8.toInt32))] (.int (0 : Int32)) := f4202
    show own_GoW p e below s _ _ _ _ (T202.setTop (mkF m 406 #[iv p1, iv p2, iv p3, iv p4, iv p5, iv uk, iv ub, iv um, rv wd_, iv (Int32.ofNat (own_w ub).length), iv uc, yq, iv up, iv (3 : Int32), rv b169, .unset, .unset, .unset] [(.ref b195)]))
    have sl208 : own_Sl Z T202.heap b195 (own_nm ub um up uc (3 : Int32)) := by
      rw [own_nm_3]
      exact own_mkSl (cs := [(own_cell (own_w ub) um up uc (0 : Int32)), (own_cell (own_w ub) um up uc (1 : Int32)), (own_cell (own_w ub) um up uc (2 : Int32))]) f1202 f2202 f3202 f4202 rfl rfl (own_cC hp175 (own_cC hp182 (own_cC hp189 own_cN))) (Nat.le_of_ble_eq_true rfl)
    exact sg_s406 hw hO p1 p2 p3 p4 p5 uk ub um uc up (3 : Int32) wd_ (yq : Slot) (rv b169 : Slot) b195 h0 T202.heap X202 hS hL hJ hx hby hml hret hlk hZ hown hnm (rfl : T202.heap = T202.heap) N0 O0 K0 (fp0.keep K1) (own_SlKeep fp1 K1 all0) f1202 sl208 huk hub hum hPN huc (by omega) (by omega)
  · show own_GoW p e below s _ _ _ _ (T.setTop (mkF m 137 #[iv p1, iv p2, iv p3, iv p4, iv p5, iv uk, iv ub, iv um, rv wd_, iv (Int32.ofNat (own_w ub).length), iv uc, yq, iv up, iv (4 : Int32), .unset, .unset, .unset, .unset] [(.int (4 : Int32))]))
    show own_GoW p e below s _ _ _ _ (T.setTop (mkF m 137 #[iv p1, iv p2, iv p3, iv p4, iv p5, iv uk, iv ub, iv um, rv wd_, iv (Int32.ofNat (own_w ub).length), iv uc, yq, iv up, iv (4 : Int32), .unset, .unset, .unset, .unset] [(.int (4 : Int32))]))
    obtain ⟨T209, h209, k209, X209, e209, E209, A209, st209⟩ := newP (aty := .char) X0 hx hZ (ow26 hw) e0 (g := (mkF m 137 #[iv p1, iv p2, iv p3, iv p4, iv p5, iv uk, iv ub, iv um, rv wd_, iv (Int32.ofNat (own_w ub).length), iv uc, yq, iv up, iv (4 : Int32), .unset, .unset, .unset, .unset] [(.int (4 : Int32))])) rfl (hb hby at_137) rfl (by decide) (cap := 4) (by decide) (by decide) (by show _ ≤ 32; omega) (by show _ ≤ 8384; omega)
    obtain ⟨b209, g209⟩ : ∃ z, z = hs1.size := ⟨_, rfl⟩
    rw [← g209] at A209 st209
    refine own_goW st209 ?_
    clear st209 X0 e0
    have ge209 := Nat.le_of_eq g209.symm
    have big210 : Z.heap.size ≤ b209 := Nat.le_trans O0.1 ge209
    have sz211 : h0.size ≤ b209 := Nat.le_trans K0.1 ge209
    have sz212 : hs1.size ≤ b209 := Nat.le_trans K1.1 ge209
    replace O0 := own_oldExt O0 E209
    replace K0 := K0.ext E209
    replace K1 := K1.ext E209
    replace hS := own_since hS E209.1
    replace hJ := own_Jext hJ E209
    clear E209
    have f213 : Arv Z h209 b209 k209 .char (4 : Int32) [(.int (0 : Int32)), (.int (0 : Int32)), (.int (0 : Int32)), (.int (0 : Int32))] (.int (0 : Int32)) := (Arv.new A209 (by decide)).pad (pad_rep [] (.int (0 : Int32)) 4)
    refine own_goW (fun _ k => XS.astore X209.here hx rfl (hb hby at_139) rfl rfl (l' := #[iv p1, iv p2, iv p3, iv p4, iv p5, iv uk, iv ub, iv um, rv wd_, iv (Int32.ofNat (own_w ub).length), iv uc, yq, iv up, iv (4 : Int32), rv b209, .unset, .unset, .unset]) rfl (XS.iload X209.here hx rfl (hb hby at_141) rfl (XS.ifNo X209.here hx rfl (hb hby at_143) rfl ((if0 _ _).trans (tlt (by decide : (0 : Int32) < (4 : Int32))).2.2.2) (XS.aload X209.here hx rfl (hb hby at_146) rfl rfl k)))) ?_
    show own_GoW p e below s _ _ _ _ (T209.setTop (mkF m 148 #[iv p1, iv p2, iv p3, iv p4, iv p5, iv uk, iv ub, iv um, rv wd_, iv (Int32.ofNat (own_w ub).length), iv uc, yq, iv up, iv (4 : Int32), rv b209, .unset, .unset, .unset] [(.ref b209)]))
    refine own_goW (fun _ k => XS.iconst X209.here hx rfl (hb hby at_148) (XS.aload X209.here hx rfl (hb hby at_149) rfl rfl (XS.iload X209.here hx rfl (hb hby at_151) rfl (XS.iload X209.here hx rfl (hb hby at_153) rfl (XS.iload X209.here hx rfl (hb hby at_155) rfl k))))) ?_
    show own_GoW p e below s _ _ _ _ (T209.setTop (mkF m 157 #[iv p1, iv p2, iv p3, iv p4, iv p5, iv uk, iv ub, iv um, rv wd_, iv (Int32.ofNat (own_w ub).length), iv uc, yq, iv up, iv (4 : Int32), rv b209, .unset, .unset, .unset] [(.int uc), (.int up), (.int um), (.ref wd_), (.int (0 : Int32)), (.ref b209)]))
    refine own_goW (fun _ k => XS.iconst X209.here hx rfl (hb hby at_157) k) ?_
    obtain ⟨v214, T214, L214, X214, hQ214, st214⟩ := own_callS (y := own_y7) X209 hx hZ hown (ow53 hw) (ow54 hw) (ow3 hw) (ow55 hw) (rm_cell l Z a0 hw hO [] wd_ um up uc (0 : Int32) (own_w ub) h209 O0 (fp0.keep K1) (own_SlKeep fp1 K1 all0) (own_cokL hub hPN (by decide) (by decide)) huc) 2 0 0 (by show _ ≤ 32; omega) (by show _ ≤ 8384; omega) e209 (g := (mkF m 158 #[iv p1, iv p2, iv p3, iv p4, iv p5, iv uk, iv ub, iv um, rv wd_, iv (Int32.ofNat (own_w ub).length), iv uc, yq, iv up, iv (4 : Int32), rv b209, .unset, .unset, .unset] [(.int (0 : Int32)), (.int uc), (.int up), (.int um), (.ref wd_), (.int (0 : Int32)), (.ref b209)])) rfl (by rw [hml]; rfl) [(.ref wd_), (.int um), (.int up), (.int uc), (.int (0 : Int32))] [(.int (0 : Int32)), (.ref b209)] (lenOf own_pd_6 rfl) rfl rfl (hb hby at_158)
    obtain ⟨rfl, Nc217, hp215, Kc216⟩ := hQ214
    refine own_goW st214 ?_
    clear st214 X209 e209
    replace N0 := Fr.app N0 Nc217
    clear Nc217
    obtain ⟨cl218, Ar218, q218, S218, M218, P218, G218⟩ := id f213
    have hin218 : ¬ ((0 : Int32) < 0 ∨ cl218.slots.size ≤ ((0 : Int32)).toNatClampNeg) := inb_of S218 ⟨by decide, by decide⟩
    obtain ⟨T219, h219, X219, e219, W219, st219⟩ := stC X214 hx hZ Kc216 Ar218 (j := (0 : Int32)) hin218 (g := (mkF m 161 #[iv p1, iv p2, iv p3, iv p4, iv p5, iv uk, iv ub, iv um, rv wd_, iv (Int32.ofNat (own_w ub).length), iv uc, yq, iv up, iv (4 : Int32), rv b209, .unset, .unset, .unset] [(.int (own_cell (own_w ub) um up uc (0 : Int32))), (.int (0 : Int32)), (.ref b209)])) rfl rfl (hb hby at_161)
    refine own_goW st219 ?_
    clear st219 X214 Kc216
    rw [own_nar8 hp215] at W219
    have f220 : Arv Z h219 b209 k209 .char (4 : Int32) [(.int (own_cell (own_w ub) um up uc (0 : Int32))), (.int (0 : Int32)), (.int (0 : Int32)), (.int (0 : Int32))] (.int (0 : Int32)) := Arv.set Ar218 q218 S218 M218 P218 G218 (by have q := fits_nar_char (own_cell (own_w ub) um up uc (0 : Int32)); rw [own_nar8 hp215] at q; exact q) W219 0 rfl (Nat.le_of_ble_eq_true rfl)
    replace N0 := Fr.snoc X219 N0 big210
    replace hJ := own_Jwr hZ hJ W219 (own_farV f213 (by decide) (ow7 hw))
    clear f213
    replace O0 := own_oldWr O0 W219 big210
    replace K0 := K0.wr W219 (Or.inr sz211)
    replace K1 := K1.wr W219 (Or.inr sz212)
    replace hS := own_since hS (Nat.le_of_eq W219.size.symm)
    clear W219
    clear Ar218 q218 S218 M218 P218 G218 hin218
    refine own_goW (fun _ k => XS.iload X219.here hx rfl (hb hby at_162) rfl (XS.iconst X219.here hx rfl (hb hby at_164) k)) ?_
    show own_GoW p e below s _ _ _ _ (T219.setTop (mkF m 165 #[iv p1, iv p2, iv p3, iv p4, iv p5, iv uk, iv ub, iv um, rv wd_, iv (Int32.ofNat (own_w ub).length), iv uc, yq, iv up, iv (4 : Int32), rv b209, .unset, .unset, .unset] [(.int (1 : Int32)), (.int (4 : Int32))]))
    refine own_goW (fun _ k => XS.icmpNo X219.here hx rfl (hb hby at_165) rfl (tlt (by decide : (1 : Int32) < (4 : Int32))).2.2.2 (XS.aload X219.here hx rfl (hb hby at_168) rfl rfl (XS.iconst X219.here hx rfl (hb hby at_170) (XS.aload X219.here hx rfl (hb hby at_171) rfl rfl (XS.iload X219.here hx rfl (hb hby at_173) rfl k))))) ?_
    show own_GoW p e below s _ _ _ _ (T219.setTop (mkF m 175 #[iv p1, iv p2, iv p3, iv p4, iv p5, iv uk, iv ub, iv um, rv wd_, iv (Int32.ofNat (own_w ub).length), iv uc, yq, iv up, iv (4 : Int32), rv b209, .unset, .unset, .unset] [(.int um), (.ref wd_), (.int (1 : Int32)), (.ref b209)]))
    refine own_goW (fun _ k => XS.iload X219.here hx rfl (hb hby at_175) rfl (XS.iload X219.here hx rfl (hb hby at_177) rfl (XS.iconst X219.here hx rfl (hb hby at_179) k))) ?_
    obtain ⟨v221, T221, L221, X221, hQ221, st221⟩ := own_callS (y := own_y7) X219 hx hZ hown (ow53 hw) (ow54 hw) (ow3 hw) (ow55 hw) (rm_cell l Z a0 hw hO [] wd_ um up uc (1 : Int32) (own_w ub) h219 O0 (fp0.keep K1) (own_SlKeep fp1 K1 all0) (own_cokL hub hPN (by decide) (by decide)) huc) 2 0 0 (by show _ ≤ 32; omega) (by show _ ≤ 8384; omega) e219 (g := (mkF m 180 #[iv p1, iv p2, iv p3, iv p4, iv p5, iv uk, iv ub, iv um, rv wd_, iv (Int32.ofNat (own_w ub).length), iv uc, yq, iv up, iv (4 : Int32), rv b209, .unset, .unset, .unset] [(.int (1 : Int32)), (.int uc), (.int up), (.int um), (.ref wd_), (.int (1 : Int32)), (.ref b209)])) rfl (by rw [hml]; rfl) [(.ref wd_), (.int um), (.int up), (.int uc), (.int (1 : Int32))] [(.int (1 : Int32)), (.ref b209)] (lenOf own_pd_6 rfl) rfl rfl (hb hby at_180)
    obtain ⟨rfl, Nc224, hp222, Kc223⟩ := hQ221
    refine own_goW st221 ?_
    clear st221 X219 e219
    replace N0 := Fr.app N0 Nc224
    clear Nc224
    obtain ⟨cl225, Ar225, q225, S225, M225, P225, G225⟩ := id f220
    have hin225 : ¬ ((1 : Int32) < 0 ∨ cl225.slots.size ≤ ((1 : Int32)).toNatClampNeg) := inb_of S225 ⟨by decide, by decide⟩
    obtain ⟨T226, h226, X226, e226, W226, st226⟩ := stC X221 hx hZ Kc223 Ar225 (j := (1 : Int32)) hin225 (g := (mkF m 183 #[iv p1, iv p2, iv p3, iv p4, iv p5, iv uk, iv ub, iv um, rv wd_, iv (Int32.ofNat (own_w ub).length), iv uc, yq, iv up, iv (4 : Int32), rv b209, .unset, .unset, .unset] [(.int (own_cell (own_w ub) um up uc (1 : Int32))), (.int (1 : Int32)), (.ref b209)])) rfl rfl (hb hby at_183)
    refine own_goW st226 ?_
    clear st226 X221 Kc223
    rw [own_nar8 hp222] at W226
    have f227 : Arv Z h226 b209 k209 .char (4 : Int32) [(.int (own_cell (own_w ub) um up uc (0 : Int32))), (.int (own_cell (own_w ub) um up uc (1 : Int32))), (.int (0 : Int32)), (.int (0 : Int32))] (.int (0 : Int32)) := Arv.set Ar225 q225 S225 M225 P225 G225 (by have q := fits_nar_char (own_cell (own_w ub) um up uc (1 : Int32)); rw [own_nar8 hp222] at q; exact q) W226 1 rfl (Nat.le_of_ble_eq_true rfl)
    replace N0 := Fr.snoc X226 N0 big210
    replace hJ := own_Jwr hZ hJ W226 (own_farV f220 (by decide) (ow7 hw))
    clear f220
    replace O0 := own_oldWr O0 W226 big210
    replace K0 := K0.wr W226 (Or.inr sz211)
    replace K1 := K1.wr W226 (Or.inr sz212)
    replace hS := own_since hS (Nat.le_of_eq W226.size.symm)
    clear W226
    clear Ar225 q225 S225 M225 P225 G225 hin225
    show own_GoW p e below s _ _ _ _ (T226.setTop (mkF m 184 #[iv p1, iv p2, iv p3, iv p4, iv p5, iv uk, iv ub, iv um, rv wd_, iv (Int32.ofNat (own_w ub).length), iv uc, yq, iv up, iv (4 : Int32), rv b209, .unset, .unset, .unset] []))
    refine own_goW (fun _ k => XS.iload X226.here hx rfl (hb hby at_184) rfl (XS.iconst X226.here hx rfl (hb hby at_186) (XS.icmpNo X226.here hx rfl (hb hby at_187) rfl (tlt (by decide : (2 : Int32) < (4 : Int32))).2.2.2 (XS.aload X226.here hx rfl (hb hby at_190) rfl rfl (XS.iconst X226.here hx rfl (hb hby at_192) k))))) ?_
    show own_GoW p e below s _ _ _ _ (T226.setTop (mkF m 193 #[iv p1, iv p2, iv p3, iv p4, iv p5, iv uk, iv ub, iv um, rv wd_, iv (Int32.ofNat (own_w ub).length), iv uc, yq, iv up, iv (4 : Int32), rv b209, .unset, .unset, .unset] [(.int (2 : Int32)), (.ref b209)]))
    refine own_goW (fun _ k => XS.aload X226.here hx rfl (hb hby at_193) rfl rfl (XS.iload X226.here hx rfl (hb hby at_195) rfl (XS.iload X226.here hx rfl (hb hby at_197) rfl (XS.iload X226.here hx rfl (hb hby at_199) rfl (XS.iconst X226.here hx rfl (hb hby at_201) k))))) ?_
    show own_GoW p e below s _ _ _ _ (T226.setTop (mkF m 202 #[iv p1, iv p2, iv p3, iv p4, iv p5, iv uk, iv ub, iv um, rv wd_, iv (Int32.ofNat (own_w ub).length), iv uc, yq, iv up, iv (4 : Int32), rv b209, .unset, .unset, .unset] [(.int (2 : Int32)), (.int uc), (.int up), (.int um), (.ref wd_), (.int (2 : Int32)), (.ref b209)]))
    obtain ⟨v228, T228, L228, X228, hQ228, st228⟩ := own_callS (y := own_y7) X226 hx hZ hown (ow53 hw) (ow54 hw) (ow3 hw) (ow55 hw) (rm_cell l Z a0 hw hO [] wd_ um up uc (2 : Int32) (own_w ub) h226 O0 (fp0.keep K1) (own_SlKeep fp1 K1 all0) (own_cokL hub hPN (by decide) (by decide)) huc) 2 0 0 (by show _ ≤ 32; omega) (by show _ ≤ 8384; omega) e226 (g := (mkF m 202 #[iv p1, iv p2, iv p3, iv p4, iv p5, iv uk, iv ub, iv um, rv wd_, iv (Int32.ofNat (own_w ub).length), iv uc, yq, iv up, iv (4 : Int32), rv b209, .unset, .unset, .unset] [(.int (2 : Int32)), (.int uc), (.int up), (.int um), (.ref wd_), (.int (2 : Int32)), (.ref b209)])) rfl (by rw [hml]; rfl) [(.ref wd_), (.int um), (.int up), (.int uc), (.int (2 : Int32))] [(.int (2 : Int32)), (.ref b209)] (lenOf own_pd_6 rfl) rfl rfl (hb hby at_202)
    obtain ⟨rfl, Nc231, hp229, Kc230⟩ := hQ228
    refine own_goW st228 ?_
    clear st228 X226 e226
    replace N0 := Fr.app N0 Nc231
    clear Nc231
    obtain ⟨cl232, Ar232, q232, S232, M232, P232, G232⟩ := id f227
    have hin232 : ¬ ((2 : Int32) < 0 ∨ cl232.slots.size ≤ ((2 : Int32)).toNatClampNeg) := inb_of S232 ⟨by decide, by decide⟩
    obtain ⟨T233, h233, X233, e233, W233, st233⟩ := stC X228 hx hZ Kc230 Ar232 (j := (2 : Int32)) hin232 (g := (mkF m 205 #[iv p1, iv p2, iv p3, iv p4, iv p5, iv uk, iv ub, iv um, rv wd_, iv (Int32.ofNat (own_w ub).length), iv uc, yq, iv up, iv (4 : Int32), rv b209, .unset, .unset, .unset] [(.int (own_cell (own_w ub) um up uc (2 : Int32))), (.int (2 : Int32)), (.ref b209)])) rfl rfl (hb hby at_205)
    refine own_goW st233 ?_
    clear st233 X228 Kc230
    rw [own_nar8 hp229] at W233
    have f234 : Arv Z h233 b209 k209 .char (4 : Int32) [(.int (own_cell (own_w ub) um up uc (0 : Int32))), (.int (own_cell (own_w ub) um up uc (1 : Int32))), (.int (own_cell (own_w ub) um up uc (2 : Int32))), (.int (0 : Int32))] (.int (0 : Int32)) := Arv.set Ar232 q232 S232 M232 P232 G232 (by have q := fits_nar_char (own_cell (own_w ub) um up uc (2 : Int32)); rw [own_nar8 hp229] at q; exact q) W233 2 rfl (Nat.le_of_ble_eq_true rfl)
    replace N0 := Fr.snoc X233 N0 big210
    replace hJ := own_Jwr hZ hJ W233 (own_farV f227 (by decide) (ow7 hw))
    clear f227
    replace O0 := own_oldWr O0 W233 big210
    replace K0 := K0.wr W233 (Or.inr sz211)
    replace K1 := K1.wr W233 (Or.inr sz212)
    replace hS := own_since hS (Nat.le_of_eq W233.size.symm)
    clear W233
    clear Ar232 q232 S232 M232 P232 G232 hin232
    refine own_goW (fun _ k => XS.iload X233.here hx rfl (hb hby at_206) rfl (XS.iconst X233.here hx rfl (hb hby at_208) (XS.icmpNo X233.here hx rfl (hb hby at_209) rfl (tlt (by decide : (3 : Int32) < (4 : Int32))).2.2.2 k))) ?_
    show own_GoW p e below s _ _ _ _ (T233.setTop (mkF m 212 #[iv p1, iv p2, iv p3, iv p4, iv p5, iv uk, iv ub, iv um, rv wd_, iv (Int32.ofNat (own_w ub).length), iv uc, yq, iv up, iv (4 : Int32), rv b209, .unset, .unset, .unset] []))
    refine own_goW (fun _ k => XS.aload X233.here hx rfl (hb hby at_212) rfl rfl (XS.iconst X233.here hx rfl (hb hby at_214) (XS.aload X233.here hx rfl (hb hby at_215) rfl rfl (XS.iload X233.here hx rfl (hb hby at_217) rfl (XS.iload X233.here hx rfl (hb hby at_219) rfl k))))) ?_
    show own_GoW p e below s _ _ _ _ (T233.setTop (mkF m 221 #[iv p1, iv p2, iv p3, iv p4, iv p5, iv uk, iv ub, iv um, rv wd_, iv (Int32.ofNat (own_w ub).length), iv uc, yq, iv up, iv (4 : Int32), rv b209, .unset, .unset, .unset] [(.int up), (.int um), (.ref wd_), (.int (3 : Int32)), (.ref b209)]))
    refine own_goW (fun _ k => XS.iload X233.here hx rfl (hb hby at_221) rfl (XS.iconst X233.here hx rfl (hb hby at_223) k)) ?_
    obtain ⟨v235, T235, L235, X235, hQ235, st235⟩ := own_callS (y := own_y7) X233 hx hZ hown (ow53 hw) (ow54 hw) (ow3 hw) (ow55 hw) (rm_cell l Z a0 hw hO [] wd_ um up uc (3 : Int32) (own_w ub) h233 O0 (fp0.keep K1) (own_SlKeep fp1 K1 all0) (own_cokL hub hPN (by decide) (by decide)) huc) 2 0 0 (by show _ ≤ 32; omega) (by show _ ≤ 8384; omega) e233 (g := (mkF m 224 #[iv p1, iv p2, iv p3, iv p4, iv p5, iv uk, iv ub, iv um, rv wd_, iv (Int32.ofNat (own_w ub).length), iv uc, yq, iv up, iv (4 : Int32), rv b209, .unset, .unset, .unset] [(.int (3 : Int32)), (.int uc), (.int up), (.int um), (.ref wd_), (.int (3 : Int32)), (.ref b209)])) rfl (by rw [hml]; rfl) [(.ref wd_), (.int um), (.int up), (.int uc), (.int (3 : Int32))] [(.int (3 : Int32)), (.ref b209)] (lenOf own_pd_6 rfl) rfl rfl (hb hby at_224)
    obtain ⟨rfl, Nc238, hp236, Kc237⟩ := hQ235
    refine own_goW st235 ?_
    clear st235 X233 e233
    replace N0 := Fr.app N0 Nc238
    clear Nc238
    obtain ⟨cl239, Ar239, q239, S239, M239, P239, G239⟩ := id f234
    have hin239 : ¬ ((3 : Int32) < 0 ∨ cl239.slots.size ≤ ((3 : Int32)).toNatClampNeg) := inb_of S239 ⟨by decide, by decide⟩
    obtain ⟨T240, h240, X240, e240, W240, st240⟩ := stC X235 hx hZ Kc237 Ar239 (j := (3 : Int32)) hin239 (g := (mkF m 227 #[iv p1, iv p2, iv p3, iv p4, iv p5, iv uk, iv ub, iv um, rv wd_, iv (Int32.ofNat (own_w ub).length), iv uc, yq, iv up, iv (4 : Int32), rv b209, .unset, .unset, .unset] [(.int (own_cell (own_w ub) um up uc (3 : Int32))), (.int (3 : Int32)), (.ref b209)])) rfl rfl (hb hby at_227)
    refine own_goW st240 ?_
    clear st240 X235 Kc237
    rw [own_nar8 hp236] at W240
    have f241 : Arv Z h240 b209 k209 .char (4 : Int32) [(.int (own_cell (own_w ub) um up uc (0 : Int32))), (.int (own_cell (own_w ub) um up uc (1 : Int32))), (.int (own_cell (own_w ub) um up uc (2 : Int32))), (.int (own_cell (own_w ub) um up uc (3 : Int32)))] (.int (0 : Int32)) := Arv.set Ar239 q239 S239 M239 P239 G239 (by have q := fits_nar_char (own_cell (own_w ub) um up uc (3 : Int32)); rw [own_nar8 hp236] at q; exact q) W240 3 rfl (Nat.le_of_ble_eq_true rfl)
    replace N0 := Fr.snoc X240 N0 big210
    replace hJ := own_Jwr hZ hJ W240 (own_farV f234 (by decide) (ow7 hw))
    clear f234
    replace O0 := own_oldWr O0 W240 big210
    replace K0 := K0.wr W240 (Or.inr sz211)
    replace K1 := K1.wr W240 (Or.inr sz212)
    replace hS := own_since hS (Nat.le_of_eq W240.size.symm)
    clear W240
    clear Ar239 q239 S239 M239 P239 G239 hin239
    refine own_goW (fun _ k => XS.iload X240.here hx rfl (hb hby at_228) rfl k) ?_
    show own_GoW p e below s _ _ _ _ (T240.setTop (mkF m 230 #[iv p1, iv p2, iv p3, iv p4, iv p5, iv uk, iv ub, iv um, rv wd_, iv (Int32.ofNat (own_w ub).length), iv uc, yq, iv up, iv (4 : Int32), rv b209, .unset, .unset, .unset] [(.int (4 : Int32))]))
    refine own_goW (fun _ k => XS.iconst X240.here hx rfl (hb hby at_230) (XS.icmpYes X240.here hx rfl (pc0 := 231) (pc' := 250) rfl (hb hby at_231) rfl (flt (by decide : ¬ ((4 : Int32) < (4 : Int32)))).2.2.2 (by decide) (by decide) (XS.iload X240.here hx rfl (hb hby at_250) rfl (XS.iconst X240.here hx rfl (hb hby at_252) (XS.icmpYes X240.here hx rfl (pc0 := 253) (pc' := 272) rfl (hb hby at_253) rfl (flt (by decide : ¬ ((5 : Int32) < (4 : Int32)))).2.2.2 (by decide) (by decide) k))))) ?_
    show own_GoW p e below s _ _ _ _ (T240.setTop (mkF m 272 #[iv p1, iv p2, iv p3, iv p4, iv p5, iv uk, iv ub, iv um, rv wd_, iv (Int32.ofNat (own_w ub).length), iv uc, yq, iv up, iv (4 : Int32), rv b209, .unset, .unset, .unset] []))
    refine own_goW (fun _ k => XS.iload X240.here hx rfl (hb hby at_272) rfl (XS.bipush X240.here hx rfl (hb hby at_274) (XS.icmpYes X240.here hx rfl (pc0 := 276) (pc' := 297) rfl (hb hby at_276) rfl (flt (by decide : ¬ ((6 : Int32) < (4 : Int32)))).2.2.2 (by decide) (by decide) (XS.iload X240.here hx rfl (hb hby at_297) rfl (XS.bipush X240.here hx rfl (hb hby at_299) k))))) ?_
    show own_GoW p e below s _ _ _ _ (T240.setTop (mkF m 301 #[iv p1, iv p2, iv p3, iv p4, iv p5, iv uk, iv ub, iv um, rv wd_, iv (Int32.ofNat (own_w ub).length), iv uc, yq, iv up, iv (4 : Int32), rv b209, .unset, .unset, .unset] [(.int (7 : Int32)), (.int (4 : Int32))]))
    refine own_goW (fun _ k => XS.icmpYes X240.here hx rfl (pc0 := 301) (pc' := 322) rfl (hb hby at_301) rfl (flt (by decide : ¬ ((7 : Int32) < (4 : Int32)))).2.2.2 (by decide) (by decide) (XS.iload X240.here hx rfl (hb hby at_322) rfl (XS.bipush X240.here hx rfl (hb hby at_324) (XS.icmpYes X240.here hx rfl (pc0 := 326) (pc' := 347) rfl (hb hby at_326) rfl (flt (by decide : ¬ ((8 : Int32) < (4 : Int32)))).2.2.2 (by decide) (by decide) (XS.iload X240.here hx rfl (hb hby at_347) rfl k))))) ?_
    show own_GoW p e below s _ _ _ _ (T240.setTop (mkF m 349 #[iv p1, iv p2, iv p3, iv p4, iv p5, iv uk, iv ub, iv um, rv wd_, iv (Int32.ofNat (own_w ub).length), iv uc, yq, iv up, iv (4 : Int32), rv b209, .unset, .unset, .unset] [(.int (4 : Int32))]))
    refine own_goW (fun _ k => XS.bipush X240.here hx rfl (hb hby at_349) (XS.icmpYes X240.here hx rfl (pc0 := 351) (pc' := 372) rfl (hb hby at_351) rfl (flt (by decide : ¬ ((9 : Int32) < (4 : Int32)))).2.2.2 (by decide) (by decide) (XS.iload X240.here hx rfl (hb hby at_372) rfl (XS.bipush X240.here hx rfl (hb hby at_374) (XS.icmpYes X240.here hx rfl (pc0 := 376) (pc' := 397) rfl (hb hby at_376) rfl (flt (by decide : ¬ ((10 : Int32) < (4 : Int32)))).2.2.2 (by decide) (by decide) k))))) ?_
    show own_GoW p e below s _ _ _ _ (T240.setTop (mkF m 397 #[iv p1, iv p2, iv p3, iv p4, iv p5, iv uk, iv ub, iv um, rv wd_, iv (Int32.ofNat (own_w ub).length), iv uc, yq, iv up, iv (4 : Int32), rv b209, .unset, .unset, .unset] []))
    obtain ⟨T242, h242, X242, e242, E242, A242, D242, -, st242⟩ := newO X240 hx hZ hown (ow27 hw) (ow7 hw) (ow6 hw) e240 (g := (mkF m 397 #[iv p1, iv p2, iv p3, iv p4, iv p5, iv uk, iv ub, iv um, rv wd_, iv (Int32.ofNat (own_w ub).length), iv uc, yq, iv up, iv (4 : Int32), rv b209, .unset, .unset, .unset] [])) rfl (hb hby at_397) (by show _ ≤ 32; omega) (by show _ ≤ 8384; omega)
    obtain ⟨b242, g242⟩ : ∃ z, z = h240.size := ⟨_, rfl⟩
    rw [← g242] at A242 D242 st242
    refine own_goW st242 ?_
    clear st242 X240 e240
    have ge242 := Nat.le_of_eq g242.symm
    have ne243 : b209 ≠ b242 := Nat.ne_of_lt (Nat.lt_of_lt_of_le f241.lt ge242)
    have big244 : Z.heap.size ≤ b242 := Nat.le_trans O0.1 ge242
    have sz245 : h0.size ≤ b242 := Nat.le_trans K0.1 ge242
    have sz246 : hs1.size ≤ b242 := Nat.le_trans K1.1 ge242
    replace f241 := f241.ext E242
    replace O0 := own_oldExt O0 E242
    replace K0 := K0.ext E242
    replace K1 := K1.ext E242
    replace hS := own_since hS E242.1
    replace hJ := own_Jext hJ E242
    clear E242
    have f247 : Fld Z h242 b242 "java/lang/String" "value" "[B" .null := D242 (Or.inr (ow9 hw)) (ty := (.array .byte)) own_fd0
    have f248 : Fld Z h242 b242 "java/lang/String" "coder" "B" (.int (0 : Int32)) := D242 (Or.inr (ow10 hw)) (ty := .byte) own_fd1
    refine own_goW (fun _ k => XS.dup X242.here hx rfl (hb hby at_400) rfl rfl (XS.aload X242.here hx rfl (hb hby at_401) rfl rfl k)) ?_
    obtain ⟨v249, T249, L249, X249, hQ249, st249⟩ := own_callIB (y := own_y1) X242 hx hZ hown (ow28 hw) (ow29 hw) (ow6 hw) (ow30 hw) 1 1 4 (StrChars.Road.backV (W := 1) hZ (own_sw1 hw) (kI := 4) (ow7 hw) (cs := ([(own_cell (own_w ub) um up uc (0 : Int32)), (own_cell (own_w ub) um up uc (1 : Int32)), (own_cell (own_w ub) um up uc (2 : Int32)), (own_cell (own_w ub) um up uc (3 : Int32))] : List Int32)) (bs := ([(own_cell (own_w ub) um up uc (0 : Int32)), (own_cell (own_w ub) um up uc (1 : Int32)), (own_cell (own_w ub) um up uc (2 : Int32)), (own_cell (own_w ub) um up uc (3 : Int32))] : List Int32).map (fun c => c.toInt8.toInt32)) (n := 4) (n0 := Z.heap.size) big244 (Nat.le_trans O0.1 (Nat.le_refl _)) A242 f247 f248 f241 (oCS.ext O0) oCz rfl rfl (by decide) (by decide) (own_cC hp215 (own_cC hp222 (own_cC hp229 (own_cC hp236 own_cN)))) rfl (by decide) (by decide)) rfl (by show _ ≤ 32; omega) (by show _ ≤ 8384; omega) e242 (g := (mkF m 403 #[iv p1, iv p2, iv p3, iv p4, iv p5, iv uk, iv ub, iv um, rv wd_, iv (Int32.ofNat (own_w ub).length), iv uc, yq, iv up, iv (4 : Int32), rv b209, .unset, .unset, .unset] [(.ref b209), (.ref b242), (.ref b242)])) rfl (by rw [hml]; rfl) b242 [(.ref b209)] [(.ref b242)] (lenOf own_pd_5 rfl) rfl rfl (hb hby at_403)
    obtain ⟨rfl, Nc249, Kc249, f1249, f2249, t249, kb249, tb249, ts249, tn249, f3249, f4249⟩ := hQ249
    refine own_goW st249 ?_
    clear st249 X242 e242
    replace N0 := Fr.app N0 Nc249
    clear Nc249
    replace hS := own_since hS Kc249.1
    have ne250 : b209 ≠ t249 := Nat.ne_of_lt (Nat.lt_of_lt_of_le f241.lt ts249)
    have ne251 : b242 ≠ t249 := Nat.ne_of_lt (Nat.lt_of_lt_of_le A242.lt ts249)
    have big252 : Z.heap.size ≤ t249 := Nat.le_trans O0.1 ts249
    have sz253 : h0.size ≤ t249 := Nat.le_trans K0.1 ts249
    have sz254 : hs1.size ≤ t249 := Nat.le_trans K1.1 ts249
    have hAp_b242 := own_apart hZ hJ f247
    replace hJ := own_JkeepS hZ hJ Kc249 hAp_b242 A242 (ow7 hw)
    replace f241 := f241.keep Kc249 (ninS ne243 nin0)
    replace A242 := A242.keep Kc249
    clear f247
    clear f248
    replace O0 := own_oldKeep O0 Kc249 (allS big244 all0)
    replace K0 := K0.trans Kc249 (allS (Or.inr sz245) all0)
    replace K1 := K1.trans Kc249 (allS (Or.inr sz246) all0)
    clear Kc249
    replace f4249 : Arv Z T249.heap t249 kb249 .byte (4 : Int32) [(.int ((own_cell (own_w ub) um up uc (0 : Int32)).toInt8.toInt32)), (.int ((own_cell (own_w ub) um up uc (1 : Int32)).toInt8.toInt32)), (.int ((own_cell (own_w ub) um up uc (2 : Int32)).toInt8.toInt32)), (.int ((own_cell (own_w ub) um up uc (3 : Int32)).toInt8.toInt32))] (.int (0 : Int32)) := f4249
    show own_GoW p e below s _ _ _ _ (T249.setTop (mkF m 406 #[iv p1, iv p2, iv p3, iv p4, iv p5, iv uk, iv ub, iv um, rv wd_, iv (Int32.ofNat (own_w ub).length), iv uc, yq, iv up, iv (4 : Int32), rv b209, .unset, .unset, .unset] [(.ref b242)]))
    have sl255 : own_Sl Z T249.heap b242 (own_nm ub um up uc (4 : Int32)) := by
      rw [own_nm_4]
      exact own_mkSl (cs := [(own_cell (own_w ub) um up uc (0 : Int32)), (own_cell (own_w ub) um up uc (1 : Int32)), (own_cell (own_w ub) um up uc (2 : Int32)), (own_cell (own_w ub) um up uc (3 : Int32))]) f1249 f2249 f3249 f4249 rfl rfl (own_cC hp215 (own_cC hp222 (own_cC hp229 (own_cC hp236 own_cN)))) (Nat.le_of_ble_eq_true rfl)
    exact sg_s406 hw hO p1 p2 p3 p4 p5 uk ub um uc up (4 : Int32) wd_ (yq : Slot) (rv b209 : Slot) b242 h0 T249.heap X249 hS hL hJ hx hby hml hret hlk hZ hown hnm (rfl : T249.heap = T249.heap) N0 O0 K0 (fp0.keep K1) (own_SlKeep fp1 K1 all0) f1249 sl255 huk hub hum hPN huc (by omega) (by omega)
  · show own_GoW p e below s _ _ _ _ (T.setTop (mkF m 137 #[iv p1, iv p2, iv p3, iv p4, iv p5, iv uk, iv ub, iv um, rv wd_, iv (Int32.ofNat (own_w ub).length), iv uc, yq, iv up, iv (5 : Int32), .unset, .unset, .unset, .unset] [(.int (5 : Int32))]))
    show own_GoW p e below s _ _ _ _ (T.setTop (mkF m 137 #[iv p1, iv p2, iv p3, iv p4, iv p5, iv uk, iv ub, iv um, rv wd_, iv (Int32.ofNat (own_w ub).length), iv uc, yq, iv up, iv (5 : Int32), .unset, .unset, .unset, .unset] [(.int (5 : Int32))]))
    obtain ⟨T256, h256, k256, X256, e256, E256, A256, st256⟩ := newP (aty := .char) X0 hx hZ (ow26 hw) e0 (g := (mkF m 137 #[iv p1, iv p2, iv p3, iv p4, iv p5, iv uk, iv ub, iv um, rv wd_, iv (Int32.ofNat (own_w ub).length), iv uc, yq, iv up, iv (5 : Int32), .unset, .unset, .unset, .unset] [(.int (5 : Int32))])) rfl (hb hby at_137) rfl (by decide) (cap := 5) (by decide) (by decide) (by show _ ≤ 32; omega) (by show _ ≤ 8384; omega)
    obtain ⟨b256, g256⟩ : ∃ z, z = hs1.size := ⟨_, rfl⟩
    rw [← g256] at A256 st256
    refine own_goW st256 ?_
    clear st256 X0 e0
    have ge256 := Nat.le_of_eq g256.symm
    have big257 : Z.heap.size ≤ b256 := Nat.le_trans O0.1 ge256
    have sz258 : h0.size ≤ b256 := Nat.le_trans K0.1 ge256
    have sz259 : hs1.size ≤ b256 := Nat.le_trans K1.1 ge256
    replace O0 := own_oldExt O0 E256
    replace K0 := K0.ext E256
    replace K1 := K1.ext E256
    replace hS := own_since hS E256.1
    replace hJ := own_Jext hJ E256
    clear E256
    have f260 : Arv Z h256 b256 k256 .char (5 : Int32) [(.int (0 : Int32)), (.int (0 : Int32)), (.int (0 : Int32)), (.int (0 : Int32)), (.int (0 : Int32))] (.int (0 : Int32)) := (Arv.new A256 (by decide)).pad (pad_rep [] (.int (0 : Int32)) 5)
    refine own_goW (fun _ k => XS.astore X256.here hx rfl (hb hby at_139) rfl rfl (l' := #[iv p1, iv p2, iv p3, iv p4, iv p5, iv uk, iv ub, iv um, rv wd_, iv (Int32.ofNat (own_w ub).length), iv uc, yq, iv up, iv (5 : Int32), rv b256, .unset, .unset, .unset]) rfl (XS.iload X256.here hx rfl (hb hby at_141) rfl (XS.ifNo X256.here hx rfl (hb hby at_143) rfl ((if0 _ _).trans (tlt (by decide : (0 : Int32) < (5 : Int32))).2.2.2) (XS.aload X256.here hx rfl (hb hby at_146) rfl rfl k)))) ?_
    show own_GoW p e below s _ _ _ _ (T256.setTop (mkF m 148 #[iv p1, iv p2, iv p3, iv p4, iv p5, iv uk, iv ub, iv um, rv wd_, iv (Int32.ofNat (own_w ub).length), iv uc, yq, iv up, iv (5 : Int32), rv b256, .unset, .unset, .unset] [(.ref b256)]))
    refine own_goW (fun _ k => XS.iconst X256.here hx rfl (hb hby at_148) (XS.aload X256.here hx rfl (hb hby at_149) rfl rfl (XS.iload X256.here hx rfl (hb hby at_151) rfl (XS.iload X256.here hx rfl (hb hby at_153) rfl (XS.iload X256.here hx rfl (hb hby at_155) rfl k))))) ?_
    show own_GoW p e below s _ _ _ _ (T256.setTop (mkF m 157 #[iv p1, iv p2, iv p3, iv p4, iv p5, iv uk, iv ub, iv um, rv wd_, iv (Int32.ofNat (own_w ub).length), iv uc, yq, iv up, iv (5 : Int32), rv b256, .unset, .unset, .unset] [(.int uc), (.int up), (.int um), (.ref wd_), (.int (0 : Int32)), (.ref b256)]))
    refine own_goW (fun _ k => XS.iconst X256.here hx rfl (hb hby at_157) k) ?_
    obtain ⟨v261, T261, L261, X261, hQ261, st261⟩ := own_callS (y := own_y7) X256 hx hZ hown (ow53 hw) (ow54 hw) (ow3 hw) (ow55 hw) (rm_cell l Z a0 hw hO [] wd_ um up uc (0 : Int32) (own_w ub) h256 O0 (fp0.keep K1) (own_SlKeep fp1 K1 all0) (own_cokL hub hPN (by decide) (by decide)) huc) 2 0 0 (by show _ ≤ 32; omega) (by show _ ≤ 8384; omega) e256 (g := (mkF m 158 #[iv p1, iv p2, iv p3, iv p4, iv p5, iv uk, iv ub, iv um, rv wd_, iv (Int32.ofNat (own_w ub).length), iv uc, yq, iv up, iv (5 : Int32), rv b256, .unset, .unset, .unset] [(.int (0 : Int32)), (.int uc), (.int up), (.int um), (.ref wd_), (.int (0 : Int32)), (.ref b256)])) rfl (by rw [hml]; rfl) [(.ref wd_), (.int um), (.int up), (.int uc), (.int (0 : Int32))] [(.int (0 : Int32)), (.ref b256)] (lenOf own_pd_6 rfl) rfl rfl (hb hby at_158)
    obtain ⟨rfl, Nc264, hp262, Kc263⟩ := hQ261
    refine own_goW st261 ?_
    clear st261 X256 e256
    replace N0 := Fr.app N0 Nc264
    clear Nc264
    obtain ⟨cl265, Ar265, q265, S265, M265, P265, G265⟩ := id f260
    have hin265 : ¬ ((0 : Int32) < 0 ∨ cl265.slots.size ≤ ((0 : Int32)).toNatClampNeg) := inb_of S265 ⟨by decide, by decide⟩
    obtain ⟨T266, h266, X266, e266, W266, st266⟩ := stC X261 hx hZ Kc263 Ar265 (j := (0 : Int32)) hin265 (g := (mkF m 161 #[iv p1, iv p2, iv p3, iv p4, iv p5, iv uk, iv ub, iv um, rv wd_, iv (Int32.ofNat (own_w ub).length), iv uc, yq, iv up, iv (5 : Int32), rv b256, .unset, .unset, .unset] [(.int (own_cell (own_w ub) um up uc (0 : Int32))), (.int (0 : Int32)), (.ref b256)])) rfl rfl (hb hby at_161)
    refine own_goW st266 ?_
    clear st266 X261 Kc263
    rw [own_nar8 hp262] at W266
    have f267 : Arv Z h266 b256 k256 .char (5 : Int32) [(.int (own_cell (own_w ub) um up uc (0 : Int32))), (.int (0 : Int32)), (.int (0 : Int32)), (.int (0 : Int32)), (.int (0 : Int32))] (.int (0 : Int32)) := Arv.set Ar265 q265 S265 M265 P265 G265 (by have q := fits_nar_char (own_cell (own_w ub) um up uc (0 : Int32)); rw [own_nar8 hp262] at q; exact q) W266 0 rfl (Nat.le_of_ble_eq_true rfl)
    replace N0 := Fr.snoc X266 N0 big257
    replace hJ := own_Jwr hZ hJ W266 (own_farV f260 (by decide) (ow7 hw))
    clear f260
    replace O0 := own_oldWr O0 W266 big257
    replace K0 := K0.wr W266 (Or.inr sz258)
    replace K1 := K1.wr W266 (Or.inr sz259)
    replace hS := own_since hS (Nat.le_of_eq W266.size.symm)
    clear W266
    clear Ar265 q265 S265 M265 P265 G265 hin265
    refine own_goW (fun _ k => XS.iload X266.here hx rfl (hb hby at_162) rfl (XS.iconst X266.here hx rfl (hb hby at_164) k)) ?_
    show own_GoW p e below s _ _ _ _ (T266.setTop (mkF m 165 #[iv p1, iv p2, iv p3, iv p4, iv p5, iv uk, iv ub, iv um, rv wd_, iv (Int32.ofNat (own_w ub).length), iv uc, yq, iv up, iv (5 : Int32), rv b256, .unset, .unset, .unset] [(.int (1 : Int32)), (.int (5 : Int32))]))
    refine own_goW (fun _ k => XS.icmpNo X266.here hx rfl (hb hby at_165) rfl (tlt (by decide : (1 : Int32) < (5 : Int32))).2.2.2 (XS.aload X266.here hx rfl (hb hby at_168) rfl rfl (XS.iconst X266.here hx rfl (hb hby at_170) (XS.aload X266.here hx rfl (hb hby at_171) rfl rfl (XS.iload X266.here hx rfl (hb hby at_173) rfl k))))) ?_
    show own_GoW p e below s _ _ _ _ (T266.setTop (mkF m 175 #[iv p1, iv p2, iv p3, iv p4, iv p5, iv uk, iv ub, iv um, rv wd_, iv (Int32.ofNat (own_w ub).length), iv uc, yq, iv up, iv (5 : Int32), rv b256, .unset, .unset, .unset] [(.int um), (.ref wd_), (.int (1 : Int32)), (.ref b256)]))
    refine own_goW (fun _ k => XS.iload X266.here hx rfl (hb hby at_175) rfl (XS.iload X266.here hx rfl (hb hby at_177) rfl (XS.iconst X266.here hx rfl (hb hby at_179) k))) ?_
    obtain ⟨v268, T268, L268, X268, hQ268, st268⟩ := own_callS (y := own_y7) X266 hx hZ hown (ow53 hw) (ow54 hw) (ow3 hw) (ow55 hw) (rm_cell l Z a0 hw hO [] wd_ um up uc (1 : Int32) (own_w ub) h266 O0 (fp0.keep K1) (own_SlKeep fp1 K1 all0) (own_cokL hub hPN (by decide) (by decide)) huc) 2 0 0 (by show _ ≤ 32; omega) (by show _ ≤ 8384; omega) e266 (g := (mkF m 180 #[iv p1, iv p2, iv p3, iv p4, iv p5, iv uk, iv ub, iv um, rv wd_, iv (Int32.ofNat (own_w ub).length), iv uc, yq, iv up, iv (5 : Int32), rv b256, .unset, .unset, .unset] [(.int (1 : Int32)), (.int uc), (.int up), (.int um), (.ref wd_), (.int (1 : Int32)), (.ref b256)])) rfl (by rw [hml]; rfl) [(.ref wd_), (.int um), (.int up), (.int uc), (.int (1 : Int32))] [(.int (1 : Int32)), (.ref b256)] (lenOf own_pd_6 rfl) rfl rfl (hb hby at_180)
    obtain ⟨rfl, Nc271, hp269, Kc270⟩ := hQ268
    refine own_goW st268 ?_
    clear st268 X266 e266
    replace N0 := Fr.app N0 Nc271
    clear Nc271
    obtain ⟨cl272, Ar272, q272, S272, M272, P272, G272⟩ := id f267
    have hin272 : ¬ ((1 : Int32) < 0 ∨ cl272.slots.size ≤ ((1 : Int32)).toNatClampNeg) := inb_of S272 ⟨by decide, by decide⟩
    obtain ⟨T273, h273, X273, e273, W273, st273⟩ := stC X268 hx hZ Kc270 Ar272 (j := (1 : Int32)) hin272 (g := (mkF m 183 #[iv p1, iv p2, iv p3, iv p4, iv p5, iv uk, iv ub, iv um, rv wd_, iv (Int32.ofNat (own_w ub).length), iv uc, yq, iv up, iv (5 : Int32), rv b256, .unset, .unset, .unset] [(.int (own_cell (own_w ub) um up uc (1 : Int32))), (.int (1 : Int32)), (.ref b256)])) rfl rfl (hb hby at_183)
    refine own_goW st273 ?_
    clear st273 X268 Kc270
    rw [own_nar8 hp269] at W273
    have f274 : Arv Z h273 b256 k256 .char (5 : Int32) [(.int (own_cell (own_w ub) um up uc (0 : Int32))), (.int (own_cell (own_w ub) um up uc (1 : Int32))), (.int (0 : Int32)), (.int (0 : Int32)), (.int (0 : Int32))] (.int (0 : Int32)) := Arv.set Ar272 q272 S272 M272 P272 G272 (by have q := fits_nar_char (own_cell (own_w ub) um up uc (1 : Int32)); rw [own_nar8 hp269] at q; exact q) W273 1 rfl (Nat.le_of_ble_eq_true rfl)
    replace N0 := Fr.snoc X273 N0 big257
    replace hJ := own_Jwr hZ hJ W273 (own_farV f267 (by decide) (ow7 hw))
    clear f267
    replace O0 := own_oldWr O0 W273 big257
    replace K0 := K0.wr W273 (Or.inr sz258)
    replace K1 := K1.wr W273 (Or.inr sz259)
    replace hS := own_since hS (Nat.le_of_eq W273.size.symm)
    clear W273
    clear Ar272 q272 S272 M272 P272 G272 hin272
    show own_GoW p e below s _ _ _ _ (T273.setTop (mkF m 184 #[iv p1, iv p2, iv p3, iv p4, iv p5, iv uk, iv ub, iv um, rv wd_, iv (Int32.ofNat (own_w ub).length), iv uc, yq, iv up, iv (5 : Int32), rv b256, .unset, .unset, .unset] []))
    refine own_goW (fun _ k => XS.iload X273.here hx rfl (hb hby at_184) rfl (XS.iconst X273.here hx rfl (hb hby at_186) (XS.icmpNo X273.here hx rfl (hb hby at_187) rfl (tlt (by decide : (2 : Int32) < (5 : Int32))).2.2.2 (XS.aload X273.here hx rfl (hb hby at_190) rfl rfl (XS.iconst X273.here hx rfl (hb hby at_192) k))))) ?_
    show own_GoW p e below s _ _ _ _ (T273.setTop (mkF m 193 #[iv p1, iv p2, iv p3, iv p4, iv p5, iv uk, iv ub, iv um, rv wd_, iv (Int32.ofNat (own_w ub).length), iv uc, yq, iv up, iv (5 : Int32), rv b256, .unset, .unset, .unset] [(.int (2 : Int32)), (.ref b256)]))
    refine own_goW (fun _ k => XS.aload X273.here hx rfl (hb hby at_193) rfl rfl (XS.iload X273.here hx rfl (hb hby at_195) rfl (XS.iload X273.here hx rfl (hb hby at_197) rfl (XS.iload X273.here hx rfl (hb hby at_199) rfl (XS.iconst X273.here hx rfl (hb hby at_201) k))))) ?_
    show own_GoW p e below s _ _ _ _ (T273.setTop (mkF m 202 #[iv p1, iv p2, iv p3, iv p4, iv p5, iv uk, iv ub, iv um, rv wd_, iv (Int32.ofNat (own_w ub).length), iv uc, yq, iv up, iv (5 : Int32), rv b256, .unset, .unset, .unset] [(.int (2 : Int32)), (.int uc), (.int up), (.int um), (.ref wd_), (.int (2 : Int32)), (.ref b256)]))
    obtain ⟨v275, T275, L275, X275, hQ275, st275⟩ := own_callS (y := own_y7) X273 hx hZ hown (ow53 hw) (ow54 hw) (ow3 hw) (ow55 hw) (rm_cell l Z a0 hw hO [] wd_ um up uc (2 : Int32) (own_w ub) h273 O0 (fp0.keep K1) (own_SlKeep fp1 K1 all0) (own_cokL hub hPN (by decide) (by decide)) huc) 2 0 0 (by show _ ≤ 32; omega) (by show _ ≤ 8384; omega) e273 (g := (mkF m 202 #[iv p1, iv p2, iv p3, iv p4, iv p5, iv uk, iv ub, iv um, rv wd_, iv (Int32.ofNat (own_w ub).length), iv uc, yq, iv up, iv (5 : Int32), rv b256, .unset, .unset, .unset] [(.int (2 : Int32)), (.int uc), (.int up), (.int um), (.ref wd_), (.int (2 : Int32)), (.ref b256)])) rfl (by rw [hml]; rfl) [(.ref wd_), (.int um), (.int up), (.int uc), (.int (2 : Int32))] [(.int (2 : Int32)), (.ref b256)] (lenOf own_pd_6 rfl) rfl rfl (hb hby at_202)
    obtain ⟨rfl, Nc278, hp276, Kc277⟩ := hQ275
    refine own_goW st275 ?_
    clear st275 X273 e273
    replace N0 := Fr.app N0 Nc278
    clear Nc278
    obtain ⟨cl279, Ar279, q279, S279, M279, P279, G279⟩ := id f274
    have hin279 : ¬ ((2 : Int32) < 0 ∨ cl279.slots.size ≤ ((2 : Int32)).toNatClampNeg) := inb_of S279 ⟨by decide, by decide⟩
    obtain ⟨T280, h280, X280, e280, W280, st280⟩ := stC X275 hx hZ Kc277 Ar279 (j := (2 : Int32)) hin279 (g := (mkF m 205 #[iv p1, iv p2, iv p3, iv p4, iv p5, iv uk, iv ub, iv um, rv wd_, iv (Int32.ofNat (own_w ub).length), iv uc, yq, iv up, iv (5 : Int32), rv b256, .unset, .unset, .unset] [(.int (own_cell (own_w ub) um up uc (2 : Int32))), (.int (2 : Int32)), (.ref b256)])) rfl rfl (hb hby at_205)
    refine own_goW st280 ?_
    clear st280 X275 Kc277
    rw [own_nar8 hp276] at W280
    have f281 : Arv Z h280 b256 k256 .char (5 : Int32) [(.int (own_cell (own_w ub) um up uc (0 : Int32))), (.int (own_cell (own_w ub) um up uc (1 : Int32))), (.int (own_cell (own_w ub) um up uc (2 : Int32))), (.int (0 : Int32)), (.int (0 : Int32))] (.int (0 : Int32)) := Arv.set Ar279 q279 S279 M279 P279 G279 (by have q := fits_nar_char (own_cell (own_w ub) um up uc (2 : Int32)); rw [own_nar8 hp276] at q; exact q) W280 2 rfl (Nat.le_of_ble_eq_true rfl)
    replace N0 := Fr.snoc X280 N0 big257
    replace hJ := own_Jwr hZ hJ W280 (own_farV f274 (by decide) (ow7 hw))
    clear f274
    replace O0 := own_oldWr O0 W280 big257
    replace K0 := K0.wr W280 (Or.inr sz258)
    replace K1 := K1.wr W280 (Or.inr sz259)
    replace hS := own_since hS (Nat.le_of_eq W280.size.symm)
    clear W280
    clear Ar279 q279 S279 M279 P279 G279 hin279
    refine own_goW (fun _ k => XS.iload X280.here hx rfl (hb hby at_206) rfl (XS.iconst X280.here hx rfl (hb hby at_208) (XS.icmpNo X280.here hx rfl (hb hby at_209) rfl (tlt (by decide : (3 : Int32) < (5 : Int32))).2.2.2 k))) ?_
    show own_GoW p e below s _ _ _ _ (T280.setTop (mkF m 212 #[iv p1, iv p2, iv p3, iv p4, iv p5, iv uk, iv ub, iv um, rv wd_, iv (Int32.ofNat (own_w ub).length), iv uc, yq, iv up, iv (5 : Int32), rv b256, .unset, .unset, .unset] []))
    refine own_goW (fun _ k => XS.aload X280.here hx rfl (hb hby at_212) rfl rfl (XS.iconst X280.here hx rfl (hb hby at_214) (XS.aload X280.here hx rfl (hb hby at_215) rfl rfl (XS.iload X280.here hx rfl (hb hby at_217) rfl (XS.iload X280.here hx rfl (hb hby at_219) rfl k))))) ?_
    show own_GoW p e below s _ _ _ _ (T280.setTop (mkF m 221 #[iv p1, iv p2, iv p3, iv p4, iv p5, iv uk, iv ub, iv um, rv wd_, iv (Int32.ofNat (own_w ub).length), iv uc, yq, iv up, iv (5 : Int32), rv b256, .unset, .unset, .unset] [(.int up), (.int um), (.ref wd_), (.int (3 : Int32)), (.ref b256)]))
    refine own_goW (fun _ k => XS.iload X280.here hx rfl (hb hby at_221) rfl (XS.iconst X280.here hx rfl (hb hby at_223) k)) ?_
    obtain ⟨v282, T282, L282, X282, hQ282, st282⟩ := own_callS (y := own_y7) X280 hx hZ hown (ow53 hw) (ow54 hw) (ow3 hw) (ow55 hw) (rm_cell l Z a0 hw hO [] wd_ um up uc (3 : Int32) (own_w ub) h280 O0 (fp0.keep K1) (own_SlKeep fp1 K1 all0) (own_cokL hub hPN (by decide) (by decide)) huc) 2 0 0 (by show _ ≤ 32; omega) (by show _ ≤ 8384; omega) e280 (g := (mkF m 224 #[iv p1, iv p2, iv p3, iv p4, iv p5, iv uk, iv ub, iv um, rv wd_, iv (Int32.ofNat (own_w ub).length), iv uc, yq, iv up, iv (5 : Int32), rv b256, .unset, .unset, .unset] [(.int (3 : Int32)), (.int uc), (.int up), (.int um), (.ref wd_), (.int (3 : Int32)), (.ref b256)])) rfl (by rw [hml]; rfl) [(.ref wd_), (.int um), (.int up), (.int uc), (.int (3 : Int32))] [(.int (3 : Int32)), (.ref b256)] (lenOf own_pd_6 rfl) rfl rfl (hb hby at_224)
    obtain ⟨rfl, Nc285, hp283, Kc284⟩ := hQ282
    refine own_goW st282 ?_
    clear st282 X280 e280
    replace N0 := Fr.app N0 Nc285
    clear Nc285
    obtain ⟨cl286, Ar286, q286, S286, M286, P286, G286⟩ := id f281
    have hin286 : ¬ ((3 : Int32) < 0 ∨ cl286.slots.size ≤ ((3 : Int32)).toNatClampNeg) := inb_of S286 ⟨by decide, by decide⟩
    obtain ⟨T287, h287, X287, e287, W287, st287⟩ := stC X282 hx hZ Kc284 Ar286 (j := (3 : Int32)) hin286 (g := (mkF m 227 #[iv p1, iv p2, iv p3, iv p4, iv p5, iv uk, iv ub, iv um, rv wd_, iv (Int32.ofNat (own_w ub).length), iv uc, yq, iv up, iv (5 : Int32), rv b256, .unset, .unset, .unset] [(.int (own_cell (own_w ub) um up uc (3 : Int32))), (.int (3 : Int32)), (.ref b256)])) rfl rfl (hb hby at_227)
    refine own_goW st287 ?_
    clear st287 X282 Kc284
    rw [own_nar8 hp283] at W287
    have f288 : Arv Z h287 b256 k256 .char (5 : Int32) [(.int (own_cell (own_w ub) um up uc (0 : Int32))), (.int (own_cell (own_w ub) um up uc (1 : Int32))), (.int (own_cell (own_w ub) um up uc (2 : Int32))), (.int (own_cell (own_w ub) um up uc (3 : Int32))), (.int (0 : Int32))] (.int (0 : Int32)) := Arv.set Ar286 q286 S286 M286 P286 G286 (by have q := fits_nar_char (own_cell (own_w ub) um up uc (3 : Int32)); rw [own_nar8 hp283] at q; exact q) W287 3 rfl (Nat.le_of_ble_eq_true rfl)
    replace N0 := Fr.snoc X287 N0 big257
    replace hJ := own_Jwr hZ hJ W287 (own_farV f281 (by decide) (ow7 hw))
    clear f281
    replace O0 := own_oldWr O0 W287 big257
    replace K0 := K0.wr W287 (Or.inr sz258)
    replace K1 := K1.wr W287 (Or.inr sz259)
    replace hS := own_since hS (Nat.le_of_eq W287.size.symm)
    clear W287
    clear Ar286 q286 S286 M286 P286 G286 hin286
    refine own_goW (fun _ k => XS.iload X287.here hx rfl (hb hby at_228) rfl k) ?_
    show own_GoW p e below s _ _ _ _ (T287.setTop (mkF m 230 #[iv p1, iv p2, iv p3, iv p4, iv p5, iv uk, iv ub, iv um, rv wd_, iv (Int32.ofNat (own_w ub).length), iv uc, yq, iv up, iv (5 : Int32), rv b256, .unset, .unset, .unset] [(.int (5 : Int32))]))
    refine own_goW (fun _ k => XS.iconst X287.here hx rfl (hb hby at_230) (XS.icmpNo X287.here hx rfl (hb hby at_231) rfl (tlt (by decide : (4 : Int32) < (5 : Int32))).2.2.2 (XS.aload X287.here hx rfl (hb hby at_234) rfl rfl (XS.iconst X287.here hx rfl (hb hby at_236) (XS.aload X287.here hx rfl (hb hby at_237) rfl rfl k))))) ?_
    show own_GoW p e below s _ _ _ _ (T287.setTop (mkF m 239 #[iv p1, iv p2, iv p3, iv p4, iv p5, iv uk, iv ub, iv um, rv wd_, iv (Int32.ofNat (own_w ub).length), iv uc, yq, iv up, iv (5 : Int32), rv b256, .unset, .unset, .unset] [(.ref wd_), (.int (4 : Int32)), (.ref b256)]))
    refine own_goW (fun _ k => XS.iload X287.here hx rfl (hb hby at_239) rfl (XS.iload X287.here hx rfl (hb hby at_241) rfl (XS.iload X287.here hx rfl (hb hby at_243) rfl (XS.iconst X287.here hx rfl (hb hby at_245) k)))) ?_
    obtain ⟨v289, T289, L289, X289, hQ289, st289⟩ := own_callS (y := own_y7) X287 hx hZ hown (ow53 hw) (ow54 hw) (ow3 hw) (ow55 hw) (rm_cell l Z a0 hw hO [] wd_ um up uc (4 : Int32) (own_w ub) h287 O0 (fp0.keep K1) (own_SlKeep fp1 K1 all0) (own_cokL hub hPN (by decide) (by decide)) huc) 2 0 0 (by show _ ≤ 32; omega) (by show _ ≤ 8384; omega) e287 (g := (mkF m 246 #[iv p1, iv p2, iv p3, iv p4, iv p5, iv uk, iv ub, iv um, rv wd_, iv (Int32.ofNat (own_w ub).length), iv uc, yq, iv up, iv (5 : Int32), rv b256, .unset, .unset, .unset] [(.int (4 : Int32)), (.int uc), (.int up), (.int um), (.ref wd_), (.int (4 : Int32)), (.ref b256)])) rfl (by rw [hml]; rfl) [(.ref wd_), (.int um), (.int up), (.int uc), (.int (4 : Int32))] [(.int (4 : Int32)), (.ref b256)] (lenOf own_pd_6 rfl) rfl rfl (hb hby at_246)
    obtain ⟨rfl, Nc292, hp290, Kc291⟩ := hQ289
    refine own_goW st289 ?_
    clear st289 X287 e287
    replace N0 := Fr.app N0 Nc292
    clear Nc292
    show own_GoW p e below s _ _ _ _ (T289.setTop (mkF m 249 #[iv p1, iv p2, iv p3, iv p4, iv p5, iv uk, iv ub, iv um, rv wd_, iv (Int32.ofNat (own_w ub).length), iv uc, yq, iv up, iv (5 : Int32), rv b256, .unset, .unset, .unset] [(.int (own_cell (own_w ub) um up uc (4 : Int32))), (.int (4 : Int32)), (.ref b256)]))
    obtain ⟨cl293, Ar293, q293, S293, M293, P293, G293⟩ := id f288
    have hin293 : ¬ ((4 : Int32) < 0 ∨ cl293.slots.size ≤ ((4 : Int32)).toNatClampNeg) := inb_of S293 ⟨by decide, by decide⟩
    obtain ⟨T294, h294, X294, e294, W294, st294⟩ := stC X289 hx hZ Kc291 Ar293 (j := (4 : Int32)) hin293 (g := (mkF m 249 #[iv p1, iv p2, iv p3, iv p4, iv p5, iv uk, iv ub, iv um, rv wd_, iv (Int32.ofNat (own_w ub).length), iv uc, yq, iv up, iv (5 : Int32), rv b256, .unset, .unset, .unset] [(.int (own_cell (own_w ub) um up uc (4 : Int32))), (.int (4 : Int32)), (.ref b256)])) rfl rfl (hb hby at_249)
    refine own_goW st294 ?_
    clear st294 X289 Kc291
    rw [own_nar8 hp290] at W294
    have f295 : Arv Z h294 b256 k256 .char (5 : Int32) [(.int (own_cell (own_w ub) um up uc (0 : Int32))), (.int (own_cell (own_w ub) um up uc (1 : Int32))), (.int (own_cell (own_w ub) um up uc (2 : Int32))), (.int (own_cell (own_w ub) um up uc (3 : Int32))), (.int (own_cell (own_w ub) um up uc (4 : Int32)))] (.int (0 : Int32)) := Arv.set Ar293 q293 S293 M293 P293 G293 (by have q := fits_nar_char (own_cell (own_w ub) um up uc (4 : Int32)); rw [own_nar8 hp290] at q; exact q) W294 4 rfl (Nat.le_of_ble_eq_true rfl)
    replace N0 := Fr.snoc X294 N0 big257
    replace hJ := own_Jwr hZ hJ W294 (own_farV f288 (by decide) (ow7 hw))
    clear f288
    replace O0 := own_oldWr O0 W294 big257
    replace K0 := K0.wr W294 (Or.inr sz258)
    replace K1 := K1.wr W294 (Or.inr sz259)
    replace hS := own_since hS (Nat.le_of_eq W294.size.symm)
    clear W294
    clear Ar293 q293 S293 M293 P293 G293 hin293
    refine own_goW (fun _ k => XS.iload X294.here hx rfl (hb hby at_250) rfl (XS.iconst X294.here hx rfl (hb hby at_252) (XS.icmpYes X294.here hx rfl (pc0 := 253) (pc' := 272) rfl (hb hby at_253) rfl (flt (by decide : ¬ ((5 : Int32) < (5 : Int32)))).2.2.2 (by decide) (by decide) (XS.iload X294.here hx rfl (hb hby at_272) rfl k)))) ?_
    show own_GoW p e below s _ _ _ _ (T294.setTop (mkF m 274 #[iv p1, iv p2, iv p3, iv p4, iv p5, iv uk, iv ub, iv um, rv wd_, iv (Int32.ofNat (own_w ub).length), iv uc, yq, iv up, iv (5 : Int32), rv b256, .unset, .unset, .unset] [(.int (5 : Int32))]))
    refine own_goW (fun _ k => XS.bipush X294.here hx rfl (hb hby at_274) (XS.icmpYes X294.here hx rfl (pc0 := 276) (pc' := 297) rfl (hb hby at_276) rfl (flt (by decide : ¬ ((6 : Int32) < (5 : Int32)))).2.2.2 (by decide) (by decide) (XS.iload X294.here hx rfl (hb hby at_297) rfl (XS.bipush X294.here hx rfl (hb hby at_299) (XS.icmpYes X294.here hx rfl (pc0 := 301) (pc' := 322) rfl (hb hby at_301) rfl (flt (by decide : ¬ ((7 : Int32) < (5 : Int32)))).2.2.2 (by decide) (by decide) k))))) ?_
    show own_GoW p e below s _ _ _ _ (T294.setTop (mkF m 322 #[iv p1, iv p2, iv p3, iv p4, iv p5, iv uk, iv ub, iv um, rv wd_, iv (Int32.ofNat (own_w ub).length), iv uc, yq, iv up, iv (5 : Int32), rv b256, .unset, .unset, .unset] []))
    refine own_goW (fun _ k => XS.iload X294.here hx rfl (hb hby at_322) rfl (XS.bipush X294.here hx rfl (hb hby at_324) (XS.icmpYes X294.here hx rfl (pc0 := 326) (pc' := 347) rfl (hb hby at_326) rfl (flt (by decide : ¬ ((8 : Int32) < (5 : Int32)))).2.2.2 (by decide) (by decide) (XS.iload X294.here hx rfl (hb hby at_347) rfl (XS.bipush X294.here hx rfl (hb hby at_349) k))))) ?_
    show own_GoW p e below s _ _ _ _ (T294.setTop (mkF m 351 #[iv p1, iv p2, iv p3, iv p4, iv p5, iv uk, iv ub, iv um, rv wd_, iv (Int32.ofNat (own_w ub).length), iv uc, yq, iv up, iv (5 : Int32), rv b256, .unset, .unset, .unset] [(.int (9 : Int32)), (.int (5 : Int32))]))
    refine own_goW (fun _ k => XS.icmpYes X294.here hx rfl (pc0 := 351) (pc' := 372) rfl (hb hby at_351) rfl (flt (by decide : ¬ ((9 : Int32) < (5 : Int32)))).2.2.2 (by decide) (by decide) (XS.iload X294.here hx rfl (hb hby at_372) rfl (XS.bipush X294.here hx rfl (hb hby at_374) (XS.icmpYes X294.here hx rfl (pc0 := 376) (pc' := 397) rfl (hb hby at_376) rfl (flt (by decide : ¬ ((10 : Int32) < (5 : Int32)))).2.2.2 (by decide) (by decide) k)))) ?_
    obtain ⟨T296, h296, X296, e296, E296, A296, D296, -, st296⟩ := newO X294 hx hZ hown (ow27 hw) (ow7 hw) (ow6 hw) e294 (g := (mkF m 397 #[iv p1, iv p2, iv p3, iv p4, iv p5, iv uk, iv ub, iv um, rv wd_, iv (Int32.ofNat (own_w ub).length), iv uc, yq, iv up, iv (5 : Int32), rv b256, .unset, .unset, .unset] [])) rfl (hb hby at_397) (by show _ ≤ 32; omega) (by show _ ≤ 8384; omega)
    obtain ⟨b296, g296⟩ : ∃ z, z = h294.size := ⟨_, rfl⟩
    rw [← g296] at A296 D296 st296
    refine own_goW st296 ?_
    clear st296 X294 e294
    have ge296 := Nat.le_of_eq g296.symm
    have ne297 : b256 ≠ b296 := Nat.ne_of_lt (Nat.lt_of_lt_of_le f295.lt ge296)
    have big298 : Z.heap.size ≤ b296 := Nat.le_trans O0.1 ge296
    have sz299 : h0.size ≤ b296 := Nat.le_trans K0.1 ge296
    have sz300 : hs1.size ≤ b296 := Nat.le_trans K1.1 ge296
    replace f295 := f295.ext E296
    replace O0 := own_oldExt O0 E296
    replace K0 := K0.ext E296
    replace K1 := K1.ext E296
    replace hS := own_since hS E296.1
    replace hJ := own_Jext hJ E296
    clear E296
    have f301 : Fld Z h296 b296 "java/lang/String" "value" "[B" .null := D296 (Or.inr (ow9 hw)) (ty := (.array .byte)) own_fd0
    have f302 : Fld Z h296 b296 "java/lang/String" "coder" "B" (.int (0 : Int32)) := D296 (Or.inr (ow10 hw)) (ty := .byte) own_fd1
    show own_GoW p e below s _ _ _ _ (T296.setTop (mkF m 400 #[iv p1, iv p2, iv p3, iv p4, iv p5, iv uk, iv ub, iv um, rv wd_, iv (Int32.ofNat (own_w ub).length), iv uc, yq, iv up, iv (5 : Int32), rv b256, .unset, .unset, .unset] [(.ref b296)]))
    refine own_goW (fun _ k => XS.dup X296.here hx rfl (hb hby at_400) rfl rfl (XS.aload X296.here hx rfl (hb hby at_401) rfl rfl k)) ?_
    obtain ⟨v303, T303, L303, X303, hQ303, st303⟩ := own_callIB (y := own_y1) X296 hx hZ hown (ow28 hw) (ow29 hw) (ow6 hw) (ow30 hw) 1 1 5 (StrChars.Road.backV (W := 1) hZ (own_sw1 hw) (kI := 4) (ow7 hw) (cs := ([(own_cell (own_w ub) um up uc (0 : Int32)), (own_cell (own_w ub) um up uc (1 : Int32)), (own_cell (own_w ub) um up uc (2 : Int32)), (own_cell (own_w ub) um up uc (3 : Int32)), (own_cell (own_w ub) um up uc (4 : Int32))] : List Int32)) (bs := ([(own_cell (own_w ub) um up uc (0 : Int32)), (own_cell (own_w ub) um up uc (1 : Int32)), (own_cell (own_w ub) um up uc (2 : Int32)), (own_cell (own_w ub) um up uc (3 : Int32)), (own_cell (own_w ub) um up uc (4 : Int32))] : List Int32).map (fun c => c.toInt8.toInt32)) (n := 5) (n0 := Z.heap.size) big298 (Nat.le_trans O0.1 (Nat.le_refl _)) A296 f301 f302 f295 (oCS.ext O0) oCz rfl rfl (by decide) (by decide) (own_cC hp262 (own_cC hp269 (own_cC hp276 (own_cC hp283 (own_cC hp290 own_cN))))) rfl (by decide) (by decide)) rfl (by show _ ≤ 32; omega) (by show _ ≤ 8384; omega) e296 (g := (mkF m 403 #[iv p1, iv p2, iv p3, iv p4, iv p5, iv uk, iv ub, iv um, rv wd_, iv (Int32.ofNat (own_w ub).length), iv uc, yq, iv up, iv (5 : Int32), rv b256, .unset, .unset, .unset] [(.ref b256), (.ref b296), (.ref b296)])) rfl (by rw [hml]; rfl) b296 [(.ref b256)] [(.ref b296)] (lenOf own_pd_5 rfl) rfl rfl (hb hby at_403)
    obtain ⟨rfl, Nc303, Kc303, f1303, f2303, t303, kb303, tb303, ts303, tn303, f3303, f4303⟩ := hQ303
    refine own_goW st303 ?_
    clear st303 X296 e296
    replace N0 := Fr.app N0 Nc303
    clear Nc303
    replace hS := own_since hS Kc303.1
    have ne304 : b256 ≠ t303 := Nat.ne_of_lt (Nat.lt_of_lt_of_le f295.lt ts303)
    have ne305 : b296 ≠ t303 := Nat.ne_of_lt (Nat.lt_of_lt_of_le A296.lt ts303)
    have big306 : Z.heap.size ≤ t303 := Nat.le_trans O0.1 ts303
    have sz307 : h0.size ≤ t303 := Nat.le_trans K0.1 ts303
    have sz308 : hs1.size ≤ t303 := Nat.le_trans K1.1 ts303
    have hAp_b296 := own_apart hZ hJ f301
    replace hJ := own_JkeepS hZ hJ Kc303 hAp_b296 A296 (ow7 hw)
    replace f295 := f295.keep Kc303 (ninS ne297 nin0)
    replace A296 := A296.keep Kc303
    clear f301
    clear f302
    replace O0 := own_oldKeep O0 Kc303 (allS big298 all0)
    replace K0 := K0.trans Kc303 (allS (Or.inr sz299) all0)
    replace K1 := K1.trans Kc303 (allS (Or.inr sz300) all0)
    clear Kc303
    replace f4303 : Arv Z T303.heap t303 kb303 .byte (5 : Int32) [(.int ((own_cell (own_w ub) um up uc (0 : Int32)).toInt8.toInt32)), (.int ((own_cell (own_w ub) um up uc (1 : Int32)).toInt8.toInt32)), (.int ((own_cell (own_w ub) um up uc (2 : Int32)).toInt8.toInt32)), (.int ((own_cell (own_w ub) um up uc (3 : Int32)).toInt8.toInt32)), (.int ((own_cell (own_w ub) um up uc (4 : Int32)).toInt8.toInt32))] (.int (0 : Int32)) := f4303
    show own_GoW p e below s _ _ _ _ (T303.setTop (mkF m 406 #[iv p1, iv p2, iv p3, iv p4, iv p5, iv uk, iv ub, iv um, rv wd_, iv (Int32.ofNat (own_w ub).length), iv uc, yq, iv up, iv (5 : Int32), rv b256, .unset, .unset, .unset] [(.ref b296)]))
    have sl309 : own_Sl Z T303.heap b296 (own_nm ub um up uc (5 : Int32)) := by
      rw [own_nm_5]
      exact own_mkSl (cs := [(own_cell (own_w ub) um up uc (0 : Int32)), (own_cell (own_w ub) um up uc (1 : Int32)), (own_cell (own_w ub) um up uc (2 : Int32)), (own_cell (own_w ub) um up uc (3 : Int32)), (own_cell (own_w ub) um up uc (4 : Int32))]) f1303 f2303 f3303 f4303 rfl rfl (own_cC hp262 (own_cC hp269 (own_cC hp276 (own_cC hp283 (own_cC hp290 own_cN))))) (Nat.le_of_ble_eq_true rfl)
    exact sg_s406 hw hO p1 p2 p3 p4 p5 uk ub um uc up (5 : Int32) wd_ (yq : Slot) (rv b256 : Slot) b296 h0 T303.heap X303 hS hL hJ hx hby hml hret hlk hZ hown hnm (rfl : T303.heap = T303.heap) N0 O0 K0 (fp0.keep K1) (own_SlKeep fp1 K1 all0) f1303 sl309 huk hub hum hPN huc (by omega) (by omega)
  · show own_GoW p e below s _ _ _ _ (T.setTop (mkF m 137 #[iv p1, iv p2, iv p3, iv p4, iv p5, iv uk, iv ub, iv um, rv wd_, iv (Int32.ofNat (own_w ub).length), iv uc, yq, iv up, iv (6 : Int32), .unset, .unset, .unset, .unset] [(.int (6 : Int32))]))
    show own_GoW p e below s _ _ _ _ (T.setTop (mkF m 137 #[iv p1, iv p2, iv p3, iv p4, iv p5, iv uk, iv ub, iv um, rv wd_, iv (Int32.ofNat (own_w ub).length), iv uc, yq, iv up, iv (6 : Int32), .unset, .unset, .unset, .unset] [(.int (6 : Int32))]))
    obtain ⟨T310, h310, k310, X310, e310, E310, A310, st310⟩ := newP (aty := .char) X0 hx hZ (ow26 hw) e0 (g := (mkF m 137 #[iv p1, iv p2, iv p3, iv p4, iv p5, iv uk, iv ub, iv um, rv wd_, iv (Int32.ofNat (own_w ub).length), iv uc, yq, iv up, iv (6 : Int32), .unset, .unset, .unset, .unset] [(.int (6 : Int32))])) rfl (hb hby at_137) rfl (by decide) (cap := 6) (by decide) (by decide) (by show _ ≤ 32; omega) (by show _ ≤ 8384; omega)
    obtain ⟨b310, g310⟩ : ∃ z, z = hs1.size := ⟨_, rfl⟩
    rw [← g310] at A310 st310
    refine own_goW st310 ?_
    clear st310 X0 e0
    have ge310 := Nat.le_of_eq g310.symm
    have big311 : Z.heap.size ≤ b310 := Nat.le_trans O0.1 ge310
    have sz312 : h0.size ≤ b310 := Nat.le_trans K0.1 ge310
    have sz313 : hs1.size ≤ b310 := Nat.le_trans K1.1 ge310
    replace O0 := own_oldExt O0 E310
    replace K0 := K0.ext E310
    replace K1 := K1.ext E310
    replace hS := own_since hS E310.1
    replace hJ := own_Jext hJ E310
    clear E310
    have f314 : Arv Z h310 b310 k310 .char (6 : Int32) [(.int (0 : Int32)), (.int (0 : Int32)), (.int (0 : Int32)), (.int (0 : Int32)), (.int (0 : Int32)), (.int (0 : Int32))] (.int (0 : Int32)) := (Arv.new A310 (by decide)).pad (pad_rep [] (.int (0 : Int32)) 6)
    refine own_goW (fun _ k => XS.astore X310.here hx rfl (hb hby at_139) rfl rfl (l' := #[iv p1, iv p2, iv p3, iv p4, iv p5, iv uk, iv ub, iv um, rv wd_, iv (Int32.ofNat (own_w ub).length), iv uc, yq, iv up, iv (6 : Int32), rv b310, .unset, .unset, .unset]) rfl (XS.iload X310.here hx rfl (hb hby at_141) rfl (XS.ifNo X310.here hx rfl (hb hby at_143) rfl ((if0 _ _).trans (tlt (by decide : (0 : Int32) < (6 : Int32))).2.2.2) (XS.aload X310.here hx rfl (hb hby at_146) rfl rfl k)))) ?_
    show own_GoW p e below s _ _ _ _ (T310.setTop (mkF m 148 #[iv p1, iv p2, iv p3, iv p4, iv p5, iv uk, iv ub, iv um, rv wd_, iv (Int32.ofNat (own_w ub).length), iv uc, yq, iv up, iv (6 : Int32), rv b310, .unset, .unset, .unset] [(.ref b310)]))
    refine own_goW (fun _ k => XS.iconst X310.here hx rfl (hb hby at_148) (XS.aload X310.here hx rfl (hb hby at_149) rfl rfl (XS.iload X310.here hx rfl (hb hby at_151) rfl (XS.iload X310.here hx rfl (hb hby at_153) rfl (XS.iload X310.here hx rfl (hb hby at_155) rfl k))))) ?_
    show own_GoW p e below s _ _ _ _ (T310.setTop (mkF m 157 #[iv p1, iv p2, iv p3, iv p4, iv p5, iv uk, iv ub, iv um, rv wd_, iv (Int32.ofNat (own_w ub).length), iv uc, yq, iv up, iv (6 : Int32), rv b310, .unset, .unset, .unset] [(.int uc), (.int up), (.int um), (.ref wd_), (.int (0 : Int32)), (.ref b310)]))
    refine own_goW (fun _ k => XS.iconst X310.here hx rfl (hb hby at_157) k) ?_
    obtain ⟨v315, T315, L315, X315, hQ315, st315⟩ := own_callS (y := own_y7) X310 hx hZ hown (ow53 hw) (ow54 hw) (ow3 hw) (ow55 hw) (rm_cell l Z a0 hw hO [] wd_ um up uc (0 : Int32) (own_w ub) h310 O0 (fp0.keep K1) (own_SlKeep fp1 K1 all0) (own_cokL hub hPN (by decide) (by decide)) huc) 2 0 0 (by show _ ≤ 32; omega) (by show _ ≤ 8384; omega) e310 (g := (mkF m 158 #[iv p1, iv p2, iv p3, iv p4, iv p5, iv uk, iv ub, iv um, rv wd_, iv (Int32.ofNat (own_w ub).length), iv uc, yq, iv up, iv (6 : Int32), rv b310, .unset, .unset, .unset] [(.int (0 : Int32)), (.int uc), (.int up), (.int um), (.ref wd_), (.int (0 : Int32)), (.ref b310)])) rfl (by rw [hml]; rfl) [(.ref wd_), (.int um), (.int up), (.int uc), (.int (0 : Int32))] [(.int (0 : Int32)), (.ref b310)] (lenOf own_pd_6 rfl) rfl rfl (hb hby at_158)
    obtain ⟨rfl, Nc318, hp316, Kc317⟩ := hQ315
    refine own_goW st315 ?_
    clear st315 X310 e310
    replace N0 := Fr.app N0 Nc318
    clear Nc318
    obtain ⟨cl319, Ar319, q319, S319, M319, P319, G319⟩ := id f314
    have hin319 : ¬ ((0 : Int32) < 0 ∨ cl319.slots.size ≤ ((0 : Int32)).toNatClampNeg) := inb_of S319 ⟨by decide, by decide⟩
    obtain ⟨T320, h320, X320, e320, W320, st320⟩ := stC X315 hx hZ Kc317 Ar319 (j := (0 : Int32)) hin319 (g := (mkF m 161 #[iv p1, iv p2, iv p3, iv p4, iv p5, iv uk, iv ub, iv um, rv wd_, iv (Int32.ofNat (own_w ub).length), iv uc, yq, iv up, iv (6 : Int32), rv b310, .unset, .unset, .unset] [(.int (own_cell (own_w ub) um up uc (0 : Int32))), (.int (0 : Int32)), (.ref b310)])) rfl rfl (hb hby at_161)
    refine own_goW st320 ?_
    clear st320 X315 Kc317
    rw [own_nar8 hp316] at W320
    have f321 : Arv Z h320 b310 k310 .char (6 : Int32) [(.int (own_cell (own_w ub) um up uc (0 : Int32))), (.int (0 : Int32)), (.int (0 : Int32)), (.int (0 : Int32)), (.int (0 : Int32)), (.int (0 : Int32))] (.int (0 : Int32)) := Arv.set Ar319 q319 S319 M319 P319 G319 (by have q := fits_nar_char (own_cell (own_w ub) um up uc (0 : Int32)); rw [own_nar8 hp316] at q; exact q) W320 0 rfl (Nat.le_of_ble_eq_true rfl)
    replace N0 := Fr.snoc X320 N0 big311
    replace hJ := own_Jwr hZ hJ W320 (own_farV f314 (by decide) (ow7 hw))
    clear f314
    replace O0 := own_oldWr O0 W320 big311
    replace K0 := K0.wr W320 (Or.inr sz312)
    replace K1 := K1.wr W320 (Or.inr sz313)
    replace hS := own_since hS (Nat.le_of_eq W320.size.symm)
    clear W320
    clear Ar319 q319 S319 M319 P319 G319 hin319
    refine own_goW (fun _ k => XS.iload X320.here hx rfl (hb hby at_162) rfl (XS.iconst X320.here hx rfl (hb hby at_164) k)) ?_
    show own_GoW p e below s _ _ _ _ (T320.setTop (mkF m 165 #[iv p1, iv p2, iv p3, iv p4, iv p5, iv uk, iv ub, iv um, rv wd_, iv (Int32.ofNat (own_w ub).length), iv uc, yq, iv up, iv (6 : Int32), rv b310, .unset, .unset, .unset] [(.int (1 : Int32)), (.int (6 : Int32))]))
    refine own_goW (fun _ k => XS.icmpNo X320.here hx rfl (hb hby at_165) rfl (tlt (by decide : (1 : Int32) < (6 : Int32))).2.2.2 (XS.aload X320.here hx rfl (hb hby at_168) rfl rfl (XS.iconst X320.here hx rfl (hb hby at_170) (XS.aload X320.here hx rfl (hb hby at_171) rfl rfl (XS.iload X320.here hx rfl (hb hby at_173) rfl k))))) ?_
    show own_GoW p e below s _ _ _ _ (T320.setTop (mkF m 175 #[iv p1, iv p2, iv p3, iv p4, iv p5, iv uk, iv ub, iv um, rv wd_, iv (Int32.ofNat (own_w ub).length), iv uc, yq, iv up, iv (6 : Int32), rv b310, .unset, .unset, .unset] [(.int um), (.ref wd_), (.int (1 : Int32)), (.ref b310)]))
    refine own_goW (fun _ k => XS.iload X320.here hx rfl (hb hby at_175) rfl (XS.iload X320.here hx rfl (hb hby at_177) rfl (XS.iconst X320.here hx rfl (hb hby at_179) k))) ?_
    obtain ⟨v322, T322, L322, X322, hQ322, st322⟩ := own_callS (y := own_y7) X320 hx hZ hown (ow53 hw) (ow54 hw) (ow3 hw) (ow55 hw) (rm_cell l Z a0 hw hO [] wd_ um up uc (1 : Int32) (own_w ub) h320 O0 (fp0.keep K1) (own_SlKeep fp1 K1 all0) (own_cokL hub hPN (by decide) (by decide)) huc) 2 0 0 (by show _ ≤ 32; omega) (by show _ ≤ 8384; omega) e320 (g := (mkF m 180 #[iv p1, iv p2, iv p3, iv p4, iv p5, iv uk, iv ub, iv um, rv wd_, iv (Int32.ofNat (own_w ub).length), iv uc, yq, iv up, iv (6 : Int32), rv b310, .unset, .unset, .unset] [(.int (1 : Int32)), (.int uc), (.int up), (.int um), (.ref wd_), (.int (1 : Int32)), (.ref b310)])) rfl (by rw [hml]; rfl) [(.ref wd_), (.int um), (.int up), (.int uc), (.int (1 : Int32))] [(.int (1 : Int32)), (.ref b310)] (lenOf own_pd_6 rfl) rfl rfl (hb hby at_180)
    obtain ⟨rfl, Nc325, hp323, Kc324⟩ := hQ322
    refine own_goW st322 ?_
    clear st322 X320 e320
    replace N0 := Fr.app N0 Nc325
    clear Nc325
    obtain ⟨cl326, Ar326, q326, S326, M326, P326, G326⟩ := id f321
    have hin326 : ¬ ((1 : Int32) < 0 ∨ cl326.slots.size ≤ ((1 : Int32)).toNatClampNeg) := inb_of S326 ⟨by decide, by decide⟩
    obtain ⟨T327, h327, X327, e327, W327, st327⟩ := stC X322 hx hZ Kc324 Ar326 (j := (1 : Int32)) hin326 (g := (mkF m 183 #[iv p1, iv p2, iv p3, iv p4, iv p5, iv uk, iv ub, iv um, rv wd_, iv (Int32.ofNat (own_w ub).length), iv uc, yq, iv up, iv (6 : Int32), rv b310, .unset, .unset, .unset] [(.int (own_cell (own_w ub) um up uc (1 : Int32))), (.int (1 : Int32)), (.ref b310)])) rfl rfl (hb hby at_183)
    refine own_goW st327 ?_
    clear st327 X322 Kc324
    rw [own_nar8 hp323] at W327
    have f328 : Arv Z h327 b310 k310 .char (6 : Int32) [(.int (own_cell (own_w ub) um up uc (0 : Int32))), (.int (own_cell (own_w ub) um up uc (1 : Int32))), (.int (0 : Int32)), (.int (0 : Int32)), (.int (0 : Int32)), (.int (0 : Int32))] (.int (0 : Int32)) := Arv.set Ar326 q326 S326 M326 P326 G326 (by have q := fits_nar_char (own_cell (own_w ub) um up uc (1 : Int32)); rw [own_nar8 hp323] at q; exact q) W327 1 rfl (Nat.le_of_ble_eq_true rfl)
    replace N0 := Fr.snoc X327 N0 big311
    replace hJ := own_Jwr hZ hJ W327 (own_farV f321 (by decide) (ow7 hw))
    clear f321
    replace O0 := own_oldWr O0 W327 big311
    replace K0 := K0.wr W327 (Or.inr sz312)
    replace K1 := K1.wr W327 (Or.inr sz313)
    replace hS := own_since hS (Nat.le_of_eq W327.size.symm)
    clear W327
    clear Ar326 q326 S326 M326 P326 G326 hin326
    show own_GoW p e below s _ _ _ _ (T327.setTop (mkF m 184 #[iv p1, iv p2, iv p3, iv p4, iv p5, iv uk, iv ub, iv um, rv wd_, iv (Int32.ofNat (own_w ub).length), iv uc, yq, iv up, iv (6 : Int32), rv b310, .unset, .unset, .unset] []))
    refine own_goW (fun _ k => XS.iload X327.here hx rfl (hb hby at_184) rfl (XS.iconst X327.here hx rfl (hb hby at_186) (XS.icmpNo X327.here hx rfl (hb hby at_187) rfl (tlt (by decide : (2 : Int32) < (6 : Int32))).2.2.2 (XS.aload X327.here hx rfl (hb hby at_190) rfl rfl (XS.iconst X327.here hx rfl (hb hby at_192) k))))) ?_
    show own_GoW p e below s _ _ _ _ (T327.setTop (mkF m 193 #[iv p1, iv p2, iv p3, iv p4, iv p5, iv uk, iv ub, iv um, rv wd_, iv (Int32.ofNat (own_w ub).length), iv uc, yq, iv up, iv (6 : Int32), rv b310, .unset, .unset, .unset] [(.int (2 : Int32)), (.ref b310)]))
    refine own_goW (fun _ k => XS.aload X327.here hx rfl (hb hby at_193) rfl rfl (XS.iload X327.here hx rfl (hb hby at_195) rfl (XS.iload X327.here hx rfl (hb hby at_197) rfl (XS.iload X327.here hx rfl (hb hby at_199) rfl (XS.iconst X327.here hx rfl (hb hby at_201) k))))) ?_
    show own_GoW p e below s _ _ _ _ (T327.setTop (mkF m 202 #[iv p1, iv p2, iv p3, iv p4, iv p5, iv uk, iv ub, iv um, rv wd_, iv (Int32.ofNat (own_w ub).length), iv uc, yq, iv up, iv (6 : Int32), rv b310, .unset, .unset, .unset] [(.int (2 : Int32)), (.int uc), (.int up), (.int um), (.ref wd_), (.int (2 : Int32)), (.ref b310)]))
    obtain ⟨v329, T329, L329, X329, hQ329, st329⟩ := own_callS (y := own_y7) X327 hx hZ hown (ow53 hw) (ow54 hw) (ow3 hw) (ow55 hw) (rm_cell l Z a0 hw hO [] wd_ um up uc (2 : Int32) (own_w ub) h327 O0 (fp0.keep K1) (own_SlKeep fp1 K1 all0) (own_cokL hub hPN (by decide) (by decide)) huc) 2 0 0 (by show _ ≤ 32; omega) (by show _ ≤ 8384; omega) e327 (g := (mkF m 202 #[iv p1, iv p2, iv p3, iv p4, iv p5, iv uk, iv ub, iv um, rv wd_, iv (Int32.ofNat (own_w ub).length), iv uc, yq, iv up, iv (6 : Int32), rv b310, .unset, .unset, .unset] [(.int (2 : Int32)), (.int uc), (.int up), (.int um), (.ref wd_), (.int (2 : Int32)), (.ref b310)])) rfl (by rw [hml]; rfl) [(.ref wd_), (.int um), (.int up), (.int uc), (.int (2 : Int32))] [(.int (2 : Int32)), (.ref b310)] (lenOf own_pd_6 rfl) rfl rfl (hb hby at_202)
    obtain ⟨rfl, Nc332, hp330, Kc331⟩ := hQ329
    refine own_goW st329 ?_
    clear st329 X327 e327
    replace N0 := Fr.app N0 Nc332
    clear Nc332
    obtain ⟨cl333, Ar333, q333, S333, M333, P333, G333⟩ := id f328
    have hin333 : ¬ ((2 : Int32) < 0 ∨ cl333.slots.size ≤ ((2 : Int32)).toNatClampNeg) := inb_of S333 ⟨by decide, by decide⟩
    obtain ⟨T334, h334, X334, e334, W334, st334⟩ := stC X329 hx hZ Kc331 Ar333 (j := (2 : Int32)) hin333 (g := (mkF m 205 #[iv p1, iv p2, iv p3, iv p4, iv p5, iv uk, iv ub, iv um, rv wd_, iv (Int32.ofNat (own_w ub).length), iv uc, yq, iv up, iv (6 : Int32), rv b310, .unset, .unset, .unset] [(.int (own_cell (own_w ub) um up uc (2 : Int32))), (.int (2 : Int32)), (.ref b310)])) rfl rfl (hb hby at_205)
    refine own_goW st334 ?_
    clear st334 X329 Kc331
    rw [own_nar8 hp330] at W334
    have f335 : Arv Z h334 b310 k310 .char (6 : Int32) [(.int (own_cell (own_w ub) um up uc (0 : Int32))), (.int (own_cell (own_w ub) um up uc (1 : Int32))), (.int (own_cell (own_w ub) um up uc (2 : Int32))), (.int (0 : Int32)), (.int (0 : Int32)), (.int (0 : Int32))] (.int (0 : Int32)) := Arv.set Ar333 q333 S333 M333 P333 G333 (by have q := fits_nar_char (own_cell (own_w ub) um up uc (2 : Int32)); rw [own_nar8 hp330] at q; exact q) W334 2 rfl (Nat.le_of_ble_eq_true rfl)
    replace N0 := Fr.snoc X334 N0 big311
    replace hJ := own_Jwr hZ hJ W334 (own_farV f328 (by decide) (ow7 hw))
    clear f328
    replace O0 := own_oldWr O0 W334 big311
    replace K0 := K0.wr W334 (Or.inr sz312)
    replace K1 := K1.wr W334 (Or.inr sz313)
    replace hS := own_since hS (Nat.le_of_eq W334.size.symm)
    clear W334
    clear Ar333 q333 S333 M333 P333 G333 hin333
    refine own_goW (fun _ k => XS.iload X334.here hx rfl (hb hby at_206) rfl (XS.iconst X334.here hx rfl (hb hby at_208) (XS.icmpNo X334.here hx rfl (hb hby at_209) rfl (tlt (by decide : (3 : Int32) < (6 : Int32))).2.2.2 k))) ?_
    show own_GoW p e below s _ _ _ _ (T334.setTop (mkF m 212 #[iv p1, iv p2, iv p3, iv p4, iv p5, iv uk, iv ub, iv um, rv wd_, iv (Int32.ofNat (own_w ub).length), iv uc, yq, iv up, iv (6 : Int32), rv b310, .unset, .unset, .unset] []))
    refine own_goW (fun _ k => XS.aload X334.here hx rfl (hb hby at_212) rfl rfl (XS.iconst X334.here hx rfl (hb hby at_214) (XS.aload X334.here hx rfl (hb hby at_215) rfl rfl (XS.iload X334.here hx rfl (hb hby at_217) rfl (XS.iload X334.here hx rfl (hb hby at_219) rfl k))))) ?_
    show own_GoW p e below s _ _ _ _ (T334.setTop (mkF m 221 #[iv p1, iv p2, iv p3, iv p4, iv p5, iv uk, iv ub, iv um, rv wd_, iv (Int32.ofNat (own_w ub).length), iv uc, yq, iv up, iv (6 : Int32), rv b310, .unset, .unset, .unset] [(.int up), (.int um), (.ref wd_), (.int (3 : Int32)), (.ref b310)]))
    refine own_goW (fun _ k => XS.iload X334.here hx rfl (hb hby at_221) rfl (XS.iconst X334.here hx rfl (hb hby at_223) k)) ?_
    obtain ⟨v336, T336, L336, X336, hQ336, st336⟩ := own_callS (y := own_y7) X334 hx hZ hown (ow53 hw) (ow54 hw) (ow3 hw) (ow55 hw) (rm_cell l Z a0 hw hO [] wd_ um up uc (3 : Int32) (own_w ub) h334 O0 (fp0.keep K1) (own_SlKeep fp1 K1 all0) (own_cokL hub hPN (by decide) (by decide)) huc) 2 0 0 (by show _ ≤ 32; omega) (by show _ ≤ 8384; omega) e334 (g := (mkF m 224 #[iv p1, iv p2, iv p3, iv p4, iv p5, iv uk, iv ub, iv um, rv wd_, iv (Int32.ofNat (own_w ub).length), iv uc, yq, iv up, iv (6 : Int32), rv b310, .unset, .unset, .unset] [(.int (3 : Int32)), (.int uc), (.int up), (.int um), (.ref wd_), (.int (3 : Int32)), (.ref b310)])) rfl (by rw [hml]; rfl) [(.ref wd_), (.int um), (.int up), (.int uc), (.int (3 : Int32))] [(.int (3 : Int32)), (.ref b310)] (lenOf own_pd_6 rfl) rfl rfl (hb hby at_224)
    obtain ⟨rfl, Nc339, hp337, Kc338⟩ := hQ336
    refine own_goW st336 ?_
    clear st336 X334 e334
    replace N0 := Fr.app N0 Nc339
    clear Nc339
    obtain ⟨cl340, Ar340, q340, S340, M340, P340, G340⟩ := id f335
    have hin340 : ¬ ((3 : Int32) < 0 ∨ cl340.slots.size ≤ ((3 : Int32)).toNatClampNeg) := inb_of S340 ⟨by decide, by decide⟩
    obtain ⟨T341, h341, X341, e341, W341, st341⟩ := stC X336 hx hZ Kc338 Ar340 (j := (3 : Int32)) hin340 (g := (mkF m 227 #[iv p1, iv p2, iv p3, iv p4, iv p5, iv uk, iv ub, iv um, rv wd_, iv (Int32.ofNat (own_w ub).length), iv uc, yq, iv up, iv (6 : Int32), rv b310, .unset, .unset, .unset] [(.int (own_cell (own_w ub) um up uc (3 : Int32))), (.int (3 : Int32)), (.ref b310)])) rfl rfl (hb hby at_227)
    refine own_goW st341 ?_
    clear st341 X336 Kc338
    rw [own_nar8 hp337] at W341
    have f342 : Arv Z h341 b310 k310 .char (6 : Int32) [(.int (own_cell (own_w ub) um up uc (0 : Int32))), (.int (own_cell (own_w ub) um up uc (1 : Int32))), (.int (own_cell (own_w ub) um up uc (2 : Int32))), (.int (own_cell (own_w ub) um up uc (3 : Int32))), (.int (0 : Int32)), (.int (0 : Int32))] (.int (0 : Int32)) := Arv.set Ar340 q340 S340 M340 P340 G340 (by have q := fits_nar_char (own_cell (own_w ub) um up uc (3 : Int32)); rw [own_nar8 hp337] at q; exact q) W341 3 rfl (Nat.le_of_ble_eq_true rfl)
    replace N0 := Fr.snoc X341 N0 big311
    replace hJ := own_Jwr hZ hJ W341 (own_farV f335 (by decide) (ow7 hw))
    clear f335
    replace O0 := own_oldWr O0 W341 big311
    replace K0 := K0.wr W341 (Or.inr sz312)
    replace K1 := K1.wr W341 (Or.inr sz313)
    replace hS := own_since hS (Nat.le_of_eq W341.size.symm)
    clear W341
    clear Ar340 q340 S340 M340 P340 G340 hin340
    refine own_goW (fun _ k => XS.iload X341.here hx rfl (hb hby at_228) rfl k) ?_
    show own_GoW p e below s _ _ _ _ (T341.setTop (mkF m 230 #[iv p1, iv p2, iv p3, iv p4, iv p5, iv uk, iv ub, iv um, rv wd_, iv (Int32.ofNat (own_w ub).length), iv uc, yq, iv up, iv (6 : Int32), rv b310, .unset, .unset, .unset] [(.int (6 : Int32))]))
    refine own_goW (fun _ k => XS.iconst X341.here hx rfl (hb hby at_230) (XS.icmpNo X341.here hx rfl (hb hby at_231) rfl (tlt (by decide : (4 : Int32) < (6 : Int32))).2.2.2 (XS.aload X341.here hx rfl (hb hby at_234) rfl rfl (XS.iconst X341.here hx rfl (hb hby at_236) (XS.aload X341.here hx rfl (hb hby at_237) rfl rfl k))))) ?_
    show own_GoW p e below s _ _ _ _ (T341.setTop (mkF m 239 #[iv p1, iv p2, iv p3, iv p4, iv p5, iv uk, iv ub, iv um, rv wd_, iv (Int32.ofNat (own_w ub).length), iv uc, yq, iv up, iv (6 : Int32), rv b310, .unset, .unset, .unset] [(.ref wd_), (.int (4 : Int32)), (.ref b310)]))
    refine own_goW (fun _ k => XS.iload X341.here hx rfl (hb hby at_239) rfl (XS.iload X341.here hx rfl (hb hby at_241) rfl (XS.iload X341.here hx rfl (hb hby at_243) rfl (XS.iconst X341.here hx rfl (hb hby at_245) k)))) ?_
    obtain ⟨v343, T343, L343, X343, hQ343, st343⟩ := own_callS (y := own_y7) X341 hx hZ hown (ow53 hw) (ow54 hw) (ow3 hw) (ow55 hw) (rm_cell l Z a0 hw hO [] wd_ um up uc (4 : Int32) (own_w ub) h341 O0 (fp0.keep K1) (own_SlKeep fp1 K1 all0) (own_cokL hub hPN (by decide) (by decide)) huc) 2 0 0 (by show _ ≤ 32; omega) (by show _ ≤ 8384; omega) e341 (g := (mkF m 246 #[iv p1, iv p2, iv p3, iv p4, iv p5, iv uk, iv ub, iv um, rv wd_, iv (Int32.ofNat (own_w ub).length), iv uc, yq, iv up, iv (6 : Int32), rv b310, .unset, .unset, .unset] [(.int (4 : Int32)), (.int uc), (.int up), (.int um), (.ref wd_), (.int (4 : Int32)), (.ref b310)])) rfl (by rw [hml]; rfl) [(.ref wd_), (.int um), (.int up), (.int uc), (.int (4 : Int32))] [(.int (4 : Int32)), (.ref b310)] (lenOf own_pd_6 rfl) rfl rfl (hb hby at_246)
    obtain ⟨rfl, Nc346, hp344, Kc345⟩ := hQ343
    refine own_goW st343 ?_
    clear st343 X341 e341
    replace N0 := Fr.app N0 Nc346
    clear Nc346
    show own_GoW p e below s _ _ _ _ (T343.setTop (mkF m 249 #[iv p1, iv p2, iv p3, iv p4, iv p5, iv uk, iv ub, iv um, rv wd_, iv (Int32.ofNat (own_w ub).length), iv uc, yq, iv up, iv (6 : Int32), rv b310, .unset, .unset, .unset] [(.int (own_cell (own_w ub) um up uc (4 : Int32))), (.int (4 : Int32)), (.ref b310)]))
    obtain ⟨cl347, Ar347, q347, S347, M347, P347, G347⟩ := id f342
    have hin347 : ¬ ((4 : Int32) < 0 ∨ cl347.slots.size ≤ ((4 : Int32)).toNatClampNeg) := inb_of S347 ⟨by decide, by decide⟩
    obtain ⟨T348, h348, X348, e348, W348, st348⟩ := stC X343 hx hZ Kc345 Ar347 (j := (4 : Int32)) hin347 (g := (mkF m 249 #[iv p1, iv p2, iv p3, iv p4, iv p5, iv uk, iv ub, iv um, rv wd_, iv (Int32.ofNat (own_w ub).length), iv uc, yq, iv up, iv (6 : Int32), rv b310, .unset, .unset, .unset] [(.int (own_cell (own_w ub) um up uc (4 : Int32))), (.int (4 : Int32)), (.ref b310)])) rfl rfl (hb hby at_249)
    refine own_goW st348 ?_
    clear st348 X343 Kc345
    rw [own_nar8 hp344] at W348
    have f349 : Arv Z h348 b310 k310 .char (6 : Int32) [(.int (own_cell (own_w ub) um up uc (0 : Int32))), (.int (own_cell (own_w ub) um up uc (1 : Int32))), (.int (own_cell (own_w ub) um up uc (2 : Int32))), (.int (own_cell (own_w ub) um up uc (3 : Int32))), (.int (own_cell (own_w ub) um up uc (4 : Int32))), (.int (0 : Int32))] (.int (0 : Int32)) := Arv.set Ar347 q347 S347 M347 P347 G347 (by have q := fits_nar_char (own_cell (own_w ub) um up uc (4 : Int32)); rw [own_nar8 hp344] at q; exact q) W348 4 rfl (Nat.le_of_ble_eq_true rfl)
    replace N0 := Fr.snoc X348 N0 big311
    replace hJ := own_Jwr hZ hJ W348 (own_farV f342 (by decide) (ow7 hw))
    clear f342
    replace O0 := own_oldWr O0 W348 big311
    replace K0 := K0.wr W348 (Or.inr sz312)
    replace K1 := K1.wr W348 (Or.inr sz313)
    replace hS := own_since hS (Nat.le_of_eq W348.size.symm)
    clear W348
    clear Ar347 q347 S347 M347 P347 G347 hin347
    refine own_goW (fun _ k => XS.iload X348.here hx rfl (hb hby at_250) rfl (XS.iconst X348.here hx rfl (hb hby at_252) (XS.icmpNo X348.here hx rfl (hb hby at_253) rfl (tlt (by decide : (5 : Int32) < (6 : Int32))).2.2.2 (XS.aload X348.here hx rfl (hb hby at_256) rfl rfl k)))) ?_
    show own_GoW p e below s _ _ _ _ (T348.setTop (mkF m 258 #[iv p1, iv p2, iv p3, iv p4, iv p5, iv uk, iv ub, iv um, rv wd_, iv (Int32.ofNat (own_w ub).length), iv uc, yq, iv up, iv (6 : Int32), rv b310, .unset, .unset, .unset] [(.ref b310)]))
    refine own_goW (fun _ k => XS.iconst X348.here hx rfl (hb hby at_258) (XS.aload X348.here hx rfl (hb hby at_259) rfl rfl (XS.iload X348.here hx rfl (hb hby at_261) rfl (XS.iload X348.here hx rfl (hb hby at_263) rfl (XS.iload X348.here hx rfl (hb hby at_265) rfl k))))) ?_
    show own_GoW p e below s _ _ _ _ (T348.setTop (mkF m 267 #[iv p1, iv p2, iv p3, iv p4, iv p5, iv uk, iv ub, iv um, rv wd_, iv (Int32.ofNat (own_w ub).length), iv uc, yq, iv up, iv (6 : Int32), rv b310, .unset, .unset, .unset] [(.int uc), (.int up), (.int um), (.ref wd_), (.int (5 : Int32)), (.ref b310)]))
    refine own_goW (fun _ k => XS.iconst X348.here hx rfl (hb hby at_267) k) ?_
    obtain ⟨v350, T350, L350, X350, hQ350, st350⟩ := own_callS (y := own_y7) X348 hx hZ hown (ow53 hw) (ow54 hw) (ow3 hw) (ow55 hw) (rm_cell l Z a0 hw hO [] wd_ um up uc (5 : Int32) (own_w ub) h348 O0 (fp0.keep K1) (own_SlKeep fp1 K1 all0) (own_cokL hub hPN (by decide) (by decide)) huc) 2 0 0 (by show _ ≤ 32; omega) (by show _ ≤ 8384; omega) e348 (g := (mkF m 268 #[iv p1, iv p2, iv p3, iv p4, iv p5, iv uk, iv ub, iv um, rv wd_, iv (Int32.ofNat (own_w ub).length), iv uc, yq, iv up, iv (6 : Int32), rv b310, .unset, .unset, .unset] [(.int (5 : Int32)), (.int uc), (.int up), (.int um), (.ref wd_), (.int (5 : Int32)), (.ref b310)])) rfl (by rw [hml]; rfl) [(.ref wd_), (.int um), (.int up), (.int uc), (.int (5 : Int32))] [(.int (5 : Int32)), (.ref b310)] (lenOf own_pd_6 rfl) rfl rfl (hb hby at_268)
    obtain ⟨rfl, Nc353, hp351, Kc352⟩ := hQ350
    refine own_goW st350 ?_
    clear st350 X348 e348
    replace N0 := Fr.app N0 Nc353
    clear Nc353
    obtain ⟨cl354, Ar354, q354, S354, M354, P354, G354⟩ := id f349
    have hin354 : ¬ ((5 : Int32) < 0 ∨ cl354.slots.size ≤ ((5 : Int32)).toNatClampNeg) := inb_of S354 ⟨by decide, by decide⟩
    obtain ⟨T355, h355, X355, e355, W355, st355⟩ := stC X350 hx hZ Kc352 Ar354 (j := (5 : Int32)) hin354 (g := (mkF m 271 #[iv p1, iv p2, iv p3, iv p4, iv p5, iv uk, iv ub, iv um, rv wd_, iv (Int32.ofNat (own_w ub).length), iv uc, yq, iv up, iv (6 : Int32), rv b310, .unset, .unset, .unset] [(.int (own_cell (own_w ub) um up uc (5 : Int32))), (.int (5 : Int32)), (.ref b310)])) rfl rfl (hb hby at_271)
    refine own_goW st355 ?_
    clear st355 X350 Kc352
    rw [own_nar8 hp351] at W355
    have f356 : Arv Z h355 b310 k310 .char (6 : Int32) [(.int (own_cell (own_w ub) um up uc (0 : Int32))), (.int (own_cell (own_w ub) um up uc (1 : Int32))), (.int (own_cell (own_w ub) um up uc (2 : Int32))), (.int (own_cell (own_w ub) um up uc (3 : Int32))), (.int (own_cell (own_w ub) um up uc (4 : Int32))), (.int (own_cell (own_w ub) um up uc (5 : Int32)))] (.int (0 : Int32)) := Arv.set Ar354 q354 S354 M354 P354 G354 (by have q := fits_nar_char (own_cell (own_w ub) um up uc (5 : Int32)); rw [own_nar8 hp351] at q; exact q) W355 5 rfl (Nat.le_of_ble_eq_true rfl)
    replace N0 := Fr.snoc X355 N0 big311
    replace hJ := own_Jwr hZ hJ W355 (own_farV f349 (by decide) (ow7 hw))
    clear f349
    replace O0 := own_oldWr O0 W355 big311
    replace K0 := K0.wr W355 (Or.inr sz312)
    replace K1 := K1.wr W355 (Or.inr sz313)
    replace hS := own_since hS (Nat.le_of_eq W355.size.symm)
    clear W355
    clear Ar354 q354 S354 M354 P354 G354 hin354
    refine own_goW (fun _ k => XS.iload X355.here hx rfl (hb hby at_272) rfl (XS.bipush X355.here hx rfl (hb hby at_274) k)) ?_
    show own_GoW p e below s _ _ _ _ (T355.setTop (mkF m 276 #[iv p1, iv p2, iv p3, iv p4, iv p5, iv uk, iv ub, iv um, rv wd_, iv (Int32.ofNat (own_w ub).length), iv uc, yq, iv up, iv (6 : Int32), rv b310, .unset, .unset, .unset] [(.int (6 : Int32)), (.int (6 : Int32))]))
    refine own_goW (fun _ k => XS.icmpYes X355.here hx rfl (pc0 := 276) (pc' := 297) rfl (hb hby at_276) rfl (flt (by decide : ¬ ((6 : Int32) < (6 : Int32)))).2.2.2 (by decide) (by decide) (XS.iload X355.here hx rfl (hb hby at_297) rfl (XS.bipush X355.here hx rfl (hb hby at_299) (XS.icmpYes X355.here hx rfl (pc0 := 301) (pc' := 322) rfl (hb hby at_301) rfl (flt (by decide : ¬ ((7 : Int32) < (6 : Int32)))).2.2.2 (by decide) (by decide) (XS.iload X355.here hx rfl (hb hby at_322) rfl k))))) ?_
    show own_GoW p e below s _ _ _ _ (T355.setTop (mkF m 324 #[iv p1, iv p2, iv p3, iv p4, iv p5, iv uk, iv ub, iv um, rv wd_, iv (Int32.ofNat (own_w ub).length), iv uc, yq, iv up, iv (6 : Int32), rv b310, .unset, .unset, .unset] [(.int (6 : Int32))]))
    refine own_goW (fun _ k => XS.bipush X355.here hx rfl (hb hby at_324) (XS.icmpYes X355.here hx rfl (pc0 := 326) (pc' := 347) rfl (hb hby at_326) rfl (flt (by decide : ¬ ((8 : Int32) < (6 : Int32)))).2.2.2 (by decide) (by decide) (XS.iload X355.here hx rfl (hb hby at_347) rfl (XS.bipush X355.here hx rfl (hb hby at_349) (XS.icmpYes X355.here hx rfl (pc0 := 351) (pc' := 372) rfl (hb hby at_351) rfl (flt (by decide : ¬ ((9 : Int32) < (6 : Int32)))).2.2.2 (by decide) (by decide) k))))) ?_
    show own_GoW p e below s _ _ _ _ (T355.setTop (mkF m 372 #[iv p1, iv p2, iv p3, iv p4, iv p5, iv uk, iv ub, iv um, rv wd_, iv (Int32.ofNat (own_w ub).length), iv uc, yq, iv up, iv (6 : Int32), rv b310, .unset, .unset, .unset] []))
    refine own_goW (fun _ k => XS.iload X355.here hx rfl (hb hby at_372) rfl (XS.bipush X355.here hx rfl (hb hby at_374) (XS.icmpYes X355.here hx rfl (pc0 := 376) (pc' := 397) rfl (hb hby at_376) rfl (flt (by decide : ¬ ((10 : Int32) < (6 : Int32)))).2.2.2 (by decide) (by decide) k))) ?_
    obtain ⟨T357, h357, X357, e357, E357, A357, D357, -, st357⟩ := newO X355 hx hZ hown (ow27 hw) (ow7 hw) (ow6 hw) e355 (g := (mkF m 397 #[iv p1, iv p2, iv p3, iv p4, iv p5, iv uk, iv ub, iv um, rv wd_, iv (Int32.ofNat (own_w ub).length), iv uc, yq, iv up, iv (6 : Int32), rv b310, .unset, .unset, .unset] [])) rfl (hb hby at_397) (by show _ ≤ 32; omega) (by show _ ≤ 8384; omega)
    obtain ⟨b357, g357⟩ : ∃ z, z = h355.size := ⟨_, rfl⟩
    rw [← g357] at A357 D357 st357
    refine own_goW st357 ?_
    clear st357 X355 e355
    have ge357 := Nat.le_of_eq g357.symm
    have ne358 : b310 ≠ b357 := Nat.ne_of_lt (Nat.lt_of_lt_of_le f356.lt ge357)
    have big359 : Z.heap.size ≤ b357 := Nat.le_trans O0.1 ge357
    have sz360 : h0.size ≤ b357 := Nat.le_trans K0.1 ge357
    have sz361 : hs1.size ≤ b357 := Nat.le_trans K1.1 ge357
    replace f356 := f356.ext E357
    replace O0 := own_oldExt O0 E357
    replace K0 := K0.ext E357
    replace K1 := K1.ext E357
    replace hS := own_since hS E357.1
    replace hJ := own_Jext hJ E357
    clear E357
    have f362 : Fld Z h357 b357 "java/lang/String" "value" "[B" .null := D357 (Or.inr (ow9 hw)) (ty := (.array .byte)) own_fd0
    have f363 : Fld Z h357 b357 "java/lang/String" "coder" "B" (.int (0 : Int32)) := D357 (Or.inr (ow10 hw)) (ty := .byte) own_fd1
    refine own_goW (fun _ k => XS.dup X357.here hx rfl (hb hby at_400) rfl rfl k) ?_
    show own_GoW p e below s _ _ _ _ (T357.setTop (mkF m 401 #[iv p1, iv p2, iv p3, iv p4, iv p5, iv uk, iv ub, iv um, rv wd_, iv (Int32.ofNat (own_w ub).length), iv uc, yq, iv up, iv (6 : Int32), rv b310, .unset, .unset, .unset] [(.ref b357), (.ref b357)]))
    refine own_goW (fun _ k => XS.aload X357.here hx rfl (hb hby at_401) rfl rfl k) ?_
    obtain ⟨v364, T364, L364, X364, hQ364, st364⟩ := own_callIB (y := own_y1) X357 hx hZ hown (ow28 hw) (ow29 hw) (ow6 hw) (ow30 hw) 1 1 6 (StrChars.Road.backV (W := 1) hZ (own_sw1 hw) (kI := 4) (ow7 hw) (cs := ([(own_cell (own_w ub) um up uc (0 : Int32)), (own_cell (own_w ub) um up uc (1 : Int32)), (own_cell (own_w ub) um up uc (2 : Int32)), (own_cell (own_w ub) um up uc (3 : Int32)), (own_cell (own_w ub) um up uc (4 : Int32)), (own_cell (own_w ub) um up uc (5 : Int32))] : List Int32)) (bs := ([(own_cell (own_w ub) um up uc (0 : Int32)), (own_cell (own_w ub) um up uc (1 : Int32)), (own_cell (own_w ub) um up uc (2 : Int32)), (own_cell (own_w ub) um up uc (3 : Int32)), (own_cell (own_w ub) um up uc (4 : Int32)), (own_cell (own_w ub) um up uc (5 : Int32))] : List Int32).map (fun c => c.toInt8.toInt32)) (n := 6) (n0 := Z.heap.size) big359 (Nat.le_trans O0.1 (Nat.le_refl _)) A357 f362 f363 f356 (oCS.ext O0) oCz rfl rfl (by decide) (by decide) (own_cC hp316 (own_cC hp323 (own_cC hp330 (own_cC hp337 (own_cC hp344 (own_cC hp351 own_cN)))))) rfl (by decide) (by decide)) rfl (by show _ ≤ 32; omega) (by show _ ≤ 8384; omega) e357 (g := (mkF m 403 #[iv p1, iv p2, iv p3, iv p4, iv p5, iv uk, iv ub, iv um, rv wd_, iv (Int32.ofNat (own_w ub).length), iv uc, yq, iv up, iv (6 : Int32), rv b310, .unset, .unset, .unset] [(.ref b310), (.ref b357), (.ref b357)])) rfl (by rw [hml]; rfl) b357 [(.ref b310)] [(.ref b357)] (lenOf own_pd_5 rfl) rfl rfl (hb hby at_403)
    obtain ⟨rfl, Nc364, Kc364, f1364, f2364, t364, kb364, tb364, ts364, tn364, f3364, f4364⟩ := hQ364
    refine own_goW st364 ?_
    clear st364 X357 e357
    replace N0 := Fr.app N0 Nc364
    clear Nc364
    replace hS := own_since hS Kc364.1
    have ne365 : b310 ≠ t364 := Nat.ne_of_lt (Nat.lt_of_lt_of_le f356.lt ts364)
    have ne366 : b357 ≠ t364 := Nat.ne_of_lt (Nat.lt_of_lt_of_le A357.lt ts364)
    have big367 : Z.heap.size ≤ t364 := Nat.le_trans O0.1 ts364
    have sz368 : h0.size ≤ t364 := Nat.le_trans K0.1 ts364
    have sz369 : hs1.size ≤ t364 := Nat.le_trans K1.1 ts364
    have hAp_b357 := own_apart hZ hJ f362
    replace hJ := own_JkeepS hZ hJ Kc364 hAp_b357 A357 (ow7 hw)
    replace f356 := f356.keep Kc364 (ninS ne358 nin0)
    replace A357 := A357.keep Kc364
    clear f362
    clear f363
    replace O0 := own_oldKeep O0 Kc364 (allS big359 all0)
    replace K0 := K0.trans Kc364 (allS (Or.inr sz360) all0)
    replace K1 := K1.trans Kc364 (allS (Or.inr sz361) all0)
    clear Kc364
    replace f4364 : Arv Z T364.heap t364 kb364 .byte (6 : Int32) [(.int ((own_cell (own_w ub) um up uc (0 : Int32)).toInt8.toInt32)), (.int ((own_cell (own_w ub) um up uc (1 : Int32)).toInt8.toInt32)), (.int ((own_cell (own_w ub) um up uc (2 : Int32)).toInt8.toInt32)), (.int ((own_cell (own_w ub) um up uc (3 : Int32)).toInt8.toInt32)), (.int ((own_cell (own_w ub) um up uc (4 : Int32)).toInt8.toInt32)), (.int ((own_cell (own_w ub) um up uc (5 : Int32)).toInt8.toInt32))] (.int (0 : Int32)) := f4364
    show own_GoW p e below s _ _ _ _ (T364.setTop (mkF m 406 #[iv p1, iv p2, iv p3, iv p4, iv p5, iv uk, iv ub, iv um, rv wd_, iv (Int32.ofNat (own_w ub).length), iv uc, yq, iv up, iv (6 : Int32), rv b310, .unset, .unset, .unset] [(.ref b357)]))
    have sl370 : own_Sl Z T364.heap b357 (own_nm ub um up uc (6 : Int32)) := by
      rw [own_nm_6]
      exact own_mkSl (cs := [(own_cell (own_w ub) um up uc (0 : Int32)), (own_cell (own_w ub) um up uc (1 : Int32)), (own_cell (own_w ub) um up uc (2 : Int32)), (own_cell (own_w ub) um up uc (3 : Int32)), (own_cell (own_w ub) um up uc (4 : Int32)), (own_cell (own_w ub) um up uc (5 : Int32))]) f1364 f2364 f3364 f4364 rfl rfl (own_cC hp316 (own_cC hp323 (own_cC hp330 (own_cC hp337 (own_cC hp344 (own_cC hp351 own_cN)))))) (Nat.le_of_ble_eq_true rfl)
    exact sg_s406 hw hO p1 p2 p3 p4 p5 uk ub um uc up (6 : Int32) wd_ (yq : Slot) (rv b310 : Slot) b357 h0 T364.heap X364 hS hL hJ hx hby hml hret hlk hZ hown hnm (rfl : T364.heap = T364.heap) N0 O0 K0 (fp0.keep K1) (own_SlKeep fp1 K1 all0) f1364 sl370 huk hub hum hPN huc (by omega) (by omega)
  · show own_GoW p e below s _ _ _ _ (T.setTop (mkF m 137 #[iv p1, iv p2, iv p3, iv p4, iv p5, iv uk, iv ub, iv um, rv wd_, iv (Int32.ofNat (own_w ub).length), iv uc, yq, iv up, iv (7 : Int32), .unset, .unset, .unset, .unset] [(.int (7 : Int32))]))
    show own_GoW p e below s _ _ _ _ (T.setTop (mkF m 137 #[iv p1, iv p2, iv p3, iv p4, iv p5, iv uk, iv ub, iv um, rv wd_, iv (Int32.ofNat (own_w ub).length), iv uc, yq, iv up, iv (7 : Int32), .unset, .unset, .unset, .unset] [(.int (7 : Int32))]))
    obtain ⟨T371, h371, k371, X371, e371, E371, A371, st371⟩ := newP (aty := .char) X0 hx hZ (ow26 hw) e0 (g := (mkF m 137 #[iv p1, iv p2, iv p3, iv p4, iv p5, iv uk, iv ub, iv um, rv wd_, iv (Int32.ofNat (own_w ub).length), iv uc, yq, iv up, iv (7 : Int32), .unset, .unset, .unset, .unset] [(.int (7 : Int32))])) rfl (hb hby at_137) rfl (by decide) (cap := 7) (by decide) (by decide) (by show _ ≤ 32; omega) (by show _ ≤ 8384; omega)
    obtain ⟨b371, g371⟩ : ∃ z, z = hs1.size := ⟨_, rfl⟩
    rw [← g371] at A371 st371
    refine own_goW st371 ?_
    clear st371 X0 e0
    have ge371 := Nat.le_of_eq g371.symm
    have big372 : Z.heap.size ≤ b371 := Nat.le_trans O0.1 ge371
    have sz373 : h0.size ≤ b371 := Nat.le_trans K0.1 ge371
    have sz374 : hs1.size ≤ b371 := Nat.le_trans K1.1 ge371
    replace O0 := own_oldExt O0 E371
    replace K0 := K0.ext E371
    replace K1 := K1.ext E371
    replace hS := own_since hS E371.1
    replace hJ := own_Jext hJ E371
    clear E371
    have f375 : Arv Z h371 b371 k371 .char (7 : Int32) [(.int (0 : Int32)), (.int (0 : Int32)), (.int (0 : Int32)), (.int (0 : Int32)), (.int (0 : Int32)), (.int (0 : Int32)), (.int (0 : Int32))] (.int (0 : Int32)) := (Arv.new A371 (by decide)).pad (pad_rep [] (.int (0 : Int32)) 7)
    refine own_goW (fun _ k => XS.astore X371.here hx rfl (hb hby at_139) rfl rfl (l' := #[iv p1, iv p2, iv p3, iv p4, iv p5, iv uk, iv ub, iv um, rv wd_, iv (Int32.ofNat (own_w ub).length), iv uc, yq, iv up, iv (7 : Int32), rv b371, .unset, .unset, .unset]) rfl (XS.iload X371.here hx rfl (hb hby at_141) rfl (XS.ifNo X371.here hx rfl (hb hby at_143) rfl ((if0 _ _).trans (tlt (by decide : (0 : Int32) < (7 : Int32))).2.2.2) (XS.aload X371.here hx rfl (hb hby at_146) rfl rfl k)))) ?_
    show own_GoW p e below s _ _ _ _ (T371.setTop (mkF m 148 #[iv p1, iv p2, iv p3, iv p4, iv p5, iv uk, iv ub, iv um, rv wd_, iv (Int32.ofNat (own_w ub).length), iv uc, yq, iv up, iv (7 : Int32), rv b371, .unset, .unset, .unset] [(.ref b371)]))
    refine own_goW (fun _ k => XS.iconst X371.here hx rfl (hb hby at_148) (XS.aload X371.here hx rfl (hb hby at_149) rfl rfl (XS.iload X371.here hx rfl (hb hby at_151) rfl (XS.iload X371.here hx rfl (hb hby at_153) rfl (XS.iload X371.here hx rfl (hb hby at_155) rfl k))))) ?_
    show own_GoW p e below s _ _ _ _ (T371.setTop (mkF m 157 #[iv p1, iv p2, iv p3, iv p4, iv p5, iv uk, iv ub, iv um, rv wd_, iv (Int32.ofNat (own_w ub).length), iv uc, yq, iv up, iv (7 : Int32), rv b371, .unset, .unset, .unset] [(.int uc), (.int up), (.int um), (.ref wd_), (.int (0 : Int32)), (.ref b371)]))
    refine own_goW (fun _ k => XS.iconst X371.here hx rfl (hb hby at_157) k) ?_
    obtain ⟨v376, T376, L376, X376, hQ376, st376⟩ := own_callS (y := own_y7) X371 hx hZ hown (ow53 hw) (ow54 hw) (ow3 hw) (ow55 hw) (rm_cell l Z a0 hw hO [] wd_ um up uc (0 : Int32) (own_w ub) h371 O0 (fp0.keep K1) (own_SlKeep fp1 K1 all0) (own_cokL hub hPN (by decide) (by decide)) huc) 2 0 0 (by show _ ≤ 32; omega) (by show _ ≤ 8384; omega) e371 (g := (mkF m 158 #[iv p1, iv p2, iv p3, iv p4, iv p5, iv uk, iv ub, iv um, rv wd_, iv (Int32.ofNat (own_w ub).length), iv uc, yq, iv up, iv (7 : Int32), rv b371, .unset, .unset, .unset] [(.int (0 : Int32)), (.int uc), (.int up), (.int um), (.ref wd_), (.int (0 : Int32)), (.ref b371)])) rfl (by rw [hml]; rfl) [(.ref wd_), (.int um), (.int up), (.int uc), (.int (0 : Int32))] [(.int (0 : Int32)), (.ref b371)] (lenOf own_pd_6 rfl) rfl rfl (hb hby at_158)
    obtain ⟨rfl, Nc379, hp377, Kc378⟩ := hQ376
    refine own_goW st376 ?_
    clear st376 X371 e371
    replace N0 := Fr.app N0 Nc379
    clear Nc379
    obtain ⟨cl380, Ar380, q380, S380, M380, P380, G380⟩ := id f375
    have hin380 : ¬ ((0 : Int32) < 0 ∨ cl380.slots.size ≤ ((0 : Int32)).toNatClampNeg) := inb_of S380 ⟨by decide, by decide⟩
    obtain ⟨T381, h381, X381, e381, W381, st381⟩ := stC X376 hx hZ Kc378 Ar380 (j := (0 : Int32)) hin380 (g := (mkF m 161 #[iv p1, iv p2, iv p3, iv p4, iv p5, iv uk, iv ub, iv um, rv wd_, iv (Int32.ofNat (own_w ub).length), iv uc, yq, iv up, iv (7 : Int32), rv b371, .unset, .unset, .unset] [(.int (own_cell (own_w ub) um up uc (0 : Int32))), (.int (0 : Int32)), (.ref b371)])) rfl rfl (hb hby at_161)
    refine own_goW st381 ?_
    clear st381 X376 Kc378
    rw [own_nar8 hp377] at W381
    have f382 : Arv Z h381 b371 k371 .char (7 : Int32) [(.int (own_cell (own_w ub) um up uc (0 : Int32))), (.int (0 : Int32)), (.int (0 : Int32)), (.int (0 : Int32)), (.int (0 : Int32)), (.int (0 : Int32)), (.int (0 : Int32))] (.int (0 : Int32)) := Arv.set Ar380 q380 S380 M380 P380 G380 (by have q := fits_nar_char (own_cell (own_w ub) um up uc (0 : Int32)); rw [own_nar8 hp377] at q; exact q) W381 0 rfl (Nat.le_of_ble_eq_true rfl)
    replace N0 := Fr.snoc X381 N0 big372
    replace hJ := own_Jwr hZ hJ W381 (own_farV f375 (by decide) (ow7 hw))
    clear f375
    replace O0 := own_oldWr O0 W381 big372
    replace K0 := K0.wr W381 (Or.inr sz373)
    replace K1 := K1.wr W381 (Or.inr sz374)
    replace hS := own_since hS (Nat.le_of_eq W381.size.symm)
    clear W381
    clear Ar380 q380 S380 M380 P380 G380 hin380
    refine own_goW (fun _ k => XS.iload X381.here hx rfl (hb hby at_162) rfl (XS.iconst X381.here hx rfl (hb hby at_164) k)) ?_
    show own_GoW p e below s _ _ _ _ (T381.setTop (mkF m 165 #[iv p1, iv p2, iv p3, iv p4, iv p5, iv uk, iv ub, iv um, rv wd_, iv (Int32.ofNat (own_w ub).length), iv uc, yq, iv up, iv (7 : Int32), rv b371, .unset, .unset, .unset] [(.int (1 : Int32)), (.int (7 : Int32))]))
    refine own_goW (fun _ k => XS.icmpNo X381.here hx rfl (hb hby at_165) rfl (tlt (by decide : (1 : Int32) < (7 : Int32))).2.2.2 (XS.aload X381.here hx rfl (hb hby at_168) rfl rfl (XS.iconst X381.here hx rfl (hb hby at_170) (XS.aload X381.here hx rfl (hb hby at_171) rfl rfl (XS.iload X381.here hx rfl (hb hby at_173) rfl k))))) ?_
    show own_GoW p e below s _ _ _ _ (T381.setTop (mkF m 175 #[iv p1, iv p2, iv p3, iv p4, iv p5, iv uk, iv ub, iv um, rv wd_, iv (Int32.ofNat (own_w ub).length), iv uc, yq, iv up, iv (7 : Int32), rv b371, .unset, .unset, .unset] [(.int um), (.ref wd_), (.int (1 : Int32)), (.ref b371)]))
    refine own_goW (fun _ k => XS.iload X381.here hx rfl (hb hby at_175) rfl (XS.iload X381.here hx rfl (hb hby at_177) rfl (XS.iconst X381.here hx rfl (hb hby at_179) k))) ?_
    obtain ⟨v383, T383, L383, X383, hQ383, st383⟩ := own_callS (y := own_y7) X381 hx hZ hown (ow53 hw) (ow54 hw) (ow3 hw) (ow55 hw) (rm_cell l Z a0 hw hO [] wd_ um up uc (1 : Int32) (own_w ub) h381 O0 (fp0.keep K1) (own_SlKeep fp1 K1 all0) (own_cokL hub hPN (by decide) (by decide)) huc) 2 0 0 (by show _ ≤ 32; omega) (by show _ ≤ 8384; omega) e381 (g := (mkF m 180 #[iv p1, iv p2, iv p3, iv p4, iv p5, iv uk, iv ub, iv um, rv wd_, iv (Int32.ofNat (own_w ub).length), iv uc, yq, iv up, iv (7 : Int32), rv b371, .unset, .unset, .unset] [(.int (1 : Int32)), (.int uc), (.int up), (.int um), (.ref wd_), (.int (1 : Int32)), (.ref b371)])) rfl (by rw [hml]; rfl) [(.ref wd_), (.int um), (.int up), (.int uc), (.int (1 : Int32))] [(.int (1 : Int32)), (.ref b371)] (lenOf own_pd_6 rfl) rfl rfl (hb hby at_180)
    obtain ⟨rfl, Nc386, hp384, Kc385⟩ := hQ383
    refine own_goW st383 ?_
    clear st383 X381 e381
    replace N0 := Fr.app N0 Nc386
    clear Nc386
    obtain ⟨cl387, Ar387, q387, S387, M387, P387, G387⟩ := id f382
    have hin387 : ¬ ((1 : Int32) < 0 ∨ cl387.slots.size ≤ ((1 : Int32)).toNatClampNeg) := inb_of S387 ⟨by decide, by decide⟩
    obtain ⟨T388, h388, X388, e388, W388, st388⟩ := stC X383 hx hZ Kc385 Ar387 (j := (1 : Int32)) hin387 (g := (mkF m 183 #[iv p1, iv p2, iv p3, iv p4, iv p5, iv uk, iv ub, iv um, rv wd_, iv (Int32.ofNat (own_w ub).length), iv uc, yq, iv up, iv (7 : Int32), rv b371, .unset, .unset, .unset] [(.int (own_cell (own_w ub) um up uc (1 : Int32))), (.int (1 : Int32)), (.ref b371)])) rfl rfl (hb hby at_183)
    refine own_goW st388 ?_
    clear st388 X383 Kc385
    rw [own_nar8 hp384] at W388
    have f389 : Arv Z h388 b371 k371 .char (7 : Int32) [(.int (own_cell (own_w ub) um up uc (0 : Int32))), (.int (own_cell (own_w ub) um up uc (1 : Int32))), (.int (0 : Int32)), (.int (0 : Int32)), (.int (0 : Int32)), (.int (0 : Int32)), (.int (0 : Int32))] (.int (0 : Int32)) := Arv.set Ar387 q387 S387 M387 P387 G387 (by have q := fits_nar_char (own_cell (own_w ub) um up uc (1 : Int32)); rw [own_nar8 hp384] at q; exact q) W388 1 rfl (Nat.le_of_ble_eq_true rfl)
    replace N0 := Fr.snoc X388 N0 big372
    replace hJ := own_Jwr hZ hJ W388 (own_farV f382 (by decide) (ow7 hw))
    clear f382
    replace O0 := own_oldWr O0 W388 big372
    replace K0 := K0.wr W388 (Or.inr sz373)
    replace K1 := K1.wr W388 (Or.inr sz374)
    replace hS := own_since hS (Nat.le_of_eq W388.size.symm)
    clear W388
    clear Ar387 q387 S387 M387 P387 G387 hin387
    show own_GoW p e below s _ _ _ _ (T388.setTop (mkF m 184 #[iv p1, iv p2, iv p3, iv p4, iv p5, iv uk, iv ub, iv um, rv wd_, iv (Int32.ofNat (own_w ub).length), iv uc, yq, iv up, iv (7 : Int32), rv b371, .unset, .unset, .unset] []))
    refine own_goW (fun _ k => XS.iload X388.here hx rfl (hb hby at_184) rfl (XS.iconst X388.here hx rfl (hb hby at_186) (XS.icmpNo X388.here hx rfl (hb hby at_187) rfl (tlt (by decide : (2 : Int32) < (7 : Int32))).2.2.2 (XS.aload X388.here hx rfl (hb hby at_190) rfl rfl (XS.iconst X388.here hx rfl (hb hby at_192) k))))) ?_
    show own_GoW p e below s _ _ _ _ (T388.setTop (mkF m 193 #[iv p1, iv p2, iv p3, iv p4, iv p5, iv uk, iv ub, iv um, rv wd_, iv (Int32.ofNat (own_w ub).length), iv uc, yq, iv up, iv (7 : Int32), rv b371, .unset, .unset, .unset] [(.int (2 : Int32)), (.ref b371)]))
    refine own_goW (fun _ k => XS.aload X388.here hx rfl (hb hby at_193) rfl rfl (XS.iload X388.here hx rfl (hb hby at_195) rfl (XS.iload X388.here hx rfl (hb hby at_197) rfl (XS.iload X388.here hx rfl (hb hby at_199) rfl (XS.iconst X388.here hx rfl (hb hby at_201) k))))) ?_
    show own_GoW p e below s _ _ _ _ (T388.setTop (mkF m 202 #[iv p1, iv p2, iv p3, iv p4, iv p5, iv uk, iv ub, iv um, rv wd_, iv (Int32.ofNat (own_w ub).length), iv uc, yq, iv up, iv (7 : Int32), rv b371, .unset, .unset, .unset] [(.int (2 : Int32)), (.int uc), (.int up), (.int um), (.ref wd_), (.int (2 : Int32)), (.ref b371)]))
    obtain ⟨v390, T390, L390, X390, hQ390, st390⟩ := own_callS (y := own_y7) X388 hx hZ hown (ow53 hw) (ow54 hw) (ow3 hw) (ow55 hw) (rm_cell l Z a0 hw hO [] wd_ um up uc (2 : Int32) (own_w ub) h388 O0 (fp0.keep K1) (own_SlKeep fp1 K1 all0) (own_cokL hub hPN (by decide) (by decide)) huc) 2 0 0 (by show _ ≤ 32; omega) (by show _ ≤ 8384; omega) e388 (g := (mkF m 202 #[iv p1, iv p2, iv p3, iv p4, iv p5, iv uk, iv ub, iv um, rv wd_, iv (Int32.ofNat (own_w ub).length), iv uc, yq, iv up, iv (7 : Int32), rv b371, .unset, .unset, .unset] [(.int (2 : Int32)), (.int uc), (.int up), (.int um), (.ref wd_), (.int (2 : Int32)), (.ref b371)])) rfl (by rw [hml]; rfl) [(.ref wd_), (.int um), (.int up), (.int uc), (.int (2 : Int32))] [(.int (2 : Int32)), (.ref b371)] (lenOf own_pd_6 rfl) rfl rfl (hb hby at_202)
    obtain ⟨rfl, Nc393, hp391, Kc392⟩ := hQ390
    refine own_goW st390 ?_
    clear st390 X388 e388
    replace N0 := Fr.app N0 Nc393
    clear Nc393
    obtain ⟨cl394, Ar394, q394, S394, M394, P394, G394⟩ := id f389
    have hin394 : ¬ ((2 : Int32) < 0 ∨ cl394.slots.size ≤ ((2 : Int32)).toNatClampNeg) := inb_of S394 ⟨by decide, by decide⟩
    obtain ⟨T395, h395, X395, e395, W395, st395⟩ := stC X390 hx hZ Kc392 Ar394 (j := (2 : Int32)) hin394 (g := (mkF m 205 #[iv p1, iv p2, iv p3, iv p4, iv p5, iv uk, iv ub, iv um, rv wd_, iv (Int32.ofNat (own_w ub).length), iv uc, yq, iv up, iv (7 : Int32), rv b371, .unset, .unset, .unset] [(.int (own_cell (own_w ub) um up uc (2 : Int32))), (.int (2 : Int32)), (.ref b371)])) rfl rfl (hb hby at_205)
    refine own_goW st395 ?_
    clear st395 X390 Kc392
    rw [own_nar8 hp391] at W395
    have f396 : Arv Z h395 b371 k371 .char (7 : Int32) [(.int (own_cell (own_w ub) um up uc (0 : Int32))), (.int (own_cell (own_w ub) um up uc (1 : Int32))), (.int (own_cell (own_w ub) um up uc (2 : Int32))), (.int (0 : Int32)), (.int (0 : Int32)), (.int (0 : Int32)), (.int (0 : Int32))] (.int (0 : Int32)) := Arv.set Ar394 q394 S394 M394 P394 G394 (by have q := fits_nar_char (own_cell (own_w ub) um up uc (2 : Int32)); rw [own_nar8 hp391] at q; exact q) W395 2 rfl (Nat.le_of_ble_eq_true rfl)
    replace N0 := Fr.snoc X395 N0 big372
    replace hJ := own_Jwr hZ hJ W395 (own_farV f389 (by decide) (ow7 hw))
    clear f389
    replace O0 := own_oldWr O0 W395 big372
    replace K0 := K0.wr W395 (Or.inr sz373)
    replace K1 := K1.wr W395 (Or.inr sz374)
    replace hS := own_since hS (Nat.le_of_eq W395.size.symm)
    clear W395
    clear Ar394 q394 S394 M394 P394 G394 hin394
    refine own_goW (fun _ k => XS.iload X395.here hx rfl (hb hby at_206) rfl (XS.iconst X395.here hx rfl (hb hby at_208) (XS.icmpNo X395.here hx rfl (hb hby at_209) rfl (tlt (by decide : (3 : Int32) < (7 : Int32))).2.2.2 k))) ?_
    show own_GoW p e below s _ _ _ _ (T395.setTop (mkF m 212 #[iv p1, iv p2, iv p3, iv p4, iv p5, iv uk, iv ub, iv um, rv wd_, iv (Int32.ofNat (own_w ub).length), iv uc, yq, iv up, iv (7 : Int32), rv b371, .unset, .unset, .unset] []))
    refine own_goW (fun _ k => XS.aload X395.here hx rfl (hb hby at_212) rfl rfl (XS.iconst X395.here hx rfl (hb hby at_214) (XS.aload X395.here hx rfl (hb hby at_215) rfl rfl (XS.iload X395.here hx rfl (hb hby at_217) rfl (XS.iload X395.here hx rfl (hb hby at_219) rfl k))))) ?_
    show own_GoW p e below s _ _ _ _ (T395.setTop (mkF m 221 #[iv p1, iv p2, iv p3, iv p4, iv p5, iv uk, iv ub, iv um, rv wd_, iv (Int32.ofNat (own_w ub).length), iv uc, yq, iv up, iv (7 : Int32), rv b371, .unset, .unset, .unset] [(.int up), (.int um), (.ref wd_), (.int (3 : Int32)), (.ref b371)]))
    refine own_goW (fun _ k => XS.iload X395.here hx rfl (hb hby at_221) rfl (XS.iconst X395.here hx rfl (hb hby at_223) k)) ?_
    obtain ⟨v397, T397, L397, X397, hQ397, st397⟩ := own_callS (y := own_y7) X395 hx hZ hown (ow53 hw) (ow54 hw) (ow3 hw) (ow55 hw) (rm_cell l Z a0 hw hO [] wd_ um up uc (3 : Int32) (own_w ub) h395 O0 (fp0.keep K1) (own_SlKeep fp1 K1 all0) (own_cokL hub hPN (by decide) (by decide)) huc) 2 0 0 (by show _ ≤ 32; omega) (by show _ ≤ 8384; omega) e395 (g := (mkF m 224 #[iv p1, iv p2, iv p3, iv p4, iv p5, iv uk, iv ub, iv um, rv wd_, iv (Int32.ofNat (own_w ub).length), iv uc, yq, iv up, iv (7 : Int32), rv b371, .unset, .unset, .unset] [(.int (3 : Int32)), (.int uc), (.int up), (.int um), (.ref wd_), (.int (3 : Int32)), (.ref b371)])) rfl (by rw [hml]; rfl) [(.ref wd_), (.int um), (.int up), (.int uc), (.int (3 : Int32))] [(.int (3 : Int32)), (.ref b371)] (lenOf own_pd_6 rfl) rfl rfl (hb hby at_224)
    obtain ⟨rfl, Nc400, hp398, Kc399⟩ := hQ397
    refine own_goW st397 ?_
    clear st397 X395 e395
    replace N0 := Fr.app N0 Nc400
    clear Nc400
    obtain ⟨cl401, Ar401, q401, S401, M401, P401, G401⟩ := id f396
    have hin401 : ¬ ((3 : Int32) < 0 ∨ cl401.slots.size ≤ ((3 : Int32)).toNatClampNeg) := inb_of S401 ⟨by decide, by decide⟩
    obtain ⟨T402, h402, X402, e402, W402, st402⟩ := stC X397 hx hZ Kc399 Ar401 (j := (3 : Int32)) hin401 (g := (mkF m 227 #[iv p1, iv p2, iv p3, iv p4, iv p5, iv uk, iv ub, iv um, rv wd_, iv (Int32.ofNat (own_w ub).length), iv uc, yq, iv up, iv (7 : Int32), rv b371, .unset, .unset, .unset] [(.int (own_cell (own_w ub) um up uc (3 : Int32))), (.int (3 : Int32)), (.ref b371)])) rfl rfl (hb hby at_227)
    refine own_goW st402 ?_
    clear st402 X397 Kc399
    rw [own_nar8 hp398] at W402
    have f403 : Arv Z h402 b371 k371 .char (7 : Int32) [(.int (own_cell (own_w ub) um up uc (0 : Int32))), (.int (own_cell (own_w ub) um up uc (1 : Int32))), (.int (own_cell (own_w ub) um up uc (2 : Int32))), (.int (own_cell (own_w ub) um up uc (3 : Int32))), (.int (0 : Int32)), (.int (0 : Int32)), (.int (0 : Int32))] (.int (0 : Int32)) := Arv.set Ar401 q401 S401 M401 P401 G401 (by have q := fits_nar_char (own_cell (own_w ub) um up uc (3 : Int32)); rw [own_nar8 hp398] at q; exact q) W402 3 rfl (Nat.le_of_ble_eq_true rfl)
    replace N0 := Fr.snoc X402 N0 big372
    replace hJ := own_Jwr hZ hJ W402 (own_farV f396 (by decide) (ow7 hw))
    clear f396
    replace O0 := own_oldWr O0 W402 big372
    replace K0 := K0.wr W402 (Or.inr sz373)
    replace K1 := K1.wr W402 (Or.inr sz374)
    replace hS := own_since hS (Nat.le_of_eq W402.size.symm)
    clear W402
    clear Ar401 q401 S401 M401 P401 G401 hin401
    refine own_goW (fun _ k => XS.iload X402.here hx rfl (hb hby at_228) rfl k) ?_
    show own_GoW p e below s _ _ _ _ (T402.setTop (mkF m 230 #[iv p1, iv p2, iv p3, iv p4, iv p5, iv uk, iv ub, iv um, rv wd_, iv (Int32.ofNat (own_w ub).length), iv uc, yq, iv up, iv (7 : Int32), rv b371, .unset, .unset, .unset] [(.int (7 : Int32))]))
    refine own_goW (fun _ k => XS.iconst X402.here hx rfl (hb hby at_230) (XS.icmpNo X402.here hx rfl (hb hby at_231) rfl (tlt (by decide : (4 : Int32) < (7 : Int32))).2.2.2 (XS.aload X402.here hx rfl (hb hby at_234) rfl rfl (XS.iconst X402.here hx rfl (hb hby at_236) (XS.aload X402.here hx rfl (hb hby at_237) rfl rfl k))))) ?_
    show own_GoW p e below s _ _ _ _ (T402.setTop (mkF m 239 #[iv p1, iv p2, iv p3, iv p4, iv p5, iv uk, iv ub, iv um, rv wd_, iv (Int32.ofNat (own_w ub).length), iv uc, yq, iv up, iv (7 : Int32), rv b371, .unset, .unset, .unset] [(.ref wd_), (.int (4 : Int32)), (.ref b371)]))
    refine own_goW (fun _ k => XS.iload X402.here hx rfl (hb hby at_239) rfl (XS.iload X402.here hx rfl (hb hby at_241) rfl (XS.iload X402.here hx rfl (hb hby at_243) rfl (XS.iconst X402.here hx rfl (hb hby at_245) k)))) ?_
    obtain ⟨v404, T404, L404, X404, hQ404, st404⟩ := own_callS (y := own_y7) X402 hx hZ hown (ow53 hw) (ow54 hw) (ow3 hw) (ow55 hw) (rm_cell l Z a0 hw hO [] wd_ um up uc (4 : Int32) (own_w ub) h402 O0 (fp0.keep K1) (own_SlKeep fp1 K1 all0) (own_cokL hub hPN (by decide) (by decide)) huc) 2 0 0 (by show _ ≤ 32; omega) (by show _ ≤ 8384; omega) e402 (g := (mkF m 246 #[iv p1, iv p2, iv p3, iv p4, iv p5, iv uk, iv ub, iv um, rv wd_, iv (Int32.ofNat (own_w ub).length), iv uc, yq, iv up, iv (7 : Int32), rv b371, .unset, .unset, .unset] [(.int (4 : Int32)), (.int uc), (.int up), (.int um), (.ref wd_), (.int (4 : Int32)), (.ref b371)])) rfl (by rw [hml]; rfl) [(.ref wd_), (.int um), (.int up), (.int uc), (.int (4 : Int32))] [(.int (4 : Int32)), (.ref b371)] (lenOf own_pd_6 rfl) rfl rfl (hb hby at_246)
    obtain ⟨rfl, Nc407, hp405, Kc406⟩ := hQ404
    refine own_goW st404 ?_
    clear st404 X402 e402
    replace N0 := Fr.app N0 Nc407
    clear Nc407
    show own_GoW p e below s _ _ _ _ (T404.setTop (mkF m 249 #[iv p1, iv p2, iv p3, iv p4, iv p5, iv uk, iv ub, iv um, rv wd_, iv (Int32.ofNat (own_w ub).length), iv uc, yq, iv up, iv (7 : Int32), rv b371, .unset, .unset, .unset] [(.int (own_cell (own_w ub) um up uc (4 : Int32))), (.int (4 : Int32)), (.ref b371)]))
    obtain ⟨cl408, Ar408, q408, S408, M408, P408, G408⟩ := id f403
    have hin408 : ¬ ((4 : Int32) < 0 ∨ cl408.slots.size ≤ ((4 : Int32)).toNatClampNeg) := inb_of S408 ⟨by decide, by decide⟩
    obtain ⟨T409, h409, X409, e409, W409, st409⟩ := stC X404 hx hZ Kc406 Ar408 (j := (4 : Int32)) hin408 (g := (mkF m 249 #[iv p1, iv p2, iv p3, iv p4, iv p5, iv uk, iv ub, iv um, rv wd_, iv (Int32.ofNat (own_w ub).length), iv uc, yq, iv up, iv (7 : Int32), rv b371, .unset, .unset, .unset] [(.int (own_cell (own_w ub) um up uc (4 : Int32))), (.int (4 : Int32)), (.ref b371)])) rfl rfl (hb hby at_249)
    refine own_goW st409 ?_
    clear st409 X404 Kc406
    rw [own_nar8 hp405] at W409
    have f410 : Arv Z h409 b371 k371 .char (7 : Int32) [(.int (own_cell (own_w ub) um up uc (0 : Int32))), (.int (own_cell (own_w ub) um up uc (1 : Int32))), (.int (own_cell (own_w ub) um up uc (2 : Int32))), (.int (own_cell (own_w ub) um up uc (3 : Int32))), (.int (own_cell (own_w ub) um up uc (4 : Int32))), (.int (0 : Int32)), (.int (0 : Int32))] (.int (0 : Int32)) := Arv.set Ar408 q408 S408 M408 P408 G408 (by have q := fits_nar_char (own_cell (own_w ub) um up uc (4 : Int32)); rw [own_nar8 hp405] at q; exact q) W409 4 rfl (Nat.le_of_ble_eq_true rfl)
    replace N0 := Fr.snoc X409 N0 big372
    replace hJ := own_Jwr hZ hJ W409 (own_farV f403 (by decide) (ow7 hw))
    clear f403
    replace O0 := own_oldWr O0 W409 big372
    replace K0 := K0.wr W409 (Or.inr sz373)
    replace K1 := K1.wr W409 (Or.inr sz374)
    replace hS := own_since hS (Nat.le_of_eq W409.size.symm)
    clear W409
    clear Ar408 q408 S408 M408 P408 G408 hin408
    refine own_goW (fun _ k => XS.iload X409.here hx rfl (hb hby at_250) rfl (XS.iconst X409.here hx rfl (hb hby at_252) (XS.icmpNo X409.here hx rfl (hb hby at_253) rfl (tlt (by decide : (5 : Int32) < (7 : Int32))).2.2.2 (XS.aload X409.here hx rfl (hb hby at_256) rfl rfl k)))) ?_
    show own_GoW p e below s _ _ _ _ (T409.setTop (mkF m 258 #[iv p1, iv p2, iv p3, iv p4, iv p5, iv uk, iv ub, iv um, rv wd_, iv (Int32.ofNat (own_w ub).length), iv uc, yq, iv up, iv (7 : Int32), rv b371, .unset, .unset, .unset] [(.ref b371)]))
    refine own_goW (fun _ k => XS.iconst X409.here hx rfl (hb hby at_258) (XS.aload X409.here hx rfl (hb hby at_259) rfl rfl (XS.iload X409.here hx rfl (hb hby at_261) rfl (XS.iload X409.here hx rfl (hb hby at_263) rfl (XS.iload X409.here hx rfl (hb hby at_265) rfl k))))) ?_
    show own_GoW p e below s _ _ _ _ (T409.setTop (mkF m 267 #[iv p1, iv p2, iv p3, iv p4, iv p5, iv uk, iv ub, iv um, rv wd_, iv (Int32.ofNat (own_w ub).length), iv uc, yq, iv up, iv (7 : Int32), rv b371, .unset, .unset, .unset] [(.int uc), (.int up), (.int um), (.ref wd_), (.int (5 : Int32)), (.ref b371)]))
    refine own_goW (fun _ k => XS.iconst X409.here hx rfl (hb hby at_267) k) ?_
    obtain ⟨v411, T411, L411, X411, hQ411, st411⟩ := own_callS (y := own_y7) X409 hx hZ hown (ow53 hw) (ow54 hw) (ow3 hw) (ow55 hw) (rm_cell l Z a0 hw hO [] wd_ um up uc (5 : Int32) (own_w ub) h409 O0 (fp0.keep K1) (own_SlKeep fp1 K1 all0) (own_cokL hub hPN (by decide) (by decide)) huc) 2 0 0 (by show _ ≤ 32; omega) (by show _ ≤ 8384; omega) e409 (g := (mkF m 268 #[iv p1, iv p2, iv p3, iv p4, iv p5, iv uk, iv ub, iv um, rv wd_, iv (Int32.ofNat (own_w ub).length), iv uc, yq, iv up, iv (7 : Int32), rv b371, .unset, .unset, .unset] [(.int (5 : Int32)), (.int uc), (.int up), (.int um), (.ref wd_), (.int (5 : Int32)), (.ref b371)])) rfl (by rw [hml]; rfl) [(.ref wd_), (.int um), (.int up), (.int uc), (.int (5 : Int32))] [(.int (5 : Int32)), (.ref b371)] (lenOf own_pd_6 rfl) rfl rfl (hb hby at_268)
    obtain ⟨rfl, Nc414, hp412, Kc413⟩ := hQ411
    refine own_goW st411 ?_
    clear st411 X409 e409
    replace N0 := Fr.app N0 Nc414
    clear Nc414
    obtain ⟨cl415, Ar415, q415, S415, M415, P415, G415⟩ := id f410
    have hin415 : ¬ ((5 : Int32) < 0 ∨ cl415.slots.size ≤ ((5 : Int32)).toNatClampNeg) := inb_of S415 ⟨by decide, by decide⟩
    obtain ⟨T416, h416, X416, e416, W416, st416⟩ := stC X411 hx hZ Kc413 Ar415 (j := (5 : Int32)) hin415 (g := (mkF m 271 #[iv p1, iv p2, iv p3, iv p4, iv p5, iv uk, iv ub, iv um, rv wd_, iv (Int32.ofNat (own_w ub).length), iv uc, yq, iv up, iv (7 : Int32), rv b371, .unset, .unset, .unset] [(.int (own_cell (own_w ub) um up uc (5 : Int32))), (.int (5 : Int32)), (.ref b371)])) rfl rfl (hb hby at_271)
    refine own_goW st416 ?_
    clear st416 X411 Kc413
    rw [own_nar8 hp412] at W416
    have f417 : Arv Z h416 b371 k371 .char (7 : Int32) [(.int (own_cell (own_w ub) um up uc (0 : Int32))), (.int (own_cell (own_w ub) um up uc (1 : Int32))), (.int (own_cell (own_w ub) um up uc (2 : Int32))), (.int (own_cell (own_w ub) um up uc (3 : Int32))), (.int (own_cell (own_w ub) um up uc (4 : Int32))), (.int (own_cell (own_w ub) um up uc (5 : Int32))), (.int (0 : Int32))] (.int (0 : Int32)) := Arv.set Ar415 q415 S415 M415 P415 G415 (by have q := fits_nar_char (own_cell (own_w ub) um up uc (5 : Int32)); rw [own_nar8 hp412] at q; exact q) W416 5 rfl (Nat.le_of_ble_eq_true rfl)
    replace N0 := Fr.snoc X416 N0 big372
    replace hJ := own_Jwr hZ hJ W416 (own_farV f410 (by decide) (ow7 hw))
    clear f410
    replace O0 := own_oldWr O0 W416 big372
    replace K0 := K0.wr W416 (Or.inr sz373)
    replace K1 := K1.wr W416 (Or.inr sz374)
    replace hS := own_since hS (Nat.le_of_eq W416.size.symm)
    clear W416
    clear Ar415 q415 S415 M415 P415 G415 hin415
    refine own_goW (fun _ k => XS.iload X416.here hx rfl (hb hby at_272) rfl (XS.bipush X416.here hx rfl (hb hby at_274) k)) ?_
    show own_GoW p e below s _ _ _ _ (T416.setTop (mkF m 276 #[iv p1, iv p2, iv p3, iv p4, iv p5, iv uk, iv ub, iv um, rv wd_, iv (Int32.ofNat (own_w ub).length), iv uc, yq, iv up, iv (7 : Int32), rv b371, .unset, .unset, .unset] [(.int (6 : Int32)), (.int (7 : Int32))]))
    refine own_goW (fun _ k => XS.icmpNo X416.here hx rfl (hb hby at_276) rfl (tlt (by decide : (6 : Int32) < (7 : Int32))).2.2.2 (XS.aload X416.here hx rfl (hb hby at_279) rfl rfl (XS.bipush X416.here hx rfl (hb hby at_281) (XS.aload X416.here hx rfl (hb hby at_283) rfl rfl (XS.iload X416.here hx rfl (hb hby at_285) rfl k))))) ?_
    show own_GoW p e below s _ _ _ _ (T416.setTop (mkF m 287 #[iv p1, iv p2, iv p3, iv p4, iv p5, iv uk, iv ub, iv um, rv wd_, iv (Int32.ofNat (own_w ub).length), iv uc, yq, iv up, iv (7 : Int32), rv b371, .unset, .unset, .unset] [(.int um), (.ref wd_), (.int (6 : Int32)), (.ref b371)]))
    refine own_goW (fun _ k => XS.iload X416.here hx rfl (hb hby at_287) rfl (XS.iload X416.here hx rfl (hb hby at_289) rfl (XS.bipush X416.here hx rfl (hb hby at_291) k))) ?_
    obtain ⟨v418, T418, L418, X418, hQ418, st418⟩ := own_callS (y := own_y7) X416 hx hZ hown (ow53 hw) (ow54 hw) (ow3 hw) (ow55 hw) (rm_cell l Z a0 hw hO [] wd_ um up uc (6 : Int32) (own_w ub) h416 O0 (fp0.keep K1) (own_SlKeep fp1 K1 all0) (own_cokL hub hPN (by decide) (by decide)) huc) 2 0 0 (by show _ ≤ 32; omega) (by show _ ≤ 8384; omega) e416 (g := (mkF m 293 #[iv p1, iv p2, iv p3, iv p4, iv p5, iv uk, iv ub, iv um, rv wd_, iv (Int32.ofNat (own_w ub).length), iv uc, yq, iv up, iv (7 : Int32), rv b371, .unset, .unset, .unset] [(.int (6 : Int32)), (.int uc), (.int up), (.int um), (.ref wd_), (.int (6 : Int32)), (.ref b371)])) rfl (by rw [hml]; rfl) [(.ref wd_), (.int um), (.int up), (.int uc), (.int (6 : Int32))] [(.int (6 : Int32)), (.ref b371)] (lenOf own_pd_6 rfl) rfl rfl (hb hby at_293)
    obtain ⟨rfl, Nc421, hp419, Kc420⟩ := hQ418
    refine own_goW st418 ?_
    clear st418 X416 e416
    replace N0 := Fr.app N0 Nc421
    clear Nc421
    obtain ⟨cl422, Ar422, q422, S422, M422, P422, G422⟩ := id f417
    have hin422 : ¬ ((6 : Int32) < 0 ∨ cl422.slots.size ≤ ((6 : Int32)).toNatClampNeg) := inb_of S422 ⟨by decide, by decide⟩
    obtain ⟨T423, h423, X423, e423, W423, st423⟩ := stC X418 hx hZ Kc420 Ar422 (j := (6 : Int32)) hin422 (g := (mkF m 296 #[iv p1, iv p2, iv p3, iv p4, iv p5, iv uk, iv ub, iv um, rv wd_, iv (Int32.ofNat (own_w ub).length), iv uc, yq, iv up, iv (7 : Int32), rv b371, .unset, .unset, .unset] [(.int (own_cell (own_w ub) um up uc (6 : Int32))), (.int (6 : Int32)), (.ref b371)])) rfl rfl (hb hby at_296)
    refine own_goW st423 ?_
    clear st423 X418 Kc420
    rw [own_nar8 hp419] at W423
    have f424 : Arv Z h423 b371 k371 .char (7 : Int32) [(.int (own_cell (own_w ub) um up uc (0 : Int32))), (.int (own_cell (own_w ub) um up uc (1 : Int32))), (.int (own_cell (own_w ub) um up uc (2 : Int32))), (.int (own_cell (own_w ub) um up uc (3 : Int32))), (.int (own_cell (own_w ub) um up uc (4 : Int32))), (.int (own_cell (own_w ub) um up uc (5 : Int32))), (.int (own_cell (own_w ub) um up uc (6 : Int32)))] (.int (0 : Int32)) := Arv.set Ar422 q422 S422 M422 P422 G422 (by have q := fits_nar_char (own_cell (own_w ub) um up uc (6 : Int32)); rw [own_nar8 hp419] at q; exact q) W423 6 rfl (Nat.le_of_ble_eq_true rfl)
    replace N0 := Fr.snoc X423 N0 big372
    replace hJ := own_Jwr hZ hJ W423 (own_farV f417 (by decide) (ow7 hw))
    clear f417
    replace O0 := own_oldWr O0 W423 big372
    replace K0 := K0.wr W423 (Or.inr sz373)
    replace K1 := K1.wr W423 (Or.inr sz374)
    replace hS := own_since hS (Nat.le_of_eq W423.size.symm)
    clear W423
    clear Ar422 q422 S422 M422 P422 G422 hin422
    show own_GoW p e below s _ _ _ _ (T423.setTop (mkF m 297 #[iv p1, iv p2, iv p3, iv p4, iv p5, iv uk, iv ub, iv um, rv wd_, iv (Int32.ofNat (own_w ub).length), iv uc, yq, iv up, iv (7 : Int32), rv b371, .unset, .unset, .unset] []))
    refine own_goW (fun _ k => XS.iload X423.here hx rfl (hb hby at_297) rfl (XS.bipush X423.here hx rfl (hb hby at_299) (XS.icmpYes X423.here hx rfl (pc0 := 301) (pc' := 322) rfl (hb hby at_301) rfl (flt (by decide : ¬ ((7 : Int32) < (7 : Int32)))).2.2.2 (by decide) (by decide) (XS.iload X423.here hx rfl (hb hby at_322) rfl (XS.bipush X423.here hx rfl (hb hby at_324) k))))) ?_
    show own_GoW p e below s _ _ _ _ (T423.setTop (mkF m 326 #[iv p1, iv p2, iv p3, iv p4, iv p5, iv uk, iv ub, iv um, rv wd_, iv (Int32.ofNat (own_w ub).length), iv uc, yq, iv up, iv (7 : Int32), rv b371, .unset, .unset, .unset] [(.int (8 : Int32)), (.int (7 : Int32))]))
    refine own_goW (fun _ k => XS.icmpYes X423.here hx rfl (pc0 := 326) (pc' := 347) rfl (hb hby at_326) rfl (flt (by decide : ¬ ((8 : Int32) < (7 : Int32)))).2.2.2 (by decide) (by decide) (XS.iload X423.here hx rfl (hb hby at_347) rfl (XS.bipush X423.here hx rfl (hb hby at_349) (XS.icmpYes X423.here hx rfl (pc0 := 351) (pc' := 372) rfl (hb hby at_351) rfl (flt (by decide : ¬ ((9 : Int32) < (7 : Int32)))).2.2.2 (by decide) (by decide) (XS.iload X423.here hx rfl (hb hby at_372) rfl k))))) ?_
    show own_GoW p e below s _ _ _ _ (T423.setTop (mkF m 374 #[iv p1, iv p2, iv p3, iv p4, iv p5, iv uk, iv ub, iv um, rv wd_, iv (Int32.ofNat (own_w ub).length), iv uc, yq, iv up, iv (7 : Int32), rv b371, .unset, .unset, .unset] [(.int (7 : Int32))]))
    refine own_goW (fun _ k => XS.bipush X423.here hx rfl (hb hby at_374) (XS.icmpYes X423.here hx rfl (pc0 := 376) (pc' := 397) rfl (hb hby at_376) rfl (flt (by decide : ¬ ((10 : Int32) < (7 : Int32)))).2.2.2 (by decide) (by decide) k)) ?_
    obtain ⟨T425, h425, X425, e425, E425, A425, D425, -, st425⟩ := newO X423 hx hZ hown (ow27 hw) (ow7 hw) (ow6 hw) e423 (g := (mkF m 397 #[iv p1, iv p2, iv p3, iv p4, iv p5, iv uk, iv ub, iv um, rv wd_, iv (Int32.ofNat (own_w ub).length), iv uc, yq, iv up, iv (7 : Int32), rv b371, .unset, .unset, .unset] [])) rfl (hb hby at_397) (by show _ ≤ 32; omega) (by show _ ≤ 8384; omega)
    obtain ⟨b425, g425⟩ : ∃ z, z = h423.size := ⟨_, rfl⟩
    rw [← g425] at A425 D425 st425
    refine own_goW st425 ?_
    clear st425 X423 e423
    have ge425 := Nat.le_of_eq g425.symm
    have ne426 : b371 ≠ b425 := Nat.ne_of_lt (Nat.lt_of_lt_of_le f424.lt ge425)
    have big427 : Z.heap.size ≤ b425 := Nat.le_trans O0.1 ge425
    have sz428 : h0.size ≤ b425 := Nat.le_trans K0.1 ge425
    have sz429 : hs1.size ≤ b425 := Nat.le_trans K1.1 ge425
    replace f424 := f424.ext E425
    replace O0 := own_oldExt O0 E425
    replace K0 := K0.ext E425
    replace K1 := K1.ext E425
    replace hS := own_since hS E425.1
    replace hJ := own_Jext hJ E425
    clear E425
    have f430 : Fld Z h425 b425 "java/lang/String" "value" "[B" .null := D425 (Or.inr (ow9 hw)) (ty := (.array .byte)) own_fd0
    have f431 : Fld Z h425 b425 "java/lang/String" "coder" "B" (.int (0 : Int32)) := D425 (Or.inr (ow10 hw)) (ty := .byte) own_fd1
    refine own_goW (fun _ k => XS.dup X425.here hx rfl (hb hby at_400) rfl rfl (XS.aload X425.here hx rfl (hb hby at_401) rfl rfl k)) ?_
    show own_GoW p e below s _ _ _ _ (T425.setTop (mkF m 403 #[iv p1, iv p2, iv p3, iv p4, iv p5, iv uk, iv ub, iv um, rv wd_, iv (Int32.ofNat (own_w ub).length), iv uc, yq, iv up, iv (7 : Int32), rv b371, .unset, .unset, .unset] [(.ref b371), (.ref b425), (.ref b425)]))
    obtain ⟨v432, T432, L432, X432, hQ432, st432⟩ := own_callIB (y := own_y1) X425 hx hZ hown (ow28 hw) (ow29 hw) (ow6 hw) (ow30 hw) 1 1 7 (StrChars.Road.backV (W := 1) hZ (own_sw1 hw) (kI := 4) (ow7 hw) (cs := ([(own_cell (own_w ub) um up uc (0 : Int32)), (own_cell (own_w ub) um up uc (1 : Int32)), (own_cell (own_w ub) um up uc (2 : Int32)), (own_cell (own_w ub) um up uc (3 : Int32)), (own_cell (own_w ub) um up uc (4 : Int32)), (own_cell (own_w ub) um up uc (5 : Int32)), (own_cell (own_w ub) um up uc (6 : Int32))] : List Int32)) (bs := ([(own_cell (own_w ub) um up uc (0 : Int32)), (own_cell (own_w ub) um up uc (1 : Int32)), (own_cell (own_w ub) um up uc (2 : Int32)), (own_cell (own_w ub) um up uc (3 : Int32)), (own_cell (own_w ub) um up uc (4 : Int32)), (own_cell (own_w ub) um up uc (5 : Int32)), (own_cell (own_w ub) um up uc (6 : Int32))] : List Int32).map (fun c => c.toInt8.toInt32)) (n := 7) (n0 := Z.heap.size) big427 (Nat.le_trans O0.1 (Nat.le_refl _)) A425 f430 f431 f424 (oCS.ext O0) oCz rfl rfl (by decide) (by decide) (own_cC hp377 (own_cC hp384 (own_cC hp391 (own_cC hp398 (own_cC hp405 (own_cC hp412 (own_cC hp419 own_cN))))))) rfl (by decide) (by decide)) rfl (by show _ ≤ 32; omega) (by show _ ≤ 8384; omega) e425 (g := (mkF m 403 #[iv p1, iv p2, iv p3, iv p4, iv p5, iv uk, iv ub, iv um, rv wd_, iv (Int32.ofNat (own_w ub).length), iv uc, yq, iv up, iv (7 : Int32), rv b371, .unset, .unset, .unset] [(.ref b371), (.ref b425), (.ref b425)])) rfl (by rw [hml]; rfl) b425 [(.ref b371)] [(.ref b425)] (lenOf own_pd_5 rfl) rfl rfl (hb hby at_403)
    obtain ⟨rfl, Nc432, Kc432, f1432, f2432, t432, kb432, tb432, ts432, tn432, f3432, f4432⟩ := hQ432
    refine own_goW st432 ?_
    clear st432 X425 e425
    replace N0 := Fr.app N0 Nc432
    clear Nc432
    replace hS := own_since hS Kc432.1
    have ne433 : b371 ≠ t432 := Nat.ne_of_lt (Nat.lt_of_lt_of_le f424.lt ts432)
    have ne434 : b425 ≠ t432 := Nat.ne_of_lt (Nat.lt_of_lt_of_le A425.lt ts432)
    have big435 : Z.heap.size ≤ t432 := Nat.le_trans O0.1 ts432
    have sz436 : h0.size ≤ t432 := Nat.le_trans K0.1 ts432
    have sz437 : hs1.size ≤ t432 := Nat.le_trans K1.1 ts432
    have hAp_b425 := own_apart hZ hJ f430
    replace hJ := own_JkeepS hZ hJ Kc432 hAp_b425 A425 (ow7 hw)
    replace f424 := f424.keep Kc432 (ninS ne426 nin0)
    replace A425 := A425.keep Kc432
    clear f430
    clear f431
    replace O0 := own_oldKeep O0 Kc432 (allS big427 all0)
    replace K0 := K0.trans Kc432 (allS (Or.inr sz428) all0)
    replace K1 := K1.trans Kc432 (allS (Or.inr sz429) all0)
    clear Kc432
    replace f4432 : Arv Z T432.heap t432 kb432 .byte (7 : Int32) [(.int ((own_cell (own_w ub) um up uc (0 : Int32)).toInt8.toInt32)), (.int ((own_cell (own_w ub) um up uc (1 : Int32)).toInt8.toInt32)), (.int ((own_cell (own_w ub) um up uc (2 : Int32)).toInt8.toInt32)), (.int ((own_cell (own_w ub) um up uc (3 : Int32)).toInt8.toInt32)), (.int ((own_cell (own_w ub) um up uc (4 : Int32)).toInt8.toInt32)), (.int ((own_cell (own_w ub) um up uc (5 : Int32)).toInt8.toInt32)), (.int ((own_cell (own_w ub) um up uc (6 : Int32)).toInt8.toInt32))] (.int (0 : Int32)) := f4432
    show own_GoW p e below s _ _ _ _ (T432.setTop (mkF m 406 #[iv p1, iv p2, iv p3, iv p4, iv p5, iv uk, iv ub, iv um, rv wd_, iv (Int32.ofNat (own_w ub).length), iv uc, yq, iv up, iv (7 : Int32), rv b371, .unset, .unset, .unset] [(.ref b425)]))
    have sl438 : own_Sl Z T432.heap b425 (own_nm ub um up uc (7 : Int32)) := by
      rw [own_nm_7]
      exact own_mkSl (cs := [(own_cell (own_w ub) um up uc (0 : Int32)), (own_cell (own_w ub) um up uc (1 : Int32)), (own_cell (own_w ub) um up uc (2 : Int32)), (own_cell (own_w ub) um up uc (3 : Int32)), (own_cell (own_w ub) um up uc (4 : Int32)), (own_cell (own_w ub) um up uc (5 : Int32)), (own_cell (own_w ub) um up uc (6 : Int32))]) f1432 f2432 f3432 f4432 rfl rfl (own_cC hp377 (own_cC hp384 (own_cC hp391 (own_cC hp398 (own_cC hp405 (own_cC hp412 (own_cC hp419 own_cN))))))) (Nat.le_of_ble_eq_true rfl)
    exact sg_s406 hw hO p1 p2 p3 p4 p5 uk ub um uc up (7 : Int32) wd_ (yq : Slot) (rv b371 : Slot) b425 h0 T432.heap X432 hS hL hJ hx hby hml hret hlk hZ hown hnm (rfl : T432.heap = T432.heap) N0 O0 K0 (fp0.keep K1) (own_SlKeep fp1 K1 all0) f1432 sl438 huk hub hum hPN huc (by omega) (by omega)
  · show own_GoW p e below s _ _ _ _ (T.setTop (mkF m 137 #[iv p1, iv p2, iv p3, iv p4, iv p5, iv uk, iv ub, iv um, rv wd_, iv (Int32.ofNat (own_w ub).length), iv uc, yq, iv up, iv (8 : Int32), .unset, .unset, .unset, .unset] [(.int (8 : Int32))]))
    show own_GoW p e below s _ _ _ _ (T.setTop (mkF m 137 #[iv p1, iv p2, iv p3, iv p4, iv p5, iv uk, iv ub, iv um, rv wd_, iv (Int32.ofNat (own_w ub).length), iv uc, yq, iv up, iv (8 : Int32), .unset, .unset, .unset, .unset] [(.int (8 : Int32))]))
    obtain ⟨T439, h439, k439, X439, e439, E439, A439, st439⟩ := newP (aty := .char) X0 hx hZ (ow26 hw) e0 (g := (mkF m 137 #[iv p1, iv p2, iv p3, iv p4, iv p5, iv uk, iv ub, iv um, rv wd_, iv (Int32.ofNat (own_w ub).length), iv uc, yq, iv up, iv (8 : Int32), .unset, .unset, .unset, .unset] [(.int (8 : Int32))])) rfl (hb hby at_137) rfl (by decide) (cap := 8) (by decide) (by decide) (by show _ ≤ 32; omega) (by show _ ≤ 8384; omega)
    obtain ⟨b439, g439⟩ : ∃ z, z = hs1.size := ⟨_, rfl⟩
    rw [← g439] at A439 st439
    refine own_goW st439 ?_
    clear st439 X0 e0
    have ge439 := Nat.le_of_eq g439.symm
    have big440 : Z.heap.size ≤ b439 := Nat.le_trans O0.1 ge439
    have sz441 : h0.size ≤ b439 := Nat.le_trans K0.1 ge439
    have sz442 : hs1.size ≤ b439 := Nat.le_trans K1.1 ge439
    replace O0 := own_oldExt O0 E439
    replace K0 := K0.ext E439
    replace K1 := K1.ext E439
    replace hS := own_since hS E439.1
    replace hJ := own_Jext hJ E439
    clear E439
    have f443 : Arv Z h439 b439 k439 .char (8 : Int32) [(.int (0 : Int32)), (.int (0 : Int32)), (.int (0 : Int32)), (.int (0 : Int32)), (.int (0 : Int32)), (.int (0 : Int32)), (.int (0 : Int32)), (.int (0 : Int32))] (.int (0 : Int32)) := (Arv.new A439 (by decide)).pad (pad_rep [] (.int (0 : Int32)) 8)
    refine own_goW (fun _ k => XS.astore X439.here hx rfl (hb hby at_139) rfl rfl (l' := #[iv p1, iv p2, iv p3, iv p4, iv p5, iv uk, iv ub, iv um, rv wd_, iv (Int32.ofNat (own_w ub).length), iv uc, yq, iv up, iv (8 : Int32), rv b439, .unset, .unset, .unset]) rfl (XS.iload X439.here hx rfl (hb hby at_141) rfl (XS.ifNo X439.here hx rfl (hb hby at_143) rfl ((if0 _ _).trans (tlt (by decide : (0 : Int32) < (8 : Int32))).2.2.2) (XS.aload X439.here hx rfl (hb hby at_146) rfl rfl k)))) ?_
    show own_GoW p e below s _ _ _ _ (T439.setTop (mkF m 148 #[iv p1, iv p2, iv p3, iv p4, iv p5, iv uk, iv ub, iv um, rv wd_, iv (Int32.ofNat (own_w ub).length), iv uc, yq, iv up, iv (8 : Int32), rv b439, .unset, .unset, .unset] [(.ref b439)]))
    refine own_goW (fun _ k => XS.iconst X439.here hx rfl (hb hby at_148) (XS.aload X439.here hx rfl (hb hby at_149) rfl rfl (XS.iload X439.here hx rfl (hb hby at_151) rfl (XS.iload X439.here hx rfl (hb hby at_153) rfl (XS.iload X439.here hx rfl (hb hby at_155) rfl k))))) ?_
    show own_GoW p e below s _ _ _ _ (T439.setTop (mkF m 157 #[iv p1, iv p2, iv p3, iv p4, iv p5, iv uk, iv ub, iv um, rv wd_, iv (Int32.ofNat (own_w ub).length), iv uc, yq, iv up, iv (8 : Int32), rv b439, .unset, .unset, .unset] [(.int uc), (.int up), (.int um), (.ref wd_), (.int (0 : Int32)), (.ref b439)]))
    refine own_goW (fun _ k => XS.iconst X439.here hx rfl (hb hby at_157) k) ?_
    obtain ⟨v444, T444, L444, X444, hQ444, st444⟩ := own_callS (y := own_y7) X439 hx hZ hown (ow53 hw) (ow54 hw) (ow3 hw) (ow55 hw) (rm_cell l Z a0 hw hO [] wd_ um up uc (0 : Int32) (own_w ub) h439 O0 (fp0.keep K1) (own_SlKeep fp1 K1 all0) (own_cokL hub hPN (by decide) (by decide)) huc) 2 0 0 (by show _ ≤ 32; omega) (by show _ ≤ 8384; omega) e439 (g := (mkF m 158 #[iv p1, iv p2, iv p3, iv p4, iv p5, iv uk, iv ub, iv um, rv wd_, iv (Int32.ofNat (own_w ub).length), iv uc, yq, iv up, iv (8 : Int32), rv b439, .unset, .unset, .unset] [(.int (0 : Int32)), (.int uc), (.int up), (.int um), (.ref wd_), (.int (0 : Int32)), (.ref b439)])) rfl (by rw [hml]; rfl) [(.ref wd_), (.int um), (.int up), (.int uc), (.int (0 : Int32))] [(.int (0 : Int32)), (.ref b439)] (lenOf own_pd_6 rfl) rfl rfl (hb hby at_158)
    obtain ⟨rfl, Nc447, hp445, Kc446⟩ := hQ444
    refine own_goW st444 ?_
    clear st444 X439 e439
    replace N0 := Fr.app N0 Nc447
    clear Nc447
    obtain ⟨cl448, Ar448, q448, S448, M448, P448, G448⟩ := id f443
    have hin448 : ¬ ((0 : Int32) < 0 ∨ cl448.slots.size ≤ ((0 : Int32)).toNatClampNeg) := inb_of S448 ⟨by decide, by decide⟩
    obtain ⟨T449, h449, X449, e449, W449, st449⟩ := stC X444 hx hZ Kc446 Ar448 (j := (0 : Int32)) hin448 (g := (mkF m 161 #[iv p1, iv p2, iv p3, iv p4, iv p5, iv uk, iv ub, iv um, rv wd_, iv (Int32.ofNat (own_w ub).length), iv uc, yq, iv up, iv (8 : Int32), rv b439, .unset, .unset, .unset] [(.int (own_cell (own_w ub) um up uc (0 : Int32))), (.int (0 : Int32)), (.ref b439)])) rfl rfl (hb hby at_161)
    refine own_goW st449 ?_
    clear st449 X444 Kc446
    rw [own_nar8 hp445] at W449
    have f450 : Arv Z h449 b439 k439 .char (8 : Int32) [(.int (own_cell (own_w ub) um up uc (0 : Int32))), (.int (0 : Int32)), (.int (0 : Int32)), (.int (0 : Int32)), (.int (0 : Int32)), (.int (0 : Int32)), (.int (0 : Int32)), (.int (0 : Int32))] (.int (0 : Int32)) := Arv.set Ar448 q448 S448 M448 P448 G448 (by have q := fits_nar_char (own_cell (own_w ub) um up uc (0 : Int32)); rw [own_nar8 hp445] at q; exact q) W449 0 rfl (Nat.le_of_ble_eq_true rfl)
    replace N0 := Fr.snoc X449 N0 big440
    replace hJ := own_Jwr hZ hJ W449 (own_farV f443 (by decide) (ow7 hw))
    clear f443
    replace O0 := own_oldWr O0 W449 big440
    replace K0 := K0.wr W449 (Or.inr sz441)
    replace K1 := K1.wr W449 (Or.inr sz442)
    replace hS := own_since hS (Nat.le_of_eq W449.size.symm)
    clear W449
    clear Ar448 q448 S448 M448 P448 G448 hin448
    refine own_goW (fun _ k => XS.iload X449.here hx rfl (hb hby at_162) rfl (XS.iconst X449.here hx rfl (hb hby at_164) k)) ?_
    show own_GoW p e below s _ _ _ _ (T449.setTop (mkF m 165 #[iv p1, iv p2, iv p3, iv p4, iv p5, iv uk, iv ub, iv um, rv wd_, iv (Int32.ofNat (own_w ub).length), iv uc, yq, iv up, iv (8 : Int32), rv b439, .unset, .unset, .unset] [(.int (1 : Int32)), (.int (8 : Int32))]))
    refine own_goW (fun _ k => XS.icmpNo X449.here hx rfl (hb hby at_165) rfl (tlt (by decide : (1 : Int32) < (8 : Int32))).2.2.2 (XS.aload X449.here hx rfl (hb hby at_168) rfl rfl (XS.iconst X449.here hx rfl (hb hby at_170) (XS.aload X449.here hx rfl (hb hby at_171) rfl rfl (XS.iload X449.here hx rfl (hb hby at_173) rfl k))))) ?_
    show own_GoW p e below s _ _ _ _ (T449.setTop (mkF m 175 #[iv p1, iv p2, iv p3, iv p4, iv p5, iv uk, iv ub, iv um, rv wd_, iv (Int32.ofNat (own_w ub).length), iv uc, yq, iv up, iv (8 : Int32), rv b439, .unset, .unset, .unset] [(.int um), (.ref wd_), (.int (1 : Int32)), (.ref b439)]))
    refine own_goW (fun _ k => XS.iload X449.here hx rfl (hb hby at_175) rfl (XS.iload X449.here hx rfl (hb hby at_177) rfl (XS.iconst X449.here hx rfl (hb hby at_179) k))) ?_
    obtain ⟨v451, T451, L451, X451, hQ451, st451⟩ := own_callS (y := own_y7) X449 hx hZ hown (ow53 hw) (ow54 hw) (ow3 hw) (ow55 hw) (rm_cell l Z a0 hw hO [] wd_ um up uc (1 : Int32) (own_w ub) h449 O0 (fp0.keep K1) (own_SlKeep fp1 K1 all0) (own_cokL hub hPN (by decide) (by decide)) huc) 2 0 0 (by show _ ≤ 32; omega) (by show _ ≤ 8384; omega) e449 (g := (mkF m 180 #[iv p1, iv p2, iv p3, iv p4, iv p5, iv uk, iv ub, iv um, rv wd_, iv (Int32.ofNat (own_w ub).length), iv uc, yq, iv up, iv (8 : Int32), rv b439, .unset, .unset, .unset] [(.int (1 : Int32)), (.int uc), (.int up), (.int um), (.ref wd_), (.int (1 : Int32)), (.ref b439)])) rfl (by rw [hml]; rfl) [(.ref wd_), (.int um), (.int up), (.int uc), (.int (1 : Int32))] [(.int (1 : Int32)), (.ref b439)] (lenOf own_pd_6 rfl) rfl rfl (hb hby at_180)
    obtain ⟨rfl, Nc454, hp452, Kc453⟩ := hQ451
    refine own_goW st451 ?_
    clear st451 X449 e449
    replace N0 := Fr.app N0 Nc454
    clear Nc454
    obtain ⟨cl455, Ar455, q455, S455, M455, P455, G455⟩ := id f450
    have hin455 : ¬ ((1 : Int32) < 0 ∨ cl455.slots.size ≤ ((1 : Int32)).toNatClampNeg) := inb_of S455 ⟨by decide, by decide⟩
    obtain ⟨T456, h456, X456, e456, W456, st456⟩ := stC X451 hx hZ Kc453 Ar455 (j := (1 : Int32)) hin455 (g := (mkF m 183 #[iv p1, iv p2, iv p3, iv p4, iv p5, iv uk, iv ub, iv um, rv wd_, iv (Int32.ofNat (own_w ub).length), iv uc, yq, iv up, iv (8 : Int32), rv b439, .unset, .unset, .unset] [(.int (own_cell (own_w ub) um up uc (1 : Int32))), (.int (1 : Int32)), (.ref b439)])) rfl rfl (hb hby at_183)
    refine own_goW st456 ?_
    clear st456 X451 Kc453
    rw [own_nar8 hp452] at W456
    have f457 : Arv Z h456 b439 k439 .char (8 : Int32) [(.int (own_cell (own_w ub) um up uc (0 : Int32))), (.int (own_cell (own_w ub) um up uc (1 : Int32))), (.int (0 : Int32)), (.int (0 : Int32)), (.int (0 : Int32)), (.int (0 : Int32)), (.int (0 : Int32)), (.int (0 : Int32))] (.int (0 : Int32)) := Arv.set Ar455 q455 S455 M455 P455 G455 (by have q := fits_nar_char (own_cell (own_w ub) um up uc (1 : Int32)); rw [own_nar8 hp452] at q; exact q) W456 1 rfl (Nat.le_of_ble_eq_true rfl)
    replace N0 := Fr.snoc X456 N0 big440
    replace hJ := own_Jwr hZ hJ W456 (own_farV f450 (by decide) (ow7 hw))
    clear f450
    replace O0 := own_oldWr O0 W456 big440
    replace K0 := K0.wr W456 (Or.inr sz441)
    replace K1 := K1.wr W456 (Or.inr sz442)
    replace hS := own_since hS (Nat.le_of_eq W456.size.symm)
    clear W456
    clear Ar455 q455 S455 M455 P455 G455 hin455
    show own_GoW p e below s _ _ _ _ (T456.setTop (mkF m 184 #[iv p1, iv p2, iv p3, iv p4, iv p5, iv uk, iv ub, iv um, rv wd_, iv (Int32.ofNat (own_w ub).length), iv uc, yq, iv up, iv (8 : Int32), rv b439, .unset, .unset, .unset] []))
    refine own_goW (fun _ k => XS.iload X456.here hx rfl (hb hby at_184) rfl (XS.iconst X456.here hx rfl (hb hby at_186) (XS.icmpNo X456.here hx rfl (hb hby at_187) rfl (tlt (by decide : (2 : Int32) < (8 : Int32))).2.2.2 (XS.aload X456.here hx rfl (hb hby at_190) rfl rfl (XS.iconst X456.here hx rfl (hb hby at_192) k))))) ?_
    show own_GoW p e below s _ _ _ _ (T456.setTop (mkF m 193 #[iv p1, iv p2, iv p3, iv p4, iv p5, iv uk, iv ub, iv um, rv wd_, iv (Int32.ofNat (own_w ub).length), iv uc, yq, iv up, iv (8 : Int32), rv b439, .unset, .unset, .unset] [(.int (2 : Int32)), (.ref b439)]))
    refine own_goW (fun _ k => XS.aload X456.here hx rfl (hb hby at_193) rfl rfl (XS.iload X456.here hx rfl (hb hby at_195) rfl (XS.iload X456.here hx rfl (hb hby at_197) rfl (XS.iload X456.here hx rfl (hb hby at_199) rfl (XS.iconst X456.here hx rfl (hb hby at_201) k))))) ?_
    show own_GoW p e below s _ _ _ _ (T456.setTop (mkF m 202 #[iv p1, iv p2, iv p3, iv p4, iv p5, iv uk, iv ub, iv um, rv wd_, iv (Int32.ofNat (own_w ub).length), iv uc, yq, iv up, iv (8 : Int32), rv b439, .unset, .unset, .unset] [(.int (2 : Int32)), (.int uc), (.int up), (.int um), (.ref wd_), (.int (2 : Int32)), (.ref b439)]))
    obtain ⟨v458, T458, L458, X458, hQ458, st458⟩ := own_callS (y := own_y7) X456 hx hZ hown (ow53 hw) (ow54 hw) (ow3 hw) (ow55 hw) (rm_cell l Z a0 hw hO [] wd_ um up uc (2 : Int32) (own_w ub) h456 O0 (fp0.keep K1) (own_SlKeep fp1 K1 all0) (own_cokL hub hPN (by decide) (by decide)) huc) 2 0 0 (by show _ ≤ 32; omega) (by show _ ≤ 8384; omega) e456 (g := (mkF m 202 #[iv p1, iv p2, iv p3, iv p4, iv p5, iv uk, iv ub, iv um, rv wd_, iv (Int32.ofNat (own_w ub).length), iv uc, yq, iv up, iv (8 : Int32), rv b439, .unset, .unset, .unset] [(.int (2 : Int32)), (.int uc), (.int up), (.int um), (.ref wd_), (.int (2 : Int32)), (.ref b439)])) rfl (by rw [hml]; rfl) [(.ref wd_), (.int um), (.int up), (.int uc), (.int (2 : Int32))] [(.int (2 : Int32)), (.ref b439)] (lenOf own_pd_6 rfl) rfl rfl (hb hby at_202)
    obtain ⟨rfl, Nc461, hp459, Kc460⟩ := hQ458
    refine own_goW st458 ?_
    clear st458 X456 e456
    replace N0 := Fr.app N0 Nc461
    clear Nc461
    obtain ⟨cl462, Ar462, q462, S462, M462, P462, G462⟩ := id f457
    have hin462 : ¬ ((2 : Int32) < 0 ∨ cl462.slots.size ≤ ((2 : Int32)).toNatClampNeg) := inb_of S462 ⟨by decide, by decide⟩
    obtain ⟨T463, h463, X463, e463, W463, st463⟩ := stC X458 hx hZ Kc460 Ar462 (j := (2 : Int32)) hin462 (g := (mkF m 205 #[iv p1, iv p2, iv p3, iv p4, iv p5, iv uk, iv ub, iv um, rv wd_, iv (Int32.ofNat (own_w ub).length), iv uc, yq, iv up, iv (8 : Int32), rv b439, .unset, .unset, .unset] [(.int (own_cell (own_w ub) um up uc (2 : Int32))), (.int (2 : Int32)), (.ref b439)])) rfl rfl (hb hby at_205)
    refine own_goW st463 ?_
    clear st463 X458 Kc460
    rw [own_nar8 hp459] at W463
    have f464 : Arv Z h463 b439 k439 .char (8 : Int32) [(.int (own_cell (own_w ub) um up uc (0 : Int32))), (.int (own_cell (own_w ub) um up uc (1 : Int32))), (.int (own_cell (own_w ub) um up uc (2 : Int32))), (.int (0 : Int32)), (.int (0 : Int32)), (.int (0 : Int32)), (.int (0 : Int32)), (.int (0 : Int32))] (.int (0 : Int32)) := Arv.set Ar462 q462 S462 M462 P462 G462 (by have q := fits_nar_char (own_cell (own_w ub) um up uc (2 : Int32)); rw [own_nar8 hp459] at q; exact q) W463 2 rfl (Nat.le_of_ble_eq_true rfl)
    replace N0 := Fr.snoc X463 N0 big440
    replace hJ := own_Jwr hZ hJ W463 (own_farV f457 (by decide) (ow7 hw))
    clear f457
    replace O0 := own_oldWr O0 W463 big440
    replace K0 := K0.wr W463 (Or.inr sz441)
    replace K1 := K1.wr W463 (Or.inr sz442)
    replace hS := own_since hS (Nat.le_of_eq W463.size.symm)
    clear W463
    clear Ar462 q462 S462 M462 P462 G462 hin462
    refine own_goW (fun _ k => XS.iload X463.here hx rfl (hb hby at_206) rfl (XS.iconst X463.here hx rfl (hb hby at_208) (XS.icmpNo X463.here hx rfl (hb hby at_209) rfl (tlt (by decide : (3 : Int32) < (8 : Int32))).2.2.2 k))) ?_
    show own_GoW p e below s _ _ _ _ (T463.setTop (mkF m 212 #[iv p1, iv p2, iv p3, iv p4, iv p5, iv uk, iv ub, iv um, rv wd_, iv (Int32.ofNat (own_w ub).length), iv uc, yq, iv up, iv (8 : Int32), rv b439, .unset, .unset, .unset] []))
    refine own_goW (fun _ k => XS.aload X463.here hx rfl (hb hby at_212) rfl rfl (XS.iconst X463.here hx rfl (hb hby at_214) (XS.aload X463.here hx rfl (hb hby at_215) rfl rfl (XS.iload X463.here hx rfl (hb hby at_217) rfl (XS.iload X463.here hx rfl (hb hby at_219) rfl k))))) ?_
    show own_GoW p e below s _ _ _ _ (T463.setTop (mkF m 221 #[iv p1, iv p2, iv p3, iv p4, iv p5, iv uk, iv ub, iv um, rv wd_, iv (Int32.ofNat (own_w ub).length), iv uc, yq, iv up, iv (8 : Int32), rv b439, .unset, .unset, .unset] [(.int up), (.int um), (.ref wd_), (.int (3 : Int32)), (.ref b439)]))
    refine own_goW (fun _ k => XS.iload X463.here hx rfl (hb hby at_221) rfl (XS.iconst X463.here hx rfl (hb hby at_223) k)) ?_
    obtain ⟨v465, T465, L465, X465, hQ465, st465⟩ := own_callS (y := own_y7) X463 hx hZ hown (ow53 hw) (ow54 hw) (ow3 hw) (ow55 hw) (rm_cell l Z a0 hw hO [] wd_ um up uc (3 : Int32) (own_w ub) h463 O0 (fp0.keep K1) (own_SlKeep fp1 K1 all0) (own_cokL hub hPN (by decide) (by decide)) huc) 2 0 0 (by show _ ≤ 32; omega) (by show _ ≤ 8384; omega) e463 (g := (mkF m 224 #[iv p1, iv p2, iv p3, iv p4, iv p5, iv uk, iv ub, iv um, rv wd_, iv (Int32.ofNat (own_w ub).length), iv uc, yq, iv up, iv (8 : Int32), rv b439, .unset, .unset, .unset] [(.int (3 : Int32)), (.int uc), (.int up), (.int um), (.ref wd_), (.int (3 : Int32)), (.ref b439)])) rfl (by rw [hml]; rfl) [(.ref wd_), (.int um), (.int up), (.int uc), (.int (3 : Int32))] [(.int (3 : Int32)), (.ref b439)] (lenOf own_pd_6 rfl) rfl rfl (hb hby at_224)
    obtain ⟨rfl, Nc468, hp466, Kc467⟩ := hQ465
    refine own_goW st465 ?_
    clear st465 X463 e463
    replace N0 := Fr.app N0 Nc468
    clear Nc468
    obtain ⟨cl469, Ar469, q469, S469, M469, P469, G469⟩ := id f464
    have hin469 : ¬ ((3 : Int32) < 0 ∨ cl469.slots.size ≤ ((3 : Int32)).toNatClampNeg) := inb_of S469 ⟨by decide, by decide⟩
    obtain ⟨T470, h470, X470, e470, W470, st470⟩ := stC X465 hx hZ Kc467 Ar469 (j := (3 : Int32)) hin469 (g := (mkF m 227 #[iv p1, iv p2, iv p3, iv p4, iv p5, iv uk, iv ub, iv um, rv wd_, iv (Int32.ofNat (own_w ub).length), iv uc, yq, iv up, iv (8 : Int32), rv b439, .unset, .unset, .unset] [(.int (own_cell (own_w ub) um up uc (3 : Int32))), (.int (3 : Int32)), (.ref b439)])) rfl rfl (hb hby at_227)
    refine own_goW st470 ?_
    clear st470 X465 Kc467
    rw [own_nar8 hp466] at W470
    have f471 : Arv Z h470 b439 k439 .char (8 : Int32) [(.int (own_cell (own_w ub) um up uc (0 : Int32))), (.int (own_cell (own_w ub) um up uc (1 : Int32))), (.int (own_cell (own_w ub) um up uc (2 : Int32))), (.int (own_cell (own_w ub) um up uc (3 : Int32))), (.int (0 : Int32)), (.int (0 : Int32)), (.int (0 : Int32)), (.int (0 : Int32))] (.int (0 : Int32)) := Arv.set Ar469 q469 S469 M469 P469 G469 (by have q := fits_nar_char (own_cell (own_w ub) um up uc (3 : Int32)); rw [own_nar8 hp466] at q; exact q) W470 3 rfl (Nat.le_of_ble_eq_true rfl)
    replace N0 := Fr.snoc X470 N0 big440
    replace hJ := own_Jwr hZ hJ W470 (own_farV f464 (by decide) (ow7 hw))
    clear f464
    replace O0 := own_oldWr O0 W470 big440
    replace K0 := K0.wr W470 (Or.inr sz441)
    replace K1 := K1.wr W470 (Or.inr sz442)
    replace hS := own_since hS (Nat.le_of_eq W470.size.symm)
    clear W470
    clear Ar469 q469 S469 M469 P469 G469 hin469
    refine own_goW (fun _ k => XS.iload X470.here hx rfl (hb hby at_228) rfl k) ?_
    show own_GoW p e below s _ _ _ _ (T470.setTop (mkF m 230 #[iv p1, iv p2, iv p3, iv p4, iv p5, iv uk, iv ub, iv um, rv wd_, iv (Int32.ofNat (own_w ub).length), iv uc, yq, iv up, iv (8 : Int32), rv b439, .unset, .unset, .unset] [(.int (8 : Int32))]))
    refine own_goW (fun _ k => XS.iconst X470.here hx rfl (hb hby at_230) (XS.icmpNo X470.here hx rfl (hb hby at_231) rfl (tlt (by decide : (4 : Int32) < (8 : Int32))).2.2.2 (XS.aload X470.here hx rfl (hb hby at_234) rfl rfl (XS.iconst X470.here hx rfl (hb hby at_236) (XS.aload X470.here hx rfl (hb hby at_237) rfl rfl k))))) ?_
    show own_GoW p e below s _ _ _ _ (T470.setTop (mkF m 239 #[iv p1, iv p2, iv p3, iv p4, iv p5, iv uk, iv ub, iv um, rv wd_, iv (Int32.ofNat (own_w ub).length), iv uc, yq, iv up, iv (8 : Int32), rv b439, .unset, .unset, .unset] [(.ref wd_), (.int (4 : Int32)), (.ref b439)]))
    refine own_goW (fun _ k => XS.iload X470.here hx rfl (hb hby at_239) rfl (XS.iload X470.here hx rfl (hb hby at_241) rfl (XS.iload X470.here hx rfl (hb hby at_243) rfl (XS.iconst X470.here hx rfl (hb hby at_245) k)))) ?_
    obtain ⟨v472, T472, L472, X472, hQ472, st472⟩ := own_callS (y := own_y7) X470 hx hZ hown (ow53 hw) (ow54 hw) (ow3 hw) (ow55 hw) (rm_cell l Z a0 hw hO [] wd_ um up uc (4 : Int32) (own_w ub) h470 O0 (fp0.keep K1) (own_SlKeep fp1 K1 all0) (own_cokL hub hPN (by decide) (by decide)) huc) 2 0 0 (by show _ ≤ 32; omega) (by show _ ≤ 8384; omega) e470 (g := (mkF m 246 #[iv p1, iv p2, iv p3, iv p4, iv p5, iv uk, iv ub, iv um, rv wd_, iv (Int32.ofNat (own_w ub).length), iv uc, yq, iv up, iv (8 : Int32), rv b439, .unset, .unset, .unset] [(.int (4 : Int32)), (.int uc), (.int up), (.int um), (.ref wd_), (.int (4 : Int32)), (.ref b439)])) rfl (by rw [hml]; rfl) [(.ref wd_), (.int um), (.int up), (.int uc), (.int (4 : Int32))] [(.int (4 : Int32)), (.ref b439)] (lenOf own_pd_6 rfl) rfl rfl (hb hby at_246)
    obtain ⟨rfl, Nc475, hp473, Kc474⟩ := hQ472
    refine own_goW st472 ?_
    clear st472 X470 e470
    replace N0 := Fr.app N0 Nc475
    clear Nc475
    show own_GoW p e below s _ _ _ _ (T472.setTop (mkF m 249 #[iv p1, iv p2, iv p3, iv p4, iv p5, iv uk, iv ub, iv um, rv wd_, iv (Int32.ofNat (own_w ub).length), iv uc, yq, iv up, iv (8 : Int32), rv b439, .unset, .unset, .unset] [(.int (own_cell (own_w ub) um up uc (4 : Int32))), (.int (4 : Int32)), (.ref b439)]))
    obtain ⟨cl476, Ar476, q476, S476, M476, P476, G476⟩ := id f471
    have hin476 : ¬ ((4 : Int32) < 0 ∨ cl476.slots.size ≤ ((4 : Int32)).toNatClampNeg) := inb_of S476 ⟨by decide, by decide⟩
    obtain ⟨T477, h477, X477, e477, W477, st477⟩ := stC X472 hx hZ Kc474 Ar476 (j := (4 : Int32)) hin476 (g := (mkF m 249 #[iv p1, iv p2, iv p3, iv p4, iv p5, iv uk, iv ub, iv um, rv wd_, iv (Int32.ofNat (own_w ub).length), iv uc, yq, iv up, iv (8 : Int32), rv b439, .unset, .unset, .unset] [(.int (own_cell (own_w ub) um up uc (4 : Int32))), (.int (4 : Int32)), (.ref b439)])) rfl rfl (hb hby at_249)
    refine own_goW st477 ?_
    clear st477 X472 Kc474
    rw [own_nar8 hp473] at W477
    have f478 : Arv Z h477 b439 k439 .char (8 : Int32) [(.int (own_cell (own_w ub) um up uc (0 : Int32))), (.int (own_cell (own_w ub) um up uc (1 : Int32))), (.int (own_cell (own_w ub) um up uc (2 : Int32))), (.int (own_cell (own_w ub) um up uc (3 : Int32))), (.int (own_cell (own_w ub) um up uc (4 : Int32))), (.int (0 : Int32)), (.int (0 : Int32)), (.int (0 : Int32))] (.int (0 : Int32)) := Arv.set Ar476 q476 S476 M476 P476 G476 (by have q := fits_nar_char (own_cell (own_w ub) um up uc (4 : Int32)); rw [own_nar8 hp473] at q; exact q) W477 4 rfl (Nat.le_of_ble_eq_true rfl)
    replace N0 := Fr.snoc X477 N0 big440
    replace hJ := own_Jwr hZ hJ W477 (own_farV f471 (by decide) (ow7 hw))
    clear f471
    replace O0 := own_oldWr O0 W477 big440
    replace K0 := K0.wr W477 (Or.inr sz441)
    replace K1 := K1.wr W477 (Or.inr sz442)
    replace hS := own_since hS (Nat.le_of_eq W477.size.symm)
    clear W477
    clear Ar476 q476 S476 M476 P476 G476 hin476
    refine own_goW (fun _ k => XS.iload X477.here hx rfl (hb hby at_250) rfl (XS.iconst X477.here hx rfl (hb hby at_252) (XS.icmpNo X477.here hx rfl (hb hby at_253) rfl (tlt (by decide : (5 : Int32) < (8 : Int32))).2.2.2 (XS.aload X477.here hx rfl (hb hby at_256) rfl rfl k)))) ?_
    show own_GoW p e below s _ _ _ _ (T477.setTop (mkF m 258 #[iv p1, iv p2, iv p3, iv p4, iv p5, iv uk, iv ub, iv um, rv wd_, iv (Int32.ofNat (own_w ub).length), iv uc, yq, iv up, iv (8 : Int32), rv b439, .unset, .unset, .unset] [(.ref b439)]))
    refine own_goW (fun _ k => XS.iconst X477.here hx rfl (hb hby at_258) (XS.aload X477.here hx rfl (hb hby at_259) rfl rfl (XS.iload X477.here hx rfl (hb hby at_261) rfl (XS.iload X477.here hx rfl (hb hby at_263) rfl (XS.iload X477.here hx rfl (hb hby at_265) rfl k))))) ?_
    show own_GoW p e below s _ _ _ _ (T477.setTop (mkF m 267 #[iv p1, iv p2, iv p3, iv p4, iv p5, iv uk, iv ub, iv um, rv wd_, iv (Int32.ofNat (own_w ub).length), iv uc, yq, iv up, iv (8 : Int32), rv b439, .unset, .unset, .unset] [(.int uc), (.int up), (.int um), (.ref wd_), (.int (5 : Int32)), (.ref b439)]))
    refine own_goW (fun _ k => XS.iconst X477.here hx rfl (hb hby at_267) k) ?_
    obtain ⟨v479, T479, L479, X479, hQ479, st479⟩ := own_callS (y := own_y7) X477 hx hZ hown (ow53 hw) (ow54 hw) (ow3 hw) (ow55 hw) (rm_cell l Z a0 hw hO [] wd_ um up uc (5 : Int32) (own_w ub) h477 O0 (fp0.keep K1) (own_SlKeep fp1 K1 all0) (own_cokL hub hPN (by decide) (by decide)) huc) 2 0 0 (by show _ ≤ 32; omega) (by show _ ≤ 8384; omega) e477 (g := (mkF m 268 #[iv p1, iv p2, iv p3, iv p4, iv p5, iv uk, iv ub, iv um, rv wd_, iv (Int32.ofNat (own_w ub).length), iv uc, yq, iv up, iv (8 : Int32), rv b439, .unset, .unset, .unset] [(.int (5 : Int32)), (.int uc), (.int up), (.int um), (.ref wd_), (.int (5 : Int32)), (.ref b439)])) rfl (by rw [hml]; rfl) [(.ref wd_), (.int um), (.int up), (.int uc), (.int (5 : Int32))] [(.int (5 : Int32)), (.ref b439)] (lenOf own_pd_6 rfl) rfl rfl (hb hby at_268)
    obtain ⟨rfl, Nc482, hp480, Kc481⟩ := hQ479
    refine own_goW st479 ?_
    clear st479 X477 e477
    replace N0 := Fr.app N0 Nc482
    clear Nc482
    obtain ⟨cl483, Ar483, q483, S483, M483, P483, G483⟩ := id f478
    have hin483 : ¬ ((5 : Int32) < 0 ∨ cl483.slots.size ≤ ((5 : Int32)).toNatClampNeg) := inb_of S483 ⟨by decide, by decide⟩
    obtain ⟨T484, h484, X484, e484, W484, st484⟩ := stC X479 hx hZ Kc481 Ar483 (j := (5 : Int32)) hin483 (g := (mkF m 271 #[iv p1, iv p2, iv p3, iv p4, iv p5, iv uk, iv ub, iv um, rv wd_, iv (Int32.ofNat (own_w ub).length), iv uc, yq, iv up, iv (8 : Int32), rv b439, .unset, .unset, .unset] [(.int (own_cell (own_w ub) um up uc (5 : Int32))), (.int (5 : Int32)), (.ref b439)])) rfl rfl (hb hby at_271)
    refine own_goW st484 ?_
    clear st484 X479 Kc481
    rw [own_nar8 hp480] at W484
    have f485 : Arv Z h484 b439 k439 .char (8 : Int32) [(.int (own_cell (own_w ub) um up uc (0 : Int32))), (.int (own_cell (own_w ub) um up uc (1 : Int32))), (.int (own_cell (own_w ub) um up uc (2 : Int32))), (.int (own_cell (own_w ub) um up uc (3 : Int32))), (.int (own_cell (own_w ub) um up uc (4 : Int32))), (.int (own_cell (own_w ub) um up uc (5 : Int32))), (.int (0 : Int32)), (.int (0 : Int32))] (.int (0 : Int32)) := Arv.set Ar483 q483 S483 M483 P483 G483 (by have q := fits_nar_char (own_cell (own_w ub) um up uc (5 : Int32)); rw [own_nar8 hp480] at q; exact q) W484 5 rfl (Nat.le_of_ble_eq_true rfl)
    replace N0 := Fr.snoc X484 N0 big440
    replace hJ := own_Jwr hZ hJ W484 (own_farV f478 (by decide) (ow7 hw))
    clear f478
    replace O0 := own_oldWr O0 W484 big440
    replace K0 := K0.wr W484 (Or.inr sz441)
    replace K1 := K1.wr W484 (Or.inr sz442)
    replace hS := own_since hS (Nat.le_of_eq W484.size.symm)
    clear W484
    clear Ar483 q483 S483 M483 P483 G483 hin483
    refine own_goW (fun _ k => XS.iload X484.here hx rfl (hb hby at_272) rfl (XS.bipush X484.here hx rfl (hb hby at_274) k)) ?_
    show own_GoW p e below s _ _ _ _ (T484.setTop (mkF m 276 #[iv p1, iv p2, iv p3, iv p4, iv p5, iv uk, iv ub, iv um, rv wd_, iv (Int32.ofNat (own_w ub).length), iv uc, yq, iv up, iv (8 : Int32), rv b439, .unset, .unset, .unset] [(.int (6 : Int32)), (.int (8 : Int32))]))
    refine own_goW (fun _ k => XS.icmpNo X484.here hx rfl (hb hby at_276) rfl (tlt (by decide : (6 : Int32) < (8 : Int32))).2.2.2 (XS.aload X484.here hx rfl (hb hby at_279) rfl rfl (XS.bipush X484.here hx rfl (hb hby at_281) (XS.aload X484.here hx rfl (hb hby at_283) rfl rfl (XS.iload X484.here hx rfl (hb hby at_285) rfl k))))) ?_
    show own_GoW p e below s _ _ _ _ (T484.setTop (mkF m 287 #[iv p1, iv p2, iv p3, iv p4, iv p5, iv uk, iv ub, iv um, rv wd_, iv (Int32.ofNat (own_w ub).length), iv uc, yq, iv up, iv (8 : Int32), rv b439, .unset, .unset, .unset] [(.int um), (.ref wd_), (.int (6 : Int32)), (.ref b439)]))
    refine own_goW (fun _ k => XS.iload X484.here hx rfl (hb hby at_287) rfl (XS.iload X484.here hx rfl (hb hby at_289) rfl (XS.bipush X484.here hx rfl (hb hby at_291) k))) ?_
    obtain ⟨v486, T486, L486, X486, hQ486, st486⟩ := own_callS (y := own_y7) X484 hx hZ hown (ow53 hw) (ow54 hw) (ow3 hw) (ow55 hw) (rm_cell l Z a0 hw hO [] wd_ um up uc (6 : Int32) (own_w ub) h484 O0 (fp0.keep K1) (own_SlKeep fp1 K1 all0) (own_cokL hub hPN (by decide) (by decide)) huc) 2 0 0 (by show _ ≤ 32; omega) (by show _ ≤ 8384; omega) e484 (g := (mkF m 293 #[iv p1, iv p2, iv p3, iv p4, iv p5, iv uk, iv ub, iv um, rv wd_, iv (Int32.ofNat (own_w ub).length), iv uc, yq, iv up, iv (8 : Int32), rv b439, .unset, .unset, .unset] [(.int (6 : Int32)), (.int uc), (.int up), (.int um), (.ref wd_), (.int (6 : Int32)), (.ref b439)])) rfl (by rw [hml]; rfl) [(.ref wd_), (.int um), (.int up), (.int uc), (.int (6 : Int32))] [(.int (6 : Int32)), (.ref b439)] (lenOf own_pd_6 rfl) rfl rfl (hb hby at_293)
    obtain ⟨rfl, Nc489, hp487, Kc488⟩ := hQ486
    refine own_goW st486 ?_
    clear st486 X484 e484
    replace N0 := Fr.app N0 Nc489
    clear Nc489
    obtain ⟨cl490, Ar490, q490, S490, M490, P490, G490⟩ := id f485
    have hin490 : ¬ ((6 : Int32) < 0 ∨ cl490.slots.size ≤ ((6 : Int32)).toNatClampNeg) := inb_of S490 ⟨by decide, by decide⟩
    obtain ⟨T491, h491, X491, e491, W491, st491⟩ := stC X486 hx hZ Kc488 Ar490 (j := (6 : Int32)) hin490 (g := (mkF m 296 #[iv p1, iv p2, iv p3, iv p4, iv p5, iv uk, iv ub, iv um, rv wd_, iv (Int32.ofNat (own_w ub).length), iv uc, yq, iv up, iv (8 : Int32), rv b439, .unset, .unset, .unset] [(.int (own_cell (own_w ub) um up uc (6 : Int32))), (.int (6 : Int32)), (.ref b439)])) rfl rfl (hb hby at_296)
    refine own_goW st491 ?_
    clear st491 X486 Kc488
    rw [own_nar8 hp487] at W491
    have f492 : Arv Z h491 b439 k439 .char (8 : Int32) [(.int (own_cell (own_w ub) um up uc (0 : Int32))), (.int (own_cell (own_w ub) um up uc (1 : Int32))), (.int (own_cell (own_w ub) um up uc (2 : Int32))), (.int (own_cell (own_w ub) um up uc (3 : Int32))), (.int (own_cell (own_w ub) um up uc (4 : Int32))), (.int (own_cell (own_w ub) um up uc (5 : Int32))), (.int (own_cell (own_w ub) um up uc (6 : Int32))), (.int (0 : Int32))] (.int (0 : Int32)) := Arv.set Ar490 q490 S490 M490 P490 G490 (by have q := fits_nar_char (own_cell (own_w ub) um up uc (6 : Int32)); rw [own_nar8 hp487] at q; exact q) W491 6 rfl (Nat.le_of_ble_eq_true rfl)
    replace N0 := Fr.snoc X491 N0 big440
    replace hJ := own_Jwr hZ hJ W491 (own_farV f485 (by decide) (ow7 hw))
    clear f485
    replace O0 := own_oldWr O0 W491 big440
    replace K0 := K0.wr W491 (Or.inr sz441)
    replace K1 := K1.wr W491 (Or.inr sz442)
    replace hS := own_since hS (Nat.le_of_eq W491.size.symm)
    clear W491
    clear Ar490 q490 S490 M490 P490 G490 hin490
    show own_GoW p e below s _ _ _ _ (T491.setTop (mkF m 297 #[iv p1, iv p2, iv p3, iv p4, iv p5, iv uk, iv ub, iv um, rv wd_, iv (Int32.ofNat (own_w ub).length), iv uc, yq, iv up, iv (8 : Int32), rv b439, .unset, .unset, .unset] []))
    refine own_goW (fun _ k => XS.iload X491.here hx rfl (hb hby at_297) rfl (XS.bipush X491.here hx rfl (hb hby at_299) (XS.icmpNo X491.here hx rfl (hb hby at_301) rfl (tlt (by decide : (7 : Int32) < (8 : Int32))).2.2.2 (XS.aload X491.here hx rfl (hb hby at_304) rfl rfl (XS.bipush X491.here hx rfl (hb hby at_306) k))))) ?_
    show own_GoW p e below s _ _ _ _ (T491.setTop (mkF m 308 #[iv p1, iv p2, iv p3, iv p4, iv p5, iv uk, iv ub, iv um, rv wd_, iv (Int32.ofNat (own_w ub).length), iv uc, yq, iv up, iv (8 : Int32), rv b439, .unset, .unset, .unset] [(.int (7 : Int32)), (.ref b439)]))
    refine own_goW (fun _ k => XS.aload X491.here hx rfl (hb hby at_308) rfl rfl (XS.iload X491.here hx rfl (hb hby at_310) rfl (XS.iload X491.here hx rfl (hb hby at_312) rfl (XS.iload X491.here hx rfl (hb hby at_314) rfl (XS.bipush X491.here hx rfl (hb hby at_316) k))))) ?_
    show own_GoW p e below s _ _ _ _ (T491.setTop (mkF m 318 #[iv p1, iv p2, iv p3, iv p4, iv p5, iv uk, iv ub, iv um, rv wd_, iv (Int32.ofNat (own_w ub).length), iv uc, yq, iv up, iv (8 : Int32), rv b439, .unset, .unset, .unset] [(.int (7 : Int32)), (.int uc), (.int up), (.int um), (.ref wd_), (.int (7 : Int32)), (.ref b439)]))
    obtain ⟨v493, T493, L493, X493, hQ493, st493⟩ := own_callS (y := own_y7) X491 hx hZ hown (ow53 hw) (ow54 hw) (ow3 hw) (ow55 hw) (rm_cell l Z a0 hw hO [] wd_ um up uc (7 : Int32) (own_w ub) h491 O0 (fp0.keep K1) (own_SlKeep fp1 K1 all0) (own_cokL hub hPN (by decide) (by decide)) huc) 2 0 0 (by show _ ≤ 32; omega) (by show _ ≤ 8384; omega) e491 (g := (mkF m 318 #[iv p1, iv p2, iv p3, iv p4, iv p5, iv uk, iv ub, iv um, rv wd_, iv (Int32.ofNat (own_w ub).length), iv uc, yq, iv up, iv (8 : Int32), rv b439, .unset, .unset, .unset] [(.int (7 : Int32)), (.int uc), (.int up), (.int um), (.ref wd_), (.int (7 : Int32)), (.ref b439)])) rfl (by rw [hml]; rfl) [(.ref wd_), (.int um), (.int up), (.int uc), (.int (7 : Int32))] [(.int (7 : Int32)), (.ref b439)] (lenOf own_pd_6 rfl) rfl rfl (hb hby at_318)
    obtain ⟨rfl, Nc496, hp494, Kc495⟩ := hQ493
    refine own_goW st493 ?_
    clear st493 X491 e491
    replace N0 := Fr.app N0 Nc496
    clear Nc496
    obtain ⟨cl497, Ar497, q497, S497, M497, P497, G497⟩ := id f492
    have hin497 : ¬ ((7 : Int32) < 0 ∨ cl497.slots.size ≤ ((7 : Int32)).toNatClampNeg) := inb_of S497 ⟨by decide, by decide⟩
    obtain ⟨T498, h498, X498, e498, W498, st498⟩ := stC X493 hx hZ Kc495 Ar497 (j := (7 : Int32)) hin497 (g := (mkF m 321 #[iv p1, iv p2, iv p3, iv p4, iv p5, iv uk, iv ub, iv um, rv wd_, iv (Int32.ofNat (own_w ub).length), iv uc, yq, iv up, iv (8 : Int32), rv b439, .unset, .unset, .unset] [(.int (own_cell (own_w ub) um up uc (7 : Int32))), (.int (7 : Int32)), (.ref b439)])) rfl rfl (hb hby at_321)
    refine own_goW st498 ?_
    clear st498 X493 Kc495
    rw [own_nar8 hp494] at W498
    have f499 : Arv Z h498 b439 k439 .char (8 : Int32) [(.int (own_cell (own_w ub) um up uc (0 : Int32))), (.int (own_cell (own_w ub) um up uc (1 : Int32))), (.int (own_cell (own_w ub) um up uc (2 : Int32))), (.int (own_cell (own_w ub) um up uc (3 : Int32))), (.int (own_cell (own_w ub) um up uc (4 : Int32))), (.int (own_cell (own_w ub) um up uc (5 : Int32))), (.int (own_cell (own_w ub) um up uc (6 : Int32))), (.int (own_cell (own_w ub) um up uc (7 : Int32)))] (.int (0 : Int32)) := Arv.set Ar497 q497 S497 M497 P497 G497 (by have q := fits_nar_char (own_cell (own_w ub) um up uc (7 : Int32)); rw [own_nar8 hp494] at q; exact q) W498 7 rfl (Nat.le_of_ble_eq_true rfl)
    replace N0 := Fr.snoc X498 N0 big440
    replace hJ := own_Jwr hZ hJ W498 (own_farV f492 (by decide) (ow7 hw))
    clear f492
    replace O0 := own_oldWr O0 W498 big440
    replace K0 := K0.wr W498 (Or.inr sz441)
    replace K1 := K1.wr W498 (Or.inr sz442)
    replace hS := own_since hS (Nat.le_of_eq W498.size.symm)
    clear W498
    clear Ar497 q497 S497 M497 P497 G497 hin497
    refine own_goW (fun _ k => XS.iload X498.here hx rfl (hb hby at_322) rfl (XS.bipush X498.here hx rfl (hb hby at_324) (XS.icmpYes X498.here hx rfl (pc0 := 326) (pc' := 347) rfl (hb hby at_326) rfl (flt (by decide : ¬ ((8 : Int32) < (8 : Int32)))).2.2.2 (by decide) (by decide) k))) ?_
    show own_GoW p e below s _ _ _ _ (T498.setTop (mkF m 347 #[iv p1, iv p2, iv p3, iv p4, iv p5, iv uk, iv ub, iv um, rv wd_, iv (Int32.ofNat (own_w ub).length), iv uc, yq, iv up, iv (8 : Int32), rv b439, .unset, .unset, .unset] []))
    refine own_goW (fun _ k => XS.iload X498.here hx rfl (hb hby at_347) rfl (XS.bipush X498.here hx rfl (hb hby at_349) (XS.icmpYes X498.here hx rfl (pc0 := 351) (pc' := 372) rfl (hb hby at_351) rfl (flt (by decide : ¬ ((9 : Int32) < (8 : Int32)))).2.2.2 (by decide) (by decide) (XS.iload X498.here hx rfl (hb hby at_372) rfl (XS.bipush X498.here hx rfl (hb hby at_374) k))))) ?_
    show own_GoW p e below s _ _ _ _ (T498.setTop (mkF m 376 #[iv p1, iv p2, iv p3, iv p4, iv p5, iv uk, iv ub, iv um, rv wd_, iv (Int32.ofNat (own_w ub).length), iv uc, yq, iv up, iv (8 : Int32), rv b439, .unset, .unset, .unset] [(.int (10 : Int32)), (.int (8 : Int32))]))
    refine own_goW (fun _ k => XS.icmpYes X498.here hx rfl (pc0 := 376) (pc' := 397) rfl (hb hby at_376) rfl (flt (by decide : ¬ ((10 : Int32) < (8 : Int32)))).2.2.2 (by decide) (by decide) k) ?_
    obtain ⟨T500, h500, X500, e500, E500, A500, D500, -, st500⟩ := newO X498 hx hZ hown (ow27 hw) (ow7 hw) (ow6 hw) e498 (g := (mkF m 397 #[iv p1, iv p2, iv p3, iv p4, iv p5, iv uk, iv ub, iv um, rv wd_, iv (Int32.ofNat (own_w ub).length), iv uc, yq, iv up, iv (8 : Int32), rv b439, .unset, .unset, .unset] [])) rfl (hb hby at_397) (by show _ ≤ 32; omega) (by show _ ≤ 8384; omega)
    obtain ⟨b500, g500⟩ : ∃ z, z = h498.size := ⟨_, rfl⟩
    rw [← g500] at A500 D500 st500
    refine own_goW st500 ?_
    clear st500 X498 e498
    have ge500 := Nat.le_of_eq g500.symm
    have ne501 : b439 ≠ b500 := Nat.ne_of_lt (Nat.lt_of_lt_of_le f499.lt ge500)
    have big502 : Z.heap.size ≤ b500 := Nat.le_trans O0.1 ge500
    have sz503 : h0.size ≤ b500 := Nat.le_trans K0.1 ge500
    have sz504 : hs1.size ≤ b500 := Nat.le_trans K1.1 ge500
    replace f499 := f499.ext E500
    replace O0 := own_oldExt O0 E500
    replace K0 := K0.ext E500
    replace K1 := K1.ext E500
    replace hS := own_since hS E500.1
    replace hJ := own_Jext hJ E500
    clear E500
    have f505 : Fld Z h500 b500 "java/lang/String" "value" "[B" .null := D500 (Or.inr (ow9 hw)) (ty := (.array .byte)) own_fd0
    have f506 : Fld Z h500 b500 "java/lang/String" "coder" "B" (.int (0 : Int32)) := D500 (Or.inr (ow10 hw)) (ty := .byte) own_fd1
    refine own_goW (fun _ k => XS.dup X500.here hx rfl (hb hby at_400) rfl rfl (XS.aload X500.here hx rfl (hb hby at_401) rfl rfl k)) ?_
    obtain ⟨v507, T507, L507, X507, hQ507, st507⟩ := own_callIB (y := own_y1) X500 hx hZ hown (ow28 hw) (ow29 hw) (ow6 hw) (ow30 hw) 1 1 8 (StrChars.Road.backV (W := 1) hZ (own_sw1 hw) (kI := 4) (ow7 hw) (cs := ([(own_cell (own_w ub) um up uc (0 : Int32)), (own_cell (own_w ub) um up uc (1 : Int32)), (own_cell (own_w ub) um up uc (2 : Int32)), (own_cell (own_w ub) um up uc (3 : Int32)), (own_cell (own_w ub) um up uc (4 : Int32)), (own_cell (own_w ub) um up uc (5 : Int32)), (own_cell (own_w ub) um up uc (6 : Int32)), (own_cell (own_w ub) um up uc (7 : Int32))] : List Int32)) (bs := ([(own_cell (own_w ub) um up uc (0 : Int32)), (own_cell (own_w ub) um up uc (1 : Int32)), (own_cell (own_w ub) um up uc (2 : Int32)), (own_cell (own_w ub) um up uc (3 : Int32)), (own_cell (own_w ub) um up uc (4 : Int32)), (own_cell (own_w ub) um up uc (5 : Int32)), (own_cell (own_w ub) um up uc (6 : Int32)), (own_cell (own_w ub) um up uc (7 : Int32))] : List Int32).map (fun c => c.toInt8.toInt32)) (n := 8) (n0 := Z.heap.size) big502 (Nat.le_trans O0.1 (Nat.le_refl _)) A500 f505 f506 f499 (oCS.ext O0) oCz rfl rfl (by decide) (by decide) (own_cC hp445 (own_cC hp452 (own_cC hp459 (own_cC hp466 (own_cC hp473 (own_cC hp480 (own_cC hp487 (own_cC hp494 own_cN)))))))) rfl (by decide) (by decide)) rfl (by show _ ≤ 32; omega) (by show _ ≤ 8384; omega) e500 (g := (mkF m 403 #[iv p1, iv p2, iv p3, iv p4, iv p5, iv uk, iv ub, iv um, rv wd_, iv (Int32.ofNat (own_w ub).length), iv uc, yq, iv up, iv (8 : Int32), rv b439, .unset, .unset, .unset] [(.ref b439), (.ref b500), (.ref b500)])) rfl (by rw [hml]; rfl) b500 [(.ref b439)] [(.ref b500)] (lenOf own_pd_5 rfl) rfl rfl (hb hby at_403)
    obtain ⟨rfl, Nc507, Kc507, f1507, f2507, t507, kb507, tb507, ts507, tn507, f3507, f4507⟩ := hQ507
    refine own_goW st507 ?_
    clear st507 X500 e500
    replace N0 := Fr.app N0 Nc507
    clear Nc507
    replace hS := own_since hS Kc507.1
    have ne508 : b439 ≠ t507 := Nat.ne_of_lt (Nat.lt_of_lt_of_le f499.lt ts507)
    have ne509 : b500 ≠ t507 := Nat.ne_of_lt (Nat.lt_of_lt_of_le A500.lt ts507)
    have big510 : Z.heap.size ≤ t507 := Nat.le_trans O0.1 ts507
    have sz511 : h0.size ≤ t507 := Nat.le_trans K0.1 ts507
    have sz512 : hs1.size ≤ t507 := Nat.le_trans K1.1 ts507
    have hAp_b500 := own_apart hZ hJ f505
    replace hJ := own_JkeepS hZ hJ Kc507 hAp_b500 A500 (ow7 hw)
    replace f499 := f499.keep Kc507 (ninS ne501 nin0)
    replace A500 := A500.keep Kc507
    clear f505
    clear f506
    replace O0 := own_oldKeep O0 Kc507 (allS big502 all0)
    replace K0 := K0.trans Kc507 (allS (Or.inr sz503) all0)
    replace K1 := K1.trans Kc507 (allS (Or.inr sz504) all0)
    clear Kc507
    replace f4507 : Arv Z T507.heap t507 kb507 .byte (8 : Int32) [(.int ((own_cell (own_w ub) um up uc (0 : Int32)).toInt8.toInt32)), (.int ((own_cell (own_w ub) um up uc (1 : Int32)).toInt8.toInt32)), (.int ((own_cell (own_w ub) um up uc (2 : Int32)).toInt8.toInt32)), (.int ((own_cell (own_w ub) um up uc (3 : Int32)).toInt8.toInt32)), (.int ((own_cell (own_w ub) um up uc (4 : Int32)).toInt8.toInt32)), (.int ((own_cell (own_w ub) um up uc (5 : Int32)).toInt8.toInt32)), (.int ((own_cell (own_w ub) um up uc (6 : Int32)).toInt8.toInt32)), (.int ((own_cell (own_w ub) um up uc (7 : Int32)).toInt8.toInt32))] (.int (0 : Int32)) := f4507
    show own_GoW p e below s _ _ _ _ (T507.setTop (mkF m 406 #[iv p1, iv p2, iv p3, iv p4, iv p5, iv uk, iv ub, iv um, rv wd_, iv (Int32.ofNat (own_w ub).length), iv uc, yq, iv up, iv (8 : Int32), rv b439, .unset, .unset, .unset] [(.ref b500)]))
    have sl513 : own_Sl Z T507.heap b500 (own_nm ub um up uc (8 : Int32)) := by
      rw [own_nm_8]
      exact own_mkSl (cs := [(own_cell (own_w ub) um up uc (0 : Int32)), (own_cell (own_w ub) um up uc (1 : Int32)), (own_cell (own_w ub) um up uc (2 : Int32)), (own_cell (own_w ub) um up uc (3 : Int32)), (own_cell (own_w ub) um up uc (4 : Int32)), (own_cell (own_w ub) um up uc (5 : Int32)), (own_cell (own_w ub) um up uc (6 : Int32)), (own_cell (own_w ub) um up uc (7 : Int32))]) f1507 f2507 f3507 f4507 rfl rfl (own_cC hp445 (own_cC hp452 (own_cC hp459 (own_cC hp466 (own_cC hp473 (own_cC hp480 (own_cC hp487 (own_cC hp494 own_cN)))))))) (Nat.le_of_ble_eq_true rfl)
    exact sg_s406 hw hO p1 p2 p3 p4 p5 uk ub um uc up (8 : Int32) wd_ (yq : Slot) (rv b439 : Slot) b500 h0 T507.heap X507 hS hL hJ hx hby hml hret hlk hZ hown hnm (rfl : T507.heap = T507.heap) N0 O0 K0 (fp0.keep K1) (own_SlKeep fp1 K1 all0) f1507 sl513 huk hub hum hPN huc (by omega) (by omega)
  · show own_GoW p e below s _ _ _ _ (T.setTop (mkF m 137 #[iv p1, iv p2, iv p3, iv p4, iv p5, iv uk, iv ub, iv um, rv wd_, iv (Int32.ofNat (own_w ub).length), iv uc, yq, iv up, iv (9 : Int32), .unset, .unset, .unset, .unset] [(.int (9 : Int32))]))
    show own_GoW p e below s _ _ _ _ (T.setTop (mkF m 137 #[iv p1, iv p2, iv p3, iv p4, iv p5, iv uk, iv ub, iv um, rv wd_, iv (Int32.ofNat (own_w ub).length), iv uc, yq, iv up, iv (9 : Int32), .unset, .unset, .unset, .unset] [(.int (9 : Int32))]))
    obtain ⟨T514, h514, k514, X514, e514, E514, A514, st514⟩ := newP (aty := .char) X0 hx hZ (ow26 hw) e0 (g := (mkF m 137 #[iv p1, iv p2, iv p3, iv p4, iv p5, iv uk, iv ub, iv um, rv wd_, iv (Int32.ofNat (own_w ub).length), iv uc, yq, iv up, iv (9 : Int32), .unset, .unset, .unset, .unset] [(.int (9 : Int32))])) rfl (hb hby at_137) rfl (by decide) (cap := 9) (by decide) (by decide) (by show _ ≤ 32; omega) (by show _ ≤ 8384; omega)
    obtain ⟨b514, g514⟩ : ∃ z, z = hs1.size := ⟨_, rfl⟩
    rw [← g514] at A514 st514
    refine own_goW st514 ?_
    clear st514 X0 e0
    have ge514 := Nat.le_of_eq g514.symm
    have big515 : Z.heap.size ≤ b514 := Nat.le_trans O0.1 ge514
    have sz516 : h0.size ≤ b514 := Nat.le_trans K0.1 ge514
    have sz517 : hs1.size ≤ b514 := Nat.le_trans K1.1 ge514
    replace O0 := own_oldExt O0 E514
    replace K0 := K0.ext E514
    replace K1 := K1.ext E514
    replace hS := own_since hS E514.1
    replace hJ := own_Jext hJ E514
    clear E514
    have f518 : Arv Z h514 b514 k514 .char (9 : Int32) [(.int (0 : Int32)), (.int (0 : Int32)), (.int (0 : Int32)), (.int (0 : Int32)), (.int (0 : Int32)), (.int (0 : Int32)), (.int (0 : Int32)), (.int (0 : Int32)), (.int (0 : Int32))] (.int (0 : Int32)) := (Arv.new A514 (by decide)).pad (pad_rep [] (.int (0 : Int32)) 9)
    refine own_goW (fun _ k => XS.astore X514.here hx rfl (hb hby at_139) rfl rfl (l' := #[iv p1, iv p2, iv p3, iv p4, iv p5, iv uk, iv ub, iv um, rv wd_, iv (Int32.ofNat (own_w ub).length), iv uc, yq, iv up, iv (9 : Int32), rv b514, .unset, .unset, .unset]) rfl (XS.iload X514.here hx rfl (hb hby at_141) rfl (XS.ifNo X514.here hx rfl (hb hby at_143) rfl ((if0 _ _).trans (tlt (by decide : (0 : Int32) < (9 : Int32))).2.2.2) (XS.aload X514.here hx rfl (hb hby at_146) rfl rfl k)))) ?_
    show own_GoW p e below s _ _ _ _ (T514.setTop (mkF m 148 #[iv p1, iv p2, iv p3, iv p4, iv p5, iv uk, iv ub, iv um, rv wd_, iv (Int32.ofNat (own_w ub).length), iv uc, yq, iv up, iv (9 : Int32), rv b514, .unset, .unset, .unset] [(.ref b514)]))
    refine own_goW (fun _ k => XS.iconst X514.here hx rfl (hb hby at_148) (XS.aload X514.here hx rfl (hb hby at_149) rfl rfl (XS.iload X514.here hx rfl (hb hby at_151) rfl (XS.iload X514.here hx rfl (hb hby at_153) rfl (XS.iload X514.here hx rfl (hb hby at_155) rfl k))))) ?_
    show own_GoW p e below s _ _ _ _ (T514.setTop (mkF m 157 #[iv p1, iv p2, iv p3, iv p4, iv p5, iv uk, iv ub, iv um, rv wd_, iv (Int32.ofNat (own_w ub).length), iv uc, yq, iv up, iv (9 : Int32), rv b514, .unset, .unset, .unset] [(.int uc), (.int up), (.int um), (.ref wd_), (.int (0 : Int32)), (.ref b514)]))
    refine own_goW (fun _ k => XS.iconst X514.here hx rfl (hb hby at_157) k) ?_
    obtain ⟨v519, T519, L519, X519, hQ519, st519⟩ := own_callS (y := own_y7) X514 hx hZ hown (ow53 hw) (ow54 hw) (ow3 hw) (ow55 hw) (rm_cell l Z a0 hw hO [] wd_ um up uc (0 : Int32) (own_w ub) h514 O0 (fp0.keep K1) (own_SlKeep fp1 K1 all0) (own_cokL hub hPN (by decide) (by decide)) huc) 2 0 0 (by show _ ≤ 32; omega) (by show _ ≤ 8384; omega) e514 (g := (mkF m 158 #[iv p1, iv p2, iv p3, iv p4, iv p5, iv uk, iv ub, iv um, rv wd_, iv (Int32.ofNat (own_w ub).length), iv uc, yq, iv up, iv (9 : Int32), rv b514, .unset, .unset, .unset] [(.int (0 : Int32)), (.int uc), (.int up), (.int um), (.ref wd_), (.int (0 : Int32)), (.ref b514)])) rfl (by rw [hml]; rfl) [(.ref wd_), (.int um), (.int up), (.int uc), (.int (0 : Int32))] [(.int (0 : Int32)), (.ref b514)] (lenOf own_pd_6 rfl) rfl rfl (hb hby at_158)
    obtain ⟨rfl, Nc522, hp520, Kc521⟩ := hQ519
    refine own_goW st519 ?_
    clear st519 X514 e514
    replace N0 := Fr.app N0 Nc522
    clear Nc522
    obtain ⟨cl523, Ar523, q523, S523, M523, P523, G523⟩ := id f518
    have hin523 : ¬ ((0 : Int32) < 0 ∨ cl523.slots.size ≤ ((0 : Int32)).toNatClampNeg) := inb_of S523 ⟨by decide, by decide⟩
    obtain ⟨T524, h524, X524, e524, W524, st524⟩ := stC X519 hx hZ Kc521 Ar523 (j := (0 : Int32)) hin523 (g := (mkF m 161 #[iv p1, iv p2, iv p3, iv p4, iv p5, iv uk, iv ub, iv um, rv wd_, iv (Int32.ofNat (own_w ub).length), iv uc, yq, iv up, iv (9 : Int32), rv b514, .unset, .unset, .unset] [(.int (own_cell (own_w ub) um up uc (0 : Int32))), (.int (0 : Int32)), (.ref b514)])) rfl rfl (hb hby at_161)
    refine own_goW st524 ?_
    clear st524 X519 Kc521
    rw [own_nar8 hp520] at W524
    have f525 : Arv Z h524 b514 k514 .char (9 : Int32) [(.int (own_cell (own_w ub) um up uc (0 : Int32))), (.int (0 : Int32)), (.int (0 : Int32)), (.int (0 : Int32)), (.int (0 : Int32)), (.int (0 : Int32)), (.int (0 : Int32)), (.int (0 : Int32)), (.int (0 : Int32))] (.int (0 : Int32)) := Arv.set Ar523 q523 S523 M523 P523 G523 (by have q := fits_nar_char (own_cell (own_w ub) um up uc (0 : Int32)); rw [own_nar8 hp520] at q; exact q) W524 0 rfl (Nat.le_of_ble_eq_true rfl)
    replace N0 := Fr.snoc X524 N0 big515
    replace hJ := own_Jwr hZ hJ W524 (own_farV f518 (by decide) (ow7 hw))
    clear f518
    replace O0 := own_oldWr O0 W524 big515
    replace K0 := K0.wr W524 (Or.inr sz516)
    replace K1 := K1.wr W524 (Or.inr sz517)
    replace hS := own_since hS (Nat.le_of_eq W524.size.symm)
    clear W524
    clear Ar523 q523 S523 M523 P523 G523 hin523
    refine own_goW (fun _ k => XS.iload X524.here hx rfl (hb hby at_162) rfl (XS.iconst X524.here hx rfl (hb hby at_164) k)) ?_
    show own_GoW p e below s _ _ _ _ (T524.setTop (mkF m 165 #[iv p1, iv p2, iv p3, iv p4, iv p5, iv uk, iv ub, iv um, rv wd_, iv (Int32.ofNat (own_w ub).length), iv uc, yq, iv up, iv (9 : Int32), rv b514, .unset, .unset, .unset] [(.int (1 : Int32)), (.int (9 : Int32))]))
    refine own_goW (fun _ k => XS.icmpNo X524.here hx rfl (hb hby at_165) rfl (tlt (by decide : (1 : Int32) < (9 : Int32))).2.2.2 (XS.aload X524.here hx rfl (hb hby at_168) rfl rfl (XS.iconst X524.here hx rfl (hb hby at_170) (XS.aload X524.here hx rfl (hb hby at_171) rfl rfl (XS.iload X524.here hx rfl (hb hby at_173) rfl k))))) ?_
    show own_GoW p e below s _ _ _ _ (T524.setTop (mkF m 175 #[iv p1, iv p2, iv p3, iv p4, iv p5, iv uk, iv ub, iv um, rv wd_, iv (Int32.ofNat (own_w ub).length), iv uc, yq, iv up, iv (9 : Int32), rv b514, .unset, .unset, .unset] [(.int um), (.ref wd_), (.int (1 : Int32)), (.ref b514)]))
    refine own_goW (fun _ k => XS.iload X524.here hx rfl (hb hby at_175) rfl (XS.iload X524.here hx rfl (hb hby at_177) rfl (XS.iconst X524.here hx rfl (hb hby at_179) k))) ?_
    obtain ⟨v526, T526, L526, X526, hQ526, st526⟩ := own_callS (y := own_y7) X524 hx hZ hown (ow53 hw) (ow54 hw) (ow3 hw) (ow55 hw) (rm_cell l Z a0 hw hO [] wd_ um up uc (1 : Int32) (own_w ub) h524 O0 (fp0.keep K1) (own_SlKeep fp1 K1 all0) (own_cokL hub hPN (by decide) (by decide)) huc) 2 0 0 (by show _ ≤ 32; omega) (by show _ ≤ 8384; omega) e524 (g := (mkF m 180 #[iv p1, iv p2, iv p3, iv p4, iv p5, iv uk, iv ub, iv um, rv wd_, iv (Int32.ofNat (own_w ub).length), iv uc, yq, iv up, iv (9 : Int32), rv b514, .unset, .unset, .unset] [(.int (1 : Int32)), (.int uc), (.int up), (.int um), (.ref wd_), (.int (1 : Int32)), (.ref b514)])) rfl (by rw [hml]; rfl) [(.ref wd_), (.int um), (.int up), (.int uc), (.int (1 : Int32))] [(.int (1 : Int32)), (.ref b514)] (lenOf own_pd_6 rfl) rfl rfl (hb hby at_180)
    obtain ⟨rfl, Nc529, hp527, Kc528⟩ := hQ526
    refine own_goW st526 ?_
    clear st526 X524 e524
    replace N0 := Fr.app N0 Nc529
    clear Nc529
    obtain ⟨cl530, Ar530, q530, S530, M530, P530, G530⟩ := id f525
    have hin530 : ¬ ((1 : Int32) < 0 ∨ cl530.slots.size ≤ ((1 : Int32)).toNatClampNeg) := inb_of S530 ⟨by decide, by decide⟩
    obtain ⟨T531, h531, X531, e531, W531, st531⟩ := stC X526 hx hZ Kc528 Ar530 (j := (1 : Int32)) hin530 (g := (mkF m 183 #[iv p1, iv p2, iv p3, iv p4, iv p5, iv uk, iv ub, iv um, rv wd_, iv (Int32.ofNat (own_w ub).length), iv uc, yq, iv up, iv (9 : Int32), rv b514, .unset, .unset, .unset] [(.int (own_cell (own_w ub) um up uc (1 : Int32))), (.int (1 : Int32)), (.ref b514)])) rfl rfl (hb hby at_183)
    refine own_goW st531 ?_
    clear st531 X526 Kc528
    rw [own_nar8 hp527] at W531
    have f532 : Arv Z h531 b514 k514 .char (9 : Int32) [(.int (own_cell (own_w ub) um up uc (0 : Int32))), (.int (own_cell (own_w ub) um up uc (1 : Int32))), (.int (0 : Int32)), (.int (0 : Int32)), (.int (0 : Int32)), (.int (0 : Int32)), (.int (0 : Int32)), (.int (0 : Int32)), (.int (0 : Int32))] (.int (0 : Int32)) := Arv.set Ar530 q530 S530 M530 P530 G530 (by have q := fits_nar_char (own_cell (own_w ub) um up uc (1 : Int32)); rw [own_nar8 hp527] at q; exact q) W531 1 rfl (Nat.le_of_ble_eq_true rfl)
    replace N0 := Fr.snoc X531 N0 big515
    replace hJ := own_Jwr hZ hJ W531 (own_farV f525 (by decide) (ow7 hw))
    clear f525
    replace O0 := own_oldWr O0 W531 big515
    replace K0 := K0.wr W531 (Or.inr sz516)
    replace K1 := K1.wr W531 (Or.inr sz517)
    replace hS := own_since hS (Nat.le_of_eq W531.size.symm)
    clear W531
    clear Ar530 q530 S530 M530 P530 G530 hin530
    show own_GoW p e below s _ _ _ _ (T531.setTop (mkF m 184 #[iv p1, iv p2, iv p3, iv p4, iv p5, iv uk, iv ub, iv um, rv wd_, iv (Int32.ofNat (own_w ub).length), iv uc, yq, iv up, iv (9 : Int32), rv b514, .unset, .unset, .unset] []))
    refine own_goW (fun _ k => XS.iload X531.here hx rfl (hb hby at_184) rfl (XS.iconst X531.here hx rfl (hb hby at_186) (XS.icmpNo X531.here hx rfl (hb hby at_187) rfl (tlt (by decide : (2 : Int32) < (9 : Int32))).2.2.2 (XS.aload X531.here hx rfl (hb hby at_190) rfl rfl (XS.iconst X531.here hx rfl (hb hby at_192) k))))) ?_
    show own_GoW p e below s _ _ _ _ (T531.setTop (mkF m 193 #[iv p1, iv p2, iv p3, iv p4, iv p5, iv uk, iv ub, iv um, rv wd_, iv (Int32.ofNat (own_w ub).length), iv uc, yq, iv up, iv (9 : Int32), rv b514, .unset, .unset, .unset] [(.int (2 : Int32)), (.ref b514)]))
    refine own_goW (fun _ k => XS.aload X531.here hx rfl (hb hby at_193) rfl rfl (XS.iload X531.here hx rfl (hb hby at_195) rfl (XS.iload X531.here hx rfl (hb hby at_197) rfl (XS.iload X531.here hx rfl (hb hby at_199) rfl (XS.iconst X531.here hx rfl (hb hby at_201) k))))) ?_
    show own_GoW p e below s _ _ _ _ (T531.setTop (mkF m 202 #[iv p1, iv p2, iv p3, iv p4, iv p5, iv uk, iv ub, iv um, rv wd_, iv (Int32.ofNat (own_w ub).length), iv uc, yq, iv up, iv (9 : Int32), rv b514, .unset, .unset, .unset] [(.int (2 : Int32)), (.int uc), (.int up), (.int um), (.ref wd_), (.int (2 : Int32)), (.ref b514)]))
    obtain ⟨v533, T533, L533, X533, hQ533, st533⟩ := own_callS (y := own_y7) X531 hx hZ hown (ow53 hw) (ow54 hw) (ow3 hw) (ow55 hw) (rm_cell l Z a0 hw hO [] wd_ um up uc (2 : Int32) (own_w ub) h531 O0 (fp0.keep K1) (own_SlKeep fp1 K1 all0) (own_cokL hub hPN (by decide) (by decide)) huc) 2 0 0 (by show _ ≤ 32; omega) (by show _ ≤ 8384; omega) e531 (g := (mkF m 202 #[iv p1, iv p2, iv p3, iv p4, iv p5, iv uk, iv ub, iv um, rv wd_, iv (Int32.ofNat (own_w ub).length), iv uc, yq, iv up, iv (9 : Int32), rv b514, .unset, .unset, .unset] [(.int (2 : Int32)), (.int uc), (.int up), (.int um), (.ref wd_), (.int (2 : Int32)), (.ref b514)])) rfl (by rw [hml]; rfl) [(.ref wd_), (.int um), (.int up), (.int uc), (.int (2 : Int32))] [(.int (2 : Int32)), (.ref b514)] (lenOf own_pd_6 rfl) rfl rfl (hb hby at_202)
    obtain ⟨rfl, Nc536, hp534, Kc535⟩ := hQ533
    refine own_goW st533 ?_
    clear st533 X531 e531
    replace N0 := Fr.app N0 Nc536
    clear Nc536
    obtain ⟨cl537, Ar537, q537, S537, M537, P537, G537⟩ := id f532
    have hin537 : ¬ ((2 : Int32) < 0 ∨ cl537.slots.size ≤ ((2 : Int32)).toNatClampNeg) := inb_of S537 ⟨by decide, by decide⟩
    obtain ⟨T538, h538, X538, e538, W538, st538⟩ := stC X533 hx hZ Kc535 Ar537 (j := (2 : Int32)) hin537 (g := (mkF m 205 #[iv p1, iv p2, iv p3, iv p4, iv p5, iv uk, iv ub, iv um, rv wd_, iv (Int32.ofNat (own_w ub).length), iv uc, yq, iv up, iv (9 : Int32), rv b514, .unset, .unset, .unset] [(.int (own_cell (own_w ub) um up uc (2 : Int32))), (.int (2 : Int32)), (.ref b514)])) rfl rfl (hb hby at_205)
    refine own_goW st538 ?_
    clear st538 X533 Kc535
    rw [own_nar8 hp534] at W538
    have f539 : Arv Z h538 b514 k514 .char (9 : Int32) [(.int (own_cell (own_w ub) um up uc (0 : Int32))), (.int (own_cell (own_w ub) um up uc (1 : Int32))), (.int (own_cell (own_w ub) um up uc (2 : Int32))), (.int (0 : Int32)), (.int (0 : Int32)), (.int (0 : Int32)), (.int (0 : Int32)), (.int (0 : Int32)), (.int (0 : Int32))] (.int (0 : Int32)) := Arv.set Ar537 q537 S537 M537 P537 G537 (by have q := fits_nar_char (own_cell (own_w ub) um up uc (2 : Int32)); rw [own_nar8 hp534] at q; exact q) W538 2 rfl (Nat.le_of_ble_eq_true rfl)
    replace N0 := Fr.snoc X538 N0 big515
    replace hJ := own_Jwr hZ hJ W538 (own_farV f532 (by decide) (ow7 hw))
    clear f532
    replace O0 := own_oldWr O0 W538 big515
    replace K0 := K0.wr W538 (Or.inr sz516)
    replace K1 := K1.wr W538 (Or.inr sz517)
    replace hS := own_since hS (Nat.le_of_eq W538.size.symm)
    clear W538
    clear Ar537 q537 S537 M537 P537 G537 hin537
    refine own_goW (fun _ k => XS.iload X538.here hx rfl (hb hby at_206) rfl (XS.iconst X538.here hx rfl (hb hby at_208) (XS.icmpNo X538.here hx rfl (hb hby at_209) rfl (tlt (by decide : (3 : Int32) < (9 : Int32))).2.2.2 k))) ?_
    show own_GoW p e below s _ _ _ _ (T538.setTop (mkF m 212 #[iv p1, iv p2, iv p3, iv p4, iv p5, iv uk, iv ub, iv um, rv wd_, iv (Int32.ofNat (own_w ub).length), iv uc, yq, iv up, iv (9 : Int32), rv b514, .unset, .unset, .unset] []))
    refine own_goW (fun _ k => XS.aload X538.here hx rfl (hb hby at_212) rfl rfl (XS.iconst X538.here hx rfl (hb hby at_214) (XS.aload X538.here hx rfl (hb hby at_215) rfl rfl (XS.iload X538.here hx rfl (hb hby at_217) rfl (XS.iload X538.here hx rfl (hb hby at_219) rfl k))))) ?_
    show own_GoW p e below s _ _ _ _ (T538.setTop (mkF m 221 #[iv p1, iv p2, iv p3, iv p4, iv p5, iv uk, iv ub, iv um, rv wd_, iv (Int32.ofNat (own_w ub).length), iv uc, yq, iv up, iv (9 : Int32), rv b514, .unset, .unset, .unset] [(.int up), (.int um), (.ref wd_), (.int (3 : Int32)), (.ref b514)]))
    refine own_goW (fun _ k => XS.iload X538.here hx rfl (hb hby at_221) rfl (XS.iconst X538.here hx rfl (hb hby at_223) k)) ?_
    obtain ⟨v540, T540, L540, X540, hQ540, st540⟩ := own_callS (y := own_y7) X538 hx hZ hown (ow53 hw) (ow54 hw) (ow3 hw) (ow55 hw) (rm_cell l Z a0 hw hO [] wd_ um up uc (3 : Int32) (own_w ub) h538 O0 (fp0.keep K1) (own_SlKeep fp1 K1 all0) (own_cokL hub hPN (by decide) (by decide)) huc) 2 0 0 (by show _ ≤ 32; omega) (by show _ ≤ 8384; omega) e538 (g := (mkF m 224 #[iv p1, iv p2, iv p3, iv p4, iv p5, iv uk, iv ub, iv um, rv wd_, iv (Int32.ofNat (own_w ub).length), iv uc, yq, iv up, iv (9 : Int32), rv b514, .unset, .unset, .unset] [(.int (3 : Int32)), (.int uc), (.int up), (.int um), (.ref wd_), (.int (3 : Int32)), (.ref b514)])) rfl (by rw [hml]; rfl) [(.ref wd_), (.int um), (.int up), (.int uc), (.int (3 : Int32))] [(.int (3 : Int32)), (.ref b514)] (lenOf own_pd_6 rfl) rfl rfl (hb hby at_224)
    obtain ⟨rfl, Nc543, hp541, Kc542⟩ := hQ540
    refine own_goW st540 ?_
    clear st540 X538 e538
    replace N0 := Fr.app N0 Nc543
    clear Nc543
    obtain ⟨cl544, Ar544, q544, S544, M544, P544, G544⟩ := id f539
    have hin544 : ¬ ((3 : Int32) < 0 ∨ cl544.slots.size ≤ ((3 : Int32)).toNatClampNeg) := inb_of S544 ⟨by decide, by decide⟩
    obtain ⟨T545, h545, X545, e545, W545, st545⟩ := stC X540 hx hZ Kc542 Ar544 (j := (3 : Int32)) hin544 (g := (mkF m 227 #[iv p1, iv p2, iv p3, iv p4, iv p5, iv uk, iv ub, iv um, rv wd_, iv (Int32.ofNat (own_w ub).length), iv uc, yq, iv up, iv (9 : Int32), rv b514, .unset, .unset, .unset] [(.int (own_cell (own_w ub) um up uc (3 : Int32))), (.int (3 : Int32)), (.ref b514)])) rfl rfl (hb hby at_227)
    refine own_goW st545 ?_
    clear st545 X540 Kc542
    rw [own_nar8 hp541] at W545
    have f546 : Arv Z h545 b514 k514 .char (9 : Int32) [(.int (own_cell (own_w ub) um up uc (0 : Int32))), (.int (own_cell (own_w ub) um up uc (1 : Int32))), (.int (own_cell (own_w ub) um up uc (2 : Int32))), (.int (own_cell (own_w ub) um up uc (3 : Int32))), (.int (0 : Int32)), (.int (0 : Int32)), (.int (0 : Int32)), (.int (0 : Int32)), (.int (0 : Int32))] (.int (0 : Int32)) := Arv.set Ar544 q544 S544 M544 P544 G544 (by have q := fits_nar_char (own_cell (own_w ub) um up uc (3 : Int32)); rw [own_nar8 hp541] at q; exact q) W545 3 rfl (Nat.le_of_ble_eq_true rfl)
    replace N0 := Fr.snoc X545 N0 big515
    replace hJ := own_Jwr hZ hJ W545 (own_farV f539 (by decide) (ow7 hw))
    clear f539
    replace O0 := own_oldWr O0 W545 big515
    replace K0 := K0.wr W545 (Or.inr sz516)
    replace K1 := K1.wr W545 (Or.inr sz517)
    replace hS := own_since hS (Nat.le_of_eq W545.size.symm)
    clear W545
    clear Ar544 q544 S544 M544 P544 G544 hin544
    refine own_goW (fun _ k => XS.iload X545.here hx rfl (hb hby at_228) rfl k) ?_
    show own_GoW p e below s _ _ _ _ (T545.setTop (mkF m 230 #[iv p1, iv p2, iv p3, iv p4, iv p5, iv uk, iv ub, iv um, rv wd_, iv (Int32.ofNat (own_w ub).length), iv uc, yq, iv up, iv (9 : Int32), rv b514, .unset, .unset, .unset] [(.int (9 : Int32))]))
    refine own_goW (fun _ k => XS.iconst X545.here hx rfl (hb hby at_230) (XS.icmpNo X545.here hx rfl (hb hby at_231) rfl (tlt (by decide : (4 : Int32) < (9 : Int32))).2.2.2 (XS.aload X545.here hx rfl (hb hby at_234) rfl rfl (XS.iconst X545.here hx rfl (hb hby at_236) (XS.aload X545.here hx rfl (hb hby at_237) rfl rfl k))))) ?_
    show own_GoW p e below s _ _ _ _ (T545.setTop (mkF m 239 #[iv p1, iv p2, iv p3, iv p4, iv p5, iv uk, iv ub, iv um, rv wd_, iv (Int32.ofNat (own_w ub).length), iv uc, yq, iv up, iv (9 : Int32), rv b514, .unset, .unset, .unset] [(.ref wd_), (.int (4 : Int32)), (.ref b514)]))
    refine own_goW (fun _ k => XS.iload X545.here hx rfl (hb hby at_239) rfl (XS.iload X545.here hx rfl (hb hby at_241) rfl (XS.iload X545.here hx rfl (hb hby at_243) rfl (XS.iconst X545.here hx rfl (hb hby at_245) k)))) ?_
    obtain ⟨v547, T547, L547, X547, hQ547, st547⟩ := own_callS (y := own_y7) X545 hx hZ hown (ow53 hw) (ow54 hw) (ow3 hw) (ow55 hw) (rm_cell l Z a0 hw hO [] wd_ um up uc (4 : Int32) (own_w ub) h545 O0 (fp0.keep K1) (own_SlKeep fp1 K1 all0) (own_cokL hub hPN (by decide) (by decide)) huc) 2 0 0 (by show _ ≤ 32; omega) (by show _ ≤ 8384; omega) e545 (g := (mkF m 246 #[iv p1, iv p2, iv p3, iv p4, iv p5, iv uk, iv ub, iv um, rv wd_, iv (Int32.ofNat (own_w ub).length), iv uc, yq, iv up, iv (9 : Int32), rv b514, .unset, .unset, .unset] [(.int (4 : Int32)), (.int uc), (.int up), (.int um), (.ref wd_), (.int (4 : Int32)), (.ref b514)])) rfl (by rw [hml]; rfl) [(.ref wd_), (.int um), (.int up), (.int uc), (.int (4 : Int32))] [(.int (4 : Int32)), (.ref b514)] (lenOf own_pd_6 rfl) rfl rfl (hb hby at_246)
    obtain ⟨rfl, Nc550, hp548, Kc549⟩ := hQ547
    refine own_goW st547 ?_
    clear st547 X545 e545
    replace N0 := Fr.app N0 Nc550
    clear Nc550
    show own_GoW p e below s _ _ _ _ (T547.setTop (mkF m 249 #[iv p1, iv p2, iv p3, iv p4, iv p5, iv uk, iv ub, iv um, rv wd_, iv (Int32.ofNat (own_w ub).length), iv uc, yq, iv up, iv (9 : Int32), rv b514, .unset, .unset, .unset] [(.int (own_cell (own_w ub) um up uc (4 : Int32))), (.int (4 : Int32)), (.ref b514)]))
    obtain ⟨cl551, Ar551, q551, S551, M551, P551, G551⟩ := id f546
    have hin551 : ¬ ((4 : Int32) < 0 ∨ cl551.slots.size ≤ ((4 : Int32)).toNatClampNeg) := inb_of S551 ⟨by decide, by decide⟩
    obtain ⟨T552, h552, X552, e552, W552, st552⟩ := stC X547 hx hZ Kc549 Ar551 (j := (4 : Int32)) hin551 (g := (mkF m 249 #[iv p1, iv p2, iv p3, iv p4, iv p5, iv uk, iv ub, iv um, rv wd_, iv (Int32.ofNat (own_w ub).length), iv uc, yq, iv up, iv (9 : Int32), rv b514, .unset, .unset, .unset] [(.int (own_cell (own_w ub) um up uc (4 : Int32))), (.int (4 : Int32)), (.ref b514)])) rfl rfl (hb hby at_249)
    refine own_goW st552 ?_
    clear st552 X547 Kc549
    rw [own_nar8 hp548] at W552
    have f553 : Arv Z h552 b514 k514 .char (9 : Int32) [(.int (own_cell (own_w ub) um up uc (0 : Int32))), (.int (own_cell (own_w ub) um up uc (1 : Int32))), (.int (own_cell (own_w ub) um up uc (2 : Int32))), (.int (own_cell (own_w ub) um up uc (3 : Int32))), (.int (own_cell (own_w ub) um up uc (4 : Int32))), (.int (0 : Int32)), (.int (0 : Int32)), (.int (0 : Int32)), (.int (0 : Int32))] (.int (0 : Int32)) := Arv.set Ar551 q551 S551 M551 P551 G551 (by have q := fits_nar_char (own_cell (own_w ub) um up uc (4 : Int32)); rw [own_nar8 hp548] at q; exact q) W552 4 rfl (Nat.le_of_ble_eq_true rfl)
    replace N0 := Fr.snoc X552 N0 big515
    replace hJ := own_Jwr hZ hJ W552 (own_farV f546 (by decide) (ow7 hw))
    clear f546
    replace O0 := own_oldWr O0 W552 big515
    replace K0 := K0.wr W552 (Or.inr sz516)
    replace K1 := K1.wr W552 (Or.inr sz517)
    replace hS := own_since hS (Nat.le_of_eq W552.size.symm)
    clear W552
    clear Ar551 q551 S551 M551 P551 G551 hin551
    refine own_goW (fun _ k => XS.iload X552.here hx rfl (hb hby at_250) rfl (XS.iconst X552.here hx rfl (hb hby at_252) (XS.icmpNo X552.here hx rfl (hb hby at_253) rfl (tlt (by decide : (5 : Int32) < (9 : Int32))).2.2.2 (XS.aload X552.here hx rfl (hb hby at_256) rfl rfl k)))) ?_
    show own_GoW p e below s _ _ _ _ (T552.setTop (mkF m 258 #[iv p1, iv p2, iv p3, iv p4, iv p5, iv uk, iv ub, iv um, rv wd_, iv (Int32.ofNat (own_w ub).length), iv uc, yq, iv up, iv (9 : Int32), rv b514, .unset, .unset, .unset] [(.ref b514)]))
    refine own_goW (fun _ k => XS.iconst X552.here hx rfl (hb hby at_258) (XS.aload X552.here hx rfl (hb hby at_259) rfl rfl (XS.iload X552.here hx rfl (hb hby at_261) rfl (XS.iload X552.here hx rfl (hb hby at_263) rfl (XS.iload X552.here hx rfl (hb hby at_265) rfl k))))) ?_
    show own_GoW p e below s _ _ _ _ (T552.setTop (mkF m 267 #[iv p1, iv p2, iv p3, iv p4, iv p5, iv uk, iv ub, iv um, rv wd_, iv (Int32.ofNat (own_w ub).length), iv uc, yq, iv up, iv (9 : Int32), rv b514, .unset, .unset, .unset] [(.int uc), (.int up), (.int um), (.ref wd_), (.int (5 : Int32)), (.ref b514)]))
    refine own_goW (fun _ k => XS.iconst X552.here hx rfl (hb hby at_267) k) ?_
    obtain ⟨v554, T554, L554, X554, hQ554, st554⟩ := own_callS (y := own_y7) X552 hx hZ hown (ow53 hw) (ow54 hw) (ow3 hw) (ow55 hw) (rm_cell l Z a0 hw hO [] wd_ um up uc (5 : Int32) (own_w ub) h552 O0 (fp0.keep K1) (own_SlKeep fp1 K1 all0) (own_cokL hub hPN (by decide) (by decide)) huc) 2 0 0 (by show _ ≤ 32; omega) (by show _ ≤ 8384; omega) e552 (g := (mkF m 268 #[iv p1, iv p2, iv p3, iv p4, iv p5, iv uk, iv ub, iv um, rv wd_, iv (Int32.ofNat (own_w ub).length), iv uc, yq, iv up, iv (9 : Int32), rv b514, .unset, .unset, .unset] [(.int (5 : Int32)), (.int uc), (.int up), (.int um), (.ref wd_), (.int (5 : Int32)), (.ref b514)])) rfl (by rw [hml]; rfl) [(.ref wd_), (.int um), (.int up), (.int uc), (.int (5 : Int32))] [(.int (5 : Int32)), (.ref b514)] (lenOf own_pd_6 rfl) rfl rfl (hb hby at_268)
    obtain ⟨rfl, Nc557, hp555, Kc556⟩ := hQ554
    refine own_goW st554 ?_
    clear st554 X552 e552
    replace N0 := Fr.app N0 Nc557
    clear Nc557
    obtain ⟨cl558, Ar558, q558, S558, M558, P558, G558⟩ := id f553
    have hin558 : ¬ ((5 : Int32) < 0 ∨ cl558.slots.size ≤ ((5 : Int32)).toNatClampNeg) := inb_of S558 ⟨by decide, by decide⟩
    obtain ⟨T559, h559, X559, e559, W559, st559⟩ := stC X554 hx hZ Kc556 Ar558 (j := (5 : Int32)) hin558 (g := (mkF m 271 #[iv p1, iv p2, iv p3, iv p4, iv p5, iv uk, iv ub, iv um, rv wd_, iv (Int32.ofNat (own_w ub).length), iv uc, yq, iv up, iv (9 : Int32), rv b514, .unset, .unset, .unset] [(.int (own_cell (own_w ub) um up uc (5 : Int32))), (.int (5 : Int32)), (.ref b514)])) rfl rfl (hb hby at_271)
    refine own_goW st559 ?_
    clear st559 X554 Kc556
    rw [own_nar8 hp555] at W559
    have f560 : Arv Z h559 b514 k514 .char (9 : Int32) [(.int (own_cell (own_w ub) um up uc (0 : Int32))), (.int (own_cell (own_w ub) um up uc (1 : Int32))), (.int (own_cell (own_w ub) um up uc (2 : Int32))), (.int (own_cell (own_w ub) um up uc (3 : Int32))), (.int (own_cell (own_w ub) um up uc (4 : Int32))), (.int (own_cell (own_w ub) um up uc (5 : Int32))), (.int (0 : Int32)), (.int (0 : Int32)), (.int (0 : Int32))] (.int (0 : Int32)) := Arv.set Ar558 q558 S558 M558 P558 G558 (by have q := fits_nar_char (own_cell (own_w ub) um up uc (5 : Int32)); rw [own_nar8 hp555] at q; exact q) W559 5 rfl (Nat.le_of_ble_eq_true rfl)
    replace N0 := Fr.snoc X559 N0 big515
    replace hJ := own_Jwr hZ hJ W559 (own_farV f553 (by decide) (ow7 hw))
    clear f553
    replace O0 := own_oldWr O0 W559 big515
    replace K0 := K0.wr W559 (Or.inr sz516)
    replace K1 := K1.wr W559 (Or.inr sz517)
    replace hS := own_since hS (Nat.le_of_eq W559.size.symm)
    clear W559
    clear Ar558 q558 S558 M558 P558 G558 hin558
    refine own_goW (fun _ k => XS.iload X559.here hx rfl (hb hby at_272) rfl (XS.bipush X559.here hx rfl (hb hby at_274) k)) ?_
    show own_GoW p e below s _ _ _ _ (T559.setTop (mkF m 276 #[iv p1, iv p2, iv p3, iv p4, iv p5, iv uk, iv ub, iv um, rv wd_, iv (Int32.ofNat (own_w ub).length), iv uc, yq, iv up, iv (9 : Int32), rv b514, .unset, .unset, .unset] [(.int (6 : Int32)), (.int (9 : Int32))]))
    refine own_goW (fun _ k => XS.icmpNo X559.here hx rfl (hb hby at_276) rfl (tlt (by decide : (6 : Int32) < (9 : Int32))).2.2.2 (XS.aload X559.here hx rfl (hb hby at_279) rfl rfl (XS.bipush X559.here hx rfl (hb hby at_281) (XS.aload X559.here hx rfl (hb hby at_283) rfl rfl (XS.iload X559.here hx rfl (hb hby at_285) rfl k))))) ?_
    show own_GoW p e below s _ _ _ _ (T559.setTop (mkF m 287 #[iv p1, iv p2, iv p3, iv p4, iv p5, iv uk, iv ub, iv um, rv wd_, iv (Int32.ofNat (own_w ub).length), iv uc, yq, iv up, iv (9 : Int32), rv b514, .unset, .unset, .unset] [(.int um), (.ref wd_), (.int (6 : Int32)), (.ref b514)]))
    refine own_goW (fun _ k => XS.iload X559.here hx rfl (hb hby at_287) rfl (XS.iload X559.here hx rfl (hb hby at_289) rfl (XS.bipush X559.here hx rfl (hb hby at_291) k))) ?_
    obtain ⟨v561, T561, L561, X561, hQ561, st561⟩ := own_callS (y := own_y7) X559 hx hZ hown (ow53 hw) (ow54 hw) (ow3 hw) (ow55 hw) (rm_cell l Z a0 hw hO [] wd_ um up uc (6 : Int32) (own_w ub) h559 O0 (fp0.keep K1) (own_SlKeep fp1 K1 all0) (own_cokL hub hPN (by decide) (by decide)) huc) 2 0 0 (by show _ ≤ 32; omega) (by show _ ≤ 8384; omega) e559 (g := (mkF m 293 #[iv p1, iv p2, iv p3, iv p4, iv p5, iv uk, iv ub, iv um, rv wd_, iv (Int32.ofNat (own_w ub).length), iv uc, yq, iv up, iv (9 : Int32), rv b514, .unset, .unset, .unset] [(.int (6 : Int32)), (.int uc), (.int up), (.int um), (.ref wd_), (.int (6 : Int32)), (.ref b514)])) rfl (by rw [hml]; rfl) [(.ref wd_), (.int um), (.int up), (.int uc), (.int (6 : Int32))] [(.int (6 : Int32)), (.ref b514)] (lenOf own_pd_6 rfl) rfl rfl (hb hby at_293)
    obtain ⟨rfl, Nc564, hp562, Kc563⟩ := hQ561
    refine own_goW st561 ?_
    clear st561 X559 e559
    replace N0 := Fr.app N0 Nc564
    clear Nc564
    obtain ⟨cl565, Ar565, q565, S565, M565, P565, G565⟩ := id f560
    have hin565 : ¬ ((6 : Int32) < 0 ∨ cl565.slots.size ≤ ((6 : Int32)).toNatClampNeg) := inb_of S565 ⟨by decide, by decide⟩
    obtain ⟨T566, h566, X566, e566, W566, st566⟩ := stC X561 hx hZ Kc563 Ar565 (j := (6 : Int32)) hin565 (g := (mkF m 296 #[iv p1, iv p2, iv p3, iv p4, iv p5, iv uk, iv ub, iv um, rv wd_, iv (Int32.ofNat (own_w ub).length), iv uc, yq, iv up, iv (9 : Int32), rv b514, .unset, .unset, .unset] [(.int (own_cell (own_w ub) um up uc (6 : Int32))), (.int (6 : Int32)), (.ref b514)])) rfl rfl (hb hby at_296)
    refine own_goW st566 ?_
    clear st566 X561 Kc563
    rw [own_nar8 hp562] at W566
    have f567 : Arv Z h566 b514 k514 .char (9 : Int32) [(.int (own_cell (own_w ub) um up uc (0 : Int32))), (.int (own_cell (own_w ub) um up uc (1 : Int32))), (.int (own_cell (own_w ub) um up uc (2 : Int32))), (.int (own_cell (own_w ub) um up uc (3 : Int32))), (.int (own_cell (own_w ub) um up uc (4 : Int32))), (.int (own_cell (own_w ub) um up uc (5 : Int32))), (.int (own_cell (own_w ub) um up uc (6 : Int32))), (.int (0 : Int32)), (.int (0 : Int32))] (.int (0 : Int32)) := Arv.set Ar565 q565 S565 M565 P565 G565 (by have q := fits_nar_char (own_cell (own_w ub) um up uc (6 : Int32)); rw [own_nar8 hp562] at q; exact q) W566 6 rfl (Nat.le_of_ble_eq_true rfl)
    replace N0 := Fr.snoc X566 N0 big515
    replace hJ := own_Jwr hZ hJ W566 (own_farV f560 (by decide) (ow7 hw))
    clear f560
    replace O0 := own_oldWr O0 W566 big515
    replace K0 := K0.wr W566 (Or.inr sz516)
    replace K1 := K1.wr W566 (Or.inr sz517)
    replace hS := own_since hS (Nat.le_of_eq W566.size.symm)
    clear W566
    clear Ar565 q565 S565 M565 P565 G565 hin565
    show own_GoW p e below s _ _ _ _ (T566.setTop (mkF m 297 #[iv p1, iv p2, iv p3, iv p4, iv p5, iv uk, iv ub, iv um, rv wd_, iv (Int32.ofNat (own_w ub).length), iv uc, yq, iv up, iv (9 : Int32), rv b514, .unset, .unset, .unset] []))
    refine own_goW (fun _ k => XS.iload X566.here hx rfl (hb hby at_297) rfl (XS.bipush X566.here hx rfl (hb hby at_299) (XS.icmpNo X566.here hx rfl (hb hby at_301) rfl (tlt (by decide : (7 : Int32) < (9 : Int32))).2.2.2 (XS.aload X566.here hx rfl (hb hby at_304) rfl rfl (XS.bipush X566.here hx rfl (hb hby at_306) k))))) ?_
    show own_GoW p e below s _ _ _ _ (T566.setTop (mkF m 308 #[iv p1, iv p2, iv p3, iv p4, iv p5, iv uk, iv ub, iv um, rv wd_, iv (Int32.ofNat (own_w ub).length), iv uc, yq, iv up, iv (9 : Int32), rv b514, .unset, .unset, .unset] [(.int (7 : Int32)), (.ref b514)]))
    refine own_goW (fun _ k => XS.aload X566.here hx rfl (hb hby at_308) rfl rfl (XS.iload X566.here hx rfl (hb hby at_310) rfl (XS.iload X566.here hx rfl (hb hby at_312) rfl (XS.iload X566.here hx rfl (hb hby at_314) rfl (XS.bipush X566.here hx rfl (hb hby at_316) k))))) ?_
    show own_GoW p e below s _ _ _ _ (T566.setTop (mkF m 318 #[iv p1, iv p2, iv p3, iv p4, iv p5, iv uk, iv ub, iv um, rv wd_, iv (Int32.ofNat (own_w ub).length), iv uc, yq, iv up, iv (9 : Int32), rv b514, .unset, .unset, .unset] [(.int (7 : Int32)), (.int uc), (.int up), (.int um), (.ref wd_), (.int (7 : Int32)), (.ref b514)]))
    obtain ⟨v568, T568, L568, X568, hQ568, st568⟩ := own_callS (y := own_y7) X566 hx hZ hown (ow53 hw) (ow54 hw) (ow3 hw) (ow55 hw) (rm_cell l Z a0 hw hO [] wd_ um up uc (7 : Int32) (own_w ub) h566 O0 (fp0.keep K1) (own_SlKeep fp1 K1 all0) (own_cokL hub hPN (by decide) (by decide)) huc) 2 0 0 (by show _ ≤ 32; omega) (by show _ ≤ 8384; omega) e566 (g := (mkF m 318 #[iv p1, iv p2, iv p3, iv p4, iv p5, iv uk, iv ub, iv um, rv wd_, iv (Int32.ofNat (own_w ub).length), iv uc, yq, iv up, iv (9 : Int32), rv b514, .unset, .unset, .unset] [(.int (7 : Int32)), (.int uc), (.int up), (.int um), (.ref wd_), (.int (7 : Int32)), (.ref b514)])) rfl (by rw [hml]; rfl) [(.ref wd_), (.int um), (.int up), (.int uc), (.int (7 : Int32))] [(.int (7 : Int32)), (.ref b514)] (lenOf own_pd_6 rfl) rfl rfl (hb hby at_318)
    obtain ⟨rfl, Nc571, hp569, Kc570⟩ := hQ568
    refine own_goW st568 ?_
    clear st568 X566 e566
    replace N0 := Fr.app N0 Nc571
    clear Nc571
    obtain ⟨cl572, Ar572, q572, S572, M572, P572, G572⟩ := id f567
    have hin572 : ¬ ((7 : Int32) < 0 ∨ cl572.slots.size ≤ ((7 : Int32)).toNatClampNeg) := inb_of S572 ⟨by decide, by decide⟩
    obtain ⟨T573, h573, X573, e573, W573, st573⟩ := stC X568 hx hZ Kc570 Ar572 (j := (7 : Int32)) hin572 (g := (mkF m 321 #[iv p1, iv p2, iv p3, iv p4, iv p5, iv uk, iv ub, iv um, rv wd_, iv (Int32.ofNat (own_w ub).length), iv uc, yq, iv up, iv (9 : Int32), rv b514, .unset, .unset, .unset] [(.int (own_cell (own_w ub) um up uc (7 : Int32))), (.int (7 : Int32)), (.ref b514)])) rfl rfl (hb hby at_321)
    refine own_goW st573 ?_
    clear st573 X568 Kc570
    rw [own_nar8 hp569] at W573
    have f574 : Arv Z h573 b514 k514 .char (9 : Int32) [(.int (own_cell (own_w ub) um up uc (0 : Int32))), (.int (own_cell (own_w ub) um up uc (1 : Int32))), (.int (own_cell (own_w ub) um up uc (2 : Int32))), (.int (own_cell (own_w ub) um up uc (3 : Int32))), (.int (own_cell (own_w ub) um up uc (4 : Int32))), (.int (own_cell (own_w ub) um up uc (5 : Int32))), (.int (own_cell (own_w ub) um up uc (6 : Int32))), (.int (own_cell (own_w ub) um up uc (7 : Int32))), (.int (0 : Int32))] (.int (0 : Int32)) := Arv.set Ar572 q572 S572 M572 P572 G572 (by have q := fits_nar_char (own_cell (own_w ub) um up uc (7 : Int32)); rw [own_nar8 hp569] at q; exact q) W573 7 rfl (Nat.le_of_ble_eq_true rfl)
    replace N0 := Fr.snoc X573 N0 big515
    replace hJ := own_Jwr hZ hJ W573 (own_farV f567 (by decide) (ow7 hw))
    clear f567
    replace O0 := own_oldWr O0 W573 big515
    replace K0 := K0.wr W573 (Or.inr sz516)
    replace K1 := K1.wr W573 (Or.inr sz517)
    replace hS := own_since hS (Nat.le_of_eq W573.size.symm)
    clear W573
    clear Ar572 q572 S572 M572 P572 G572 hin572
    refine own_goW (fun _ k => XS.iload X573.here hx rfl (hb hby at_322) rfl (XS.bipush X573.here hx rfl (hb hby at_324) (XS.icmpNo X573.here hx rfl (hb hby at_326) rfl (tlt (by decide : (8 : Int32) < (9 : Int32))).2.2.2 k))) ?_
    show own_GoW p e below s _ _ _ _ (T573.setTop (mkF m 329 #[iv p1, iv p2, iv p3, iv p4, iv p5, iv uk, iv ub, iv um, rv wd_, iv (Int32.ofNat (own_w ub).length), iv uc, yq, iv up, iv (9 : Int32), rv b514, .unset, .unset, .unset] []))
    refine own_goW (fun _ k => XS.aload X573.here hx rfl (hb hby at_329) rfl rfl (XS.bipush X573.here hx rfl (hb hby at_331) (XS.aload X573.here hx rfl (hb hby at_333) rfl rfl (XS.iload X573.here hx rfl (hb hby at_335) rfl (XS.iload X573.here hx rfl (hb hby at_337) rfl k))))) ?_
    show own_GoW p e below s _ _ _ _ (T573.setTop (mkF m 339 #[iv p1, iv p2, iv p3, iv p4, iv p5, iv uk, iv ub, iv um, rv wd_, iv (Int32.ofNat (own_w ub).length), iv uc, yq, iv up, iv (9 : Int32), rv b514, .unset, .unset, .unset] [(.int up), (.int um), (.ref wd_), (.int (8 : Int32)), (.ref b514)]))
    refine own_goW (fun _ k => XS.iload X573.here hx rfl (hb hby at_339) rfl (XS.bipush X573.here hx rfl (hb hby at_341) k)) ?_
    obtain ⟨v575, T575, L575, X575, hQ575, st575⟩ := own_callS (y := own_y7) X573 hx hZ hown (ow53 hw) (ow54 hw) (ow3 hw) (ow55 hw) (rm_cell l Z a0 hw hO [] wd_ um up uc (8 : Int32) (own_w ub) h573 O0 (fp0.keep K1) (own_SlKeep fp1 K1 all0) (own_cokL hub hPN (by decide) (by decide)) huc) 2 0 0 (by show _ ≤ 32; omega) (by show _ ≤ 8384; omega) e573 (g := (mkF m 343 #[iv p1, iv p2, iv p3, iv p4, iv p5, iv uk, iv ub, iv um, rv wd_, iv (Int32.ofNat (own_w ub).length), iv uc, yq, iv up, iv (9 : Int32), rv b514, .unset, .unset, .unset] [(.int (8 : Int32)), (.int uc), (.int up), (.int um), (.ref wd_), (.int (8 : Int32)), (.ref b514)])) rfl (by rw [hml]; rfl) [(.ref wd_), (.int um), (.int up), (.int uc), (.int (8 : Int32))] [(.int (8 : Int32)), (.ref b514)] (lenOf own_pd_6 rfl) rfl rfl (hb hby at_343)
    obtain ⟨rfl, Nc578, hp576, Kc577⟩ := hQ575
    refine own_goW st575 ?_
    clear st575 X573 e573
    replace N0 := Fr.app N0 Nc578
    clear Nc578
    obtain ⟨cl579, Ar579, q579, S579, M579, P579, G579⟩ := id f574
    have hin579 : ¬ ((8 : Int32) < 0 ∨ cl579.slots.size ≤ ((8 : Int32)).toNatClampNeg) := inb_of S579 ⟨by decide, by decide⟩
    obtain ⟨T580, h580, X580, e580, W580, st580⟩ := stC X575 hx hZ Kc577 Ar579 (j := (8 : Int32)) hin579 (g := (mkF m 346 #[iv p1, iv p2, iv p3, iv p4, iv p5, iv uk, iv ub, iv um, rv wd_, iv (Int32.ofNat (own_w ub).length), iv uc, yq, iv up, iv (9 : Int32), rv b514, .unset, .unset, .unset] [(.int (own_cell (own_w ub) um up uc (8 : Int32))), (.int (8 : Int32)), (.ref b514)])) rfl rfl (hb hby at_346)
    refine own_goW st580 ?_
    clear st580 X575 Kc577
    rw [own_nar8 hp576] at W580
    have f581 : Arv Z h580 b514 k514 .char (9 : Int32) [(.int (own_cell (own_w ub) um up uc (0 : Int32))), (.int (own_cell (own_w ub) um up uc (1 : Int32))), (.int (own_cell (own_w ub) um up uc (2 : Int32))), (.int (own_cell (own_w ub) um up uc (3 : Int32))), (.int (own_cell (own_w ub) um up uc (4 : Int32))), (.int (own_cell (own_w ub) um up uc (5 : Int32))), (.int (own_cell (own_w ub) um up uc (6 : Int32))), (.int (own_cell (own_w ub) um up uc (7 : Int32))), (.int (own_cell (own_w ub) um up uc (8 : Int32)))] (.int (0 : Int32)) := Arv.set Ar579 q579 S579 M579 P579 G579 (by have q := fits_nar_char (own_cell (own_w ub) um up uc (8 : Int32)); rw [own_nar8 hp576] at q; exact q) W580 8 rfl (Nat.le_of_ble_eq_true rfl)
    replace N0 := Fr.snoc X580 N0 big515
    replace hJ := own_Jwr hZ hJ W580 (own_farV f574 (by decide) (ow7 hw))
    clear f574
    replace O0 := own_oldWr O0 W580 big515
    replace K0 := K0.wr W580 (Or.inr sz516)
    replace K1 := K1.wr W580 (Or.inr sz517)
    replace hS := own_since hS (Nat.le_of_eq W580.size.symm)
    clear W580
    clear Ar579 q579 S579 M579 P579 G579 hin579
    refine own_goW (fun _ k => XS.iload X580.here hx rfl (hb hby at_347) rfl k) ?_
    show own_GoW p e below s _ _ _ _ (T580.setTop (mkF m 349 #[iv p1, iv p2, iv p3, iv p4, iv p5, iv uk, iv ub, iv um, rv wd_, iv (Int32.ofNat (own_w ub).length), iv uc, yq, iv up, iv (9 : Int32), rv b514, .unset, .unset, .unset] [(.int (9 : Int32))]))
    refine own_goW (fun _ k => XS.bipush X580.here hx rfl (hb hby at_349) (XS.icmpYes X580.here hx rfl (pc0 := 351) (pc' := 372) rfl (hb hby at_351) rfl (flt (by decide : ¬ ((9 : Int32) < (9 : Int32)))).2.2.2 (by decide) (by decide) (XS.iload X580.here hx rfl (hb hby at_372) rfl (XS.bipush X580.here hx rfl (hb hby at_374) (XS.icmpYes X580.here hx rfl (pc0 := 376) (pc' := 397) rfl (hb hby at_376) rfl (flt (by decide : ¬ ((10 : Int32) < (9 : Int32)))).2.2.2 (by decide) (by decide) k))))) ?_
    show own_GoW p e below s _ _ _ _ (T580.setTop (mkF m 397 #[iv p1, iv p2, iv p3, iv p4, iv p5, iv uk, iv ub, iv um, rv wd_, iv (Int32.ofNat (own_w ub).length), iv uc, yq, iv up, iv (9 : Int32), rv b514, .unset, .unset, .unset] []))
    obtain ⟨T582, h582, X582, e582, E582, A582, D582, -, st582⟩ := newO X580 hx hZ hown (ow27 hw) (ow7 hw) (ow6 hw) e580 (g := (mkF m 397 #[iv p1, iv p2, iv p3, iv p4, iv p5, iv uk, iv ub, iv um, rv wd_, iv (Int32.ofNat (own_w ub).length), iv uc, yq, iv up, iv (9 : Int32), rv b514, .unset, .unset, .unset] [])) rfl (hb hby at_397) (by show _ ≤ 32; omega) (by show _ ≤ 8384; omega)
    obtain ⟨b582, g582⟩ : ∃ z, z = h580.size := ⟨_, rfl⟩
    rw [← g582] at A582 D582 st582
    refine own_goW st582 ?_
    clear st582 X580 e580
    have ge582 := Nat.le_of_eq g582.symm
    have ne583 : b514 ≠ b582 := Nat.ne_of_lt (Nat.lt_of_lt_of_le f581.lt ge582)
    have big584 : Z.heap.size ≤ b582 := Nat.le_trans O0.1 ge582
    have sz585 : h0.size ≤ b582 := Nat.le_trans K0.1 ge582
    have sz586 : hs1.size ≤ b582 := Nat.le_trans K1.1 ge582
    replace f581 := f581.ext E582
    replace O0 := own_oldExt O0 E582
    replace K0 := K0.ext E582
    replace K1 := K1.ext E582
    replace hS := own_since hS E582.1
    replace hJ := own_Jext hJ E582
    clear E582
    have f587 : Fld Z h582 b582 "java/lang/String" "value" "[B" .null := D582 (Or.inr (ow9 hw)) (ty := (.array .byte)) own_fd0
    have f588 : Fld Z h582 b582 "java/lang/String" "coder" "B" (.int (0 : Int32)) := D582 (Or.inr (ow10 hw)) (ty := .byte) own_fd1
    refine own_goW (fun _ k => XS.dup X582.here hx rfl (hb hby at_400) rfl rfl (XS.aload X582.here hx rfl (hb hby at_401) rfl rfl k)) ?_
    obtain ⟨v589, T589, L589, X589, hQ589, st589⟩ := own_callIB (y := own_y1) X582 hx hZ hown (ow28 hw) (ow29 hw) (ow6 hw) (ow30 hw) 1 1 9 (StrChars.Road.backV (W := 1) hZ (own_sw1 hw) (kI := 4) (ow7 hw) (cs := ([(own_cell (own_w ub) um up uc (0 : Int32)), (own_cell (own_w ub) um up uc (1 : Int32)), (own_cell (own_w ub) um up uc (2 : Int32)), (own_cell (own_w ub) um up uc (3 : Int32)), (own_cell (own_w ub) um up uc (4 : Int32)), (own_cell (own_w ub) um up uc (5 : Int32)), (own_cell (own_w ub) um up uc (6 : Int32)), (own_cell (own_w ub) um up uc (7 : Int32)), (own_cell (own_w ub) um up uc (8 : Int32))] : List Int32)) (bs := ([(own_cell (own_w ub) um up uc (0 : Int32)), (own_cell (own_w ub) um up uc (1 : Int32)), (own_cell (own_w ub) um up uc (2 : Int32)), (own_cell (own_w ub) um up uc (3 : Int32)), (own_cell (own_w ub) um up uc (4 : Int32)), (own_cell (own_w ub) um up uc (5 : Int32)), (own_cell (own_w ub) um up uc (6 : Int32)), (own_cell (own_w ub) um up uc (7 : Int32)), (own_cell (own_w ub) um up uc (8 : Int32))] : List Int32).map (fun c => c.toInt8.toInt32)) (n := 9) (n0 := Z.heap.size) big584 (Nat.le_trans O0.1 (Nat.le_refl _)) A582 f587 f588 f581 (oCS.ext O0) oCz rfl rfl (by decide) (by decide) (own_cC hp520 (own_cC hp527 (own_cC hp534 (own_cC hp541 (own_cC hp548 (own_cC hp555 (own_cC hp562 (own_cC hp569 (own_cC hp576 own_cN))))))))) rfl (by decide) (by decide)) rfl (by show _ ≤ 32; omega) (by show _ ≤ 8384; omega) e582 (g := (mkF m 403 #[iv p1, iv p2, iv p3, iv p4, iv p5, iv uk, iv ub, iv um, rv wd_, iv (Int32.ofNat (own_w ub).length), iv uc, yq, iv up, iv (9 : Int32), rv b514, .unset, .unset, .unset] [(.ref b514), (.ref b582), (.ref b582)])) rfl (by rw [hml]; rfl) b582 [(.ref b514)] [(.ref b582)] (lenOf own_pd_5 rfl) rfl rfl (hb hby at_403)
    obtain ⟨rfl, Nc589, Kc589, f1589, f2589, t589, kb589, tb589, ts589, tn589, f3589, f4589⟩ := hQ589
    refine own_goW st589 ?_
    clear st589 X582 e582
    replace N0 := Fr.app N0 Nc589
    clear Nc589
    replace hS := own_since hS Kc589.1
    have ne590 : b514 ≠ t589 := Nat.ne_of_lt (Nat.lt_of_lt_of_le f581.lt ts589)
    have ne591 : b582 ≠ t589 := Nat.ne_of_lt (Nat.lt_of_lt_of_le A582.lt ts589)
    have big592 : Z.heap.size ≤ t589 := Nat.le_trans O0.1 ts589
    have sz593 : h0.size ≤ t589 := Nat.le_trans K0.1 ts589
    have sz594 : hs1.size ≤ t589 := Nat.le_trans K1.1 ts589
    have hAp_b582 := own_apart hZ hJ f587
    replace hJ := own_JkeepS hZ hJ Kc589 hAp_b582 A582 (ow7 hw)
    replace f581 := f581.keep Kc589 (ninS ne583 nin0)
    replace A582 := A582.keep Kc589
    clear f587
    clear f588
    replace O0 := own_oldKeep O0 Kc589 (allS big584 all0)
    replace K0 := K0.trans Kc589 (allS (Or.inr sz585) all0)
    replace K1 := K1.trans Kc589 (allS (Or.inr sz586) all0)
    clear Kc589
    replace f4589 : Arv Z T589.heap t589 kb589 .byte (9 : Int32) [(.int ((own_cell (own_w ub) um up uc (0 : Int32)).toInt8.toInt32)), (.int ((own_cell (own_w ub) um up uc (1 : Int32)).toInt8.toInt32)), (.int ((own_cell (own_w ub) um up uc (2 : Int32)).toInt8.toInt32)), (.int ((own_cell (own_w ub) um up uc (3 : Int32)).toInt8.toInt32)), (.int ((own_cell (own_w ub) um up uc (4 : Int32)).toInt8.toInt32)), (.int ((own_cell (own_w ub) um up uc (5 : Int32)).toInt8.toInt32)), (.int ((own_cell (own_w ub) um up uc (6 : Int32)).toInt8.toInt32)), (.int ((own_cell (own_w ub) um up uc (7 : Int32)).toInt8.toInt32)), (.int ((own_cell (own_w ub) um up uc (8 : Int32)).toInt8.toInt32))] (.int (0 : Int32)) := f4589
    show own_GoW p e below s _ _ _ _ (T589.setTop (mkF m 406 #[iv p1, iv p2, iv p3, iv p4, iv p5, iv uk, iv ub, iv um, rv wd_, iv (Int32.ofNat (own_w ub).length), iv uc, yq, iv up, iv (9 : Int32), rv b514, .unset, .unset, .unset] [(.ref b582)]))
    have sl595 : own_Sl Z T589.heap b582 (own_nm ub um up uc (9 : Int32)) := by
      rw [own_nm_9]
      exact own_mkSl (cs := [(own_cell (own_w ub) um up uc (0 : Int32)), (own_cell (own_w ub) um up uc (1 : Int32)), (own_cell (own_w ub) um up uc (2 : Int32)), (own_cell (own_w ub) um up uc (3 : Int32)), (own_cell (own_w ub) um up uc (4 : Int32)), (own_cell (own_w ub) um up uc (5 : Int32)), (own_cell (own_w ub) um up uc (6 : Int32)), (own_cell (own_w ub) um up uc (7 : Int32)), (own_cell (own_w ub) um up uc (8 : Int32))]) f1589 f2589 f3589 f4589 rfl rfl (own_cC hp520 (own_cC hp527 (own_cC hp534 (own_cC hp541 (own_cC hp548 (own_cC hp555 (own_cC hp562 (own_cC hp569 (own_cC hp576 own_cN))))))))) (Nat.le_of_ble_eq_true rfl)
    exact sg_s406 hw hO p1 p2 p3 p4 p5 uk ub um uc up (9 : Int32) wd_ (yq : Slot) (rv b514 : Slot) b582 h0 T589.heap X589 hS hL hJ hx hby hml hret hlk hZ hown hnm (rfl : T589.heap = T589.heap) N0 O0 K0 (fp0.keep K1) (own_SlKeep fp1 K1 all0) f1589 sl595 huk hub hum hPN huc (by omega) (by omega)
  · show own_GoW p e below s _ _ _ _ (T.setTop (mkF m 137 #[iv p1, iv p2, iv p3, iv p4, iv p5, iv uk, iv ub, iv um, rv wd_, iv (Int32.ofNat (own_w ub).length), iv uc, yq, iv up, iv (10 : Int32), .unset, .unset, .unset, .unset] [(.int (10 : Int32))]))
    show own_GoW p e below s _ _ _ _ (T.setTop (mkF m 137 #[iv p1, iv p2, iv p3, iv p4, iv p5, iv uk, iv ub, iv um, rv wd_, iv (Int32.ofNat (own_w ub).length), iv uc, yq, iv up, iv (10 : Int32), .unset, .unset, .unset, .unset] [(.int (10 : Int32))]))
    obtain ⟨T596, h596, k596, X596, e596, E596, A596, st596⟩ := newP (aty := .char) X0 hx hZ (ow26 hw) e0 (g := (mkF m 137 #[iv p1, iv p2, iv p3, iv p4, iv p5, iv uk, iv ub, iv um, rv wd_, iv (Int32.ofNat (own_w ub).length), iv uc, yq, iv up, iv (10 : Int32), .unset, .unset, .unset, .unset] [(.int (10 : Int32))])) rfl (hb hby at_137) rfl (by decide) (cap := 10) (by decide) (by decide) (by show _ ≤ 32; omega) (by show _ ≤ 8384; omega)
    obtain ⟨b596, g596⟩ : ∃ z, z = hs1.size := ⟨_, rfl⟩
    rw [← g596] at A596 st596
    refine own_goW st596 ?_
    clear st596 X0 e0
    have ge596 := Nat.le_of_eq g596.symm
    have big597 : Z.heap.size ≤ b596 := Nat.le_trans O0.1 ge596
    have sz598 : h0.size ≤ b596 := Nat.le_trans K0.1 ge596
    have sz599 : hs1.size ≤ b596 := Nat.le_trans K1.1 ge596
    replace O0 := own_oldExt O0 E596
    replace K0 := K0.ext E596
    replace K1 := K1.ext E596
    replace hS := own_since hS E596.1
    replace hJ := own_Jext hJ E596
    clear E596
    have f600 : Arv Z h596 b596 k596 .char (10 : Int32) [(.int (0 : Int32)), (.int (0 : Int32)), (.int (0 : Int32)), (.int (0 : Int32)), (.int (0 : Int32)), (.int (0 : Int32)), (.int (0 : Int32)), (.int (0 : Int32)), (.int (0 : Int32)), (.int (0 : Int32))] (.int (0 : Int32)) := (Arv.new A596 (by decide)).pad (pad_rep [] (.int (0 : Int32)) 10)
    refine own_goW (fun _ k => XS.astore X596.here hx rfl (hb hby at_139) rfl rfl (l' := #[iv p1, iv p2, iv p3, iv p4, iv p5, iv uk, iv ub, iv um, rv wd_, iv (Int32.ofNat (own_w ub).length), iv uc, yq, iv up, iv (10 : Int32), rv b596, .unset, .unset, .unset]) rfl (XS.iload X596.here hx rfl (hb hby at_141) rfl (XS.ifNo X596.here hx rfl (hb hby at_143) rfl ((if0 _ _).trans (tlt (by decide : (0 : Int32) < (10 : Int32))).2.2.2) (XS.aload X596.here hx rfl (hb hby at_146) rfl rfl k)))) ?_
    show own_GoW p e below s _ _ _ _ (T596.setTop (mkF m 148 #[iv p1, iv p2, iv p3, iv p4, iv p5, iv uk, iv ub, iv um, rv wd_, iv (Int32.ofNat (own_w ub).length), iv uc, yq, iv up, iv (10 : Int32), rv b596, .unset, .unset, .unset] [(.ref b596)]))
    refine own_goW (fun _ k => XS.iconst X596.here hx rfl (hb hby at_148) (XS.aload X596.here hx rfl (hb hby at_149) rfl rfl (XS.iload X596.here hx rfl (hb hby at_151) rfl (XS.iload X596.here hx rfl (hb hby at_153) rfl (XS.iload X596.here hx rfl (hb hby at_155) rfl k))))) ?_
    show own_GoW p e below s _ _ _ _ (T596.setTop (mkF m 157 #[iv p1, iv p2, iv p3, iv p4, iv p5, iv uk, iv ub, iv um, rv wd_, iv (Int32.ofNat (own_w ub).length), iv uc, yq, iv up, iv (10 : Int32), rv b596, .unset, .unset, .unset] [(.int uc), (.int up), (.int um), (.ref wd_), (.int (0 : Int32)), (.ref b596)]))
    refine own_goW (fun _ k => XS.iconst X596.here hx rfl (hb hby at_157) k) ?_
    obtain ⟨v601, T601, L601, X601, hQ601, st601⟩ := own_callS (y := own_y7) X596 hx hZ hown (ow53 hw) (ow54 hw) (ow3 hw) (ow55 hw) (rm_cell l Z a0 hw hO [] wd_ um up uc (0 : Int32) (own_w ub) h596 O0 (fp0.keep K1) (own_SlKeep fp1 K1 all0) (own_cokL hub hPN (by decide) (by decide)) huc) 2 0 0 (by show _ ≤ 32; omega) (by show _ ≤ 8384; omega) e596 (g := (mkF m 158 #[iv p1, iv p2, iv p3, iv p4, iv p5, iv uk, iv ub, iv um, rv wd_, iv (Int32.ofNat (own_w ub).length), iv uc, yq, iv up, iv (10 : Int32), rv b596, .unset, .unset, .unset] [(.int (0 : Int32)), (.int uc), (.int up), (.int um), (.ref wd_), (.int (0 : Int32)), (.ref b596)])) rfl (by rw [hml]; rfl) [(.ref wd_), (.int um), (.int up), (.int uc), (.int (0 : Int32))] [(.int (0 : Int32)), (.ref b596)] (lenOf own_pd_6 rfl) rfl rfl (hb hby at_158)
    obtain ⟨rfl, Nc604, hp602, Kc603⟩ := hQ601
    refine own_goW st601 ?_
    clear st601 X596 e596
    replace N0 := Fr.app N0 Nc604
    clear Nc604
    obtain ⟨cl605, Ar605, q605, S605, M605, P605, G605⟩ := id f600
    have hin605 : ¬ ((0 : Int32) < 0 ∨ cl605.slots.size ≤ ((0 : Int32)).toNatClampNeg) := inb_of S605 ⟨by decide, by decide⟩
    obtain ⟨T606, h606, X606, e606, W606, st606⟩ := stC X601 hx hZ Kc603 Ar605 (j := (0 : Int32)) hin605 (g := (mkF m 161 #[iv p1, iv p2, iv p3, iv p4, iv p5, iv uk, iv ub, iv um, rv wd_, iv (Int32.ofNat (own_w ub).length), iv uc, yq, iv up, iv (10 : Int32), rv b596, .unset, .unset, .unset] [(.int (own_cell (own_w ub) um up uc (0 : Int32))), (.int (0 : Int32)), (.ref b596)])) rfl rfl (hb hby at_161)
    refine own_goW st606 ?_
    clear st606 X601 Kc603
    rw [own_nar8 hp602] at W606
    have f607 : Arv Z h606 b596 k596 .char (10 : Int32) [(.int (own_cell (own_w ub) um up uc (0 : Int32))), (.int (0 : Int32)), (.int (0 : Int32)), (.int (0 : Int32)), (.int (0 : Int32)), (.int (0 : Int32)), (.int (0 : Int32)), (.int (0 : Int32)), (.int (0 : Int32)), (.int (0 : Int32))] (.int (0 : Int32)) := Arv.set Ar605 q605 S605 M605 P605 G605 (by have q := fits_nar_char (own_cell (own_w ub) um up uc (0 : Int32)); rw [own_nar8 hp602] at q; exact q) W606 0 rfl (Nat.le_of_ble_eq_true rfl)
    replace N0 := Fr.snoc X606 N0 big597
    replace hJ := own_Jwr hZ hJ W606 (own_farV f600 (by decide) (ow7 hw))
    clear f600
    replace O0 := own_oldWr O0 W606 big597
    replace K0 := K0.wr W606 (Or.inr sz598)
    replace K1 := K1.wr W606 (Or.inr sz599)
    replace hS := own_since hS (Nat.le_of_eq W606.size.symm)
    clear W606
    clear Ar605 q605 S605 M605 P605 G605 hin605
    refine own_goW (fun _ k => XS.iload X606.here hx rfl (hb hby at_162) rfl (XS.iconst X606.here hx rfl (hb hby at_164) k)) ?_
    show own_GoW p e below s _ _ _ _ (T606.setTop (mkF m 165 #[iv p1, iv p2, iv p3, iv p4, iv p5, iv uk, iv ub, iv um, rv wd_, iv (Int32.ofNat (own_w ub).length), iv uc, yq, iv up, iv (10 : Int32), rv b596, .unset, .unset, .unset] [(.int (1 : Int32)), (.int (10 : Int32))]))
    refine own_goW (fun _ k => XS.icmpNo X606.here hx rfl (hb hby at_165) rfl (tlt (by decide : (1 : Int32) < (10 : Int32))).2.2.2 (XS.aload X606.here hx rfl (hb hby at_168) rfl rfl (XS.iconst X606.here hx rfl (hb hby at_170) (XS.aload X606.here hx rfl (hb hby at_171) rfl rfl (XS.iload X606.here hx rfl (hb hby at_173) rfl k))))) ?_
    show own_GoW p e below s _ _ _ _ (T606.setTop (mkF m 175 #[iv p1, iv p2, iv p3, iv p4, iv p5, iv uk, iv ub, iv um, rv wd_, iv (Int32.ofNat (own_w ub).length), iv uc, yq, iv up, iv (10 : Int32), rv b596, .unset, .unset, .unset] [(.int um), (.ref wd_), (.int (1 : Int32)), (.ref b596)]))
    refine own_goW (fun _ k => XS.iload X606.here hx rfl (hb hby at_175) rfl (XS.iload X606.here hx rfl (hb hby at_177) rfl (XS.iconst X606.here hx rfl (hb hby at_179) k))) ?_
    obtain ⟨v608, T608, L608, X608, hQ608, st608⟩ := own_callS (y := own_y7) X606 hx hZ hown (ow53 hw) (ow54 hw) (ow3 hw) (ow55 hw) (rm_cell l Z a0 hw hO [] wd_ um up uc (1 : Int32) (own_w ub) h606 O0 (fp0.keep K1) (own_SlKeep fp1 K1 all0) (own_cokL hub hPN (by decide) (by decide)) huc) 2 0 0 (by show _ ≤ 32; omega) (by show _ ≤ 8384; omega) e606 (g := (mkF m 180 #[iv p1, iv p2, iv p3, iv p4, iv p5, iv uk, iv ub, iv um, rv wd_, iv (Int32.ofNat (own_w ub).length), iv uc, yq, iv up, iv (10 : Int32), rv b596, .unset, .unset, .unset] [(.int (1 : Int32)), (.int uc), (.int up), (.int um), (.ref wd_), (.int (1 : Int32)), (.ref b596)])) rfl (by rw [hml]; rfl) [(.ref wd_), (.int um), (.int up), (.int uc), (.int (1 : Int32))] [(.int (1 : Int32)), (.ref b596)] (lenOf own_pd_6 rfl) rfl rfl (hb hby at_180)
    obtain ⟨rfl, Nc611, hp609, Kc610⟩ := hQ608
    refine own_goW st608 ?_
    clear st608 X606 e606
    replace N0 := Fr.app N0 Nc611
    clear Nc611
    obtain ⟨cl612, Ar612, q612, S612, M612, P612, G612⟩ := id f607
    have hin612 : ¬ ((1 : Int32) < 0 ∨ cl612.slots.size ≤ ((1 : Int32)).toNatClampNeg) := inb_of S612 ⟨by decide, by decide⟩
    obtain ⟨T613, h613, X613, e613, W613, st613⟩ := stC X608 hx hZ Kc610 Ar612 (j := (1 : Int32)) hin612 (g := (mkF m 183 #[iv p1, iv p2, iv p3, iv p4, iv p5, iv uk, iv ub, iv um, rv wd_, iv (Int32.ofNat (own_w ub).length), iv uc, yq, iv up, iv (10 : Int32), rv b596, .unset, .unset, .unset] [(.int (own_cell (own_w ub) um up uc (1 : Int32))), (.int (1 : Int32)), (.ref b596)])) rfl rfl (hb hby at_183)
    refine own_goW st613 ?_
    clear st613 X608 Kc610
    rw [own_nar8 hp609] at W613
    have f614 : Arv Z h613 b596 k596 .char (10 : Int32) [(.int (own_cell (own_w ub) um up uc (0 : Int32))), (.int (own_cell (own_w ub) um up uc (1 : Int32))), (.int (0 : Int32)), (.int (0 : Int32)), (.int (0 : Int32)), (.int (0 : Int32)), (.int (0 : Int32)), (.int (0 : Int32)), (.int (0 : Int32)), (.int (0 : Int32))] (.int (0 : Int32)) := Arv.set Ar612 q612 S612 M612 P612 G612 (by have q := fits_nar_char (own_cell (own_w ub) um up uc (1 : Int32)); rw [own_nar8 hp609] at q; exact q) W613 1 rfl (Nat.le_of_ble_eq_true rfl)
    replace N0 := Fr.snoc X613 N0 big597
    replace hJ := own_Jwr hZ hJ W613 (own_farV f607 (by decide) (ow7 hw))
    clear f607
    replace O0 := own_oldWr O0 W613 big597
    replace K0 := K0.wr W613 (Or.inr sz598)
    replace K1 := K1.wr W613 (Or.inr sz599)
    replace hS := own_since hS (Nat.le_of_eq W613.size.symm)
    clear W613
    clear Ar612 q612 S612 M612 P612 G612 hin612
    show own_GoW p e below s _ _ _ _ (T613.setTop (mkF m 184 #[iv p1, iv p2, iv p3, iv p4, iv p5, iv uk, iv ub, iv um, rv wd_, iv (Int32.ofNat (own_w ub).length), iv uc, yq, iv up, iv (10 : Int32), rv b596, .unset, .unset, .unset] []))
    refine own_goW (fun _ k => XS.iload X613.here hx rfl (hb hby at_184) rfl (XS.iconst X613.here hx rfl (hb hby at_186) (XS.icmpNo X613.here hx rfl (hb hby at_187) rfl (tlt (by decide : (2 : Int32) < (10 : Int32))).2.2.2 (XS.aload X613.here hx rfl (hb hby at_190) rfl rfl (XS.iconst X613.here hx rfl (hb hby at_192) k))))) ?_
    show own_GoW p e below s _ _ _ _ (T613.setTop (mkF m 193 #[iv p1, iv p2, iv p3, iv p4, iv p5, iv uk, iv ub, iv um, rv wd_, iv (Int32.ofNat (own_w ub).length), iv uc, yq, iv up, iv (10 : Int32), rv b596, .unset, .unset, .unset] [(.int (2 : Int32)), (.ref b596)]))
    refine own_goW (fun _ k => XS.aload X613.here hx rfl (hb hby at_193) rfl rfl (XS.iload X613.here hx rfl (hb hby at_195) rfl (XS.iload X613.here hx rfl (hb hby at_197) rfl (XS.iload X613.here hx rfl (hb hby at_199) rfl (XS.iconst X613.here hx rfl (hb hby at_201) k))))) ?_
    show own_GoW p e below s _ _ _ _ (T613.setTop (mkF m 202 #[iv p1, iv p2, iv p3, iv p4, iv p5, iv uk, iv ub, iv um, rv wd_, iv (Int32.ofNat (own_w ub).length), iv uc, yq, iv up, iv (10 : Int32), rv b596, .unset, .unset, .unset] [(.int (2 : Int32)), (.int uc), (.int up), (.int um), (.ref wd_), (.int (2 : Int32)), (.ref b596)]))
    obtain ⟨v615, T615, L615, X615, hQ615, st615⟩ := own_callS (y := own_y7) X613 hx hZ hown (ow53 hw) (ow54 hw) (ow3 hw) (ow55 hw) (rm_cell l Z a0 hw hO [] wd_ um up uc (2 : Int32) (own_w ub) h613 O0 (fp0.keep K1) (own_SlKeep fp1 K1 all0) (own_cokL hub hPN (by decide) (by decide)) huc) 2 0 0 (by show _ ≤ 32; omega) (by show _ ≤ 8384; omega) e613 (g := (mkF m 202 #[iv p1, iv p2, iv p3, iv p4, iv p5, iv uk, iv ub, iv um, rv wd_, iv (Int32.ofNat (own_w ub).length), iv uc, yq, iv up, iv (10 : Int32), rv b596, .unset, .unset, .unset] [(.int (2 : Int32)), (.int uc), (.int up), (.int um), (.ref wd_), (.int (2 : Int32)), (.ref b596)])) rfl (by rw [hml]; rfl) [(.ref wd_), (.int um), (.int up), (.int uc), (.int (2 : Int32))] [(.int (2 : Int32)), (.ref b596)] (lenOf own_pd_6 rfl) rfl rfl (hb hby at_202)
    obtain ⟨rfl, Nc618, hp616, Kc617⟩ := hQ615
    refine own_goW st615 ?_
    clear st615 X613 e613
    replace N0 := Fr.app N0 Nc618
    clear Nc618
    obtain ⟨cl619, Ar619, q619, S619, M619, P619, G619⟩ := id f614
    have hin619 : ¬ ((2 : Int32) < 0 ∨ cl619.slots.size ≤ ((2 : Int32)).toNatClampNeg) := inb_of S619 ⟨by decide, by decide⟩
    obtain ⟨T620, h620, X620, e620, W620, st620⟩ := stC X615 hx hZ Kc617 Ar619 (j := (2 : Int32)) hin619 (g := (mkF m 205 #[iv p1, iv p2, iv p3, iv p4, iv p5, iv uk, iv ub, iv um, rv wd_, iv (Int32.ofNat (own_w ub).length), iv uc, yq, iv up, iv (10 : Int32), rv b596, .unset, .unset, .unset] [(.int (own_cell (own_w ub) um up uc (2 : Int32))), (.int (2 : Int32)), (.ref b596)])) rfl rfl (hb hby at_205)
    refine own_goW st620 ?_
    clear st620 X615 Kc617
    rw [own_nar8 hp616] at W620
    have f621 : Arv Z h620 b596 k596 .char (10 : Int32) [(.int (own_cell (own_w ub) um up uc (0 : Int32))), (.int (own_cell (own_w ub) um up uc (1 : Int32))), (.int (own_cell (own_w ub) um up uc (2 : Int32))), (.int (0 : Int32)), (.int (0 : Int32)), (.int (0 : Int32)), (.int (0 : Int32)), (.int (0 : Int32)), (.int (0 : Int32)), (.int (0 : Int32))] (.int (0 : Int32)) := Arv.set Ar619 q619 S619 M619 P619 G619 (by have q := fits_nar_char (own_cell (own_w ub) um up uc (2 : Int32)); rw [own_nar8 hp616] at q; exact q) W620 2 rfl (Nat.le_of_ble_eq_true rfl)
    replace N0 := Fr.snoc X620 N0 big597
    replace hJ := own_Jwr hZ hJ W620 (own_farV f614 (by decide) (ow7 hw))
    clear f614
    replace O0 := own_oldWr O0 W620 big597
    replace K0 := K0.wr W620 (Or.inr sz598)
    replace K1 := K1.wr W620 (Or.inr sz599)
    replace hS := own_since hS (Nat.le_of_eq W620.size.symm)
    clear W620
    clear Ar619 q619 S619 M619 P619 G619 hin619
    refine own_goW (fun _ k => XS.iload X620.here hx rfl (hb hby at_206) rfl (XS.iconst X620.here hx rfl (hb hby at_208) (XS.icmpNo X620.here hx rfl (hb hby at_209) rfl (tlt (by decide : (3 : Int32) < (10 : Int32))).2.2.2 k))) ?_
    show own_GoW p e below s _ _ _ _ (T620.setTop (mkF m 212 #[iv p1, iv p2, iv p3, iv p4, iv p5, iv uk, iv ub, iv um, rv wd_, iv (Int32.ofNat (own_w ub).length), iv uc, yq, iv up, iv (10 : Int32), rv b596, .unset, .unset, .unset] []))
    refine own_goW (fun _ k => XS.aload X620.here hx rfl (hb hby at_212) rfl rfl (XS.iconst X620.here hx rfl (hb hby at_214) (XS.aload X620.here hx rfl (hb hby at_215) rfl rfl (XS.iload X620.here hx rfl (hb hby at_217) rfl (XS.iload X620.here hx rfl (hb hby at_219) rfl k))))) ?_
    show own_GoW p e below s _ _ _ _ (T620.setTop (mkF m 221 #[iv p1, iv p2, iv p3, iv p4, iv p5, iv uk, iv ub, iv um, rv wd_, iv (Int32.ofNat (own_w ub).length), iv uc, yq, iv up, iv (10 : Int32), rv b596, .unset, .unset, .unset] [(.int up), (.int um), (.ref wd_), (.int (3 : Int32)), (.ref b596)]))
    refine own_goW (fun _ k => XS.iload X620.here hx rfl (hb hby at_221) rfl (XS.iconst X620.here hx rfl (hb hby at_223) k)) ?_
    obtain ⟨v622, T622, L622, X622, hQ622, st622⟩ := own_callS (y := own_y7) X620 hx hZ hown (ow53 hw) (ow54 hw) (ow3 hw) (ow55 hw) (rm_cell l Z a0 hw hO [] wd_ um up uc (3 : Int32) (own_w ub) h620 O0 (fp0.keep K1) (own_SlKeep fp1 K1 all0) (own_cokL hub hPN (by decide) (by decide)) huc) 2 0 0 (by show _ ≤ 32; omega) (by show _ ≤ 8384; omega) e620 (g := (mkF m 224 #[iv p1, iv p2, iv p3, iv p4, iv p5, iv uk, iv ub, iv um, rv wd_, iv (Int32.ofNat (own_w ub).length), iv uc, yq, iv up, iv (10 : Int32), rv b596, .unset, .unset, .unset] [(.int (3 : Int32)), (.int uc), (.int up), (.int um), (.ref wd_), (.int (3 : Int32)), (.ref b596)])) rfl (by rw [hml]; rfl) [(.ref wd_), (.int um), (.int up), (.int uc), (.int (3 : Int32))] [(.int (3 : Int32)), (.ref b596)] (lenOf own_pd_6 rfl) rfl rfl (hb hby at_224)
    obtain ⟨rfl, Nc625, hp623, Kc624⟩ := hQ622
    refine own_goW st622 ?_
    clear st622 X620 e620
    replace N0 := Fr.app N0 Nc625
    clear Nc625
    obtain ⟨cl626, Ar626, q626, S626, M626, P626, G626⟩ := id f621
    have hin626 : ¬ ((3 : Int32) < 0 ∨ cl626.slots.size ≤ ((3 : Int32)).toNatClampNeg) := inb_of S626 ⟨by decide, by decide⟩
    obtain ⟨T627, h627, X627, e627, W627, st627⟩ := stC X622 hx hZ Kc624 Ar626 (j := (3 : Int32)) hin626 (g := (mkF m 227 #[iv p1, iv p2, iv p3, iv p4, iv p5, iv uk, iv ub, iv um, rv wd_, iv (Int32.ofNat (own_w ub).length), iv uc, yq, iv up, iv (10 : Int32), rv b596, .unset, .unset, .unset] [(.int (own_cell (own_w ub) um up uc (3 : Int32))), (.int (3 : Int32)), (.ref b596)])) rfl rfl (hb hby at_227)
    refine own_goW st627 ?_
    clear st627 X622 Kc624
    rw [own_nar8 hp623] at W627
    have f628 : Arv Z h627 b596 k596 .char (10 : Int32) [(.int (own_cell (own_w ub) um up uc (0 : Int32))), (.int (own_cell (own_w ub) um up uc (1 : Int32))), (.int (own_cell (own_w ub) um up uc (2 : Int32))), (.int (own_cell (own_w ub) um up uc (3 : Int32))), (.int (0 : Int32)), (.int (0 : Int32)), (.int (0 : Int32)), (.int (0 : Int32)), (.int (0 : Int32)), (.int (0 : Int32))] (.int (0 : Int32)) := Arv.set Ar626 q626 S626 M626 P626 G626 (by have q := fits_nar_char (own_cell (own_w ub) um up uc (3 : Int32)); rw [own_nar8 hp623] at q; exact q) W627 3 rfl (Nat.le_of_ble_eq_true rfl)
    replace N0 := Fr.snoc X627 N0 big597
    replace hJ := own_Jwr hZ hJ W627 (own_farV f621 (by decide) (ow7 hw))
    clear f621
    replace O0 := own_oldWr O0 W627 big597
    replace K0 := K0.wr W627 (Or.inr sz598)
    replace K1 := K1.wr W627 (Or.inr sz599)
    replace hS := own_since hS (Nat.le_of_eq W627.size.symm)
    clear W627
    clear Ar626 q626 S626 M626 P626 G626 hin626
    refine own_goW (fun _ k => XS.iload X627.here hx rfl (hb hby at_228) rfl k) ?_
    show own_GoW p e below s _ _ _ _ (T627.setTop (mkF m 230 #[iv p1, iv p2, iv p3, iv p4, iv p5, iv uk, iv ub, iv um, rv wd_, iv (Int32.ofNat (own_w ub).length), iv uc, yq, iv up, iv (10 : Int32), rv b596, .unset, .unset, .unset] [(.int (10 : Int32))]))
    refine own_goW (fun _ k => XS.iconst X627.here hx rfl (hb hby at_230) (XS.icmpNo X627.here hx rfl (hb hby at_231) rfl (tlt (by decide : (4 : Int32) < (10 : Int32))).2.2.2 (XS.aload X627.here hx rfl (hb hby at_234) rfl rfl (XS.iconst X627.here hx rfl (hb hby at_236) (XS.aload X627.here hx rfl (hb hby at_237) rfl rfl k))))) ?_
    show own_GoW p e below s _ _ _ _ (T627.setTop (mkF m 239 #[iv p1, iv p2, iv p3, iv p4, iv p5, iv uk, iv ub, iv um, rv wd_, iv (Int32.ofNat (own_w ub).length), iv uc, yq, iv up, iv (10 : Int32), rv b596, .unset, .unset, .unset] [(.ref wd_), (.int (4 : Int32)), (.ref b596)]))
    refine own_goW (fun _ k => XS.iload X627.here hx rfl (hb hby at_239) rfl (XS.iload X627.here hx rfl (hb hby at_241) rfl (XS.iload X627.here hx rfl (hb hby at_243) rfl (XS.iconst X627.here hx rfl (hb hby at_245) k)))) ?_
    obtain ⟨v629, T629, L629, X629, hQ629, st629⟩ := own_callS (y := own_y7) X627 hx hZ hown (ow53 hw) (ow54 hw) (ow3 hw) (ow55 hw) (rm_cell l Z a0 hw hO [] wd_ um up uc (4 : Int32) (own_w ub) h627 O0 (fp0.keep K1) (own_SlKeep fp1 K1 all0) (own_cokL hub hPN (by decide) (by decide)) huc) 2 0 0 (by show _ ≤ 32; omega) (by show _ ≤ 8384; omega) e627 (g := (mkF m 246 #[iv p1, iv p2, iv p3, iv p4, iv p5, iv uk, iv ub, iv um, rv wd_, iv (Int32.ofNat (own_w ub).length), iv uc, yq, iv up, iv (10 : Int32), rv b596, .unset, .unset, .unset] [(.int (4 : Int32)), (.int uc), (.int up), (.int um), (.ref wd_), (.int (4 : Int32)), (.ref b596)])) rfl (by rw [hml]; rfl) [(.ref wd_), (.int um), (.int up), (.int uc), (.int (4 : Int32))] [(.int (4 : Int32)), (.ref b596)] (lenOf own_pd_6 rfl) rfl rfl (hb hby at_246)
    obtain ⟨rfl, Nc632, hp630, Kc631⟩ := hQ629
    refine own_goW st629 ?_
    clear st629 X627 e627
    replace N0 := Fr.app N0 Nc632
    clear Nc632
    show own_GoW p e below s _ _ _ _ (T629.setTop (mkF m 249 #[iv p1, iv p2, iv p3, iv p4, iv p5, iv uk, iv ub, iv um, rv wd_, iv (Int32.ofNat (own_w ub).length), iv uc, yq, iv up, iv (10 : Int32), rv b596, .unset, .unset, .unset] [(.int (own_cell (own_w ub) um up uc (4 : Int32))), (.int (4 : Int32)), (.ref b596)]))
    obtain ⟨cl633, Ar633, q633, S633, M633, P633, G633⟩ := id f628
    have hin633 : ¬ ((4 : Int32) < 0 ∨ cl633.slots.size ≤ ((4 : Int32)).toNatClampNeg) := inb_of S633 ⟨by decide, by decide⟩
    obtain ⟨T634, h634, X634, e634, W634, st634⟩ := stC X629 hx hZ Kc631 Ar633 (j := (4 : Int32)) hin633 (g := (mkF m 249 #[iv p1, iv p2, iv p3, iv p4, iv p5, iv uk, iv ub, iv um, rv wd_, iv (Int32.ofNat (own_w ub).length), iv uc, yq, iv up, iv (10 : Int32), rv b596, .unset, .unset, .unset] [(.int (own_cell (own_w ub) um up uc (4 : Int32))), (.int (4 : Int32)), (.ref b596)])) rfl rfl (hb hby at_249)
    refine own_goW st634 ?_
    clear st634 X629 Kc631
    rw [own_nar8 hp630] at W634
    have f635 : Arv Z h634 b596 k596 .char (10 : Int32) [(.int (own_cell (own_w ub) um up uc (0 : Int32))), (.int (own_cell (own_w ub) um up uc (1 : Int32))), (.int (own_cell (own_w ub) um up uc (2 : Int32))), (.int (own_cell (own_w ub) um up uc (3 : Int32))), (.int (own_cell (own_w ub) um up uc (4 : Int32))), (.int (0 : Int32)), (.int (0 : Int32)), (.int (0 : Int32)), (.int (0 : Int32)), (.int (0 : Int32))] (.int (0 : Int32)) := Arv.set Ar633 q633 S633 M633 P633 G633 (by have q := fits_nar_char (own_cell (own_w ub) um up uc (4 : Int32)); rw [own_nar8 hp630] at q; exact q) W634 4 rfl (Nat.le_of_ble_eq_true rfl)
    replace N0 := Fr.snoc X634 N0 big597
    replace hJ := own_Jwr hZ hJ W634 (own_farV f628 (by decide) (ow7 hw))
    clear f628
    replace O0 := own_oldWr O0 W634 big597
    replace K0 := K0.wr W634 (Or.inr sz598)
    replace K1 := K1.wr W634 (Or.inr sz599)
    replace hS := own_since hS (Nat.le_of_eq W634.size.symm)
    clear W634
    clear Ar633 q633 S633 M633 P633 G633 hin633
    refine own_goW (fun _ k => XS.iload X634.here hx rfl (hb hby at_250) rfl (XS.iconst X634.here hx rfl (hb hby at_252) (XS.icmpNo X634.here hx rfl (hb hby at_253) rfl (tlt (by decide : (5 : Int32) < (10 : Int32))).2.2.2 (XS.aload X634.here hx rfl (hb hby at_256) rfl rfl k)))) ?_
    show own_GoW p e below s _ _ _ _ (T634.setTop (mkF m 258 #[iv p1, iv p2, iv p3, iv p4, iv p5, iv uk, iv ub, iv um, rv wd_, iv (Int32.ofNat (own_w ub).length), iv uc, yq, iv up, iv (10 : Int32), rv b596, .unset, .unset, .unset] [(.ref b596)]))
    refine own_goW (fun _ k => XS.iconst X634.here hx rfl (hb hby at_258) (XS.aload X634.here hx rfl (hb hby at_259) rfl rfl (XS.iload X634.here hx rfl (hb hby at_261) rfl (XS.iload X634.here hx rfl (hb hby at_263) rfl (XS.iload X634.here hx rfl (hb hby at_265) rfl k))))) ?_
    show own_GoW p e below s _ _ _ _ (T634.setTop (mkF m 267 #[iv p1, iv p2, iv p3, iv p4, iv p5, iv uk, iv ub, iv um, rv wd_, iv (Int32.ofNat (own_w ub).length), iv uc, yq, iv up, iv (10 : Int32), rv b596, .unset, .unset, .unset] [(.int uc), (.int up), (.int um), (.ref wd_), (.int (5 : Int32)), (.ref b596)]))
    refine own_goW (fun _ k => XS.iconst X634.here hx rfl (hb hby at_267) k) ?_
    obtain ⟨v636, T636, L636, X636, hQ636, st636⟩ := own_callS (y := own_y7) X634 hx hZ hown (ow53 hw) (ow54 hw) (ow3 hw) (ow55 hw) (rm_cell l Z a0 hw hO [] wd_ um up uc (5 : Int32) (own_w ub) h634 O0 (fp0.keep K1) (own_SlKeep fp1 K1 all0) (own_cokL hub hPN (by decide) (by decide)) huc) 2 0 0 (by show _ ≤ 32; omega) (by show _ ≤ 8384; omega) e634 (g := (mkF m 268 #[iv p1, iv p2, iv p3, iv p4, iv p5, iv uk, iv ub, iv um, rv wd_, iv (Int32.ofNat (own_w ub).length), iv uc, yq, iv up, iv (10 : Int32), rv b596, .unset, .unset, .unset] [(.int (5 : Int32)), (.int uc), (.int up), (.int um), (.ref wd_), (.int (5 : Int32)), (.ref b596)])) rfl (by rw [hml]; rfl) [(.ref wd_), (.int um), (.int up), (.int uc), (.int (5 : Int32))] [(.int (5 : Int32)), (.ref b596)] (lenOf own_pd_6 rfl) rfl rfl (hb hby at_268)
    obtain ⟨rfl, Nc639, hp637, Kc638⟩ := hQ636
    refine own_goW st636 ?_
    clear st636 X634 e634
    replace N0 := Fr.app N0 Nc639
    clear Nc639
    obtain ⟨cl640, Ar640, q640, S640, M640, P640, G640⟩ := id f635
    have hin640 : ¬ ((5 : Int32) < 0 ∨ cl640.slots.size ≤ ((5 : Int32)).toNatClampNeg) := inb_of S640 ⟨by decide, by decide⟩
    obtain ⟨T641, h641, X641, e641, W641, st641⟩ := stC X636 hx hZ Kc638 Ar640 (j := (5 : Int32)) hin640 (g := (mkF m 271 #[iv p1, iv p2, iv p3, iv p4, iv p5, iv uk, iv ub, iv um, rv wd_, iv (Int32.ofNat (own_w ub).length), iv uc, yq, iv up, iv (10 : Int32), rv b596, .unset, .unset, .unset] [(.int (own_cell (own_w ub) um up uc (5 : Int32))), (.int (5 : Int32)), (.ref b596)])) rfl rfl (hb hby at_271)
    refine own_goW st641 ?_
    clear st641 X636 Kc638
    rw [own_nar8 hp637] at W641
    have f642 : Arv Z h641 b596 k596 .char (10 : Int32) [(.int (own_cell (own_w ub) um up uc (0 : Int32))), (.int (own_cell (own_w ub) um up uc (1 : Int32))), (.int (own_cell (own_w ub) um up uc (2 : Int32))), (.int (own_cell (own_w ub) um up uc (3 : Int32))), (.int (own_cell (own_w ub) um up uc (4 : Int32))), (.int (own_cell (own_w ub) um up uc (5 : Int32))), (.int (0 : Int32)), (.int (0 : Int32)), (.int (0 : Int32)), (.int (0 : Int32))] (.int (0 : Int32)) := Arv.set Ar640 q640 S640 M640 P640 G640 (by have q := fits_nar_char (own_cell (own_w ub) um up uc (5 : Int32)); rw [own_nar8 hp637] at q; exact q) W641 5 rfl (Nat.le_of_ble_eq_true rfl)
    replace N0 := Fr.snoc X641 N0 big597
    replace hJ := own_Jwr hZ hJ W641 (own_farV f635 (by decide) (ow7 hw))
    clear f635
    replace O0 := own_oldWr O0 W641 big597
    replace K0 := K0.wr W641 (Or.inr sz598)
    replace K1 := K1.wr W641 (Or.inr sz599)
    replace hS := own_since hS (Nat.le_of_eq W641.size.symm)
    clear W641
    clear Ar640 q640 S640 M640 P640 G640 hin640
    refine own_goW (fun _ k => XS.iload X641.here hx rfl (hb hby at_272) rfl (XS.bipush X641.here hx rfl (hb hby at_274) k)) ?_
    show own_GoW p e below s _ _ _ _ (T641.setTop (mkF m 276 #[iv p1, iv p2, iv p3, iv p4, iv p5, iv uk, iv ub, iv um, rv wd_, iv (Int32.ofNat (own_w ub).length), iv uc, yq, iv up, iv (10 : Int32), rv b596, .unset, .unset, .unset] [(.int (6 : Int32)), (.int (10 : Int32))]))
    refine own_goW (fun _ k => XS.icmpNo X641.here hx rfl (hb hby at_276) rfl (tlt (by decide : (6 : Int32) < (10 : Int32))).2.2.2 (XS.aload X641.here hx rfl (hb hby at_279) rfl rfl (XS.bipush X641.here hx rfl (hb hby at_281) (XS.aload X641.here hx rfl (hb hby at_283) rfl rfl (XS.iload X641.here hx rfl (hb hby at_285) rfl k))))) ?_
    show own_GoW p e below s _ _ _ _ (T641.setTop (mkF m 287 #[iv p1, iv p2, iv p3, iv p4, iv p5, iv uk, iv ub, iv um, rv wd_, iv (Int32.ofNat (own_w ub).length), iv uc, yq, iv up, iv (10 : Int32), rv b596, .unset, .unset, .unset] [(.int um), (.ref wd_), (.int (6 : Int32)), (.ref b596)]))
    refine own_goW (fun _ k => XS.iload X641.here hx rfl (hb hby at_287) rfl (XS.iload X641.here hx rfl (hb hby at_289) rfl (XS.bipush X641.here hx rfl (hb hby at_291) k))) ?_
    obtain ⟨v643, T643, L643, X643, hQ643, st643⟩ := own_callS (y := own_y7) X641 hx hZ hown (ow53 hw) (ow54 hw) (ow3 hw) (ow55 hw) (rm_cell l Z a0 hw hO [] wd_ um up uc (6 : Int32) (own_w ub) h641 O0 (fp0.keep K1) (own_SlKeep fp1 K1 all0) (own_cokL hub hPN (by decide) (by decide)) huc) 2 0 0 (by show _ ≤ 32; omega) (by show _ ≤ 8384; omega) e641 (g := (mkF m 293 #[iv p1, iv p2, iv p3, iv p4, iv p5, iv uk, iv ub, iv um, rv wd_, iv (Int32.ofNat (own_w ub).length), iv uc, yq, iv up, iv (10 : Int32), rv b596, .unset, .unset, .unset] [(.int (6 : Int32)), (.int uc), (.int up), (.int um), (.ref wd_), (.int (6 : Int32)), (.ref b596)])) rfl (by rw [hml]; rfl) [(.ref wd_), (.int um), (.int up), (.int uc), (.int (6 : Int32))] [(.int (6 : Int32)), (.ref b596)] (lenOf own_pd_6 rfl) rfl rfl (hb hby at_293)
    obtain ⟨rfl, Nc646, hp644, Kc645⟩ := hQ643
    refine own_goW st643 ?_
    clear st643 X641 e641
    replace N0 := Fr.app N0 Nc646
    clear Nc646
    obtain ⟨cl647, Ar647, q647, S647, M647, P647, G647⟩ := id f642
    have hin647 : ¬ ((6 : Int32) < 0 ∨ cl647.slots.size ≤ ((6 : Int32)).toNatClampNeg) := inb_of S647 ⟨by decide, by decide⟩
    obtain ⟨T648, h648, X648, e648, W648, st648⟩ := stC X643 hx hZ Kc645 Ar647 (j := (6 : Int32)) hin647 (g := (mkF m 296 #[iv p1, iv p2, iv p3, iv p4, iv p5, iv uk, iv ub, iv um, rv wd_, iv (Int32.ofNat (own_w ub).length), iv uc, yq, iv up, iv (10 : Int32), rv b596, .unset, .unset, .unset] [(.int (own_cell (own_w ub) um up uc (6 : Int32))), (.int (6 : Int32)), (.ref b596)])) rfl rfl (hb hby at_296)
    refine own_goW st648 ?_
    clear st648 X643 Kc645
    rw [own_nar8 hp644] at W648
    have f649 : Arv Z h648 b596 k596 .char (10 : Int32) [(.int (own_cell (own_w ub) um up uc (0 : Int32))), (.int (own_cell (own_w ub) um up uc (1 : Int32))), (.int (own_cell (own_w ub) um up uc (2 : Int32))), (.int (own_cell (own_w ub) um up uc (3 : Int32))), (.int (own_cell (own_w ub) um up uc (4 : Int32))), (.int (own_cell (own_w ub) um up uc (5 : Int32))), (.int (own_cell (own_w ub) um up uc (6 : Int32))), (.int (0 : Int32)), (.int (0 : Int32)), (.int (0 : Int32))] (.int (0 : Int32)) := Arv.set Ar647 q647 S647 M647 P647 G647 (by have q := fits_nar_char (own_cell (own_w ub) um up uc (6 : Int32)); rw [own_nar8 hp644] at q; exact q) W648 6 rfl (Nat.le_of_ble_eq_true rfl)
    replace N0 := Fr.snoc X648 N0 big597
    replace hJ := own_Jwr hZ hJ W648 (own_farV f642 (by decide) (ow7 hw))
    clear f642
    replace O0 := own_oldWr O0 W648 big597
    replace K0 := K0.wr W648 (Or.inr sz598)
    replace K1 := K1.wr W648 (Or.inr sz599)
    replace hS := own_since hS (Nat.le_of_eq W648.size.symm)
    clear W648
    clear Ar647 q647 S647 M647 P647 G647 hin647
    show own_GoW p e below s _ _ _ _ (T648.setTop (mkF m 297 #[iv p1, iv p2, iv p3, iv p4, iv p5, iv uk, iv ub, iv um, rv wd_, iv (Int32.ofNat (own_w ub).length), iv uc, yq, iv up, iv (10 : Int32), rv b596, .unset, .unset, .unset] []))
    refine own_goW (fun _ k => XS.iload X648.here hx rfl (hb hby at_297) rfl (XS.bipush X648.here hx rfl (hb hby at_299) (XS.icmpNo X648.here hx rfl (hb hby at_301) rfl (tlt (by decide : (7 : Int32) < (10 : Int32))).2.2.2 (XS.aload X648.here hx rfl (hb hby at_304) rfl rfl (XS.bipush X648.here hx rfl (hb hby at_306) k))))) ?_
    show own_GoW p e below s _ _ _ _ (T648.setTop (mkF m 308 #[iv p1, iv p2, iv p3, iv p4, iv p5, iv uk, iv ub, iv um, rv wd_, iv (Int32.ofNat (own_w ub).length), iv uc, yq, iv up, iv (10 : Int32), rv b596, .unset, .unset, .unset] [(.int (7 : Int32)), (.ref b596)]))
    refine own_goW (fun _ k => XS.aload X648.here hx rfl (hb hby at_308) rfl rfl (XS.iload X648.here hx rfl (hb hby at_310) rfl (XS.iload X648.here hx rfl (hb hby at_312) rfl (XS.iload X648.here hx rfl (hb hby at_314) rfl (XS.bipush X648.here hx rfl (hb hby at_316) k))))) ?_
    show own_GoW p e below s _ _ _ _ (T648.setTop (mkF m 318 #[iv p1, iv p2, iv p3, iv p4, iv p5, iv uk, iv ub, iv um, rv wd_, iv (Int32.ofNat (own_w ub).length), iv uc, yq, iv up, iv (10 : Int32), rv b596, .unset, .unset, .unset] [(.int (7 : Int32)), (.int uc), (.int up), (.int um), (.ref wd_), (.int (7 : Int32)), (.ref b596)]))
    obtain ⟨v650, T650, L650, X650, hQ650, st650⟩ := own_callS (y := own_y7) X648 hx hZ hown (ow53 hw) (ow54 hw) (ow3 hw) (ow55 hw) (rm_cell l Z a0 hw hO [] wd_ um up uc (7 : Int32) (own_w ub) h648 O0 (fp0.keep K1) (own_SlKeep fp1 K1 all0) (own_cokL hub hPN (by decide) (by decide)) huc) 2 0 0 (by show _ ≤ 32; omega) (by show _ ≤ 8384; omega) e648 (g := (mkF m 318 #[iv p1, iv p2, iv p3, iv p4, iv p5, iv uk, iv ub, iv um, rv wd_, iv (Int32.ofNat (own_w ub).length), iv uc, yq, iv up, iv (10 : Int32), rv b596, .unset, .unset, .unset] [(.int (7 : Int32)), (.int uc), (.int up), (.int um), (.ref wd_), (.int (7 : Int32)), (.ref b596)])) rfl (by rw [hml]; rfl) [(.ref wd_), (.int um), (.int up), (.int uc), (.int (7 : Int32))] [(.int (7 : Int32)), (.ref b596)] (lenOf own_pd_6 rfl) rfl rfl (hb hby at_318)
    obtain ⟨rfl, Nc653, hp651, Kc652⟩ := hQ650
    refine own_goW st650 ?_
    clear st650 X648 e648
    replace N0 := Fr.app N0 Nc653
    clear Nc653
    obtain ⟨cl654, Ar654, q654, S654, M654, P654, G654⟩ := id f649
    have hin654 : ¬ ((7 : Int32) < 0 ∨ cl654.slots.size ≤ ((7 : Int32)).toNatClampNeg) := inb_of S654 ⟨by decide, by decide⟩
    obtain ⟨T655, h655, X655, e655, W655, st655⟩ := stC X650 hx hZ Kc652 Ar654 (j := (7 : Int32)) hin654 (g := (mkF m 321 #[iv p1, iv p2, iv p3, iv p4, iv p5, iv uk, iv ub, iv um, rv wd_, iv (Int32.ofNat (own_w ub).length), iv uc, yq, iv up, iv (10 : Int32), rv b596, .unset, .unset, .unset] [(.int (own_cell (own_w ub) um up uc (7 : Int32))), (.int (7 : Int32)), (.ref b596)])) rfl rfl (hb hby at_321)
    refine own_goW st655 ?_
    clear st655 X650 Kc652
    rw [own_nar8 hp651] at W655
    have f656 : Arv Z h655 b596 k596 .char (10 : Int32) [(.int (own_cell (own_w ub) um up uc (0 : Int32))), (.int (own_cell (own_w ub) um up uc (1 : Int32))), (.int (own_cell (own_w ub) um up uc (2 : Int32))), (.int (own_cell (own_w ub) um up uc (3 : Int32))), (.int (own_cell (own_w ub) um up uc (4 : Int32))), (.int (own_cell (own_w ub) um up uc (5 : Int32))), (.int (own_cell (own_w ub) um up uc (6 : Int32))), (.int (own_cell (own_w ub) um up uc (7 : Int32))), (.int (0 : Int32)), (.int (0 : Int32))] (.int (0 : Int32)) := Arv.set Ar654 q654 S654 M654 P654 G654 (by have q := fits_nar_char (own_cell (own_w ub) um up uc (7 : Int32)); rw [own_nar8 hp651] at q; exact q) W655 7 rfl (Nat.le_of_ble_eq_true rfl)
    replace N0 := Fr.snoc X655 N0 big597
    replace hJ := own_Jwr hZ hJ W655 (own_farV f649 (by decide) (ow7 hw))
    clear f649
    replace O0 := own_oldWr O0 W655 big597
    replace K0 := K0.wr W655 (Or.inr sz598)
    replace K1 := K1.wr W655 (Or.inr sz599)
    replace hS := own_since hS (Nat.le_of_eq W655.size.symm)
    clear W655
    clear Ar654 q654 S654 M654 P654 G654 hin654
    refine own_goW (fun _ k => XS.iload X655.here hx rfl (hb hby at_322) rfl (XS.bipush X655.here hx rfl (hb hby at_324) (XS.icmpNo X655.here hx rfl (hb hby at_326) rfl (tlt (by decide : (8 : Int32) < (10 : Int32))).2.2.2 k))) ?_
    show own_GoW p e below s _ _ _ _ (T655.setTop (mkF m 329 #[iv p1, iv p2, iv p3, iv p4, iv p5, iv uk, iv ub, iv um, rv wd_, iv (Int32.ofNat (own_w ub).length), iv uc, yq, iv up, iv (10 : Int32), rv b596, .unset, .unset, .unset] []))
    refine own_goW (fun _ k => XS.aload X655.here hx rfl (hb hby at_329) rfl rfl (XS.bipush X655.here hx rfl (hb hby at_331) (XS.aload X655.here hx rfl (hb hby at_333) rfl rfl (XS.iload X655.here hx rfl (hb hby at_335) rfl (XS.iload X655.here hx rfl (hb hby at_337) rfl k))))) ?_
    show own_GoW p e below s _ _ _ _ (T655.setTop (mkF m 339 #[iv p1, iv p2, iv p3, iv p4, iv p5, iv uk, iv ub, iv um, rv wd_, iv (Int32.ofNat (own_w ub).length), iv uc, yq, iv up, iv (10 : Int32), rv b596, .unset, .unset, .unset] [(.int up), (.int um), (.ref wd_), (.int (8 : Int32)), (.ref b596)]))
    refine own_goW (fun _ k => XS.iload X655.here hx rfl (hb hby at_339) rfl (XS.bipush X655.here hx rfl (hb hby at_341) k)) ?_
    obtain ⟨v657, T657, L657, X657, hQ657, st657⟩ := own_callS (y := own_y7) X655 hx hZ hown (ow53 hw) (ow54 hw) (ow3 hw) (ow55 hw) (rm_cell l Z a0 hw hO [] wd_ um up uc (8 : Int32) (own_w ub) h655 O0 (fp0.keep K1) (own_SlKeep fp1 K1 all0) (own_cokL hub hPN (by decide) (by decide)) huc) 2 0 0 (by show _ ≤ 32; omega) (by show _ ≤ 8384; omega) e655 (g := (mkF m 343 #[iv p1, iv p2, iv p3, iv p4, iv p5, iv uk, iv ub, iv um, rv wd_, iv (Int32.ofNat (own_w ub).length), iv uc, yq, iv up, iv (10 : Int32), rv b596, .unset, .unset, .unset] [(.int (8 : Int32)), (.int uc), (.int up), (.int um), (.ref wd_), (.int (8 : Int32)), (.ref b596)])) rfl (by rw [hml]; rfl) [(.ref wd_), (.int um), (.int up), (.int uc), (.int (8 : Int32))] [(.int (8 : Int32)), (.ref b596)] (lenOf own_pd_6 rfl) rfl rfl (hb hby at_343)
    obtain ⟨rfl, Nc660, hp658, Kc659⟩ := hQ657
    refine own_goW st657 ?_
    clear st657 X655 e655
    replace N0 := Fr.app N0 Nc660
    clear Nc660
    obtain ⟨cl661, Ar661, q661, S661, M661, P661, G661⟩ := id f656
    have hin661 : ¬ ((8 : Int32) < 0 ∨ cl661.slots.size ≤ ((8 : Int32)).toNatClampNeg) := inb_of S661 ⟨by decide, by decide⟩
    obtain ⟨T662, h662, X662, e662, W662, st662⟩ := stC X657 hx hZ Kc659 Ar661 (j := (8 : Int32)) hin661 (g := (mkF m 346 #[iv p1, iv p2, iv p3, iv p4, iv p5, iv uk, iv ub, iv um, rv wd_, iv (Int32.ofNat (own_w ub).length), iv uc, yq, iv up, iv (10 : Int32), rv b596, .unset, .unset, .unset] [(.int (own_cell (own_w ub) um up uc (8 : Int32))), (.int (8 : Int32)), (.ref b596)])) rfl rfl (hb hby at_346)
    refine own_goW st662 ?_
    clear st662 X657 Kc659
    rw [own_nar8 hp658] at W662
    have f663 : Arv Z h662 b596 k596 .char (10 : Int32) [(.int (own_cell (own_w ub) um up uc (0 : Int32))), (.int (own_cell (own_w ub) um up uc (1 : Int32))), (.int (own_cell (own_w ub) um up uc (2 : Int32))), (.int (own_cell (own_w ub) um up uc (3 : Int32))), (.int (own_cell (own_w ub) um up uc (4 : Int32))), (.int (own_cell (own_w ub) um up uc (5 : Int32))), (.int (own_cell (own_w ub) um up uc (6 : Int32))), (.int (own_cell (own_w ub) um up uc (7 : Int32))), (.int (own_cell (own_w ub) um up uc (8 : Int32))), (.int (0 : Int32))] (.int (0 : Int32)) := Arv.set Ar661 q661 S661 M661 P661 G661 (by have q := fits_nar_char (own_cell (own_w ub) um up uc (8 : Int32)); rw [own_nar8 hp658] at q; exact q) W662 8 rfl (Nat.le_of_ble_eq_true rfl)
    replace N0 := Fr.snoc X662 N0 big597
    replace hJ := own_Jwr hZ hJ W662 (own_farV f656 (by decide) (ow7 hw))
    clear f656
    replace O0 := own_oldWr O0 W662 big597
    replace K0 := K0.wr W662 (Or.inr sz598)
    replace K1 := K1.wr W662 (Or.inr sz599)
    replace hS := own_since hS (Nat.le_of_eq W662.size.symm)
    clear W662
    clear Ar661 q661 S661 M661 P661 G661 hin661
    refine own_goW (fun _ k => XS.iload X662.here hx rfl (hb hby at_347) rfl k) ?_
    show own_GoW p e below s _ _ _ _ (T662.setTop (mkF m 349 #[iv p1, iv p2, iv p3, iv p4, iv p5, iv uk, iv ub, iv um, rv wd_, iv (Int32.ofNat (own_w ub).length), iv uc, yq, iv up, iv (10 : Int32), rv b596, .unset, .unset, .unset] [(.int (10 : Int32))]))
    refine own_goW (fun _ k => XS.bipush X662.here hx rfl (hb hby at_349) (XS.icmpNo X662.here hx rfl (hb hby at_351) rfl (tlt (by decide : (9 : Int32) < (10 : Int32))).2.2.2 (XS.aload X662.here hx rfl (hb hby at_354) rfl rfl (XS.bipush X662.here hx rfl (hb hby at_356) (XS.aload X662.here hx rfl (hb hby at_358) rfl rfl k))))) ?_
    show own_GoW p e below s _ _ _ _ (T662.setTop (mkF m 360 #[iv p1, iv p2, iv p3, iv p4, iv p5, iv uk, iv ub, iv um, rv wd_, iv (Int32.ofNat (own_w ub).length), iv uc, yq, iv up, iv (10 : Int32), rv b596, .unset, .unset, .unset] [(.ref wd_), (.int (9 : Int32)), (.ref b596)]))
    refine own_goW (fun _ k => XS.iload X662.here hx rfl (hb hby at_360) rfl (XS.iload X662.here hx rfl (hb hby at_362) rfl (XS.iload X662.here hx rfl (hb hby at_364) rfl (XS.bipush X662.here hx rfl (hb hby at_366) k)))) ?_
    obtain ⟨v664, T664, L664, X664, hQ664, st664⟩ := own_callS (y := own_y7) X662 hx hZ hown (ow53 hw) (ow54 hw) (ow3 hw) (ow55 hw) (rm_cell l Z a0 hw hO [] wd_ um up uc (9 : Int32) (own_w ub) h662 O0 (fp0.keep K1) (own_SlKeep fp1 K1 all0) (own_cokL hub hPN (by decide) (by decide)) huc) 2 0 0 (by show _ ≤ 32; omega) (by show _ ≤ 8384; omega) e662 (g := (mkF m 368 #[iv p1, iv p2, iv p3, iv p4, iv p5, iv uk, iv ub, iv um, rv wd_, iv (Int32.ofNat (own_w ub).length), iv uc, yq, iv up, iv (10 : Int32), rv b596, .unset, .unset, .unset] [(.int (9 : Int32)), (.int uc), (.int up), (.int um), (.ref wd_), (.int (9 : Int32)), (.ref b596)])) rfl (by rw [hml]; rfl) [(.ref wd_), (.int um), (.int up), (.int uc), (.int (9 : Int32))] [(.int (9 : Int32)), (.ref b596)] (lenOf own_pd_6 rfl) rfl rfl (hb hby at_368)
    obtain ⟨rfl, Nc667, hp665, Kc666⟩ := hQ664
    refine own_goW st664 ?_
    clear st664 X662 e662
    replace N0 := Fr.app N0 Nc667
    clear Nc667
    show own_GoW p e below s _ _ _ _ (T664.setTop (mkF m 371 #[iv p1, iv p2, iv p3, iv p4, iv p5, iv uk, iv ub, iv um, rv wd_, iv (Int32.ofNat (own_w ub).length), iv uc, yq, iv up, iv (10 : Int32), rv b596, .unset, .unset, .unset] [(.int (own_cell (own_w ub) um up uc (9 : Int32))), (.int (9 : Int32)), (.ref b596)]))
    obtain ⟨cl668, Ar668, q668, S668, M668, P668, G668⟩ := id f663
    have hin668 : ¬ ((9 : Int32) < 0 ∨ cl668.slots.size ≤ ((9 : Int32)).toNatClampNeg) := inb_of S668 ⟨by decide, by decide⟩
    obtain ⟨T669, h669, X669, e669, W669, st669⟩ := stC X664 hx hZ Kc666 Ar668 (j := (9 : Int32)) hin668 (g := (mkF m 371 #[iv p1, iv p2, iv p3, iv p4, iv p5, iv uk, iv ub, iv um, rv wd_, iv (Int32.ofNat (own_w ub).length), iv uc, yq, iv up, iv (10 : Int32), rv b596, .unset, .unset, .unset] [(.int (own_cell (own_w ub) um up uc (9 : Int32))), (.int (9 : Int32)), (.ref b596)])) rfl rfl (hb hby at_371)
    refine own_goW st669 ?_
    clear st669 X664 Kc666
    rw [own_nar8 hp665] at W669
    have f670 : Arv Z h669 b596 k596 .char (10 : Int32) [(.int (own_cell (own_w ub) um up uc (0 : Int32))), (.int (own_cell (own_w ub) um up uc (1 : Int32))), (.int (own_cell (own_w ub) um up uc (2 : Int32))), (.int (own_cell (own_w ub) um up uc (3 : Int32))), (.int (own_cell (own_w ub) um up uc (4 : Int32))), (.int (own_cell (own_w ub) um up uc (5 : Int32))), (.int (own_cell (own_w ub) um up uc (6 : Int32))), (.int (own_cell (own_w ub) um up uc (7 : Int32))), (.int (own_cell (own_w ub) um up uc (8 : Int32))), (.int (own_cell (own_w ub) um up uc (9 : Int32)))] (.int (0 : Int32)) := Arv.set Ar668 q668 S668 M668 P668 G668 (by have q := fits_nar_char (own_cell (own_w ub) um up uc (9 : Int32)); rw [own_nar8 hp665] at q; exact q) W669 9 rfl (Nat.le_of_ble_eq_true rfl)
    replace N0 := Fr.snoc X669 N0 big597
    replace hJ := own_Jwr hZ hJ W669 (own_farV f663 (by decide) (ow7 hw))
    clear f663
    replace O0 := own_oldWr O0 W669 big597
    replace K0 := K0.wr W669 (Or.inr sz598)
    replace K1 := K1.wr W669 (Or.inr sz599)
    replace hS := own_since hS (Nat.le_of_eq W669.size.symm)
    clear W669
    clear Ar668 q668 S668 M668 P668 G668 hin668
    refine own_goW (fun _ k => XS.iload X669.here hx rfl (hb hby at_372) rfl (XS.bipush X669.here hx rfl (hb hby at_374) (XS.icmpYes X669.here hx rfl (pc0 := 376) (pc' := 397) rfl (hb hby at_376) rfl (flt (by decide : ¬ ((10 : Int32) < (10 : Int32)))).2.2.2 (by decide) (by decide) k))) ?_
    obtain ⟨T671, h671, X671, e671, E671, A671, D671, -, st671⟩ := newO X669 hx hZ hown (ow27 hw) (ow7 hw) (ow6 hw) e669 (g := (mkF m 397 #[iv p1, iv p2, iv p3, iv p4, iv p5, iv uk, iv ub, iv um, rv wd_, iv (Int32.ofNat (own_w ub).length), iv uc, yq, iv up, iv (10 : Int32), rv b596, .unset, .unset, .unset] [])) rfl (hb hby at_397) (by show _ ≤ 32; omega) (by show _ ≤ 8384; omega)
    obtain ⟨b671, g671⟩ : ∃ z, z = h669.size := ⟨_, rfl⟩
    rw [← g671] at A671 D671 st671
    refine own_goW st671 ?_
    clear st671 X669 e669
    have ge671 := Nat.le_of_eq g671.symm
    have ne672 : b596 ≠ b671 := Nat.ne_of_lt (Nat.lt_of_lt_of_le f670.lt ge671)
    have big673 : Z.heap.size ≤ b671 := Nat.le_trans O0.1 ge671
    have sz674 : h0.size ≤ b671 := Nat.le_trans K0.1 ge671
    have sz675 : hs1.size ≤ b671 := Nat.le_trans K1.1 ge671
    replace f670 := f670.ext E671
    replace O0 := own_oldExt O0 E671
    replace K0 := K0.ext E671
    replace K1 := K1.ext E671
    replace hS := own_since hS E671.1
    replace hJ := own_Jext hJ E671
    clear E671
    have f676 : Fld Z h671 b671 "java/lang/String" "value" "[B" .null := D671 (Or.inr (ow9 hw)) (ty := (.array .byte)) own_fd0
    have f677 : Fld Z h671 b671 "java/lang/String" "coder" "B" (.int (0 : Int32)) := D671 (Or.inr (ow10 hw)) (ty := .byte) own_fd1
    show own_GoW p e below s _ _ _ _ (T671.setTop (mkF m 400 #[iv p1, iv p2, iv p3, iv p4, iv p5, iv uk, iv ub, iv um, rv wd_, iv (Int32.ofNat (own_w ub).length), iv uc, yq, iv up, iv (10 : Int32), rv b596, .unset, .unset, .unset] [(.ref b671)]))
    refine own_goW (fun _ k => XS.dup X671.here hx rfl (hb hby at_400) rfl rfl (XS.aload X671.here hx rfl (hb hby at_401) rfl rfl k)) ?_
    obtain ⟨v678, T678, L678, X678, hQ678, st678⟩ := own_callIB (y := own_y1) X671 hx hZ hown (ow28 hw) (ow29 hw) (ow6 hw) (ow30 hw) 1 1 10 (StrChars.Road.backV (W := 1) hZ (own_sw1 hw) (kI := 4) (ow7 hw) (cs := ([(own_cell (own_w ub) um up uc (0 : Int32)), (own_cell (own_w ub) um up uc (1 : Int32)), (own_cell (own_w ub) um up uc (2 : Int32)), (own_cell (own_w ub) um up uc (3 : Int32)), (own_cell (own_w ub) um up uc (4 : Int32)), (own_cell (own_w ub) um up uc (5 : Int32)), (own_cell (own_w ub) um up uc (6 : Int32)), (own_cell (own_w ub) um up uc (7 : Int32)), (own_cell (own_w ub) um up uc (8 : Int32)), (own_cell (own_w ub) um up uc (9 : Int32))] : List Int32)) (bs := ([(own_cell (own_w ub) um up uc (0 : Int32)), (own_cell (own_w ub) um up uc (1 : Int32)), (own_cell (own_w ub) um up uc (2 : Int32)), (own_cell (own_w ub) um up uc (3 : Int32)), (own_cell (own_w ub) um up uc (4 : Int32)), (own_cell (own_w ub) um up uc (5 : Int32)), (own_cell (own_w ub) um up uc (6 : Int32)), (own_cell (own_w ub) um up uc (7 : Int32)), (own_cell (own_w ub) um up uc (8 : Int32)), (own_cell (own_w ub) um up uc (9 : Int32))] : List Int32).map (fun c => c.toInt8.toInt32)) (n := 10) (n0 := Z.heap.size) big673 (Nat.le_trans O0.1 (Nat.le_refl _)) A671 f676 f677 f670 (oCS.ext O0) oCz rfl rfl (by decide) (by decide) (own_cC hp602 (own_cC hp609 (own_cC hp616 (own_cC hp623 (own_cC hp630 (own_cC hp637 (own_cC hp644 (own_cC hp651 (own_cC hp658 (own_cC hp665 own_cN)))))))))) rfl (by decide) (by decide)) rfl (by show _ ≤ 32; omega) (by show _ ≤ 8384; omega) e671 (g := (mkF m 403 #[iv p1, iv p2, iv p3, iv p4, iv p5, iv uk, iv ub, iv um, rv wd_, iv (Int32.ofNat (own_w ub).length), iv uc, yq, iv up, iv (10 : Int32), rv b596, .unset, .unset, .unset] [(.ref b596), (.ref b671), (.ref b671)])) rfl (by rw [hml]; rfl) b671 [(.ref b596)] [(.ref b671)] (lenOf own_pd_5 rfl) rfl rfl (hb hby at_403)
    obtain ⟨rfl, Nc678, Kc678, f1678, f2678, t678, kb678, tb678, ts678, tn678, f3678, f4678⟩ := hQ678
    refine own_goW st678 ?_
    clear st678 X671 e671
    replace N0 := Fr.app N0 Nc678
    clear Nc678
    replace hS := own_since hS Kc678.1
    have ne679 : b596 ≠ t678 := Nat.ne_of_lt (Nat.lt_of_lt_of_le f670.lt ts678)
    have ne680 : b671 ≠ t678 := Nat.ne_of_lt (Nat.lt_of_lt_of_le A671.lt ts678)
    have big681 : Z.heap.size ≤ t678 := Nat.le_trans O0.1 ts678
    have sz682 : h0.size ≤ t678 := Nat.le_trans K0.1 ts678
    have sz683 : hs1.size ≤ t678 := Nat.le_trans K1.1 ts678
    have hAp_b671 := own_apart hZ hJ f676
    replace hJ := own_JkeepS hZ hJ Kc678 hAp_b671 A671 (ow7 hw)
    replace f670 := f670.keep Kc678 (ninS ne672 nin0)
    replace A671 := A671.keep Kc678
    clear f676
    clear f677
    replace O0 := own_oldKeep O0 Kc678 (allS big673 all0)
    replace K0 := K0.trans Kc678 (allS (Or.inr sz674) all0)
    replace K1 := K1.trans Kc678 (allS (Or.inr sz675) all0)
    clear Kc678
    replace f4678 : Arv Z T678.heap t678 kb678 .byte (10 : Int32) [(.int ((own_cell (own_w ub) um up uc (0 : Int32)).toInt8.toInt32)), (.int ((own_cell (own_w ub) um up uc (1 : Int32)).toInt8.toInt32)), (.int ((own_cell (own_w ub) um up uc (2 : Int32)).toInt8.toInt32)), (.int ((own_cell (own_w ub) um up uc (3 : Int32)).toInt8.toInt32)), (.int ((own_cell (own_w ub) um up uc (4 : Int32)).toInt8.toInt32)), (.int ((own_cell (own_w ub) um up uc (5 : Int32)).toInt8.toInt32)), (.int ((own_cell (own_w ub) um up uc (6 : Int32)).toInt8.toInt32)), (.int ((own_cell (own_w ub) um up uc (7 : Int32)).toInt8.toInt32)), (.int ((own_cell (own_w ub) um up uc (8 : Int32)).toInt8.toInt32)), (.int ((own_cell (own_w ub) um up uc (9 : Int32)).toInt8.toInt32))] (.int (0 : Int32)) := f4678
    show own_GoW p e below s _ _ _ _ (T678.setTop (mkF m 406 #[iv p1, iv p2, iv p3, iv p4, iv p5, iv uk, iv ub, iv um, rv wd_, iv (Int32.ofNat (own_w ub).length), iv uc, yq, iv up, iv (10 : Int32), rv b596, .unset, .unset, .unset] [(.ref b671)]))
    have sl684 : own_Sl Z T678.heap b671 (own_nm ub um up uc (10 : Int32)) := by
      rw [own_nm_10]
      exact own_mkSl (cs := [(own_cell (own_w ub) um up uc (0 : Int32)), (own_cell (own_w ub) um up uc (1 : Int32)), (own_cell (own_w ub) um up uc (2 : Int32)), (own_cell (own_w ub) um up uc (3 : Int32)), (own_cell (own_w ub) um up uc (4 : Int32)), (own_cell (own_w ub) um up uc (5 : Int32)), (own_cell (own_w ub) um up uc (6 : Int32)), (own_cell (own_w ub) um up uc (7 : Int32)), (own_cell (own_w ub) um up uc (8 : Int32)), (own_cell (own_w ub) um up uc (9 : Int32))]) f1678 f2678 f3678 f4678 rfl rfl (own_cC hp602 (own_cC hp609 (own_cC hp616 (own_cC hp623 (own_cC hp630 (own_cC hp637 (own_cC hp644 (own_cC hp651 (own_cC hp658 (own_cC hp665 own_cN)))))))))) (Nat.le_of_ble_eq_true rfl)
    exact sg_s406 hw hO p1 p2 p3 p4 p5 uk ub um uc up (10 : Int32) wd_ (yq : Slot) (rv b596 : Slot) b671 h0 T678.heap X678 hS hL hJ hx hby hml hret hlk hZ hown hnm (rfl : T678.heap = T678.heap) N0 O0 K0 (fp0.keep K1) (own_SlKeep fp1 K1 all0) f1678 sl684 huk hub hum hPN huc (by omega) (by omega)
  · show own_GoW p e below s _ _ _ _ (T.setTop (mkF m 137 #[iv p1, iv p2, iv p3, iv p4, iv p5, iv uk, iv ub, iv um, rv wd_, iv (Int32.ofNat (own_w ub).length), iv uc, yq, iv up, iv (11 : Int32), .unset, .unset, .unset, .unset] [(.int (11 : Int32))]))
    show own_GoW p e below s _ _ _ _ (T.setTop (mkF m 137 #[iv p1, iv p2, iv p3, iv p4, iv p5, iv uk, iv ub, iv um, rv wd_, iv (Int32.ofNat (own_w ub).length), iv uc, yq, iv up, iv (11 : Int32), .unset, .unset, .unset, .unset] [(.int (11 : Int32))]))
    obtain ⟨T685, h685, k685, X685, e685, E685, A685, st685⟩ := newP (aty := .char) X0 hx hZ (ow26 hw) e0 (g := (mkF m 137 #[iv p1, iv p2, iv p3, iv p4, iv p5, iv uk, iv ub, iv um, rv wd_, iv (Int32.ofNat (own_w ub).length), iv uc, yq, iv up, iv (11 : Int32), .unset, .unset, .unset, .unset] [(.int (11 : Int32))])) rfl (hb hby at_137) rfl (by decide) (cap := 11) (by decide) (by decide) (by show _ ≤ 32; omega) (by show _ ≤ 8384; omega)
    obtain ⟨b685, g685⟩ : ∃ z, z = hs1.size := ⟨_, rfl⟩
    rw [← g685] at A685 st685
    refine own_goW st685 ?_
    clear st685 X0 e0
    have ge685 := Nat.le_of_eq g685.symm
    have big686 : Z.heap.size ≤ b685 := Nat.le_trans O0.1 ge685
    have sz687 : h0.size ≤ b685 := Nat.le_trans K0.1 ge685
    have sz688 : hs1.size ≤ b685 := Nat.le_trans K1.1 ge685
    replace O0 := own_oldExt O0 E685
    replace K0 := K0.ext E685
    replace K1 := K1.ext E685
    replace hS := own_since hS E685.1
    replace hJ := own_Jext hJ E685
    clear E685
    have f689 : Arv Z h685 b685 k685 .char (11 : Int32) [(.int (0 : Int32)), (.int (0 : Int32)), (.int (0 : Int32)), (.int (0 : Int32)), (.int (0 : Int32)), (.int (0 : Int32)), (.int (0 : Int32)), (.int (0 : Int32)), (.int (0 : Int32)), (.int (0 : Int32)), (.int (0 : Int32))] (.int (0 : Int32)) := (Arv.new A685 (by decide)).pad (pad_rep [] (.int (0 : Int32)) 11)
    refine own_goW (fun _ k => XS.astore X685.here hx rfl (hb hby at_139) rfl rfl (l' := #[iv p1, iv p2, iv p3, iv p4, iv p5, iv uk, iv ub, iv um, rv wd_, iv (Int32.ofNat (own_w ub).length), iv uc, yq, iv up, iv (11 : Int32), rv b685, .unset, .unset, .unset]) rfl (XS.iload X685.here hx rfl (hb hby at_141) rfl (XS.ifNo X685.here hx rfl (hb hby at_143) rfl ((if0 _ _).trans (tlt (by decide : (0 : Int32) < (11 : Int32))).2.2.2) (XS.aload X685.here hx rfl (hb hby at_146) rfl rfl k)))) ?_
    show own_GoW p e below s _ _ _ _ (T685.setTop (mkF m 148 #[iv p1, iv p2, iv p3, iv p4, iv p5, iv uk, iv ub, iv um, rv wd_, iv (Int32.ofNat (own_w ub).length), iv uc, yq, iv up, iv (11 : Int32), rv b685, .unset, .unset, .unset] [(.ref b685)]))
    refine own_goW (fun _ k => XS.iconst X685.here hx rfl (hb hby at_148) (XS.aload X685.here hx rfl (hb hby at_149) rfl rfl (XS.iload X685.here hx rfl (hb hby at_151) rfl (XS.iload X685.here hx rfl (hb hby at_153) rfl (XS.iload X685.here hx rfl (hb hby at_155) rfl k))))) ?_
    show own_GoW p e below s _ _ _ _ (T685.setTop (mkF m 157 #[iv p1, iv p2, iv p3, iv p4, iv p5, iv uk, iv ub, iv um, rv wd_, iv (Int32.ofNat (own_w ub).length), iv uc, yq, iv up, iv (11 : Int32), rv b685, .unset, .unset, .unset] [(.int uc), (.int up), (.int um), (.ref wd_), (.int (0 : Int32)), (.ref b685)]))
    refine own_goW (fun _ k => XS.iconst X685.here hx rfl (hb hby at_157) k) ?_
    obtain ⟨v690, T690, L690, X690, hQ690, st690⟩ := own_callS (y := own_y7) X685 hx hZ hown (ow53 hw) (ow54 hw) (ow3 hw) (ow55 hw) (rm_cell l Z a0 hw hO [] wd_ um up uc (0 : Int32) (own_w ub) h685 O0 (fp0.keep K1) (own_SlKeep fp1 K1 all0) (own_cokL hub hPN (by decide) (by decide)) huc) 2 0 0 (by show _ ≤ 32; omega) (by show _ ≤ 8384; omega) e685 (g := (mkF m 158 #[iv p1, iv p2, iv p3, iv p4, iv p5, iv uk, iv ub, iv um, rv wd_, iv (Int32.ofNat (own_w ub).length), iv uc, yq, iv up, iv (11 : Int32), rv b685, .unset, .unset, .unset] [(.int (0 : Int32)), (.int uc), (.int up), (.int um), (.ref wd_), (.int (0 : Int32)), (.ref b685)])) rfl (by rw [hml]; rfl) [(.ref wd_), (.int um), (.int up), (.int uc), (.int (0 : Int32))] [(.int (0 : Int32)), (.ref b685)] (lenOf own_pd_6 rfl) rfl rfl (hb hby at_158)
    obtain ⟨rfl, Nc693, hp691, Kc692⟩ := hQ690
    refine own_goW st690 ?_
    clear st690 X685 e685
    replace N0 := Fr.app N0 Nc693
    clear Nc693
    obtain ⟨cl694, Ar694, q694, S694, M694, P694, G694⟩ := id f689
    have hin694 : ¬ ((0 : Int32) < 0 ∨ cl694.slots.size ≤ ((0 : Int32)).toNatClampNeg) := inb_of S694 ⟨by decide, by decide⟩
    obtain ⟨T695, h695, X695, e695, W695, st695⟩ := stC X690 hx hZ Kc692 Ar694 (j := (0 : Int32)) hin694 (g := (mkF m 161 #[iv p1, iv p2, iv p3, iv p4, iv p5, iv uk, iv ub, iv um, rv wd_, iv (Int32.ofNat (own_w ub).length), iv uc, yq, iv up, iv (11 : Int32), rv b685, .unset, .unset, .unset] [(.int (own_cell (own_w ub) um up uc (0 : Int32))), (.int (0 : Int32)), (.ref b685)])) rfl rfl (hb hby at_161)
    refine own_goW st695 ?_
    clear st695 X690 Kc692
    rw [own_nar8 hp691] at W695
    have f696 : Arv Z h695 b685 k685 .char (11 : Int32) [(.int (own_cell (own_w ub) um up uc (0 : Int32))), (.int (0 : Int32)), (.int (0 : Int32)), (.int (0 : Int32)), (.int (0 : Int32)), (.int (0 : Int32)), (.int (0 : Int32)), (.int (0 : Int32)), (.int (0 : Int32)), (.int (0 : Int32)), (.int (0 : Int32))] (.int (0 : Int32)) := Arv.set Ar694 q694 S694 M694 P694 G694 (by have q := fits_nar_char (own_cell (own_w ub) um up uc (0 : Int32)); rw [own_nar8 hp691] at q; exact q) W695 0 rfl (Nat.le_of_ble_eq_true rfl)
    replace N0 := Fr.snoc X695 N0 big686
    replace hJ := own_Jwr hZ hJ W695 (own_farV f689 (by decide) (ow7 hw))
    clear f689
    replace O0 := own_oldWr O0 W695 big686
    replace K0 := K0.wr W695 (Or.inr sz687)
    replace K1 := K1.wr W695 (Or.inr sz688)
    replace hS := own_since hS (Nat.le_of_eq W695.size.symm)
    clear W695
    clear Ar694 q694 S694 M694 P694 G694 hin694
    refine own_goW (fun _ k => XS.iload X695.here hx rfl (hb hby at_162) rfl (XS.iconst X695.here hx rfl (hb hby at_164) k)) ?_
    show own_GoW p e below s _ _ _ _ (T695.setTop (mkF m 165 #[iv p1, iv p2, iv p3, iv p4, iv p5, iv uk, iv ub, iv um, rv wd_, iv (Int32.ofNat (own_w ub).length), iv uc, yq, iv up, iv (11 : Int32), rv b685, .unset, .unset, .unset] [(.int (1 : Int32)), (.int (11 : Int32))]))
    refine own_goW (fun _ k => XS.icmpNo X695.here hx rfl (hb hby at_165) rfl (tlt (by decide : (1 : Int32) < (11 : Int32))).2.2.2 (XS.aload X695.here hx rfl (hb hby at_168) rfl rfl (XS.iconst X695.here hx rfl (hb hby at_170) (XS.aload X695.here hx rfl (hb hby at_171) rfl rfl (XS.iload X695.here hx rfl (hb hby at_173) rfl k))))) ?_
    show own_GoW p e below s _ _ _ _ (T695.setTop (mkF m 175 #[iv p1, iv p2, iv p3, iv p4, iv p5, iv uk, iv ub, iv um, rv wd_, iv (Int32.ofNat (own_w ub).length), iv uc, yq, iv up, iv (11 : Int32), rv b685, .unset, .unset, .unset] [(.int um), (.ref wd_), (.int (1 : Int32)), (.ref b685)]))
    refine own_goW (fun _ k => XS.iload X695.here hx rfl (hb hby at_175) rfl (XS.iload X695.here hx rfl (hb hby at_177) rfl (XS.iconst X695.here hx rfl (hb hby at_179) k))) ?_
    obtain ⟨v697, T697, L697, X697, hQ697, st697⟩ := own_callS (y := own_y7) X695 hx hZ hown (ow53 hw) (ow54 hw) (ow3 hw) (ow55 hw) (rm_cell l Z a0 hw hO [] wd_ um up uc (1 : Int32) (own_w ub) h695 O0 (fp0.keep K1) (own_SlKeep fp1 K1 all0) (own_cokL hub hPN (by decide) (by decide)) huc) 2 0 0 (by show _ ≤ 32; omega) (by show _ ≤ 8384; omega) e695 (g := (mkF m 180 #[iv p1, iv p2, iv p3, iv p4, iv p5, iv uk, iv ub, iv um, rv wd_, iv (Int32.ofNat (own_w ub).length), iv uc, yq, iv up, iv (11 : Int32), rv b685, .unset, .unset, .unset] [(.int (1 : Int32)), (.int uc), (.int up), (.int um), (.ref wd_), (.int (1 : Int32)), (.ref b685)])) rfl (by rw [hml]; rfl) [(.ref wd_), (.int um), (.int up), (.int uc), (.int (1 : Int32))] [(.int (1 : Int32)), (.ref b685)] (lenOf own_pd_6 rfl) rfl rfl (hb hby at_180)
    obtain ⟨rfl, Nc700, hp698, Kc699⟩ := hQ697
    refine own_goW st697 ?_
    clear st697 X695 e695
    replace N0 := Fr.app N0 Nc700
    clear Nc700
    obtain ⟨cl701, Ar701, q701, S701, M701, P701, G701⟩ := id f696
    have hin701 : ¬ ((1 : Int32) < 0 ∨ cl701.slots.size ≤ ((1 : Int32)).toNatClampNeg) := inb_of S701 ⟨by decide, by decide⟩
    obtain ⟨T702, h702, X702, e702, W702, st702⟩ := stC X697 hx hZ Kc699 Ar701 (j := (1 : Int32)) hin701 (g := (mkF m 183 #[iv p1, iv p2, iv p3, iv p4, iv p5, iv uk, iv ub, iv um, rv wd_, iv (Int32.ofNat (own_w ub).length), iv uc, yq, iv up, iv (11 : Int32), rv b685, .unset, .unset, .unset] [(.int (own_cell (own_w ub) um up uc (1 : Int32))), (.int (1 : Int32)), (.ref b685)])) rfl rfl (hb hby at_183)
    refine own_goW st702 ?_
    clear st702 X697 Kc699
    rw [own_nar8 hp698] at W702
    have f703 : Arv Z h702 b685 k685 .char (11 : Int32) [(.int (own_cell (own_w ub) um up uc (0 : Int32))), (.int (own_cell (own_w ub) um up uc (1 : Int32))), (.int (0 : Int32)), (.int (0 : Int32)), (.int (0 : Int32)), (.int (0 : Int32)), (.int (0 : Int32)), (.int (0 : Int32)), (.int (0 : Int32)), (.int (0 : Int32)), (.int (0 : Int32))] (.int (0 : Int32)) := Arv.set Ar701 q701 S701 M701 P701 G701 (by have q := fits_nar_char (own_cell (own_w ub) um up uc (1 : Int32)); rw [own_nar8 hp698] at q; exact q) W702 1 rfl (Nat.le_of_ble_eq_true rfl)
    replace N0 := Fr.snoc X702 N0 big686
    replace hJ := own_Jwr hZ hJ W702 (own_farV f696 (by decide) (ow7 hw))
    clear f696
    replace O0 := own_oldWr O0 W702 big686
    replace K0 := K0.wr W702 (Or.inr sz687)
    replace K1 := K1.wr W702 (Or.inr sz688)
    replace hS := own_since hS (Nat.le_of_eq W702.size.symm)
    clear W702
    clear Ar701 q701 S701 M701 P701 G701 hin701
    show own_GoW p e below s _ _ _ _ (T702.setTop (mkF m 184 #[iv p1, iv p2, iv p3, iv p4, iv p5, iv uk, iv ub, iv um, rv wd_, iv (Int32.ofNat (own_w ub).length), iv uc, yq, iv up, iv (11 : Int32), rv b685, .unset, .unset, .unset] []))
    refine own_goW (fun _ k => XS.iload X702.here hx rfl (hb hby at_184) rfl (XS.iconst X702.here hx rfl (hb hby at_186) (XS.icmpNo X702.here hx rfl (hb hby at_187) rfl (tlt (by decide : (2 : Int32) < (11 : Int32))).2.2.2 (XS.aload X702.here hx rfl (hb hby at_190) rfl rfl (XS.iconst X702.here hx rfl (hb hby at_192) k))))) ?_
    show own_GoW p e below s _ _ _ _ (T702.setTop (mkF m 193 #[iv p1, iv p2, iv p3, iv p4, iv p5, iv uk, iv ub, iv um, rv wd_, iv (Int32.ofNat (own_w ub).length), iv uc, yq, iv up, iv (11 : Int32), rv b685, .unset, .unset, .unset] [(.int (2 : Int32)), (.ref b685)]))
    refine own_goW (fun _ k => XS.aload X702.here hx rfl (hb hby at_193) rfl rfl (XS.iload X702.here hx rfl (hb hby at_195) rfl (XS.iload X702.here hx rfl (hb hby at_197) rfl (XS.iload X702.here hx rfl (hb hby at_199) rfl (XS.iconst X702.here hx rfl (hb hby at_201) k))))) ?_
    show own_GoW p e below s _ _ _ _ (T702.setTop (mkF m 202 #[iv p1, iv p2, iv p3, iv p4, iv p5, iv uk, iv ub, iv um, rv wd_, iv (Int32.ofNat (own_w ub).length), iv uc, yq, iv up, iv (11 : Int32), rv b685, .unset, .unset, .unset] [(.int (2 : Int32)), (.int uc), (.int up), (.int um), (.ref wd_), (.int (2 : Int32)), (.ref b685)]))
    obtain ⟨v704, T704, L704, X704, hQ704, st704⟩ := own_callS (y := own_y7) X702 hx hZ hown (ow53 hw) (ow54 hw) (ow3 hw) (ow55 hw) (rm_cell l Z a0 hw hO [] wd_ um up uc (2 : Int32) (own_w ub) h702 O0 (fp0.keep K1) (own_SlKeep fp1 K1 all0) (own_cokL hub hPN (by decide) (by decide)) huc) 2 0 0 (by show _ ≤ 32; omega) (by show _ ≤ 8384; omega) e702 (g := (mkF m 202 #[iv p1, iv p2, iv p3, iv p4, iv p5, iv uk, iv ub, iv um, rv wd_, iv (Int32.ofNat (own_w ub).length), iv uc, yq, iv up, iv (11 : Int32), rv b685, .unset, .unset, .unset] [(.int (2 : Int32)), (.int uc), (.int up), (.int um), (.ref wd_), (.int (2 : Int32)), (.ref b685)])) rfl (by rw [hml]; rfl) [(.ref wd_), (.int um), (.int up), (.int uc), (.int (2 : Int32))] [(.int (2 : Int32)), (.ref b685)] (lenOf own_pd_6 rfl) rfl rfl (hb hby at_202)
    obtain ⟨rfl, Nc707, hp705, Kc706⟩ := hQ704
    refine own_goW st704 ?_
    clear st704 X702 e702
    replace N0 := Fr.app N0 Nc707
    clear Nc707
    obtain ⟨cl708, Ar708, q708, S708, M708, P708, G708⟩ := id f703
    have hin708 : ¬ ((2 : Int32) < 0 ∨ cl708.slots.size ≤ ((2 : Int32)).toNatClampNeg) := inb_of S708 ⟨by decide, by decide⟩
    obtain ⟨T709, h709, X709, e709, W709, st709⟩ := stC X704 hx hZ Kc706 Ar708 (j := (2 : Int32)) hin708 (g := (mkF m 205 #[iv p1, iv p2, iv p3, iv p4, iv p5, iv uk, iv ub, iv um, rv wd_, iv (Int32.ofNat (own_w ub).length), iv uc, yq, iv up, iv (11 : Int32), rv b685, .unset, .unset, .unset] [(.int (own_cell (own_w ub) um up uc (2 : Int32))), (.int (2 : Int32)), (.ref b685)])) rfl rfl (hb hby at_205)
    refine own_goW st709 ?_
    clear st709 X704 Kc706
    rw [own_nar8 hp705] at W709
    have f710 : Arv Z h709 b685 k685 .char (11 : Int32) [(.int (own_cell (own_w ub) um up uc (0 : Int32))), (.int (own_cell (own_w ub) um up uc (1 : Int32))), (.int (own_cell (own_w ub) um up uc (2 : Int32))), (.int (0 : Int32)), (.int (0 : Int32)), (.int (0 : Int32)), (.int (0 : Int32)), (.int (0 : Int32)), (.int (0 : Int32)), (.int (0 : Int32)), (.int (0 : Int32))] (.int (0 : Int32)) := Arv.set Ar708 q708 S708 M708 P708 G708 (by have q := fits_nar_char (own_cell (own_w ub) um up uc (2 : Int32)); rw [own_nar8 hp705] at q; exact q) W709 2 rfl (Nat.le_of_ble_eq_true rfl)
    replace N0 := Fr.snoc X709 N0 big686
    replace hJ := own_Jwr hZ hJ W709 (own_farV f703 (by decide) (ow7 hw))
    clear f703
    replace O0 := own_oldWr O0 W709 big686
    replace K0 := K0.wr W709 (Or.inr sz687)
    replace K1 := K1.wr W709 (Or.inr sz688)
    replace hS := own_since hS (Nat.le_of_eq W709.size.symm)
    clear W709
    clear Ar708 q708 S708 M708 P708 G708 hin708
    refine own_goW (fun _ k => XS.iload X709.here hx rfl (hb hby at_206) rfl (XS.iconst X709.here hx rfl (hb hby at_208) (XS.icmpNo X709.here hx rfl (hb hby at_209) rfl (tlt (by decide : (3 : Int32) < (11 : Int32))).2.2.2 k))) ?_
    show own_GoW p e below s _ _ _ _ (T709.setTop (mkF m 212 #[iv p1, iv p2, iv p3, iv p4, iv p5, iv uk, iv ub, iv um, rv wd_, iv (Int32.ofNat (own_w ub).length), iv uc, yq, iv up, iv (11 : Int32), rv b685, .unset, .unset, .unset] []))
    refine own_goW (fun _ k => XS.aload X709.here hx rfl (hb hby at_212) rfl rfl (XS.iconst X709.here hx rfl (hb hby at_214) (XS.aload X709.here hx rfl (hb hby at_215) rfl rfl (XS.iload X709.here hx rfl (hb hby at_217) rfl (XS.iload X709.here hx rfl (hb hby at_219) rfl k))))) ?_
    show own_GoW p e below s _ _ _ _ (T709.setTop (mkF m 221 #[iv p1, iv p2, iv p3, iv p4, iv p5, iv uk, iv ub, iv um, rv wd_, iv (Int32.ofNat (own_w ub).length), iv uc, yq, iv up, iv (11 : Int32), rv b685, .unset, .unset, .unset] [(.int up), (.int um), (.ref wd_), (.int (3 : Int32)), (.ref b685)]))
    refine own_goW (fun _ k => XS.iload X709.here hx rfl (hb hby at_221) rfl (XS.iconst X709.here hx rfl (hb hby at_223) k)) ?_
    obtain ⟨v711, T711, L711, X711, hQ711, st711⟩ := own_callS (y := own_y7) X709 hx hZ hown (ow53 hw) (ow54 hw) (ow3 hw) (ow55 hw) (rm_cell l Z a0 hw hO [] wd_ um up uc (3 : Int32) (own_w ub) h709 O0 (fp0.keep K1) (own_SlKeep fp1 K1 all0) (own_cokL hub hPN (by decide) (by decide)) huc) 2 0 0 (by show _ ≤ 32; omega) (by show _ ≤ 8384; omega) e709 (g := (mkF m 224 #[iv p1, iv p2, iv p3, iv p4, iv p5, iv uk, iv ub, iv um, rv wd_, iv (Int32.ofNat (own_w ub).length), iv uc, yq, iv up, iv (11 : Int32), rv b685, .unset, .unset, .unset] [(.int (3 : Int32)), (.int uc), (.int up), (.int um), (.ref wd_), (.int (3 : Int32)), (.ref b685)])) rfl (by rw [hml]; rfl) [(.ref wd_), (.int um), (.int up), (.int uc), (.int (3 : Int32))] [(.int (3 : Int32)), (.ref b685)] (lenOf own_pd_6 rfl) rfl rfl (hb hby at_224)
    obtain ⟨rfl, Nc714, hp712, Kc713⟩ := hQ711
    refine own_goW st711 ?_
    clear st711 X709 e709
    replace N0 := Fr.app N0 Nc714
    clear Nc714
    obtain ⟨cl715, Ar715, q715, S715, M715, P715, G715⟩ := id f710
    have hin715 : ¬ ((3 : Int32) < 0 ∨ cl715.slots.size ≤ ((3 : Int32)).toNatClampNeg) := inb_of S715 ⟨by decide, by decide⟩
    obtain ⟨T716, h716, X716, e716, W716, st716⟩ := stC X711 hx hZ Kc713 Ar715 (j := (3 : Int32)) hin715 (g := (mkF m 227 #[iv p1, iv p2, iv p3, iv p4, iv p5, iv uk, iv ub, iv um, rv wd_, iv (Int32.ofNat (own_w ub).length), iv uc, yq, iv up, iv (11 : Int32), rv b685, .unset, .unset, .unset] [(.int (own_cell (own_w ub) um up uc (3 : Int32))), (.int (3 : Int32)), (.ref b685)])) rfl rfl (hb hby at_227)
    refine own_goW st716 ?_
    clear st716 X711 Kc713
    rw [own_nar8 hp712] at W716
    have f717 : Arv Z h716 b685 k685 .char (11 : Int32) [(.int (own_cell (own_w ub) um up uc (0 : Int32))), (.int (own_cell (own_w ub) um up uc (1 : Int32))), (.int (own_cell (own_w ub) um up uc (2 : Int32))), (.int (own_cell (own_w ub) um up uc (3 : Int32))), (.int (0 : Int32)), (.int (0 : Int32)), (.int (0 : Int32)), (.int (0 : Int32)), (.int (0 : Int32)), (.int (0 : Int32)), (.int (0 : Int32))] (.int (0 : Int32)) := Arv.set Ar715 q715 S715 M715 P715 G715 (by have q := fits_nar_char (own_cell (own_w ub) um up uc (3 : Int32)); rw [own_nar8 hp712] at q; exact q) W716 3 rfl (Nat.le_of_ble_eq_true rfl)
    replace N0 := Fr.snoc X716 N0 big686
    replace hJ := own_Jwr hZ hJ W716 (own_farV f710 (by decide) (ow7 hw))
    clear f710
    replace O0 := own_oldWr O0 W716 big686
    replace K0 := K0.wr W716 (Or.inr sz687)
    replace K1 := K1.wr W716 (Or.inr sz688)
    replace hS := own_since hS (Nat.le_of_eq W716.size.symm)
    clear W716
    clear Ar715 q715 S715 M715 P715 G715 hin715
    refine own_goW (fun _ k => XS.iload X716.here hx rfl (hb hby at_228) rfl k) ?_
    show own_GoW p e below s _ _ _ _ (T716.setTop (mkF m 230 #[iv p1, iv p2, iv p3, iv p4, iv p5, iv uk, iv ub, iv um, rv wd_, iv (Int32.ofNat (own_w ub).length), iv uc, yq, iv up, iv (11 : Int32), rv b685, .unset, .unset, .unset] [(.int (11 : Int32))]))
    refine own_goW (fun _ k => XS.iconst X716.here hx rfl (hb hby at_230) (XS.icmpNo X716.here hx rfl (hb hby at_231) rfl (tlt (by decide : (4 : Int32) < (11 : Int32))).2.2.2 (XS.aload X716.here hx rfl (hb hby at_234) rfl rfl (XS.iconst X716.here hx rfl (hb hby at_236) (XS.aload X716.here hx rfl (hb hby at_237) rfl rfl k))))) ?_
    show own_GoW p e below s _ _ _ _ (T716.setTop (mkF m 239 #[iv p1, iv p2, iv p3, iv p4, iv p5, iv uk, iv ub, iv um, rv wd_, iv (Int32.ofNat (own_w ub).length), iv uc, yq, iv up, iv (11 : Int32), rv b685, .unset, .unset, .unset] [(.ref wd_), (.int (4 : Int32)), (.ref b685)]))
    refine own_goW (fun _ k => XS.iload X716.here hx rfl (hb hby at_239) rfl (XS.iload X716.here hx rfl (hb hby at_241) rfl (XS.iload X716.here hx rfl (hb hby at_243) rfl (XS.iconst X716.here hx rfl (hb hby at_245) k)))) ?_
    obtain ⟨v718, T718, L718, X718, hQ718, st718⟩ := own_callS (y := own_y7) X716 hx hZ hown (ow53 hw) (ow54 hw) (ow3 hw) (ow55 hw) (rm_cell l Z a0 hw hO [] wd_ um up uc (4 : Int32) (own_w ub) h716 O0 (fp0.keep K1) (own_SlKeep fp1 K1 all0) (own_cokL hub hPN (by decide) (by decide)) huc) 2 0 0 (by show _ ≤ 32; omega) (by show _ ≤ 8384; omega) e716 (g := (mkF m 246 #[iv p1, iv p2, iv p3, iv p4, iv p5, iv uk, iv ub, iv um, rv wd_, iv (Int32.ofNat (own_w ub).length), iv uc, yq, iv up, iv (11 : Int32), rv b685, .unset, .unset, .unset] [(.int (4 : Int32)), (.int uc), (.int up), (.int um), (.ref wd_), (.int (4 : Int32)), (.ref b685)])) rfl (by rw [hml]; rfl) [(.ref wd_), (.int um), (.int up), (.int uc), (.int (4 : Int32))] [(.int (4 : Int32)), (.ref b685)] (lenOf own_pd_6 rfl) rfl rfl (hb hby at_246)
    obtain ⟨rfl, Nc721, hp719, Kc720⟩ := hQ718
    refine own_goW st718 ?_
    clear st718 X716 e716
    replace N0 := Fr.app N0 Nc721
    clear Nc721
    show own_GoW p e below s _ _ _ _ (T718.setTop (mkF m 249 #[iv p1, iv p2, iv p3, iv p4, iv p5, iv uk, iv ub, iv um, rv wd_, iv (Int32.ofNat (own_w ub).length), iv uc, yq, iv up, iv (11 : Int32), rv b685, .unset, .unset, .unset] [(.int (own_cell (own_w ub) um up uc (4 : Int32))), (.int (4 : Int32)), (.ref b685)]))
    obtain ⟨cl722, Ar722, q722, S722, M722, P722, G722⟩ := id f717
    have hin722 : ¬ ((4 : Int32) < 0 ∨ cl722.slots.size ≤ ((4 : Int32)).toNatClampNeg) := inb_of S722 ⟨by decide, by decide⟩
    obtain ⟨T723, h723, X723, e723, W723, st723⟩ := stC X718 hx hZ Kc720 Ar722 (j := (4 : Int32)) hin722 (g := (mkF m 249 #[iv p1, iv p2, iv p3, iv p4, iv p5, iv uk, iv ub, iv um, rv wd_, iv (Int32.ofNat (own_w ub).length), iv uc, yq, iv up, iv (11 : Int32), rv b685, .unset, .unset, .unset] [(.int (own_cell (own_w ub) um up uc (4 : Int32))), (.int (4 : Int32)), (.ref b685)])) rfl rfl (hb hby at_249)
    refine own_goW st723 ?_
    clear st723 X718 Kc720
    rw [own_nar8 hp719] at W723
    have f724 : Arv Z h723 b685 k685 .char (11 : Int32) [(.int (own_cell (own_w ub) um up uc (0 : Int32))), (.int (own_cell (own_w ub) um up uc (1 : Int32))), (.int (own_cell (own_w ub) um up uc (2 : Int32))), (.int (own_cell (own_w ub) um up uc (3 : Int32))), (.int (own_cell (own_w ub) um up uc (4 : Int32))), (.int (0 : Int32)), (.int (0 : Int32)), (.int (0 : Int32)), (.int (0 : Int32)), (.int (0 : Int32)), (.int (0 : Int32))] (.int (0 : Int32)) := Arv.set Ar722 q722 S722 M722 P722 G722 (by have q := fits_nar_char (own_cell (own_w ub) um up uc (4 : Int32)); rw [own_nar8 hp719] at q; exact q) W723 4 rfl (Nat.le_of_ble_eq_true rfl)
    replace N0 := Fr.snoc X723 N0 big686
    replace hJ := own_Jwr hZ hJ W723 (own_farV f717 (by decide) (ow7 hw))
    clear f717
    replace O0 := own_oldWr O0 W723 big686
    replace K0 := K0.wr W723 (Or.inr sz687)
    replace K1 := K1.wr W723 (Or.inr sz688)
    replace hS := own_since hS (Nat.le_of_eq W723.size.symm)
    clear W723
    clear Ar722 q722 S722 M722 P722 G722 hin722
    refine own_goW (fun _ k => XS.iload X723.here hx rfl (hb hby at_250) rfl (XS.iconst X723.here hx rfl (hb hby at_252) (XS.icmpNo X723.here hx rfl (hb hby at_253) rfl (tlt (by decide : (5 : Int32) < (11 : Int32))).2.2.2 (XS.aload X723.here hx rfl (hb hby at_256) rfl rfl k)))) ?_
    show own_GoW p e below s _ _ _ _ (T723.setTop (mkF m 258 #[iv p1, iv p2, iv p3, iv p4, iv p5, iv uk, iv ub, iv um, rv wd_, iv (Int32.ofNat (own_w ub).length), iv uc, yq, iv up, iv (11 : Int32), rv b685, .unset, .unset, .unset] [(.ref b685)]))
    refine own_goW (fun _ k => XS.iconst X723.here hx rfl (hb hby at_258) (XS.aload X723.here hx rfl (hb hby at_259) rfl rfl (XS.iload X723.here hx rfl (hb hby at_261) rfl (XS.iload X723.here hx rfl (hb hby at_263) rfl (XS.iload X723.here hx rfl (hb hby at_265) rfl k))))) ?_
    show own_GoW p e below s _ _ _ _ (T723.setTop (mkF m 267 #[iv p1, iv p2, iv p3, iv p4, iv p5, iv uk, iv ub, iv um, rv wd_, iv (Int32.ofNat (own_w ub).length), iv uc, yq, iv up, iv (11 : Int32), rv b685, .unset, .unset, .unset] [(.int uc), (.int up), (.int um), (.ref wd_), (.int (5 : Int32)), (.ref b685)]))
    refine own_goW (fun _ k => XS.iconst X723.here hx rfl (hb hby at_267) k) ?_
    obtain ⟨v725, T725, L725, X725, hQ725, st725⟩ := own_callS (y := own_y7) X723 hx hZ hown (ow53 hw) (ow54 hw) (ow3 hw) (ow55 hw) (rm_cell l Z a0 hw hO [] wd_ um up uc (5 : Int32) (own_w ub) h723 O0 (fp0.keep K1) (own_SlKeep fp1 K1 all0) (own_cokL hub hPN (by decide) (by decide)) huc) 2 0 0 (by show _ ≤ 32; omega) (by show _ ≤ 8384; omega) e723 (g := (mkF m 268 #[iv p1, iv p2, iv p3, iv p4, iv p5, iv uk, iv ub, iv um, rv wd_, iv (Int32.ofNat (own_w ub).length), iv uc, yq, iv up, iv (11 : Int32), rv b685, .unset, .unset, .unset] [(.int (5 : Int32)), (.int uc), (.int up), (.int um), (.ref wd_), (.int (5 : Int32)), (.ref b685)])) rfl (by rw [hml]; rfl) [(.ref wd_), (.int um), (.int up), (.int uc), (.int (5 : Int32))] [(.int (5 : Int32)), (.ref b685)] (lenOf own_pd_6 rfl) rfl rfl (hb hby at_268)
    obtain ⟨rfl, Nc728, hp726, Kc727⟩ := hQ725
    refine own_goW st725 ?_
    clear st725 X723 e723
    replace N0 := Fr.app N0 Nc728
    clear Nc728
    obtain ⟨cl729, Ar729, q729, S729, M729, P729, G729⟩ := id f724
    have hin729 : ¬ ((5 : Int32) < 0 ∨ cl729.slots.size ≤ ((5 : Int32)).toNatClampNeg) := inb_of S729 ⟨by decide, by decide⟩
    obtain ⟨T730, h730, X730, e730, W730, st730⟩ := stC X725 hx hZ Kc727 Ar729 (j := (5 : Int32)) hin729 (g := (mkF m 271 #[iv p1, iv p2, iv p3, iv p4, iv p5, iv uk, iv ub, iv um, rv wd_, iv (Int32.ofNat (own_w ub).length), iv uc, yq, iv up, iv (11 : Int32), rv b685, .unset, .unset, .unset] [(.int (own_cell (own_w ub) um up uc (5 : Int32))), (.int (5 : Int32)), (.ref b685)])) rfl rfl (hb hby at_271)
    refine own_goW st730 ?_
    clear st730 X725 Kc727
    rw [own_nar8 hp726] at W730
    have f731 : Arv Z h730 b685 k685 .char (11 : Int32) [(.int (own_cell (own_w ub) um up uc (0 : Int32))), (.int (own_cell (own_w ub) um up uc (1 : Int32))), (.int (own_cell (own_w ub) um up uc (2 : Int32))), (.int (own_cell (own_w ub) um up uc (3 : Int32))), (.int (own_cell (own_w ub) um up uc (4 : Int32))), (.int (own_cell (own_w ub) um up uc (5 : Int32))), (.int (0 : Int32)), (.int (0 : Int32)), (.int (0 : Int32)), (.int (0 : Int32)), (.int (0 : Int32))] (.int (0 : Int32)) := Arv.set Ar729 q729 S729 M729 P729 G729 (by have q := fits_nar_char (own_cell (own_w ub) um up uc (5 : Int32)); rw [own_nar8 hp726] at q; exact q) W730 5 rfl (Nat.le_of_ble_eq_true rfl)
    replace N0 := Fr.snoc X730 N0 big686
    replace hJ := own_Jwr hZ hJ W730 (own_farV f724 (by decide) (ow7 hw))
    clear f724
    replace O0 := own_oldWr O0 W730 big686
    replace K0 := K0.wr W730 (Or.inr sz687)
    replace K1 := K1.wr W730 (Or.inr sz688)
    replace hS := own_since hS (Nat.le_of_eq W730.size.symm)
    clear W730
    clear Ar729 q729 S729 M729 P729 G729 hin729
    refine own_goW (fun _ k => XS.iload X730.here hx rfl (hb hby at_272) rfl (XS.bipush X730.here hx rfl (hb hby at_274) k)) ?_
    show own_GoW p e below s _ _ _ _ (T730.setTop (mkF m 276 #[iv p1, iv p2, iv p3, iv p4, iv p5, iv uk, iv ub, iv um, rv wd_, iv (Int32.ofNat (own_w ub).length), iv uc, yq, iv up, iv (11 : Int32), rv b685, .unset, .unset, .unset] [(.int (6 : Int32)), (.int (11 : Int32))]))
    refine own_goW (fun _ k => XS.icmpNo X730.here hx rfl (hb hby at_276) rfl (tlt (by decide : (6 : Int32) < (11 : Int32))).2.2.2 (XS.aload X730.here hx rfl (hb hby at_279) rfl rfl (XS.bipush X730.here hx rfl (hb hby at_281) (XS.aload X730.here hx rfl (hb hby at_283) rfl rfl (XS.iload X730.here hx rfl (hb hby at_285) rfl k))))) ?_
    show own_GoW p e below s _ _ _ _ (T730.setTop (mkF m 287 #[iv p1, iv p2, iv p3, iv p4, iv p5, iv uk, iv ub, iv um, rv wd_, iv (Int32.ofNat (own_w ub).length), iv uc, yq, iv up, iv (11 : Int32), rv b685, .unset, .unset, .unset] [(.int um), (.ref wd_), (.int (6 : Int32)), (.ref b685)]))
    refine own_goW (fun _ k => XS.iload X730.here hx rfl (hb hby at_287) rfl (XS.iload X730.here hx rfl (hb hby at_289) rfl (XS.bipush X730.here hx rfl (hb hby at_291) k))) ?_
    obtain ⟨v732, T732, L732, X732, hQ732, st732⟩ := own_callS (y := own_y7) X730 hx hZ hown (ow53 hw) (ow54 hw) (ow3 hw) (ow55 hw) (rm_cell l Z a0 hw hO [] wd_ um up uc (6 : Int32) (own_w ub) h730 O0 (fp0.keep K1) (own_SlKeep fp1 K1 all0) (own_cokL hub hPN (by decide) (by decide)) huc) 2 0 0 (by show _ ≤ 32; omega) (by show _ ≤ 8384; omega) e730 (g := (mkF m 293 #[iv p1, iv p2, iv p3, iv p4, iv p5, iv uk, iv ub, iv um, rv wd_, iv (Int32.ofNat (own_w ub).length), iv uc, yq, iv up, iv (11 : Int32), rv b685, .unset, .unset, .unset] [(.int (6 : Int32)), (.int uc), (.int up), (.int um), (.ref wd_), (.int (6 : Int32)), (.ref b685)])) rfl (by rw [hml]; rfl) [(.ref wd_), (.int um), (.int up), (.int uc), (.int (6 : Int32))] [(.int (6 : Int32)), (.ref b685)] (lenOf own_pd_6 rfl) rfl rfl (hb hby at_293)
    obtain ⟨rfl, Nc735, hp733, Kc734⟩ := hQ732
    refine own_goW st732 ?_
    clear st732 X730 e730
    replace N0 := Fr.app N0 Nc735
    clear Nc735
    obtain ⟨cl736, Ar736, q736, S736, M736, P736, G736⟩ := id f731
    have hin736 : ¬ ((6 : Int32) < 0 ∨ cl736.slots.size ≤ ((6 : Int32)).toNatClampNeg) := inb_of S736 ⟨by decide, by decide⟩
    obtain ⟨T737, h737, X737, e737, W737, st737⟩ := stC X732 hx hZ Kc734 Ar736 (j := (6 : Int32)) hin736 (g := (mkF m 296 #[iv p1, iv p2, iv p3, iv p4, iv p5, iv uk, iv ub, iv um, rv wd_, iv (Int32.ofNat (own_w ub).length), iv uc, yq, iv up, iv (11 : Int32), rv b685, .unset, .unset, .unset] [(.int (own_cell (own_w ub) um up uc (6 : Int32))), (.int (6 : Int32)), (.ref b685)])) rfl rfl (hb hby at_296)
    refine own_goW st737 ?_
    clear st737 X732 Kc734
    rw [own_nar8 hp733] at W737
    have f738 : Arv Z h737 b685 k685 .char (11 : Int32) [(.int (own_cell (own_w ub) um up uc (0 : Int32))), (.int (own_cell (own_w ub) um up uc (1 : Int32))), (.int (own_cell (own_w ub) um up uc (2 : Int32))), (.int (own_cell (own_w ub) um up uc (3 : Int32))), (.int (own_cell (own_w ub) um up uc (4 : Int32))), (.int (own_cell (own_w ub) um up uc (5 : Int32))), (.int (own_cell (own_w ub) um up uc (6 : Int32))), (.int (0 : Int32)), (.int (0 : Int32)), (.int (0 : Int32)), (.int (0 : Int32))] (.int (0 : Int32)) := Arv.set Ar736 q736 S736 M736 P736 G736 (by have q := fits_nar_char (own_cell (own_w ub) um up uc (6 : Int32)); rw [own_nar8 hp733] at q; exact q) W737 6 rfl (Nat.le_of_ble_eq_true rfl)
    replace N0 := Fr.snoc X737 N0 big686
    replace hJ := own_Jwr hZ hJ W737 (own_farV f731 (by decide) (ow7 hw))
    clear f731
    replace O0 := own_oldWr O0 W737 big686
    replace K0 := K0.wr W737 (Or.inr sz687)
    replace K1 := K1.wr W737 (Or.inr sz688)
    replace hS := own_since hS (Nat.le_of_eq W737.size.symm)
    clear W737
    clear Ar736 q736 S736 M736 P736 G736 hin736
    show own_GoW p e below s _ _ _ _ (T737.setTop (mkF m 297 #[iv p1, iv p2, iv p3, iv p4, iv p5, iv uk, iv ub, iv um, rv wd_, iv (Int32.ofNat (own_w ub).length), iv uc, yq, iv up, iv (11 : Int32), rv b685, .unset, .unset, .unset] []))
    refine own_goW (fun _ k => XS.iload X737.here hx rfl (hb hby at_297) rfl (XS.bipush X737.here hx rfl (hb hby at_299) (XS.icmpNo X737.here hx rfl (hb hby at_301) rfl (tlt (by decide : (7 : Int32) < (11 : Int32))).2.2.2 (XS.aload X737.here hx rfl (hb hby at_304) rfl rfl (XS.bipush X737.here hx rfl (hb hby at_306) k))))) ?_
    show own_GoW p e below s _ _ _ _ (T737.setTop (mkF m 308 #[iv p1, iv p2, iv p3, iv p4, iv p5, iv uk, iv ub, iv um, rv wd_, iv (Int32.ofNat (own_w ub).length), iv uc, yq, iv up, iv (11 : Int32), rv b685, .unset, .unset, .unset] [(.int (7 : Int32)), (.ref b685)]))
    refine own_goW (fun _ k => XS.aload X737.here hx rfl (hb hby at_308) rfl rfl (XS.iload X737.here hx rfl (hb hby at_310) rfl (XS.iload X737.here hx rfl (hb hby at_312) rfl (XS.iload X737.here hx rfl (hb hby at_314) rfl (XS.bipush X737.here hx rfl (hb hby at_316) k))))) ?_
    show own_GoW p e below s _ _ _ _ (T737.setTop (mkF m 318 #[iv p1, iv p2, iv p3, iv p4, iv p5, iv uk, iv ub, iv um, rv wd_, iv (Int32.ofNat (own_w ub).length), iv uc, yq, iv up, iv (11 : Int32), rv b685, .unset, .unset, .unset] [(.int (7 : Int32)), (.int uc), (.int up), (.int um), (.ref wd_), (.int (7 : Int32)), (.ref b685)]))
    obtain ⟨v739, T739, L739, X739, hQ739, st739⟩ := own_callS (y := own_y7) X737 hx hZ hown (ow53 hw) (ow54 hw) (ow3 hw) (ow55 hw) (rm_cell l Z a0 hw hO [] wd_ um up uc (7 : Int32) (own_w ub) h737 O0 (fp0.keep K1) (own_SlKeep fp1 K1 all0) (own_cokL hub hPN (by decide) (by decide)) huc) 2 0 0 (by show _ ≤ 32; omega) (by show _ ≤ 8384; omega) e737 (g := (mkF m 318 #[iv p1, iv p2, iv p3, iv p4, iv p5, iv uk, iv ub, iv um, rv wd_, iv (Int32.ofNat (own_w ub).length), iv uc, yq, iv up, iv (11 : Int32), rv b685, .unset, .unset, .unset] [(.int (7 : Int32)), (.int uc), (.int up), (.int um), (.ref wd_), (.int (7 : Int32)), (.ref b685)])) rfl (by rw [hml]; rfl) [(.ref wd_), (.int um), (.int up), (.int uc), (.int (7 : Int32))] [(.int (7 : Int32)), (.ref b685)] (lenOf own_pd_6 rfl) rfl rfl (hb hby at_318)
    obtain ⟨rfl, Nc742, hp740, Kc741⟩ := hQ739
    refine own_goW st739 ?_
    clear st739 X737 e737
    replace N0 := Fr.app N0 Nc742
    clear Nc742
    obtain ⟨cl743, Ar743, q743, S743, M743, P743, G743⟩ := id f738
    have hin743 : ¬ ((7 : Int32) < 0 ∨ cl743.slots.size ≤ ((7 : Int32)).toNatClampNeg) := inb_of S743 ⟨by decide, by decide⟩
    obtain ⟨T744, h744, X744, e744, W744, st744⟩ := stC X739 hx hZ Kc741 Ar743 (j := (7 : Int32)) hin743 (g := (mkF m 321 #[iv p1, iv p2, iv p3, iv p4, iv p5, iv uk, iv ub, iv um, rv wd_, iv (Int32.ofNat (own_w ub).length), iv uc, yq, iv up, iv (11 : Int32), rv b685, .unset, .unset, .unset] [(.int (own_cell (own_w ub) um up uc (7 : Int32))), (.int (7 : Int32)), (.ref b685)])) rfl rfl (hb hby at_321)
    refine own_goW st744 ?_
    clear st744 X739 Kc741
    rw [own_nar8 hp740] at W744
    have f745 : Arv Z h744 b685 k685 .char (11 : Int32) [(.int (own_cell (own_w ub) um up uc (0 : Int32))), (.int (own_cell (own_w ub) um up uc (1 : Int32))), (.int (own_cell (own_w ub) um up uc (2 : Int32))), (.int (own_cell (own_w ub) um up uc (3 : Int32))), (.int (own_cell (own_w ub) um up uc (4 : Int32))), (.int (own_cell (own_w ub) um up uc (5 : Int32))), (.int (own_cell (own_w ub) um up uc (6 : Int32))), (.int (own_cell (own_w ub) um up uc (7 : Int32))), (.int (0 : Int32)), (.int (0 : Int32)), (.int (0 : Int32))] (.int (0 : Int32)) := Arv.set Ar743 q743 S743 M743 P743 G743 (by have q := fits_nar_char (own_cell (own_w ub) um up uc (7 : Int32)); rw [own_nar8 hp740] at q; exact q) W744 7 rfl (Nat.le_of_ble_eq_true rfl)
    replace N0 := Fr.snoc X744 N0 big686
    replace hJ := own_Jwr hZ hJ W744 (own_farV f738 (by decide) (ow7 hw))
    clear f738
    replace O0 := own_oldWr O0 W744 big686
    replace K0 := K0.wr W744 (Or.inr sz687)
    replace K1 := K1.wr W744 (Or.inr sz688)
    replace hS := own_since hS (Nat.le_of_eq W744.size.symm)
    clear W744
    clear Ar743 q743 S743 M743 P743 G743 hin743
    refine own_goW (fun _ k => XS.iload X744.here hx rfl (hb hby at_322) rfl (XS.bipush X744.here hx rfl (hb hby at_324) (XS.icmpNo X744.here hx rfl (hb hby at_326) rfl (tlt (by decide : (8 : Int32) < (11 : Int32))).2.2.2 k))) ?_
    show own_GoW p e below s _ _ _ _ (T744.setTop (mkF m 329 #[iv p1, iv p2, iv p3, iv p4, iv p5, iv uk, iv ub, iv um, rv wd_, iv (Int32.ofNat (own_w ub).length), iv uc, yq, iv up, iv (11 : Int32), rv b685, .unset, .unset, .unset] []))
    refine own_goW (fun _ k => XS.aload X744.here hx rfl (hb hby at_329) rfl rfl (XS.bipush X744.here hx rfl (hb hby at_331) (XS.aload X744.here hx rfl (hb hby at_333) rfl rfl (XS.iload X744.here hx rfl (hb hby at_335) rfl (XS.iload X744.here hx rfl (hb hby at_337) rfl k))))) ?_
    show own_GoW p e below s _ _ _ _ (T744.setTop (mkF m 339 #[iv p1, iv p2, iv p3, iv p4, iv p5, iv uk, iv ub, iv um, rv wd_, iv (Int32.ofNat (own_w ub).length), iv uc, yq, iv up, iv (11 : Int32), rv b685, .unset, .unset, .unset] [(.int up), (.int um), (.ref wd_), (.int (8 : Int32)), (.ref b685)]))
    refine own_goW (fun _ k => XS.iload X744.here hx rfl (hb hby at_339) rfl (XS.bipush X744.here hx rfl (hb hby at_341) k)) ?_
    obtain ⟨v746, T746, L746, X746, hQ746, st746⟩ := own_callS (y := own_y7) X744 hx hZ hown (ow53 hw) (ow54 hw) (ow3 hw) (ow55 hw) (rm_cell l Z a0 hw hO [] wd_ um up uc (8 : Int32) (own_w ub) h744 O0 (fp0.keep K1) (own_SlKeep fp1 K1 all0) (own_cokL hub hPN (by decide) (by decide)) huc) 2 0 0 (by show _ ≤ 32; omega) (by show _ ≤ 8384; omega) e744 (g := (mkF m 343 #[iv p1, iv p2, iv p3, iv p4, iv p5, iv uk, iv ub, iv um, rv wd_, iv (Int32.ofNat (own_w ub).length), iv uc, yq, iv up, iv (11 : Int32), rv b685, .unset, .unset, .unset] [(.int (8 : Int32)), (.int uc), (.int up), (.int um), (.ref wd_), (.int (8 : Int32)), (.ref b685)])) rfl (by rw [hml]; rfl) [(.ref wd_), (.int um), (.int up), (.int uc), (.int (8 : Int32))] [(.int (8 : Int32)), (.ref b685)] (lenOf own_pd_6 rfl) rfl rfl (hb hby at_343)
    obtain ⟨rfl, Nc749, hp747, Kc748⟩ := hQ746
    refine own_goW st746 ?_
    clear st746 X744 e744
    replace N0 := Fr.app N0 Nc749
    clear Nc749
    obtain ⟨cl750, Ar750, q750, S750, M750, P750, G750⟩ := id f745
    have hin750 : ¬ ((8 : Int32) < 0 ∨ cl750.slots.size ≤ ((8 : Int32)).toNatClampNeg) := inb_of S750 ⟨by decide, by decide⟩
    obtain ⟨T751, h751, X751, e751, W751, st751⟩ := stC X746 hx hZ Kc748 Ar750 (j := (8 : Int32)) hin750 (g := (mkF m 346 #[iv p1, iv p2, iv p3, iv p4, iv p5, iv uk, iv ub, iv um, rv wd_, iv (Int32.ofNat (own_w ub).length), iv uc, yq, iv up, iv (11 : Int32), rv b685, .unset, .unset, .unset] [(.int (own_cell (own_w ub) um up uc (8 : Int32))), (.int (8 : Int32)), (.ref b685)])) rfl rfl (hb hby at_346)
    refine own_goW st751 ?_
    clear st751 X746 Kc748
    rw [own_nar8 hp747] at W751
    have f752 : Arv Z h751 b685 k685 .char (11 : Int32) [(.int (own_cell (own_w ub) um up uc (0 : Int32))), (.int (own_cell (own_w ub) um up uc (1 : Int32))), (.int (own_cell (own_w ub) um up uc (2 : Int32))), (.int (own_cell (own_w ub) um up uc (3 : Int32))), (.int (own_cell (own_w ub) um up uc (4 : Int32))), (.int (own_cell (own_w ub) um up uc (5 : Int32))), (.int (own_cell (own_w ub) um up uc (6 : Int32))), (.int (own_cell (own_w ub) um up uc (7 : Int32))), (.int (own_cell (own_w ub) um up uc (8 : Int32))), (.int (0 : Int32)), (.int (0 : Int32))] (.int (0 : Int32)) := Arv.set Ar750 q750 S750 M750 P750 G750 (by have q := fits_nar_char (own_cell (own_w ub) um up uc (8 : Int32)); rw [own_nar8 hp747] at q; exact q) W751 8 rfl (Nat.le_of_ble_eq_true rfl)
    replace N0 := Fr.snoc X751 N0 big686
    replace hJ := own_Jwr hZ hJ W751 (own_farV f745 (by decide) (ow7 hw))
    clear f745
    replace O0 := own_oldWr O0 W751 big686
    replace K0 := K0.wr W751 (Or.inr sz687)
    replace K1 := K1.wr W751 (Or.inr sz688)
    replace hS := own_since hS (Nat.le_of_eq W751.size.symm)
    clear W751
    clear Ar750 q750 S750 M750 P750 G750 hin750
    refine own_goW (fun _ k => XS.iload X751.here hx rfl (hb hby at_347) rfl k) ?_
    show own_GoW p e below s _ _ _ _ (T751.setTop (mkF m 349 #[iv p1, iv p2, iv p3, iv p4, iv p5, iv uk, iv ub, iv um, rv wd_, iv (Int32.ofNat (own_w ub).length), iv uc, yq, iv up, iv (11 : Int32), rv b685, .unset, .unset, .unset] [(.int (11 : Int32))]))
    refine own_goW (fun _ k => XS.bipush X751.here hx rfl (hb hby at_349) (XS.icmpNo X751.here hx rfl (hb hby at_351) rfl (tlt (by decide : (9 : Int32) < (11 : Int32))).2.2.2 (XS.aload X751.here hx rfl (hb hby at_354) rfl rfl (XS.bipush X751.here hx rfl (hb hby at_356) (XS.aload X751.here hx rfl (hb hby at_358) rfl rfl k))))) ?_
    show own_GoW p e below s _ _ _ _ (T751.setTop (mkF m 360 #[iv p1, iv p2, iv p3, iv p4, iv p5, iv uk, iv ub, iv um, rv wd_, iv (Int32.ofNat (own_w ub).length), iv uc, yq, iv up, iv (11 : Int32), rv b685, .unset, .unset, .unset] [(.ref wd_), (.int (9 : Int32)), (.ref b685)]))
    refine own_goW (fun _ k => XS.iload X751.here hx rfl (hb hby at_360) rfl (XS.iload X751.here hx rfl (hb hby at_362) rfl (XS.iload X751.here hx rfl (hb hby at_364) rfl (XS.bipush X751.here hx rfl (hb hby at_366) k)))) ?_
    obtain ⟨v753, T753, L753, X753, hQ753, st753⟩ := own_callS (y := own_y7) X751 hx hZ hown (ow53 hw) (ow54 hw) (ow3 hw) (ow55 hw) (rm_cell l Z a0 hw hO [] wd_ um up uc (9 : Int32) (own_w ub) h751 O0 (fp0.keep K1) (own_SlKeep fp1 K1 all0) (own_cokL hub hPN (by decide) (by decide)) huc) 2 0 0 (by show _ ≤ 32; omega) (by show _ ≤ 8384; omega) e751 (g := (mkF m 368 #[iv p1, iv p2, iv p3, iv p4, iv p5, iv uk, iv ub, iv um, rv wd_, iv (Int32.ofNat (own_w ub).length), iv uc, yq, iv up, iv (11 : Int32), rv b685, .unset, .unset, .unset] [(.int (9 : Int32)), (.int uc), (.int up), (.int um), (.ref wd_), (.int (9 : Int32)), (.ref b685)])) rfl (by rw [hml]; rfl) [(.ref wd_), (.int um), (.int up), (.int uc), (.int (9 : Int32))] [(.int (9 : Int32)), (.ref b685)] (lenOf own_pd_6 rfl) rfl rfl (hb hby at_368)
    obtain ⟨rfl, Nc756, hp754, Kc755⟩ := hQ753
    refine own_goW st753 ?_
    clear st753 X751 e751
    replace N0 := Fr.app N0 Nc756
    clear Nc756
    show own_GoW p e below s _ _ _ _ (T753.setTop (mkF m 371 #[iv p1, iv p2, iv p3, iv p4, iv p5, iv uk, iv ub, iv um, rv wd_, iv (Int32.ofNat (own_w ub).length), iv uc, yq, iv up, iv (11 : Int32), rv b685, .unset, .unset, .unset] [(.int (own_cell (own_w ub) um up uc (9 : Int32))), (.int (9 : Int32)), (.ref b685)]))
    obtain ⟨cl757, Ar757, q757, S757, M757, P757, G757⟩ := id f752
    have hin757 : ¬ ((9 : Int32) < 0 ∨ cl757.slots.size ≤ ((9 : Int32)).toNatClampNeg) := inb_of S757 ⟨by decide, by decide⟩
    obtain ⟨T758, h758, X758, e758, W758, st758⟩ := stC X753 hx hZ Kc755 Ar757 (j := (9 : Int32)) hin757 (g := (mkF m 371 #[iv p1, iv p2, iv p3, iv p4, iv p5, iv uk, iv ub, iv um, rv wd_, iv (Int32.ofNat (own_w ub).length), iv uc, yq, iv up, iv (11 : Int32), rv b685, .unset, .unset, .unset] [(.int (own_cell (own_w ub) um up uc (9 : Int32))), (.int (9 : Int32)), (.ref b685)])) rfl rfl (hb hby at_371)
    refine own_goW st758 ?_
    clear st758 X753 Kc755
    rw [own_nar8 hp754] at W758
    have f759 : Arv Z h758 b685 k685 .char (11 : Int32) [(.int (own_cell (own_w ub) um up uc (0 : Int32))), (.int (own_cell (own_w ub) um up uc (1 : Int32))), (.int (own_cell (own_w ub) um up uc (2 : Int32))), (.int (own_cell (own_w ub) um up uc (3 : Int32))), (.int (own_cell (own_w ub) um up uc (4 : Int32))), (.int (own_cell (own_w ub) um up uc (5 : Int32))), (.int (own_cell (own_w ub) um up uc (6 : Int32))), (.int (own_cell (own_w ub) um up uc (7 : Int32))), (.int (own_cell (own_w ub) um up uc (8 : Int32))), (.int (own_cell (own_w ub) um up uc (9 : Int32))), (.int (0 : Int32))] (.int (0 : Int32)) := Arv.set Ar757 q757 S757 M757 P757 G757 (by have q := fits_nar_char (own_cell (own_w ub) um up uc (9 : Int32)); rw [own_nar8 hp754] at q; exact q) W758 9 rfl (Nat.le_of_ble_eq_true rfl)
    replace N0 := Fr.snoc X758 N0 big686
    replace hJ := own_Jwr hZ hJ W758 (own_farV f752 (by decide) (ow7 hw))
    clear f752
    replace O0 := own_oldWr O0 W758 big686
    replace K0 := K0.wr W758 (Or.inr sz687)
    replace K1 := K1.wr W758 (Or.inr sz688)
    replace hS := own_since hS (Nat.le_of_eq W758.size.symm)
    clear W758
    clear Ar757 q757 S757 M757 P757 G757 hin757
    refine own_goW (fun _ k => XS.iload X758.here hx rfl (hb hby at_372) rfl (XS.bipush X758.here hx rfl (hb hby at_374) (XS.icmpNo X758.here hx rfl (hb hby at_376) rfl (tlt (by decide : (10 : Int32) < (11 : Int32))).2.2.2 (XS.aload X758.here hx rfl (hb hby at_379) rfl rfl k)))) ?_
    show own_GoW p e below s _ _ _ _ (T758.setTop (mkF m 381 #[iv p1, iv p2, iv p3, iv p4, iv p5, iv uk, iv ub, iv um, rv wd_, iv (Int32.ofNat (own_w ub).length), iv uc, yq, iv up, iv (11 : Int32), rv b685, .unset, .unset, .unset] [(.ref b685)]))
    refine own_goW (fun _ k => XS.bipush X758.here hx rfl (hb hby at_381) (XS.aload X758.here hx rfl (hb hby at_383) rfl rfl (XS.iload X758.here hx rfl (hb hby at_385) rfl (XS.iload X758.here hx rfl (hb hby at_387) rfl (XS.iload X758.here hx rfl (hb hby at_389) rfl k))))) ?_
    show own_GoW p e below s _ _ _ _ (T758.setTop (mkF m 391 #[iv p1, iv p2, iv p3, iv p4, iv p5, iv uk, iv ub, iv um, rv wd_, iv (Int32.ofNat (own_w ub).length), iv uc, yq, iv up, iv (11 : Int32), rv b685, .unset, .unset, .unset] [(.int uc), (.int up), (.int um), (.ref wd_), (.int (10 : Int32)), (.ref b685)]))
    refine own_goW (fun _ k => XS.bipush X758.here hx rfl (hb hby at_391) k) ?_
    obtain ⟨v760, T760, L760, X760, hQ760, st760⟩ := own_callS (y := own_y7) X758 hx hZ hown (ow53 hw) (ow54 hw) (ow3 hw) (ow55 hw) (rm_cell l Z a0 hw hO [] wd_ um up uc (10 : Int32) (own_w ub) h758 O0 (fp0.keep K1) (own_SlKeep fp1 K1 all0) (own_cokL hub hPN (by decide) (by decide)) huc) 2 0 0 (by show _ ≤ 32; omega) (by show _ ≤ 8384; omega) e758 (g := (mkF m 393 #[iv p1, iv p2, iv p3, iv p4, iv p5, iv uk, iv ub, iv um, rv wd_, iv (Int32.ofNat (own_w ub).length), iv uc, yq, iv up, iv (11 : Int32), rv b685, .unset, .unset, .unset] [(.int (10 : Int32)), (.int uc), (.int up), (.int um), (.ref wd_), (.int (10 : Int32)), (.ref b685)])) rfl (by rw [hml]; rfl) [(.ref wd_), (.int um), (.int up), (.int uc), (.int (10 : Int32))] [(.int (10 : Int32)), (.ref b685)] (lenOf own_pd_6 rfl) rfl rfl (hb hby at_393)
    obtain ⟨rfl, Nc763, hp761, Kc762⟩ := hQ760
    refine own_goW st760 ?_
    clear st760 X758 e758
    replace N0 := Fr.app N0 Nc763
    clear Nc763
    obtain ⟨cl764, Ar764, q764, S764, M764, P764, G764⟩ := id f759
    have hin764 : ¬ ((10 : Int32) < 0 ∨ cl764.slots.size ≤ ((10 : Int32)).toNatClampNeg) := inb_of S764 ⟨by decide, by decide⟩
    obtain ⟨T765, h765, X765, e765, W765, st765⟩ := stC X760 hx hZ Kc762 Ar764 (j := (10 : Int32)) hin764 (g := (mkF m 396 #[iv p1, iv p2, iv p3, iv p4, iv p5, iv uk, iv ub, iv um, rv wd_, iv (Int32.ofNat (own_w ub).length), iv uc, yq, iv up, iv (11 : Int32), rv b685, .unset, .unset, .unset] [(.int (own_cell (own_w ub) um up uc (10 : Int32))), (.int (10 : Int32)), (.ref b685)])) rfl rfl (hb hby at_396)
    refine own_goW st765 ?_
    clear st765 X760 Kc762
    rw [own_nar8 hp761] at W765
    have f766 : Arv Z h765 b685 k685 .char (11 : Int32) [(.int (own_cell (own_w ub) um up uc (0 : Int32))), (.int (own_cell (own_w ub) um up uc (1 : Int32))), (.int (own_cell (own_w ub) um up uc (2 : Int32))), (.int (own_cell (own_w ub) um up uc (3 : Int32))), (.int (own_cell (own_w ub) um up uc (4 : Int32))), (.int (own_cell (own_w ub) um up uc (5 : Int32))), (.int (own_cell (own_w ub) um up uc (6 : Int32))), (.int (own_cell (own_w ub) um up uc (7 : Int32))), (.int (own_cell (own_w ub) um up uc (8 : Int32))), (.int (own_cell (own_w ub) um up uc (9 : Int32))), (.int (own_cell (own_w ub) um up uc (10 : Int32)))] (.int (0 : Int32)) := Arv.set Ar764 q764 S764 M764 P764 G764 (by have q := fits_nar_char (own_cell (own_w ub) um up uc (10 : Int32)); rw [own_nar8 hp761] at q; exact q) W765 10 rfl (Nat.le_of_ble_eq_true rfl)
    replace N0 := Fr.snoc X765 N0 big686
    replace hJ := own_Jwr hZ hJ W765 (own_farV f759 (by decide) (ow7 hw))
    clear f759
    replace O0 := own_oldWr O0 W765 big686
    replace K0 := K0.wr W765 (Or.inr sz687)
    replace K1 := K1.wr W765 (Or.inr sz688)
    replace hS := own_since hS (Nat.le_of_eq W765.size.symm)
    clear W765
    clear Ar764 q764 S764 M764 P764 G764 hin764
    obtain ⟨T767, h767, X767, e767, E767, A767, D767, -, st767⟩ := newO X765 hx hZ hown (ow27 hw) (ow7 hw) (ow6 hw) e765 (g := (mkF m 397 #[iv p1, iv p2, iv p3, iv p4, iv p5, iv uk, iv ub, iv um, rv wd_, iv (Int32.ofNat (own_w ub).length), iv uc, yq, iv up, iv (11 : Int32), rv b685, .unset, .unset, .unset] [])) rfl (hb hby at_397) (by show _ ≤ 32; omega) (by show _ ≤ 8384; omega)
    obtain ⟨b767, g767⟩ : ∃ z, z = h765.size := ⟨_, rfl⟩
    rw [← g767] at A767 D767 st767
    refine own_goW st767 ?_
    clear st767 X765 e765
    have ge767 := Nat.le_of_eq g767.symm
    have ne768 : b685 ≠ b767 := Nat.ne_of_lt (Nat.lt_of_lt_of_le f766.lt ge767)
    have big769 : Z.heap.size ≤ b767 := Nat.le_trans O0.1 ge767
    have sz770 : h0.size ≤ b767 := Nat.le_trans K0.1 ge767
    have sz771 : hs1.size ≤ b767 := Nat.le_trans K1.1 ge767
    replace f766 := f766.ext E767
    replace O0 := own_oldExt O0 E767
    replace K0 := K0.ext E767
    replace K1 := K1.ext E767
    replace hS := own_since hS E767.1
    replace hJ := own_Jext hJ E767
    clear E767
    have f772 : Fld Z h767 b767 "java/lang/String" "value" "[B" .null := D767 (Or.inr (ow9 hw)) (ty := (.array .byte)) own_fd0
    have f773 : Fld Z h767 b767 "java/lang/String" "coder" "B" (.int (0 : Int32)) := D767 (Or.inr (ow10 hw)) (ty := .byte) own_fd1
    refine own_goW (fun _ k => XS.dup X767.here hx rfl (hb hby at_400) rfl rfl k) ?_
    show own_GoW p e below s _ _ _ _ (T767.setTop (mkF m 401 #[iv p1, iv p2, iv p3, iv p4, iv p5, iv uk, iv ub, iv um, rv wd_, iv (Int32.ofNat (own_w ub).length), iv uc, yq, iv up, iv (11 : Int32), rv b685, .unset, .unset, .unset] [(.ref b767), (.ref b767)]))
    refine own_goW (fun _ k => XS.aload X767.here hx rfl (hb hby at_401) rfl rfl k) ?_
    obtain ⟨v774, T774, L774, X774, hQ774, st774⟩ := own_callIB (y := own_y1) X767 hx hZ hown (ow28 hw) (ow29 hw) (ow6 hw) (ow30 hw) 1 1 11 (StrChars.Road.backV (W := 1) hZ (own_sw1 hw) (kI := 4) (ow7 hw) (cs := ([(own_cell (own_w ub) um up uc (0 : Int32)), (own_cell (own_w ub) um up uc (1 : Int32)), (own_cell (own_w ub) um up uc (2 : Int32)), (own_cell (own_w ub) um up uc (3 : Int32)), (own_cell (own_w ub) um up uc (4 : Int32)), (own_cell (own_w ub) um up uc (5 : Int32)), (own_cell (own_w ub) um up uc (6 : Int32)), (own_cell (own_w ub) um up uc (7 : Int32)), (own_cell (own_w ub) um up uc (8 : Int32)), (own_cell (own_w ub) um up uc (9 : Int32)), (own_cell (own_w ub) um up uc (10 : Int32))] : List Int32)) (bs := ([(own_cell (own_w ub) um up uc (0 : Int32)), (own_cell (own_w ub) um up uc (1 : Int32)), (own_cell (own_w ub) um up uc (2 : Int32)), (own_cell (own_w ub) um up uc (3 : Int32)), (own_cell (own_w ub) um up uc (4 : Int32)), (own_cell (own_w ub) um up uc (5 : Int32)), (own_cell (own_w ub) um up uc (6 : Int32)), (own_cell (own_w ub) um up uc (7 : Int32)), (own_cell (own_w ub) um up uc (8 : Int32)), (own_cell (own_w ub) um up uc (9 : Int32)), (own_cell (own_w ub) um up uc (10 : Int32))] : List Int32).map (fun c => c.toInt8.toInt32)) (n := 11) (n0 := Z.heap.size) big769 (Nat.le_trans O0.1 (Nat.le_refl _)) A767 f772 f773 f766 (oCS.ext O0) oCz rfl rfl (by decide) (by decide) (own_cC hp691 (own_cC hp698 (own_cC hp705 (own_cC hp712 (own_cC hp719 (own_cC hp726 (own_cC hp733 (own_cC hp740 (own_cC hp747 (own_cC hp754 (own_cC hp761 own_cN))))))))))) rfl (by decide) (by decide)) rfl (by show _ ≤ 32; omega) (by show _ ≤ 8384; omega) e767 (g := (mkF m 403 #[iv p1, iv p2, iv p3, iv p4, iv p5, iv uk, iv ub, iv um, rv wd_, iv (Int32.ofNat (own_w ub).length), iv uc, yq, iv up, iv (11 : Int32), rv b685, .unset, .unset, .unset] [(.ref b685), (.ref b767), (.ref b767)])) rfl (by rw [hml]; rfl) b767 [(.ref b685)] [(.ref b767)] (lenOf own_pd_5 rfl) rfl rfl (hb hby at_403)
    obtain ⟨rfl, Nc774, Kc774, f1774, f2774, t774, kb774, tb774, ts774, tn774, f3774, f4774⟩ := hQ774
    refine own_goW st774 ?_
    clear st774 X767 e767
    replace N0 := Fr.app N0 Nc774
    clear Nc774
    replace hS := own_since hS Kc774.1
    have ne775 : b685 ≠ t774 := Nat.ne_of_lt (Nat.lt_of_lt_of_le f766.lt ts774)
    have ne776 : b767 ≠ t774 := Nat.ne_of_lt (Nat.lt_of_lt_of_le A767.lt ts774)
    have big777 : Z.heap.size ≤ t774 := Nat.le_trans O0.1 ts774
    have sz778 : h0.size ≤ t774 := Nat.le_trans K0.1 ts774
    have sz779 : hs1.size ≤ t774 := Nat.le_trans K1.1 ts774
    have hAp_b767 := own_apart hZ hJ f772
    replace hJ := own_JkeepS hZ hJ Kc774 hAp_b767 A767 (ow7 hw)
    replace f766 := f766.keep Kc774 (ninS ne768 nin0)
    replace A767 := A767.keep Kc774
    clear f772
    clear f773
    replace O0 := own_oldKeep O0 Kc774 (allS big769 all0)
    replace K0 := K0.trans Kc774 (allS (Or.inr sz770) all0)
    replace K1 := K1.trans Kc774 (allS (Or.inr sz771) all0)
    clear Kc774
    replace f4774 : Arv Z T774.heap t774 kb774 .byte (11 : Int32) [(.int ((own_cell (own_w ub) um up uc (0 : Int32)).toInt8.toInt32)), (.int ((own_cell (own_w ub) um up uc (1 : Int32)).toInt8.toInt32)), (.int ((own_cell (own_w ub) um up uc (2 : Int32)).toInt8.toInt32)), (.int ((own_cell (own_w ub) um up uc (3 : Int32)).toInt8.toInt32)), (.int ((own_cell (own_w ub) um up uc (4 : Int32)).toInt8.toInt32)), (.int ((own_cell (own_w ub) um up uc (5 : Int32)).toInt8.toInt32)), (.int ((own_cell (own_w ub) um up uc (6 : Int32)).toInt8.toInt32)), (.int ((own_cell (own_w ub) um up uc (7 : Int32)).toInt8.toInt32)), (.int ((own_cell (own_w ub) um up uc (8 : Int32)).toInt8.toInt32)), (.int ((own_cell (own_w ub) um up uc (9 : Int32)).toInt8.toInt32)), (.int ((own_cell (own_w ub) um up uc (10 : Int32)).toInt8.toInt32))] (.int (0 : Int32)) := f4774
    show own_GoW p e below s _ _ _ _ (T774.setTop (mkF m 406 #[iv p1, iv p2, iv p3, iv p4, iv p5, iv uk, iv ub, iv um, rv wd_, iv (Int32.ofNat (own_w ub).length), iv uc, yq, iv up, iv (11 : Int32), rv b685, .unset, .unset, .unset] [(.ref b767)]))
    have sl780 : own_Sl Z T774.heap b767 (own_nm ub um up uc (11 : Int32)) := by
      rw [own_nm_11]
      exact own_mkSl (cs := [(own_cell (own_w ub) um up uc (0 : Int32)), (own_cell (own_w ub) um up uc (1 : Int32)), (own_cell (own_w ub) um up uc (2 : Int32)), (own_cell (own_w ub) um up uc (3 : Int32)), (own_cell (own_w ub) um up uc (4 : Int32)), (own_cell (own_w ub) um up uc (5 : Int32)), (own_cell (own_w ub) um up uc (6 : Int32)), (own_cell (own_w ub) um up uc (7 : Int32)), (own_cell (own_w ub) um up uc (8 : Int32)), (own_cell (own_w ub) um up uc (9 : Int32)), (own_cell (own_w ub) um up uc (10 : Int32))]) f1774 f2774 f3774 f4774 rfl rfl (own_cC hp691 (own_cC hp698 (own_cC hp705 (own_cC hp712 (own_cC hp719 (own_cC hp726 (own_cC hp733 (own_cC hp740 (own_cC hp747 (own_cC hp754 (own_cC hp761 own_cN))))))))))) (Nat.le_of_ble_eq_true rfl)
    exact sg_s406 hw hO p1 p2 p3 p4 p5 uk ub um uc up (11 : Int32) wd_ (yq : Slot) (rv b685 : Slot) b767 h0 T774.heap X774 hS hL hJ hx hby hml hret hlk hZ hown hnm (rfl : T774.heap = T774.heap) N0 O0 K0 (fp0.keep K1) (own_SlKeep fp1 K1 all0) f1774 sl780 huk hub hum hPN huc (by omega) (by omega)
set_option maxRecDepth 65536 in
set_option maxHeartbeats 40000000 in
theorem sg_s29 {l : Launch} {Z : State} {a0 : Array Value} (hw : own_W Z a0) {zc : Int32} {wsf : Value} {ws0 : Addr} {ws1 : Addr} {ws2 : Addr} (hO : own_Olds Z zc wsf ws0 ws1 ws2) {p : Program} {e : Env} {s : State} {vm0 : Vm} {m : MethodId} {args : Array Value} {below : List Frame} {meth : Method} {c : Code} {T : State} {locs : List Loc} {cells slots : Nat} (p1 : Int32) (p2 : Int32) (p3 : Int32) (p4 : Int32) (p5 : Int32) (uk : Int32) (ub : Int32) (um : Int32) (wd_ : Addr) (h0 hs1 : Heap)
    (X0 : Stand p l e room_1 (s.setVm vm0) m args below meth c T locs cells slots) (hS : s.Since vm0 hs1.size) (hL : own_L Z a0) (hJ : own_J Z vm0 hs1) (hx : p.tables.exec = Jvm.exec) (hby : c.code = code) (hml : c.maxLocals = 18) (hret : meth.sig.returnType = some .boolean) (hlk : meth.locks = false) (hZ : Z.Warmed39 (s.setVm vm0).vm) (hown : (s.setVm vm0).vm.findClass "com/example/slotsholmen/slotsholmen/schema/GroupPointsAtTargetPinLaw" = some m.cls) (hnm : meth.name = "law") (e0 : T.heap = hs1) (N0 : Fr Z.heap.size locs) (O0 : Ext Z.heap hs1) (K0 : Keep h0 hs1 []) (fp0 : Exa Z hs1 wd_ "java/lang/String") (fp1 : own_Sl Z hs1 wd_ (own_w ub)) (huk : own_V3 uk) (hub : own_V4 ub) (hum : own_V4 um) (hcells : cells ≤ 4) (hslots : slots ≤ 100) :
    own_GoW p e below s Z (Q_law Z zc wsf ws0 ws1 ws2 p1 p2 p3 p4 p5 h0) room_1.cells room_1.slots (T.setTop (mkF m 29 #[iv p1, iv p2, iv p3, iv p4, iv p5, iv uk, iv ub, iv um, .unset, .unset, .unset, .unset, .unset, .unset, .unset, .unset, .unset, .unset] [(.ref wd_)])) := by
  obtain ⟨oCS, oCz, oSF, r_wsf, oS0, oS1, oS2, oSE0, oSE1, oSE2, oN02, oN12⟩ := id hO
  have K1 := Keep.refl hs1 []
  show own_GoW p e below s _ _ _ _ (T.setTop (mkF m 29 #[iv p1, iv p2, iv p3, iv p4, iv p5, iv uk, iv ub, iv um, .unset, .unset, .unset, .unset, .unset, .unset, .unset, .unset, .unset, .unset] [(.ref wd_)]))
  refine own_goW (fun _ k => XS.astore X0.here hx rfl (hb hby at_29) rfl rfl (l' := #[iv p1, iv p2, iv p3, iv p4, iv p5, iv uk, iv ub, iv um, rv wd_, .unset, .unset, .unset, .unset, .unset, .unset, .unset, .unset, .unset]) rfl (XS.aload X0.here hx rfl (hb hby at_31) rfl rfl k)) ?_
  obtain ⟨v781, T781, L781, X781, hQ781, st781⟩ := own_callVB (y := own_y8) (z := own_y8) X0 hx hZ hown (ow13 hw) (ow14 hw) (notFace_of_selects (args := #[]) (mvT hZ (ow16 hw))) (ow16 hw) (ow15 hw) (ow6 hw) (ow17 hw) 0 0 0 (own_lenB (W := 0) hZ (own_sw3 hw) (kI := 4) (ow7 hw) (own_SlKeep fp1 K1 all0) (oCS.ext O0) oCz (by decide) (by decide)) (by show _ ≤ 32; omega) (by show _ ≤ 8384; omega) e0 (fp0.keep K1) (g := (mkF m 33 #[iv p1, iv p2, iv p3, iv p4, iv p5, iv uk, iv ub, iv um, rv wd_, .unset, .unset, .unset, .unset, .unset, .unset, .unset, .unset, .unset] [(.ref wd_)])) rfl (by rw [hml]; rfl) [] [] (lenOf own_pd_7 rfl) rfl rfl (hb hby at_33)
  obtain ⟨rfl, rfl, eh781⟩ := hQ781
  refine own_goW st781 ?_
  clear st781 X0 e0
  replace N0 := Fr.app N0 (Fr.nil Z.heap.size)
  refine own_goW (fun _ k => XS.istore X781.here hx rfl (hb hby at_36) rfl (l' := #[iv p1, iv p2, iv p3, iv p4, iv p5, iv uk, iv ub, iv um, rv wd_, iv (Int32.ofNat (own_w ub).length), .unset, .unset, .unset, .unset, .unset, .unset, .unset, .unset]) rfl (XS.iload X781.here hx rfl (hb hby at_38) rfl k)) ?_
  show own_GoW p e below s _ _ _ _ (T781.setTop (mkF m 40 #[iv p1, iv p2, iv p3, iv p4, iv p5, iv uk, iv ub, iv um, rv wd_, iv (Int32.ofNat (own_w ub).length), .unset, .unset, .unset, .unset, .unset, .unset, .unset, .unset] [(.int p5)]))
  refine own_goW (fun _ k => XS.sipush X781.here hx rfl (hb hby at_40) (XS.iand X781.here hx rfl (hb hby at_43) rfl (XS.i2c X781.here hx rfl (hb hby at_44) rfl k))) ?_
  show own_GoW p e below s _ _ _ _ (T781.setTop (mkF m 45 #[iv p1, iv p2, iv p3, iv p4, iv p5, iv uk, iv ub, iv um, rv wd_, iv (Int32.ofNat (own_w ub).length), .unset, .unset, .unset, .unset, .unset, .unset, .unset, .unset] [(.int ((p5 &&& (255 : Int32)).toUInt32.toUInt16.toUInt32.toInt32))]))
  rw [i2c_mask p5]
  refine own_goW (fun _ k => XS.istore X781.here hx rfl (hb hby at_45) rfl (l' := #[iv p1, iv p2, iv p3, iv p4, iv p5, iv uk, iv ub, iv um, rv wd_, iv (Int32.ofNat (own_w ub).length), iv (p5 &&& (255 : Int32)), .unset, .unset, .unset, .unset, .unset, .unset, .unset]) rfl (XS.iloadN X781.here hx rfl (hb hby at_47) rfl k)) ?_
  show own_GoW p e below s _ _ _ _ (T781.setTop (mkF m 48 #[iv p1, iv p2, iv p3, iv p4, iv p5, iv uk, iv ub, iv um, rv wd_, iv (Int32.ofNat (own_w ub).length), iv (p5 &&& (255 : Int32)), .unset, .unset, .unset, .unset, .unset, .unset, .unset] [(.int p4)]))
  refine own_goW (X781.ldcInt hx hown (mvT hZ (ow0 hw)) (g := (mkF m 48 #[iv p1, iv p2, iv p3, iv p4, iv p5, iv uk, iv ub, iv um, rv wd_, iv (Int32.ofNat (own_w ub).length), iv (p5 &&& (255 : Int32)), .unset, .unset, .unset, .unset, .unset, .unset, .unset] [(.int p4)])) rfl (hb hby at_48)) ?_
  refine own_goW (fun _ k => XS.iand X781.here hx rfl (hb hby at_50) rfl (XS.istore X781.here hx rfl (hb hby at_51) rfl (l' := #[iv p1, iv p2, iv p3, iv p4, iv p5, iv uk, iv ub, iv um, rv wd_, iv (Int32.ofNat (own_w ub).length), iv (p5 &&& (255 : Int32)), iv (p4 &&& (2147483647 : Int32)), .unset, .unset, .unset, .unset, .unset, .unset]) rfl (XS.iload X781.here hx rfl (hb hby at_53) rfl (XS.iconst X781.here hx rfl (hb hby at_55) k)))) ?_
  show own_GoW p e below s _ _ _ _ (T781.setTop (mkF m 56 #[iv p1, iv p2, iv p3, iv p4, iv p5, iv uk, iv ub, iv um, rv wd_, iv (Int32.ofNat (own_w ub).length), iv (p5 &&& (255 : Int32)), iv (p4 &&& (2147483647 : Int32)), .unset, .unset, .unset, .unset, .unset, .unset] [(.int (1 : Int32)), (.int um)]))
  by_cases hc782 : um = (1 : Int32)
  · refine own_goW (fun _ k => XS.icmpNo X781.here hx rfl (hb hby at_56) rfl (teq hc782).2 k) ?_
    show own_GoW p e below s _ _ _ _ (T781.setTop (mkF m 59 #[iv p1, iv p2, iv p3, iv p4, iv p5, iv uk, iv ub, iv um, rv wd_, iv (Int32.ofNat (own_w ub).length), iv (p5 &&& (255 : Int32)), iv (p4 &&& (2147483647 : Int32)), .unset, .unset, .unset, .unset, .unset, .unset] []))
    refine own_goW (fun _ k => XS.iload X781.here hx rfl (hb hby at_59) rfl k) ?_
    by_cases hc783 : (0 : Int32) < (Int32.ofNat (own_w ub).length)
    · refine own_goW (fun _ k => XS.ifNo X781.here hx rfl (hb hby at_61) rfl ((if0 _ _).trans (tlt hc783).2.2.2) k) ?_
      show own_GoW p e below s _ _ _ _ (T781.setTop (mkF m 64 #[iv p1, iv p2, iv p3, iv p4, iv p5, iv uk, iv ub, iv um, rv wd_, iv (Int32.ofNat (own_w ub).length), iv (p5 &&& (255 : Int32)), iv (p4 &&& (2147483647 : Int32)), .unset, .unset, .unset, .unset, .unset, .unset] []))
      refine own_goW (fun _ k => XS.iload X781.here hx rfl (hb hby at_64) rfl (XS.iload X781.here hx rfl (hb hby at_66) rfl (iremM X781 hx rfl (hb hby at_68) rfl (own_ne0 hc783) (XS.goto X781.here hx rfl (pc0 := 69) (pc' := 73) rfl (hb hby at_69) (by decide) (by decide) (XS.istore X781.here hx rfl (hb hby at_73) rfl (l' := #[iv p1, iv p2, iv p3, iv p4, iv p5, iv uk, iv ub, iv um, rv wd_, iv (Int32.ofNat (own_w ub).length), iv (p5 &&& (255 : Int32)), iv (p4 &&& (2147483647 : Int32)), iv ((p4 &&& (2147483647 : Int32)) % (Int32.ofNat (own_w ub).length)), .unset, .unset, .unset, .unset, .unset]) rfl k))))) ?_
      show own_GoW p e below s _ _ _ _ (T781.setTop (mkF m 75 #[iv p1, iv p2, iv p3, iv p4, iv p5, iv uk, iv ub, iv um, rv wd_, iv (Int32.ofNat (own_w ub).length), iv (p5 &&& (255 : Int32)), iv (p4 &&& (2147483647 : Int32)), iv ((p4 &&& (2147483647 : Int32)) % (Int32.ofNat (own_w ub).length)), .unset, .unset, .unset, .unset, .unset] []))
      refine own_goW (fun _ k => XS.iload X781.here hx rfl (hb hby at_75) rfl (XS.istore X781.here hx rfl (hb hby at_77) rfl (l' := #[iv p1, iv p2, iv p3, iv p4, iv p5, iv uk, iv ub, iv um, rv wd_, iv (Int32.ofNat (own_w ub).length), iv (p5 &&& (255 : Int32)), iv (p4 &&& (2147483647 : Int32)), iv ((p4 &&& (2147483647 : Int32)) % (Int32.ofNat (own_w ub).length)), iv (Int32.ofNat (own_w ub).length), .unset, .unset, .unset, .unset]) rfl (XS.goto X781.here hx rfl (pc0 := 79) (pc' := 135) rfl (hb hby at_79) (by decide) (by decide) k))) ?_
      show own_GoW p e below s _ _ _ _ (T781.setTop (mkF m 135 #[iv p1, iv p2, iv p3, iv p4, iv p5, iv uk, iv ub, iv um, rv wd_, iv (Int32.ofNat (own_w ub).length), iv (p5 &&& (255 : Int32)), iv (p4 &&& (2147483647 : Int32)), iv ((p4 &&& (2147483647 : Int32)) % (Int32.ofNat (own_w ub).length)), iv (Int32.ofNat (own_w ub).length), .unset, .unset, .unset, .unset] []))
      exact sg_s135 hw hO p1 p2 p3 p4 p5 uk ub um (p5 &&& (255 : Int32)) ((p4 &&& (2147483647 : Int32)) % (Int32.ofNat (own_w ub).length)) (Int32.ofNat (own_w ub).length) wd_ (iv (p4 &&& (2147483647 : Int32)) : Slot) h0 hs1 X781 hS hL hJ hx hby hml hret hlk hZ hown hnm eh781 N0 O0 K0 (fp0.keep K1) (own_SlKeep fp1 K1 all0) huk hub hum (own_PN1 hc782 hc783) (own_c8m p5) (by omega) (by omega)
    · refine own_goW (fun _ k => XS.ifYes X781.here hx rfl (pc0 := 61) (pc' := 72) rfl (hb hby at_61) rfl ((if0 _ _).trans (flt hc783).2.2.2) (by decide) (by decide) k) ?_
      show own_GoW p e below s _ _ _ _ (T781.setTop (mkF m 72 #[iv p1, iv p2, iv p3, iv p4, iv p5, iv uk, iv ub, iv um, rv wd_, iv (Int32.ofNat (own_w ub).length), iv (p5 &&& (255 : Int32)), iv (p4 &&& (2147483647 : Int32)), .unset, .unset, .unset, .unset, .unset, .unset] []))
      refine own_goW (fun _ k => XS.iconst X781.here hx rfl (hb hby at_72) (XS.istore X781.here hx rfl (hb hby at_73) rfl (l' := #[iv p1, iv p2, iv p3, iv p4, iv p5, iv uk, iv ub, iv um, rv wd_, iv (Int32.ofNat (own_w ub).length), iv (p5 &&& (255 : Int32)), iv (p4 &&& (2147483647 : Int32)), iv (0 : Int32), .unset, .unset, .unset, .unset, .unset]) rfl (XS.iload X781.here hx rfl (hb hby at_75) rfl (XS.istore X781.here hx rfl (hb hby at_77) rfl (l' := #[iv p1, iv p2, iv p3, iv p4, iv p5, iv uk, iv ub, iv um, rv wd_, iv (Int32.ofNat (own_w ub).length), iv (p5 &&& (255 : Int32)), iv (p4 &&& (2147483647 : Int32)), iv (0 : Int32), iv (Int32.ofNat (own_w ub).length), .unset, .unset, .unset, .unset]) rfl (XS.goto X781.here hx rfl (pc0 := 79) (pc' := 135) rfl (hb hby at_79) (by decide) (by decide) k))))) ?_
      show own_GoW p e below s _ _ _ _ (T781.setTop (mkF m 135 #[iv p1, iv p2, iv p3, iv p4, iv p5, iv uk, iv ub, iv um, rv wd_, iv (Int32.ofNat (own_w ub).length), iv (p5 &&& (255 : Int32)), iv (p4 &&& (2147483647 : Int32)), iv (0 : Int32), iv (Int32.ofNat (own_w ub).length), .unset, .unset, .unset, .unset] []))
      exact sg_s135 hw hO p1 p2 p3 p4 p5 uk ub um (p5 &&& (255 : Int32)) (0 : Int32) (Int32.ofNat (own_w ub).length) wd_ (iv (p4 &&& (2147483647 : Int32)) : Slot) h0 hs1 X781 hS hL hJ hx hby hml hret hlk hZ hown hnm eh781 N0 O0 K0 (fp0.keep K1) (own_SlKeep fp1 K1 all0) huk hub hum (own_PN0 hub hc782 hc783) (own_c8m p5) (by omega) (by omega)
  · refine own_goW (fun _ k => XS.icmpYes X781.here hx rfl (pc0 := 56) (pc' := 82) rfl (hb hby at_56) rfl (feq hc782).2 (by decide) (by decide) k) ?_
    show own_GoW p e below s _ _ _ _ (T781.setTop (mkF m 82 #[iv p1, iv p2, iv p3, iv p4, iv p5, iv uk, iv ub, iv um, rv wd_, iv (Int32.ofNat (own_w ub).length), iv (p5 &&& (255 : Int32)), iv (p4 &&& (2147483647 : Int32)), .unset, .unset, .unset, .unset, .unset, .unset] []))
    refine own_goW (fun _ k => XS.iload X781.here hx rfl (hb hby at_82) rfl (XS.iconst X781.here hx rfl (hb hby at_84) k)) ?_
    by_cases hc784 : um = (2 : Int32)
    · refine own_goW (fun _ k => XS.icmpNo X781.here hx rfl (hb hby at_85) rfl (teq hc784).2 k) ?_
      show own_GoW p e below s _ _ _ _ (T781.setTop (mkF m 88 #[iv p1, iv p2, iv p3, iv p4, iv p5, iv uk, iv ub, iv um, rv wd_, iv (Int32.ofNat (own_w ub).length), iv (p5 &&& (255 : Int32)), iv (p4 &&& (2147483647 : Int32)), .unset, .unset, .unset, .unset, .unset, .unset] []))
      refine own_goW (fun _ k => XS.iload X781.here hx rfl (hb hby at_88) rfl (XS.iload X781.here hx rfl (hb hby at_90) rfl (XS.iconst X781.here hx rfl (hb hby at_92) (XS.iadd X781.here hx rfl (hb hby at_93) rfl (iremM X781 hx rfl (hb hby at_94) rfl (own_wl1 hub) k))))) ?_
      show own_GoW p e below s _ _ _ _ (T781.setTop (mkF m 95 #[iv p1, iv p2, iv p3, iv p4, iv p5, iv uk, iv ub, iv um, rv wd_, iv (Int32.ofNat (own_w ub).length), iv (p5 &&& (255 : Int32)), iv (p4 &&& (2147483647 : Int32)), .unset, .unset, .unset, .unset, .unset, .unset] [(.int ((p4 &&& (2147483647 : Int32)) % ((Int32.ofNat (own_w ub).length) + (1 : Int32))))]))
      refine own_goW (fun _ k => XS.istore X781.here hx rfl (hb hby at_95) rfl (l' := #[iv p1, iv p2, iv p3, iv p4, iv p5, iv uk, iv ub, iv um, rv wd_, iv (Int32.ofNat (own_w ub).length), iv (p5 &&& (255 : Int32)), iv (p4 &&& (2147483647 : Int32)), iv ((p4 &&& (2147483647 : Int32)) % ((Int32.ofNat (own_w ub).length) + (1 : Int32))), .unset, .unset, .unset, .unset, .unset]) rfl (XS.iload X781.here hx rfl (hb hby at_97) rfl (XS.istore X781.here hx rfl (hb hby at_99) rfl (l' := #[iv p1, iv p2, iv p3, iv p4, iv p5, iv uk, iv ub, iv um, rv wd_, iv (Int32.ofNat (own_w ub).length), iv (p5 &&& (255 : Int32)), iv (p4 &&& (2147483647 : Int32)), iv ((p4 &&& (2147483647 : Int32)) % ((Int32.ofNat (own_w ub).length) + (1 : Int32))), iv ((p4 &&& (2147483647 : Int32)) % ((Int32.ofNat (own_w ub).length) + (1 : Int32))), .unset, .unset, .unset, .unset]) rfl (XS.goto X781.here hx rfl (pc0 := 101) (pc' := 135) rfl (hb hby at_101) (by decide) (by decide) k)))) ?_
      show own_GoW p e below s _ _ _ _ (T781.setTop (mkF m 135 #[iv p1, iv p2, iv p3, iv p4, iv p5, iv uk, iv ub, iv um, rv wd_, iv (Int32.ofNat (own_w ub).length), iv (p5 &&& (255 : Int32)), iv (p4 &&& (2147483647 : Int32)), iv ((p4 &&& (2147483647 : Int32)) % ((Int32.ofNat (own_w ub).length) + (1 : Int32))), iv ((p4 &&& (2147483647 : Int32)) % ((Int32.ofNat (own_w ub).length) + (1 : Int32))), .unset, .unset, .unset, .unset] []))
      exact sg_s135 hw hO p1 p2 p3 p4 p5 uk ub um (p5 &&& (255 : Int32)) ((p4 &&& (2147483647 : Int32)) % ((Int32.ofNat (own_w ub).length) + (1 : Int32))) ((p4 &&& (2147483647 : Int32)) % ((Int32.ofNat (own_w ub).length) + (1 : Int32))) wd_ (iv (p4 &&& (2147483647 : Int32)) : Slot) h0 hs1 X781 hS hL hJ hx hby hml hret hlk hZ hown hnm eh781 N0 O0 K0 (fp0.keep K1) (own_SlKeep fp1 K1 all0) huk hub hum (own_PN2 hub hc784) (own_c8m p5) (by omega) (by omega)
    · refine own_goW (fun _ k => XS.icmpYes X781.here hx rfl (pc0 := 85) (pc' := 104) rfl (hb hby at_85) rfl (feq hc784).2 (by decide) (by decide) k) ?_
      show own_GoW p e below s _ _ _ _ (T781.setTop (mkF m 104 #[iv p1, iv p2, iv p3, iv p4, iv p5, iv uk, iv ub, iv um, rv wd_, iv (Int32.ofNat (own_w ub).length), iv (p5 &&& (255 : Int32)), iv (p4 &&& (2147483647 : Int32)), .unset, .unset, .unset, .unset, .unset, .unset] []))
      refine own_goW (fun _ k => XS.iload X781.here hx rfl (hb hby at_104) rfl (XS.iconst X781.here hx rfl (hb hby at_106) k)) ?_
      by_cases hc785 : um = (3 : Int32)
      · refine own_goW (fun _ k => XS.icmpNo X781.here hx rfl (hb hby at_107) rfl (teq hc785).2 k) ?_
        show own_GoW p e below s _ _ _ _ (T781.setTop (mkF m 110 #[iv p1, iv p2, iv p3, iv p4, iv p5, iv uk, iv ub, iv um, rv wd_, iv (Int32.ofNat (own_w ub).length), iv (p5 &&& (255 : Int32)), iv (p4 &&& (2147483647 : Int32)), .unset, .unset, .unset, .unset, .unset, .unset] []))
        refine own_goW (fun _ k => XS.iload X781.here hx rfl (hb hby at_110) rfl (XS.iload X781.here hx rfl (hb hby at_112) rfl (XS.iconst X781.here hx rfl (hb hby at_114) (XS.iadd X781.here hx rfl (hb hby at_115) rfl (iremM X781 hx rfl (hb hby at_116) rfl (own_wl1 hub) k))))) ?_
        show own_GoW p e below s _ _ _ _ (T781.setTop (mkF m 117 #[iv p1, iv p2, iv p3, iv p4, iv p5, iv uk, iv ub, iv um, rv wd_, iv (Int32.ofNat (own_w ub).length), iv (p5 &&& (255 : Int32)), iv (p4 &&& (2147483647 : Int32)), .unset, .unset, .unset, .unset, .unset, .unset] [(.int ((p4 &&& (2147483647 : Int32)) % ((Int32.ofNat (own_w ub).length) + (1 : Int32))))]))
        refine own_goW (fun _ k => XS.istore X781.here hx rfl (hb hby at_117) rfl (l' := #[iv p1, iv p2, iv p3, iv p4, iv p5, iv uk, iv ub, iv um, rv wd_, iv (Int32.ofNat (own_w ub).length), iv (p5 &&& (255 : Int32)), iv (p4 &&& (2147483647 : Int32)), iv ((p4 &&& (2147483647 : Int32)) % ((Int32.ofNat (own_w ub).length) + (1 : Int32))), .unset, .unset, .unset, .unset, .unset]) rfl (XS.iload X781.here hx rfl (hb hby at_119) rfl (XS.iconst X781.here hx rfl (hb hby at_121) (XS.iadd X781.here hx rfl (hb hby at_122) rfl (XS.istore X781.here hx rfl (hb hby at_123) rfl (l' := #[iv p1, iv p2, iv p3, iv p4, iv p5, iv uk, iv ub, iv um, rv wd_, iv (Int32.ofNat (own_w ub).length), iv (p5 &&& (255 : Int32)), iv (p4 &&& (2147483647 : Int32)), iv ((p4 &&& (2147483647 : Int32)) % ((Int32.ofNat (own_w ub).length) + (1 : Int32))), iv ((Int32.ofNat (own_w ub).length) + (1 : Int32)), .unset, .unset, .unset, .unset]) rfl k))))) ?_
        show own_GoW p e below s _ _ _ _ (T781.setTop (mkF m 125 #[iv p1, iv p2, iv p3, iv p4, iv p5, iv uk, iv ub, iv um, rv wd_, iv (Int32.ofNat (own_w ub).length), iv (p5 &&& (255 : Int32)), iv (p4 &&& (2147483647 : Int32)), iv ((p4 &&& (2147483647 : Int32)) % ((Int32.ofNat (own_w ub).length) + (1 : Int32))), iv ((Int32.ofNat (own_w ub).length) + (1 : Int32)), .unset, .unset, .unset, .unset] []))
        refine own_goW (fun _ k => XS.goto X781.here hx rfl (pc0 := 125) (pc' := 135) rfl (hb hby at_125) (by decide) (by decide) k) ?_
        show own_GoW p e below s _ _ _ _ (T781.setTop (mkF m 135 #[iv p1, iv p2, iv p3, iv p4, iv p5, iv uk, iv ub, iv um, rv wd_, iv (Int32.ofNat (own_w ub).length), iv (p5 &&& (255 : Int32)), iv (p4 &&& (2147483647 : Int32)), iv ((p4 &&& (2147483647 : Int32)) % ((Int32.ofNat (own_w ub).length) + (1 : Int32))), iv ((Int32.ofNat (own_w ub).length) + (1 : Int32)), .unset, .unset, .unset, .unset] []))
        exact sg_s135 hw hO p1 p2 p3 p4 p5 uk ub um (p5 &&& (255 : Int32)) ((p4 &&& (2147483647 : Int32)) % ((Int32.ofNat (own_w ub).length) + (1 : Int32))) ((Int32.ofNat (own_w ub).length) + (1 : Int32)) wd_ (iv (p4 &&& (2147483647 : Int32)) : Slot) h0 hs1 X781 hS hL hJ hx hby hml hret hlk hZ hown hnm eh781 N0 O0 K0 (fp0.keep K1) (own_SlKeep fp1 K1 all0) huk hub hum (own_PN3 hub hc785) (own_c8m p5) (by omega) (by omega)
      · refine own_goW (fun _ k => XS.icmpYes X781.here hx rfl (pc0 := 107) (pc' := 128) rfl (hb hby at_107) rfl (feq hc785).2 (by decide) (by decide) k) ?_
        show own_GoW p e below s _ _ _ _ (T781.setTop (mkF m 128 #[iv p1, iv p2, iv p3, iv p4, iv p5, iv uk, iv ub, iv um, rv wd_, iv (Int32.ofNat (own_w ub).length), iv (p5 &&& (255 : Int32)), iv (p4 &&& (2147483647 : Int32)), .unset, .unset, .unset, .unset, .unset, .unset] []))
        refine own_goW (fun _ k => XS.iconst X781.here hx rfl (hb hby at_128) (XS.istore X781.here hx rfl (hb hby at_129) rfl (l' := #[iv p1, iv p2, iv p3, iv p4, iv p5, iv uk, iv ub, iv um, rv wd_, iv (Int32.ofNat (own_w ub).length), iv (p5 &&& (255 : Int32)), iv (p4 &&& (2147483647 : Int32)), iv (0 : Int32), .unset, .unset, .unset, .unset, .unset]) rfl (XS.iload X781.here hx rfl (hb hby at_131) rfl (XS.istore X781.here hx rfl (hb hby at_133) rfl (l' := #[iv p1, iv p2, iv p3, iv p4, iv p5, iv uk, iv ub, iv um, rv wd_, iv (Int32.ofNat (own_w ub).length), iv (p5 &&& (255 : Int32)), iv (p4 &&& (2147483647 : Int32)), iv (0 : Int32), iv (Int32.ofNat (own_w ub).length), .unset, .unset, .unset, .unset]) rfl k)))) ?_
        show own_GoW p e below s _ _ _ _ (T781.setTop (mkF m 135 #[iv p1, iv p2, iv p3, iv p4, iv p5, iv uk, iv ub, iv um, rv wd_, iv (Int32.ofNat (own_w ub).length), iv (p5 &&& (255 : Int32)), iv (p4 &&& (2147483647 : Int32)), iv (0 : Int32), iv (Int32.ofNat (own_w ub).length), .unset, .unset, .unset, .unset] []))
        exact sg_s135 hw hO p1 p2 p3 p4 p5 uk ub um (p5 &&& (255 : Int32)) (0 : Int32) (Int32.ofNat (own_w ub).length) wd_ (iv (p4 &&& (2147483647 : Int32)) : Slot) h0 hs1 X781 hS hL hJ hx hby hml hret hlk hZ hown hnm eh781 N0 O0 K0 (fp0.keep K1) (own_SlKeep fp1 K1 all0) huk hub hum (own_PN4 hc782 hc784 hc785) (own_c8m p5) (by omega) (by omega)
theorem ef_law (m : MethodId) (x0 : Int32) (x1 : Int32) (x2 : Int32) (x3 : Int32) (x4 : Int32) : entryFrame m #[(.int x0), (.int x1), (.int x2), (.int x3), (.int x4)] maxLocals = mkF m 0 #[iv x0, iv x1, iv x2, iv x3, iv x4, .unset, .unset, .unset, .unset, .unset, .unset, .unset, .unset, .unset, .unset, .unset, .unset, .unset] [] := by first | (simp [entryFrame, mkF, argsToLocals, Value.category, maxLocals]; done) | rfl
set_option maxRecDepth 65536 in
set_option maxHeartbeats 40000000 in
theorem rm_law (l : Launch) (Z : State) (a0 : Array Value) (hw : own_W Z a0) {zc : Int32} {wsf : Value} {ws0 : Addr} {ws1 : Addr} {ws2 : Addr} (hO : own_Olds Z zc wsf ws0 ws1 ws2) (ws : List Jvm.Cond) (p1 : Int32) (p2 : Int32) (p3 : Int32) (p4 : Int32) (p5 : Int32) (h0 : Heap) (O0 : Ext Z.heap h0) :
    MetFree l x (head1 (Jvm.Cond.code x code maxLocals ret :: ws) room_1) (fun a U => a = #[(.int p1), (.int p2), (.int p3), (.int p4), (.int p5)] ∧ Z.Warmed39 U.vm ∧ U.heap = h0 ∧ own_J Z U.vm U.heap) (fun _ _ _ _ _ => True) (fun _ U o U' => ∃ v L, o = .returned v ∧ ((Q_law Z zc wsf ws0 ws1 ws2 p1 p2 p3 p4 p5 h0) v U'.heap L ∧ own_J Z U'.vm U'.heap) ∧ ReturnedEndW U o U' L room_1.cells room_1.slots) := by
  refine own_metW (Q := (Q_law Z zc wsf ws0 ws1 ws2 p1 p2 p3 p4 p5 h0)) _ _ (plainFor_of_name own_pn_1) ?_
  intro p e s vm0 m below meth c T X0 hS hJ hJ0 hZ0 hI hs0 hx hby hml hret hlk hZ hown hnm e0
  replace hown : (s.setVm vm0).vm.findClass "com/example/slotsholmen/slotsholmen/schema/GroupPointsAtTargetPinLaw" = some m.cls := hown
  replace hnm : meth.name = "law" := hnm
  have hml : c.maxLocals = 18 := hml
  obtain ⟨oCS, oCz, oSF, r_wsf, oS0, oS1, oS2, oSE0, oSE1, oSE2, oN02, oN12⟩ := id hO
  have N0 := Fr.nil Z.heap.size
  have hL := own_Lhw hw
  have K0 := Keep.refl h0 []
  refine own_goW (fun _ k => castTop (ef_law m p1 p2 p3 p4 p5) k) ?_
  show own_GoW p e below s _ _ _ _ (T.setTop (mkF m 0 #[iv p1, iv p2, iv p3, iv p4, iv p5, .unset, .unset, .unset, .unset, .unset, .unset, .unset, .unset, .unset, .unset, .unset, .unset, .unset] []))
  refine own_goW (fun _ k => XS.iloadN X0.here hx rfl (hb hby at_0) rfl k) ?_
  refine own_goW (X0.ldcInt hx hown (mvT hZ (ow0 hw)) (g := (mkF m 1 #[iv p1, iv p2, iv p3, iv p4, iv p5, .unset, .unset, .unset, .unset, .unset, .unset, .unset, .unset, .unset, .unset, .unset, .unset, .unset] [(.int p1)])) rfl (hb hby at_1)) ?_
  refine own_goW (fun _ k => XS.iand X0.here hx rfl (hb hby at_3) rfl (XS.iconst X0.here hx rfl (hb hby at_4) (iremM X0 hx rfl (hb hby at_5) rfl (by decide : ¬ ((3 : Int32) = (0 : Int32))) k))) ?_
  show own_GoW p e below s _ _ _ _ (T.setTop (mkF m 6 #[iv p1, iv p2, iv p3, iv p4, iv p5, .unset, .unset, .unset, .unset, .unset, .unset, .unset, .unset, .unset, .unset, .unset, .unset, .unset] [(.int ((p1 &&& (2147483647 : Int32)) % (3 : Int32)))]))
  refine own_goW (fun _ k => XS.istore X0.here hx rfl (hb hby at_6) rfl (l' := #[iv p1, iv p2, iv p3, iv p4, iv p5, iv ((p1 &&& (2147483647 : Int32)) % (3 : Int32)), .unset, .unset, .unset, .unset, .unset, .unset, .unset, .unset, .unset, .unset, .unset, .unset]) rfl (XS.iloadN X0.here hx rfl (hb hby at_8) rfl k)) ?_
  refine own_goW (X0.ldcInt hx hown (mvT hZ (ow0 hw)) (g := (mkF m 9 #[iv p1, iv p2, iv p3, iv p4, iv p5, iv ((p1 &&& (2147483647 : Int32)) % (3 : Int32)), .unset, .unset, .unset, .unset, .unset, .unset, .unset, .unset, .unset, .unset, .unset, .unset] [(.int p2)])) rfl (hb hby at_9)) ?_
  refine own_goW (fun _ k => XS.iand X0.here hx rfl (hb hby at_11) rfl (XS.iconst X0.here hx rfl (hb hby at_12) k)) ?_
  show own_GoW p e below s _ _ _ _ (T.setTop (mkF m 13 #[iv p1, iv p2, iv p3, iv p4, iv p5, iv ((p1 &&& (2147483647 : Int32)) % (3 : Int32)), .unset, .unset, .unset, .unset, .unset, .unset, .unset, .unset, .unset, .unset, .unset, .unset] [(.int (4 : Int32)), (.int (p2 &&& (2147483647 : Int32)))]))
  refine own_goW (fun _ k => iremM X0 hx rfl (hb hby at_13) rfl (by decide : ¬ ((4 : Int32) = (0 : Int32))) (XS.istore X0.here hx rfl (hb hby at_14) rfl (l' := #[iv p1, iv p2, iv p3, iv p4, iv p5, iv ((p1 &&& (2147483647 : Int32)) % (3 : Int32)), iv ((p2 &&& (2147483647 : Int32)) % (4 : Int32)), .unset, .unset, .unset, .unset, .unset, .unset, .unset, .unset, .unset, .unset, .unset]) rfl (XS.iloadN X0.here hx rfl (hb hby at_16) rfl k))) ?_
  refine own_goW (X0.ldcInt hx hown (mvT hZ (ow0 hw)) (g := (mkF m 17 #[iv p1, iv p2, iv p3, iv p4, iv p5, iv ((p1 &&& (2147483647 : Int32)) % (3 : Int32)), iv ((p2 &&& (2147483647 : Int32)) % (4 : Int32)), .unset, .unset, .unset, .unset, .unset, .unset, .unset, .unset, .unset, .unset, .unset] [(.int p3)])) rfl (hb hby at_17)) ?_
  refine own_goW (fun _ k => XS.iand X0.here hx rfl (hb hby at_19) rfl k) ?_
  show own_GoW p e below s _ _ _ _ (T.setTop (mkF m 20 #[iv p1, iv p2, iv p3, iv p4, iv p5, iv ((p1 &&& (2147483647 : Int32)) % (3 : Int32)), iv ((p2 &&& (2147483647 : Int32)) % (4 : Int32)), .unset, .unset, .unset, .unset, .unset, .unset, .unset, .unset, .unset, .unset, .unset] [(.int (p3 &&& (2147483647 : Int32)))]))
  refine own_goW (fun _ k => XS.iconst X0.here hx rfl (hb hby at_20) (iremM X0 hx rfl (hb hby at_21) rfl (by decide : ¬ ((4 : Int32) = (0 : Int32))) (XS.istore X0.here hx rfl (hb hby at_22) rfl (l' := #[iv p1, iv p2, iv p3, iv p4, iv p5, iv ((p1 &&& (2147483647 : Int32)) % (3 : Int32)), iv ((p2 &&& (2147483647 : Int32)) % (4 : Int32)), iv ((p3 &&& (2147483647 : Int32)) % (4 : Int32)), .unset, .unset, .unset, .unset, .unset, .unset, .unset, .unset, .unset, .unset]) rfl (XS.iload X0.here hx rfl (hb hby at_24) rfl k)))) ?_
  obtain ⟨v786, T786, L786, X786, hSn, hZn, hownn, hQ786, hJn, st786⟩ := own_callSW (y := own_y2) X0 hS hL hJ hx hZ hown (ow1 hw) (ow2 hw) (ow3 hw) (ow4 hw) (rm_word l Z a0 hw hO [] ((p2 &&& (2147483647 : Int32)) % (4 : Int32)) h0 O0) 0 2 44 (by show _ ≤ 32; omega) (by show _ ≤ 8384; omega) e0 (g := (mkF m 26 #[iv p1, iv p2, iv p3, iv p4, iv p5, iv ((p1 &&& (2147483647 : Int32)) % (3 : Int32)), iv ((p2 &&& (2147483647 : Int32)) % (4 : Int32)), iv ((p3 &&& (2147483647 : Int32)) % (4 : Int32)), .unset, .unset, .unset, .unset, .unset, .unset, .unset, .unset, .unset, .unset] [(.int ((p2 &&& (2147483647 : Int32)) % (4 : Int32)))])) rfl (by rw [hml]; rfl) [(.int ((p2 &&& (2147483647 : Int32)) % (4 : Int32)))] [] (lenOf own_pd_8 rfl) rfl rfl (hb hby at_26)
  replace hS := hSn
  replace hZ := hZn
  replace hown := hownn
  replace hJ := hJn
  clear hSn hZn hownn hJn
  obtain ⟨w787, rfl, Nc791, Kc790, f788, f789⟩ := hQ786
  refine own_goW st786 ?_
  clear st786 X0 e0
  replace N0 := Fr.app N0 Nc791
  clear Nc791
  replace O0 := own_oldKeep O0 Kc790 all0
  replace K0 := K0.trans Kc790 all0
  clear Kc790
  show own_GoW p e below s _ _ _ _ (T786.setTop (mkF m 29 #[iv p1, iv p2, iv p3, iv p4, iv p5, iv ((p1 &&& (2147483647 : Int32)) % (3 : Int32)), iv ((p2 &&& (2147483647 : Int32)) % (4 : Int32)), iv ((p3 &&& (2147483647 : Int32)) % (4 : Int32)), .unset, .unset, .unset, .unset, .unset, .unset, .unset, .unset, .unset, .unset] [(.ref w787)]))
  exact sg_s29 hw hO p1 p2 p3 p4 p5 ((p1 &&& (2147483647 : Int32)) % (3 : Int32)) ((p2 &&& (2147483647 : Int32)) % (4 : Int32)) ((p3 &&& (2147483647 : Int32)) % (4 : Int32)) w787 h0 T786.heap X786 hS hL hJ hx hby hml hret hlk hZ hown hnm (rfl : T786.heap = T786.heap) N0 O0 K0 f788 f789 (own_V3mx _) (own_V4mx _) (own_V4mx _) (by omega) (by omega)
set_option maxRecDepth 65536 in
set_option maxHeartbeats 40000000 in
theorem comes_1 {Post : Tables → Env → Array Value → State → Outcome → State → Prop} (hpost : ∀ tb e args s v u, (limb_1_1.after args s (.returned v) u = true ∧ limb_1_2.after args s (.returned v) u = true ∧ True) → ReturnedEndW s (.returned v) u (Jvm.fieldLocs frame_1_writes args s ++ Jvm.arrayLocs frame_1_arrays args s ++ Jvm.staticLocs frame_1_statics s) 32 8384 → Post tb e args s (.returned v) u) :
    ArmFor flags0 classFile x code maxLocals ret World_1 tables_1 room_1 Calls_1 rest_1 Pre_1 Post := by
  intro l hfl _ _ p e ha hc hk s m args below hf hA hF happ hP
  obtain ⟨hcalls, hrest, hpre⟩ := hP
  obtain ⟨-, -, -, hnamed, -, -, -, hat⟩ := (Spec.applies_iff hf).mp happ
  obtain ⟨hg, hn⟩ := and_e (Cond.before_iff.mp (show (Jvm.Cond.and given_1 narrow_1).before args s = true from hpre))
  obtain ⟨gA0, gB0⟩ := and_e hg
  obtain ⟨gA1, gB1⟩ := and_e gB0
  obtain ⟨gA2, gB2⟩ := and_e gB1
  obtain ⟨gA3, gB3⟩ := and_e gB2
  obtain ⟨gA4, gB4⟩ := and_e gB3
  obtain ⟨w0, w1, w2, w3, w4, rfl⟩ : ∃ w0 w1 w2 w3 w4 : Value, args = #[w0, w1, w2, w3, w4] := by
    have hs : args.size = 5 := by simpa [Cond.value, given_1] using gA0
    obtain ⟨L⟩ := args
    match L, hs with
    | [w0, w1, w2, w3, w4], _ => exact ⟨w0, w1, w2, w3, w4, rfl⟩
  have hw := fun d (hd : d ∈ tables_1) => atoms_spec (ws := Jvm.Cond.code x code maxLocals ret :: tables_1) hat d (List.mem_cons_of_mem _ hd)
  have hfit : Fit s := fun {y c} hc i hi => by
    obtain ⟨ha, rfl⟩ := Array.getElem?_eq_some_iff.mp hc
    have q := List.all_eq_true.mp ((Array.all_eq_true_iff_forall_mem.mp hF) _ (Array.getElem_mem ha)) i (List.mem_range.mpr hi)
    simpa [Array.getElem?_eq_getElem hi] using q
  obtain ⟨hsets, hown0⟩ := atoms_of _ (rest_1_c_eq ▸ (show rest_1_c.before _ s = true from hrest))
  have hr0 := Cond.before_iff.mp hown0
  obtain ⟨i0, ei0⟩ := is_v gA1
  obtain rfl : w0 = (.int i0) := Option.some.inj ei0
  obtain ⟨i1, ei1⟩ := is_v gA2
  obtain rfl : w1 = (.int i1) := Option.some.inj ei1
  obtain ⟨i2, ei2⟩ := is_v gA3
  obtain rfl : w2 = (.int i2) := Option.some.inj ei2
  obtain ⟨i3, ei3⟩ := is_v gA4
  obtain rfl : w3 = (.int i3) := Option.some.inj ei3
  obtain ⟨i4, ei4⟩ := is_v gB4
  obtain rfl : w4 = (.int i4) := Option.some.inj ei4
  obtain ⟨zc, cse⟩ := is_v (Cond.before_iff.mp (hsets _ (List.mem_of_getElem? (i := 1) rfl)))
  have oCS := Sta.start cse (Or.inl (hsets _ (List.mem_of_getElem? (i := 0) rfl)))
  have csn := Cond.before_iff.mp (hsets _ (List.mem_of_getElem? (i := 2) rfl))
  have oCz : ¬ zc = (0 : Int32) := gotF (Cond.eq_ints cse (Term.int_eval 0)) (by have q := not_v csn; simpa using q)
  obtain ⟨wsf, sfe, r_wsf⟩ := isR_v (Cond.before_iff.mp (hsets _ (List.mem_of_getElem? (i := 8) rfl)))
  have oSF := Sta.start sfe (Or.inl (hsets _ (List.mem_of_getElem? (i := 7) rfl)))
  have hJst : own_J s s.vm s.heap := own_Jstart hw (hsets _ (List.mem_of_getElem? (i := 2) rfl)) hcalls
  obtain ⟨nw0, hn⟩ := and_e hn
  obtain ⟨nw1, hn⟩ := and_e hn
  obtain ⟨nw2, hn⟩ := and_e hn
  obtain ⟨nw3, hn⟩ := and_e hn
  obtain ⟨nw4, hn⟩ := and_e hn
  have nw5 := hn
  obtain ⟨ws0, se0⟩ := exa_v nw0
  have oSE0 := Exa.start se0 nw0
  have oS0 := Sta.start se0 (Or.inr ⟨(ow43 hw), (ow44 hw)⟩)
  obtain ⟨ws1, se1⟩ := exa_v nw4
  have oSE1 := Exa.start se1 nw4
  have oS1 := Sta.start se1 (Or.inr ⟨(ow43 hw), (ow102 hw)⟩)
  obtain ⟨ws2, se2⟩ := exa_v nw1
  have oSE2 := Exa.start se2 nw1
  have oS2 := Sta.start se2 (Or.inr ⟨(ow43 hw), (ow50 hw)⟩)
  have oN02 : ws0 ≠ ws2 := own_neOrdK (by decide) nw2 nw3 se0 se2
  have oN12 : ws1 ≠ ws2 := own_neOrdK (by decide) nw5 nw3 se1 se2
  have hO : own_Olds s _ _ _ _ _ := ⟨oCS, oCz, oSF, r_wsf, oS0, oS1, oS2, oSE0, oSE1, oSE2, oN02, oN12⟩
  obtain ⟨n, o, h1, h2, h3, _, L, rfl, ⟨⟨rfl, N, -⟩, -⟩, hq⟩ := rm_law l s _ hw hO tables_1 i0 i1 i2 i3 i4  s.heap ⟨Nat.le_refl _, fun _ _ q => q⟩  p e ha hc hk s m _ below hf ((Spec.applies_iff_loose hf).mp happ).1 ⟨rfl, State.Warmed39.refl s, rfl, hJst⟩ trivial
  refine ⟨n, _, h1, h2, h3, hpost _ _ _ _ _ _ ⟨Cond.after_iff.mpr rfl, Cond.after_iff.mpr (eq_i res_at (Term.int_eval (1)) rfl), trivial⟩ ⟨hq.1, hq.2.1, hq.2.2.1, (hq.2.2.2.sift fun y hy => Or.inr (N y hy)).mono (by decide) (by decide)⟩⟩
theorem main_1_1 : Claimed_1_1 := comes_1 fun _ _ _ _ _ _ h hF => ⟨h.1, hF⟩
theorem main_1_2 : Claimed_1_2 := comes_1 fun _ _ _ _ _ _ h hF => ⟨h.2.1, hF⟩
end Jvm.Pilot.@@N@@
namespace Jvm.Pilot.@@N@@
open Jvm Jvm.ClassFile Sem Op Lib Jvm.Free Jvm.Stand Jvm.Pilot.@@N@@.Jvm.D
/-! MADE BY PROGRAM (witnessworld.py) out of the Statement's table words and the real class files: 23 classes; the members and pool entries that the words name. The judged class is class 1, her method 4. -/
namespace start1
open Jvm.ClassFile
def u (s : String) : CpInfo := .utf8 (stringToUtf16 s)
/-- a pool by its gaps: so many unusable entries, then the entry; so many at the end -/
def gap : Nat → List CpInfo → List CpInfo
  | 0, r => r
  | n + 1, r => .unusable :: gap n r
def poolList (es : List (Nat × CpInfo)) (last : Nat) : List CpInfo := es.foldr (fun e r => gap e.1 (e.2 :: r)) (gap last [])
def pool (es : List (Nat × CpInfo)) (last : Nat) : Array CpInfo := ⟨poolList es last⟩
def fileOf (pool : Array CpInfo) (this : Nat) (attrs : Array Attribute := #[]) (ms : Array MethodInfo := #[]) (fl : Nat := 33) (sup : Nat := 0) (ifs : Array Nat := #[]) (fds : Array FieldInfo := #[]) : ClassFile where
  minorVersion := 0
  majorVersion := 65
  constantPool := pool
  accessFlags := fl
  thisClass := this
  superClass := sup
  interfaces := ifs
  fields := fds
  methods := ms
  attributes := attrs
def plain (name : String) (sup : Option ClassId) : Class where
  name := name
  kind := .ordinary
  loader := none
  accessFlags := 33
  super := sup
  interfaces := #[]
  cf := none
  fields := #[]
  methods := #[]
  instanceTypes := #[]
  staticTypes := #[]
  resolved := #[]
  callSites := []
  init := .initialized
  statics := none
  mirror := none

def pool0 : Array CpInfo := pool [(5, u "<init>"), (0, u "()V"), (1, .class_ 10), (1, u "java/lang/Object")] 113

def k0c0 : Code := { maxStack := 0, maxLocals := 1, code := object_method_1_code, exceptionTable := #[], attributes := #[] }
def k0m0 : Method := { name := "<init>", desc := "()V", sig := { parameters := [], returnType := none }, accessFlags := 1, code := some k0c0 }
/-- java/lang/Object -/
def k0 : Class := { plain "java/lang/Object" none with
  accessFlags := 33
  interfaces := #[]
  cf := some (fileOf pool0 8 #[] #[{ accessFlags := 1, nameIndex := 5, descriptorIndex := 6, attributes := #[] }] 33 0 #[] #[])
  fields := #[]
  methods := #[k0m0]
  instanceTypes := #[]
  staticTypes := #[]
  resolved := Array.replicate 124 none
  statics := none }

def pool1 : Array CpInfo := pool [(2, .class_ 4), (1, u "java/lang/Object"), (0, u "<init>"), (0, u "()V"), (0, .string 8), (0, u "uuid"), (0, .string 10), (0, u "urn"), (0, .string 12), (0, u "objekttype"), (0, .string 14), (0, u ""), (0, .fieldref 16 17), (0, .class_ 18), (0, .nameAndType 19 20), (0, u "com/example/slotsholmen/slotsholmen/schema/Section"), (0, u "ATTRIBUTES"), (0, u "Lcom/example/slotsholmen/slotsholmen/schema/Section;"), (0, .fieldref 16 22), (0, .nameAndType 23 20), (0, u "STATES"), (0, .fieldref 16 25), (0, .nameAndType 26 20), (0, u "RELATIONS"), (0, .methodref 28 29), (0, .class_ 30), (0, .nameAndType 31 32), (0, u "java/lang/String"), (0, u "charAt"), (0, u "(I)C"), (0, .integer 2147483647), (0, .methodref 35 36), (0, .class_ 37), (0, .nameAndType 38 39), (0, u "com/example/slotsholmen/slotsholmen/schema/GroupPointsAtTargetPinLaw"), (0, u "word"), (0, u "(I)Ljava/lang/String;"), (0, .methodref 28 41), (0, .nameAndType 42 43), (0, u "length"), (0, u "()I"), (0, .methodref 35 45), (0, .nameAndType 46 47), (0, u "cell"), (0, u "(Ljava/lang/String;IICI)C"), (0, .methodref 28 49), (0, .nameAndType 5 50), (0, u "([C)V"), (0, .methodref 35 52), (0, .nameAndType 53 54), (0, u "section"), (0, u "(I)Lcom/example/slotsholmen/slotsholmen/schema/Section;"), (0, .methodref 56 57), (0, .class_ 58), (0, .nameAndType 59 60), (0, u "com/example/slotsholmen/slotsholmen/schema/Group"), (0, u "pointsAtTarget"), (0, u "(Lcom/example/slotsholmen/slotsholmen/schema/Section;Ljava/lang/String;)Z"), (3, u "law"), (0, u "(IIIII)Z")] 4

def k1m0 : Method := { name := "<init>", desc := "()V", sig := { parameters := [], returnType := none }, accessFlags := 1, code := none }
def k1c1 : Code := { maxStack := 2, maxLocals := 1, code := method_2_code, exceptionTable := #[], attributes := #[] }
def k1m1 : Method := { name := "word", desc := "(I)Ljava/lang/String;", sig := { parameters := [.int], returnType := some (.object "java/lang/String") }, accessFlags := 10, code := some k1c1 }
def k1c2 : Code := { maxStack := 2, maxLocals := 1, code := method_3_code, exceptionTable := #[], attributes := #[] }
def k1m2 : Method := { name := "section", desc := "(I)Lcom/example/slotsholmen/slotsholmen/schema/Section;", sig := { parameters := [.int], returnType := some (.object "com/example/slotsholmen/slotsholmen/schema/Section") }, accessFlags := 10, code := some k1c2 }
def k1c3 : Code := { maxStack := 3, maxLocals := 5, code := method_4_code, exceptionTable := #[], attributes := #[] }
def k1m3 : Method := { name := "cell", desc := "(Ljava/lang/String;IICI)C", sig := { parameters := [(.object "java/lang/String"), .int, .int, .char, .int], returnType := some .char }, accessFlags := 10, code := some k1c3 }
def k1c4 : Code := { maxStack := 7, maxLocals := 18, code := code, exceptionTable := #[], attributes := #[] }
def k1m4 : Method := { name := "law", desc := "(IIIII)Z", sig := { parameters := [.int, .int, .int, .int, .int], returnType := some .boolean }, accessFlags := 9, code := some k1c4 }
/-- com/example/slotsholmen/slotsholmen/schema/GroupPointsAtTargetPinLaw -/
def k1 : Class := { plain "com/example/slotsholmen/slotsholmen/schema/GroupPointsAtTargetPinLaw" (some 0) with
  accessFlags := 49
  interfaces := #[]
  cf := some (fileOf pool1 35 #[] #[{ accessFlags := 1, nameIndex := 5, descriptorIndex := 6, attributes := #[] }, { accessFlags := 10, nameIndex := 38, descriptorIndex := 39, attributes := #[] }, { accessFlags := 10, nameIndex := 53, descriptorIndex := 54, attributes := #[] }, { accessFlags := 10, nameIndex := 46, descriptorIndex := 47, attributes := #[] }, { accessFlags := 9, nameIndex := 64, descriptorIndex := 65, attributes := #[] }] 49 2 #[] #[])
  fields := #[]
  methods := #[k1m0, k1m1, k1m2, k1m3, k1m4]
  instanceTypes := #[]
  staticTypes := #[]
  resolved := Array.replicate 70 none
  statics := none }

def pool2 : Array CpInfo := pool [(1, .class_ 2), (0, u "java/io/Serializable"), (0, .class_ 4), (0, u "java/lang/Object")] 2

/-- java/io/Serializable -/
def k2 : Class := { plain "java/io/Serializable" (some 0) with
  accessFlags := 1537
  interfaces := #[]
  cf := some (fileOf pool2 1 #[] #[] 1537 3 #[] #[])
  fields := #[]
  methods := #[]
  instanceTypes := #[]
  staticTypes := #[]
  resolved := Array.replicate 7 none
  statics := none }

def pool3 : Array CpInfo := pool [(1, .class_ 2), (0, u "java/lang/Comparable"), (0, .class_ 4), (0, u "java/lang/Object")] 7

/-- java/lang/Comparable -/
def k3 : Class := { plain "java/lang/Comparable" (some 0) with
  accessFlags := 1537
  interfaces := #[]
  cf := some (fileOf pool3 1 #[] #[] 1537 3 #[] #[])
  fields := #[]
  methods := #[]
  instanceTypes := #[]
  staticTypes := #[]
  resolved := Array.replicate 12 none
  statics := none }

def pool4 : Array CpInfo := pool [(2, .class_ 4), (1, u "java/lang/CharSequence"), (42, .class_ 48), (0, u "java/lang/CharSequence$1CodePointIterator"), (10, .class_ 60), (0, u "java/lang/CharSequence$1CharIterator"), (5, .class_ 67), (0, u "java/lang/Object")] 63

/-- java/lang/CharSequence -/
def k4 : Class := { plain "java/lang/CharSequence" (some 0) with
  accessFlags := 1537
  interfaces := #[]
  cf := some (fileOf pool4 2 #[.nestMembers #[47, 59]] #[] 1537 66 #[] #[])
  fields := #[]
  methods := #[]
  instanceTypes := #[]
  staticTypes := #[]
  resolved := Array.replicate 131 none
  statics := none }

def pool5 : Array CpInfo := pool [(1, .class_ 2), (0, u "java/lang/constant/Constable"), (0, .class_ 4), (0, u "java/lang/Object")] 6

/-- java/lang/constant/Constable -/
def k5 : Class := { plain "java/lang/constant/Constable" (some 0) with
  accessFlags := 1537
  interfaces := #[]
  cf := some (fileOf pool5 1 #[] #[] 1537 3 #[] #[])
  fields := #[]
  methods := #[]
  instanceTypes := #[]
  staticTypes := #[]
  resolved := Array.replicate 11 none
  statics := none }

def pool6 : Array CpInfo := pool [(1, .class_ 2), (0, u "java/lang/constant/ConstantDesc"), (0, .class_ 4), (0, u "java/lang/Object")] 32

/-- java/lang/constant/ConstantDesc -/
def k6 : Class := { plain "java/lang/constant/ConstantDesc" (some 0) with
  accessFlags := 1537
  interfaces := #[]
  cf := some (fileOf pool6 1 #[] #[] 1537 3 #[] #[])
  fields := #[]
  methods := #[]
  instanceTypes := #[]
  staticTypes := #[]
  resolved := Array.replicate 37 none
  statics := none }

def pool7 : Array CpInfo := pool [(1, .methodref 2 3), (0, .class_ 4), (0, .nameAndType 5 6), (0, u "java/lang/Object"), (0, u "<init>"), (0, u "()V"), (0, .string 8), (0, u ""), (0, .fieldref 10 11), (0, .class_ 12), (0, .nameAndType 13 14), (0, u "java/lang/String"), (0, u "value"), (0, u "[B"), (0, .fieldref 10 16), (0, .nameAndType 17 18), (0, u "coder"), (0, u "B"), (2, u "hash"), (0, u "I"), (2, u "hashIsZero"), (0, u "Z"), (0, .methodref 10 28), (0, .nameAndType 5 29), (0, u "([CIILjava/lang/Void;)V"), (8, .fieldref 10 39), (0, .nameAndType 40 26), (0, u "COMPACT_STRINGS"), (1, .class_ 44), (1, u "java/lang/StringUTF16"), (0, u "compress"), (1, .methodref 42 48), (0, .nameAndType 49 50), (0, u "coderFromArrayLen"), (0, u "([BI)B"), (56, .class_ 109), (1, u "java/lang/StringLatin1"), (32, u "()Z"), (34, .methodref 42 178), (0, .nameAndType 45 179), (0, u "([CII)[B"), (154, u "()I"), (0, .methodref 10 336), (0, .nameAndType 17 337), (0, u "()B"), (25, u "([BI)C"), (27, u "(II)V"), (35, u "(I)C"), (64, .methodref 10 493), (0, .nameAndType 494 142), (0, u "isLatin1"), (0, .methodref 107 496), (0, .nameAndType 497 363), (0, u "charAt"), (3, u "checkIndex"), (5, u "length"), (33, .methodref 107 542), (0, .nameAndType 543 544), (0, u "equals"), (0, u "([B[B)Z"), (28, u "(Ljava/lang/Object;)Z"), (1, .class_ 576), (0, u "java/lang/CharSequence"), (22, u "CASE_INSENSITIVE_ORDER"), (0, u "Ljava/util/Comparator;"), (409, u "([C)V"), (42, .fieldref 1054 1055), (0, .class_ 1056), (0, .nameAndType 1057 1058), (0, u "jdk/internal/util/Preconditions"), (0, u "SIOOBE_FORMATTER"), (0, u "Ljava/util/function/BiFunction;"), (0, .methodref 1054 1060), (0, .nameAndType 501 1061), (0, u "(IILjava/util/function/BiFunction;)I"), (39, u "serialPersistentFields"), (0, u "[Ljava/io/ObjectStreamField;"), (0, .class_ 1104), (0, u "java/lang/String$CaseInsensitiveComparator"), (1, .class_ 1107), (0, u "java/io/Serializable"), (0, .class_ 1109), (0, u "java/lang/Comparable"), (0, .class_ 1111), (0, u "java/lang/constant/Constable"), (0, .class_ 1113), (0, u "java/lang/constant/ConstantDesc"), (2, u "serialVersionUID"), (0, u "J"), (3, u "REPL"), (0, u "C"), (2, u "LATIN1"), (1, u "UTF16")] 323

def k7m0 : Method := { name := "<init>", desc := "()V", sig := { parameters := [], returnType := none }, accessFlags := 1, code := none }
def k7c1 : Code := { maxStack := 5, maxLocals := 2, code := jdk_42_method_3_code, exceptionTable := #[], attributes := #[] }
def k7m1 : Method := { name := "<init>", desc := "([C)V", sig := { parameters := [(.array .char)], returnType := none }, accessFlags := 1, code := some k7c1 }
def k7c2 : Code := { maxStack := 2, maxLocals := 1, code := jdk_42_method_54_code, exceptionTable := #[], attributes := #[] }
def k7m2 : Method := { name := "length", desc := "()I", sig := { parameters := [], returnType := some .int }, accessFlags := 1, code := some k7c2 }
def k7c3 : Code := { maxStack := 2, maxLocals := 2, code := jdk_42_method_56_code, exceptionTable := #[], attributes := #[] }
def k7m3 : Method := { name := "charAt", desc := "(I)C", sig := { parameters := [.int], returnType := some .char }, accessFlags := 1, code := some k7c3 }
def k7c4 : Code := { maxStack := 2, maxLocals := 3, code := jdk_42_method_66_code, exceptionTable := #[], attributes := #[] }
def k7m4 : Method := { name := "equals", desc := "(Ljava/lang/Object;)Z", sig := { parameters := [(.object "java/lang/Object")], returnType := some .boolean }, accessFlags := 1, code := some k7c4 }
def k7c5 : Code := { maxStack := 4, maxLocals := 6, code := jdk_42_method_149_code, exceptionTable := #[], attributes := #[] }
def k7m5 : Method := { name := "<init>", desc := "([CIILjava/lang/Void;)V", sig := { parameters := [(.array .char), .int, .int, (.object "java/lang/Void")], returnType := none }, accessFlags := 2, code := some k7c5 }
def k7c6 : Code := { maxStack := 1, maxLocals := 1, code := jdk_42_method_152_code, exceptionTable := #[], attributes := #[] }
def k7m6 : Method := { name := "coder", desc := "()B", sig := { parameters := [], returnType := some .byte }, accessFlags := 0, code := some k7c6 }
def k7c7 : Code := { maxStack := 1, maxLocals := 1, code := jdk_42_method_154_code, exceptionTable := #[], attributes := #[] }
def k7m7 : Method := { name := "isLatin1", desc := "()Z", sig := { parameters := [], returnType := some .boolean }, accessFlags := 0, code := some k7c7 }
def k7c8 : Code := { maxStack := 3, maxLocals := 2, code := jdk_42_method_155_code, exceptionTable := #[], attributes := #[] }
def k7m8 : Method := { name := "checkIndex", desc := "(II)V", sig := { parameters := [.int, .int], returnType := none }, accessFlags := 8, code := some k7c8 }
/-- java/lang/String -/
def k7 : Class := { plain "java/lang/String" (some 0) with
  accessFlags := 49
  interfaces := #[2, 3, 4, 5, 6]
  cf := some (fileOf pool7 10 #[.nestMembers #[1103]] #[{ accessFlags := 1, nameIndex := 5, descriptorIndex := 6, attributes := #[] }, { accessFlags := 1, nameIndex := 5, descriptorIndex := 1010, attributes := #[] }, { accessFlags := 1, nameIndex := 507, descriptorIndex := 334, attributes := #[] }, { accessFlags := 1, nameIndex := 497, descriptorIndex := 427, attributes := #[] }, { accessFlags := 1, nameIndex := 543, descriptorIndex := 573, attributes := #[] }, { accessFlags := 2, nameIndex := 5, descriptorIndex := 29, attributes := #[] }, { accessFlags := 0, nameIndex := 17, descriptorIndex := 337, attributes := #[] }, { accessFlags := 0, nameIndex := 494, descriptorIndex := 142, attributes := #[] }, { accessFlags := 8, nameIndex := 501, descriptorIndex := 391, attributes := #[] }] 49 2 #[1106, 1108, 575, 1110, 1112] #[{ accessFlags := 18, nameIndex := 13, descriptorIndex := 14, attributes := #[] }, { accessFlags := 18, nameIndex := 17, descriptorIndex := 18, attributes := #[] }, { accessFlags := 2, nameIndex := 21, descriptorIndex := 22, attributes := #[] }, { accessFlags := 2, nameIndex := 25, descriptorIndex := 26, attributes := #[] }, { accessFlags := 26, nameIndex := 1116, descriptorIndex := 1117, attributes := #[] }, { accessFlags := 24, nameIndex := 40, descriptorIndex := 26, attributes := #[] }, { accessFlags := 26, nameIndex := 1101, descriptorIndex := 1102, attributes := #[] }, { accessFlags := 26, nameIndex := 1121, descriptorIndex := 1122, attributes := #[] }, { accessFlags := 25, nameIndex := 599, descriptorIndex := 600, attributes := #[] }, { accessFlags := 24, nameIndex := 1125, descriptorIndex := 18, attributes := #[] }, { accessFlags := 24, nameIndex := 1127, descriptorIndex := 18, attributes := #[] }])
  fields := #[{ name := "value", type := (.array .byte), accessFlags := 18, slot := 0, constantValue := 0 }, { name := "coder", type := .byte, accessFlags := 18, slot := 1, constantValue := 0 }, { name := "hash", type := .int, accessFlags := 2, slot := 2, constantValue := 0 }, { name := "hashIsZero", type := .boolean, accessFlags := 2, slot := 3, constantValue := 0 }, { name := "serialVersionUID", type := .long, accessFlags := 26, slot := 0, constantValue := 0 }, { name := "COMPACT_STRINGS", type := .boolean, accessFlags := 24, slot := 1, constantValue := 0 }, { name := "serialPersistentFields", type := (.array (.object "java/io/ObjectStreamField")), accessFlags := 26, slot := 2, constantValue := 0 }, { name := "REPL", type := .char, accessFlags := 26, slot := 3, constantValue := 0 }, { name := "CASE_INSENSITIVE_ORDER", type := (.object "java/util/Comparator"), accessFlags := 25, slot := 4, constantValue := 0 }, { name := "LATIN1", type := .byte, accessFlags := 24, slot := 5, constantValue := 0 }, { name := "UTF16", type := .byte, accessFlags := 24, slot := 6, constantValue := 0 }]
  methods := #[k7m0, k7m1, k7m2, k7m3, k7m4, k7m5, k7m6, k7m7, k7m8]
  instanceTypes := #[(.array .byte), .byte, .int, .boolean]
  staticTypes := #[.long, .boolean, (.array (.object "java/io/ObjectStreamField")), .char, (.object "java/util/Comparator"), .byte, .byte]
  resolved := Array.replicate 1451 none
  statics := some 0 }

def pool8 : Array CpInfo := pool [(2, .class_ 4), (1, u "java/lang/Enum"), (0, u "name"), (0, u "Ljava/lang/String;"), (2, u "ordinal"), (0, u "I"), (1, .class_ 14), (1, u "java/lang/Object"), (4, u "hash"), (86, .class_ 108), (1, u "java/lang/Enum$EnumDesc"), (2, .class_ 112), (0, u "java/lang/constant/Constable"), (0, .class_ 114), (0, u "java/lang/Comparable"), (0, .class_ 116), (0, u "java/io/Serializable")] 87

/-- java/lang/Enum -/
def k8 : Class := { plain "java/lang/Enum" (some 0) with
  accessFlags := 1057
  interfaces := #[5, 3, 2]
  cf := some (fileOf pool8 2 #[.nestMembers #[106]] #[] 1057 12 #[111, 113, 115] #[{ accessFlags := 18, nameIndex := 5, descriptorIndex := 6, attributes := #[] }, { accessFlags := 18, nameIndex := 9, descriptorIndex := 10, attributes := #[] }, { accessFlags := 2, nameIndex := 19, descriptorIndex := 10, attributes := #[] }])
  fields := #[{ name := "name", type := (.object "java/lang/String"), accessFlags := 18, slot := 0, constantValue := 0 }, { name := "ordinal", type := .int, accessFlags := 18, slot := 1, constantValue := 0 }, { name := "hash", type := .int, accessFlags := 2, slot := 2, constantValue := 0 }]
  methods := #[]
  instanceTypes := #[(.object "java/lang/String"), .int, .int]
  staticTypes := #[]
  resolved := Array.replicate 204 none
  statics := none }

def pool9 : Array CpInfo := pool [(1, .class_ 2), (0, u "com/example/slotsholmen/slotsholmen/schema/Section"), (2, u "ATTRIBUTES"), (0, u "Lcom/example/slotsholmen/slotsholmen/schema/Section;"), (2, u "STATES"), (2, u "RELATIONS"), (2, u "$VALUES"), (0, u "[Lcom/example/slotsholmen/slotsholmen/schema/Section;"), (6, .class_ 25), (1, u "java/lang/Enum"), (8, u "key"), (0, u "Ljava/lang/String;"), (2, u "groupNoun")] 35

/-- com/example/slotsholmen/slotsholmen/schema/Section -/
def k9 : Class := { plain "com/example/slotsholmen/slotsholmen/schema/Section" (some 8) with
  accessFlags := 16433
  interfaces := #[]
  cf := some (fileOf pool9 1 #[] #[] 16433 23 #[] #[{ accessFlags := 16409, nameIndex := 5, descriptorIndex := 6, attributes := #[] }, { accessFlags := 16409, nameIndex := 9, descriptorIndex := 6, attributes := #[] }, { accessFlags := 16409, nameIndex := 12, descriptorIndex := 6, attributes := #[] }, { accessFlags := 18, nameIndex := 34, descriptorIndex := 35, attributes := #[] }, { accessFlags := 18, nameIndex := 38, descriptorIndex := 35, attributes := #[] }, { accessFlags := 4122, nameIndex := 15, descriptorIndex := 16, attributes := #[] }])
  fields := #[{ name := "ATTRIBUTES", type := (.object "com/example/slotsholmen/slotsholmen/schema/Section"), accessFlags := 16409, slot := 0, constantValue := 0 }, { name := "STATES", type := (.object "com/example/slotsholmen/slotsholmen/schema/Section"), accessFlags := 16409, slot := 1, constantValue := 0 }, { name := "RELATIONS", type := (.object "com/example/slotsholmen/slotsholmen/schema/Section"), accessFlags := 16409, slot := 2, constantValue := 0 }, { name := "key", type := (.object "java/lang/String"), accessFlags := 18, slot := 3, constantValue := 0 }, { name := "groupNoun", type := (.object "java/lang/String"), accessFlags := 18, slot := 4, constantValue := 0 }, { name := "$VALUES", type := (.array (.object "com/example/slotsholmen/slotsholmen/schema/Section")), accessFlags := 4122, slot := 3, constantValue := 0 }]
  methods := #[]
  instanceTypes := #[(.object "java/lang/String"), .int, .int, (.object "java/lang/String"), (.object "java/lang/String")]
  staticTypes := #[(.object "com/example/slotsholmen/slotsholmen/schema/Section"), (.object "com/example/slotsholmen/slotsholmen/schema/Section"), (.object "com/example/slotsholmen/slotsholmen/schema/Section"), (.array (.object "com/example/slotsholmen/slotsholmen/schema/Section"))]
  resolved := Array.replicate 74 none
  statics := some 1 }

def pool10 : Array CpInfo := pool [(2, .class_ 4), (1, u "java/lang/Object"), (0, u "<init>"), (0, u "()V"), (0, .class_ 8), (0, u "java/lang/Record")] 13

def k10m0 : Method := { name := "<init>", desc := "()V", sig := { parameters := [], returnType := none }, accessFlags := 4, code := none }
/-- java/lang/Record -/
def k10 : Class := { plain "java/lang/Record" (some 0) with
  accessFlags := 1057
  interfaces := #[]
  cf := some (fileOf pool10 7 #[] #[{ accessFlags := 4, nameIndex := 5, descriptorIndex := 6, attributes := #[] }] 1057 2 #[] #[])
  fields := #[]
  methods := #[k10m0]
  instanceTypes := #[]
  staticTypes := #[]
  resolved := Array.replicate 22 none
  statics := none }

def pool11 : Array CpInfo := pool [(2, .class_ 4), (1, u "java/lang/Record"), (3, .class_ 10), (1, u "com/example/slotsholmen/slotsholmen/schema/Group"), (0, u "name"), (0, u "Ljava/lang/String;"), (2, u "fields"), (0, u "Ljava/util/List;"), (13, .string 31), (0, u "uuid"), (0, .class_ 33), (0, u "java/lang/String"), (3, .string 38), (0, u "urn"), (0, .string 40), (0, u "objekttype"), (14, .fieldref 56 57), (0, .class_ 58), (0, .nameAndType 59 60), (0, u "com/example/slotsholmen/slotsholmen/schema/Section"), (0, u "RELATIONS"), (0, u "Lcom/example/slotsholmen/slotsholmen/schema/Section;"), (0, .methodref 32 62), (0, .nameAndType 63 64), (0, u "equals"), (0, u "(Ljava/lang/Object;)Z"), (47, u "RELATION_UUID"), (1, u "RELATION_URN"), (0, u "RELATION_OBJECT_TYPE"), (7, u "pointsAtTarget"), (0, u "(Lcom/example/slotsholmen/slotsholmen/schema/Section;Ljava/lang/String;)Z")] 56

def k11c0 : Code := { maxStack := 2, maxLocals := 2, code := prog_32_method_4_code, exceptionTable := #[], attributes := #[] }
def k11m0 : Method := { name := "pointsAtTarget", desc := "(Lcom/example/slotsholmen/slotsholmen/schema/Section;Ljava/lang/String;)Z", sig := { parameters := [(.object "com/example/slotsholmen/slotsholmen/schema/Section"), (.object "java/lang/String")], returnType := some .boolean }, accessFlags := 9, code := some k11c0 }
/-- com/example/slotsholmen/slotsholmen/schema/Group -/
def k11 : Class := { plain "com/example/slotsholmen/slotsholmen/schema/Group" (some 10) with
  accessFlags := 49
  interfaces := #[]
  cf := some (fileOf pool11 8 #[] #[{ accessFlags := 9, nameIndex := 123, descriptorIndex := 124, attributes := #[] }] 49 2 #[] #[{ accessFlags := 18, nameIndex := 11, descriptorIndex := 12, attributes := #[] }, { accessFlags := 18, nameIndex := 15, descriptorIndex := 16, attributes := #[] }, { accessFlags := 25, nameIndex := 112, descriptorIndex := 12, attributes := #[] }, { accessFlags := 25, nameIndex := 114, descriptorIndex := 12, attributes := #[] }, { accessFlags := 25, nameIndex := 115, descriptorIndex := 12, attributes := #[] }])
  fields := #[{ name := "name", type := (.object "java/lang/String"), accessFlags := 18, slot := 0, constantValue := 0 }, { name := "fields", type := (.object "java/util/List"), accessFlags := 18, slot := 1, constantValue := 0 }, { name := "RELATION_UUID", type := (.object "java/lang/String"), accessFlags := 25, slot := 0, constantValue := 0 }, { name := "RELATION_URN", type := (.object "java/lang/String"), accessFlags := 25, slot := 1, constantValue := 0 }, { name := "RELATION_OBJECT_TYPE", type := (.object "java/lang/String"), accessFlags := 25, slot := 2, constantValue := 0 }]
  methods := #[k11m0]
  instanceTypes := #[(.object "java/lang/String"), (.object "java/util/List")]
  staticTypes := #[(.object "java/lang/String"), (.object "java/lang/String"), (.object "java/lang/String")]
  resolved := Array.replicate 181 none
  statics := none }

def pool12 : Array CpInfo := pool [(1, .class_ 2), (0, u "java/lang/String"), (1, .class_ 6), (1, u "java/lang/Object"), (0, u "<init>"), (0, u "()V"), (0, .methodref 1 10), (0, .nameAndType 11 12), (0, u "checkIndex"), (0, u "(II)V"), (1, .class_ 16), (1, u "java/lang/StringLatin1"), (36, u "([BI)C"), (67, u "$assertionsDisabled"), (0, u "Z"), (98, .class_ 223), (1, u "java/lang/StringLatin1$LinesSpliterator"), (28, u "charAt"), (28, u "equals"), (0, u "([B[B)Z"), (107, .class_ 391), (0, u "java/lang/StringLatin1$CharsSpliterator")] 3

def k12m0 : Method := { name := "<init>", desc := "()V", sig := { parameters := [], returnType := none }, accessFlags := 0, code := none }
def k12c1 : Code := { maxStack := 2, maxLocals := 2, code := jdk_43_method_2_code, exceptionTable := #[], attributes := #[] }
def k12m1 : Method := { name := "charAt", desc := "([BI)C", sig := { parameters := [(.array .byte), .int], returnType := some .char }, accessFlags := 9, code := some k12c1 }
def k12c2 : Code := { maxStack := 3, maxLocals := 3, code := jdk_43_method_13_code, exceptionTable := #[], attributes := #[] }
def k12m2 : Method := { name := "equals", desc := "([B[B)Z", sig := { parameters := [(.array .byte), (.array .byte)], returnType := some .boolean }, accessFlags := 9, code := some k12c2 }
/-- java/lang/StringLatin1 -/
def k12 : Class := { plain "java/lang/StringLatin1" (some 0) with
  accessFlags := 48
  interfaces := #[]
  cf := some (fileOf pool12 14 #[.nestMembers #[390, 221]] #[{ accessFlags := 0, nameIndex := 7, descriptorIndex := 8, attributes := #[] }, { accessFlags := 9, nameIndex := 252, descriptorIndex := 53, attributes := #[] }, { accessFlags := 9, nameIndex := 281, descriptorIndex := 282, attributes := #[] }] 48 4 #[] #[{ accessFlags := 4120, nameIndex := 121, descriptorIndex := 122, attributes := #[] }])
  fields := #[{ name := "$assertionsDisabled", type := .boolean, accessFlags := 4120, slot := 0, constantValue := 0 }]
  methods := #[k12m0, k12m1, k12m2]
  instanceTypes := #[]
  staticTypes := #[.boolean]
  resolved := Array.replicate 395 none
  statics := none }

def pool13 : Array CpInfo := pool [(2, .class_ 4), (1, u "java/lang/Object"), (0, u "<init>"), (0, u "()V"), (17, .class_ 26), (1, u "jdk/internal/util/Preconditions"), (6, u "checkIndex"), (21, .class_ 56), (0, u "jdk/internal/util/Preconditions$4"), (57, .class_ 115), (0, u "jdk/internal/util/Preconditions$1"), (7, u "SIOOBE_FORMATTER"), (0, u "Ljava/util/function/BiFunction;"), (0, .class_ 126), (0, u "jdk/internal/util/Preconditions$2"), (3, u "AIOOBE_FORMATTER"), (0, .class_ 132), (0, u "jdk/internal/util/Preconditions$3"), (3, u "IOOBE_FORMATTER"), (41, u "(IILjava/util/function/BiFunction;)I")] 15

def k13m0 : Method := { name := "<init>", desc := "()V", sig := { parameters := [], returnType := none }, accessFlags := 1, code := none }
def k13c1 : Code := { maxStack := 3, maxLocals := 3, code := jdk_41_method_11_code, exceptionTable := #[], attributes := #[] }
def k13m1 : Method := { name := "checkIndex", desc := "(IILjava/util/function/BiFunction;)I", sig := { parameters := [.int, .int, (.object "java/util/function/BiFunction")], returnType := some .int }, accessFlags := 9, code := some k13c1 }
/-- jdk/internal/util/Preconditions -/
def k13 : Class := { plain "jdk/internal/util/Preconditions" (some 0) with
  accessFlags := 33
  interfaces := #[]
  cf := some (fileOf pool13 24 #[.nestMembers #[55, 131, 125, 114]] #[{ accessFlags := 1, nameIndex := 5, descriptorIndex := 6, attributes := #[] }, { accessFlags := 9, nameIndex := 33, descriptorIndex := 178, attributes := #[] }] 33 2 #[] #[{ accessFlags := 25, nameIndex := 123, descriptorIndex := 124, attributes := #[] }, { accessFlags := 25, nameIndex := 130, descriptorIndex := 124, attributes := #[] }, { accessFlags := 25, nameIndex := 136, descriptorIndex := 124, attributes := #[] }])
  fields := #[{ name := "SIOOBE_FORMATTER", type := (.object "java/util/function/BiFunction"), accessFlags := 25, slot := 0, constantValue := 0 }, { name := "AIOOBE_FORMATTER", type := (.object "java/util/function/BiFunction"), accessFlags := 25, slot := 1, constantValue := 0 }, { name := "IOOBE_FORMATTER", type := (.object "java/util/function/BiFunction"), accessFlags := 25, slot := 2, constantValue := 0 }]
  methods := #[k13m0, k13m1]
  instanceTypes := #[]
  staticTypes := #[(.object "java/util/function/BiFunction"), (.object "java/util/function/BiFunction"), (.object "java/util/function/BiFunction")]
  resolved := Array.replicate 194 none
  statics := some 2 }

def pool14 : Array CpInfo := pool [(6, .class_ 8), (1, u "java/lang/Object"), (0, u "<init>"), (0, u "()V"), (1, .class_ 14), (1, u "java/lang/StringUTF16"), (31, u "$assertionsDisabled"), (0, u "Z"), (13, u "HI_BYTE_SHIFT"), (0, u "I"), (2, u "LO_BYTE_SHIFT"), (49, .methodref 12 116), (0, .nameAndType 117 118), (0, u "compress"), (0, u "([CI[BII)I"), (3, u "([CII)[B"), (138, u "coderFromArrayLen"), (0, u "([BI)B"), (106, .class_ 371), (1, u "java/lang/StringUTF16$LinesSpliterator"), (58, u "MAX_LENGTH"), (196, .class_ 628), (0, u "java/lang/StringUTF16$CodePointsSpliterator"), (0, .class_ 630), (0, u "java/lang/StringUTF16$CharsSpliterator")] 4

def k14m0 : Method := { name := "<init>", desc := "()V", sig := { parameters := [], returnType := none }, accessFlags := 0, code := none }
def k14c1 : Code := { maxStack := 2, maxLocals := 2, code := jdk_52_method_15_code, exceptionTable := #[], attributes := #[] }
def k14m1 : Method := { name := "coderFromArrayLen", desc := "([BI)B", sig := { parameters := [(.array .byte), .int], returnType := some .byte }, accessFlags := 8, code := some k14c1 }
def k14c2 : Code := { maxStack := 5, maxLocals := 6, code := jdk_52_method_16_code, exceptionTable := #[], attributes := #[] }
def k14m2 : Method := { name := "compress", desc := "([CII)[B", sig := { parameters := [(.array .char), .int, .int], returnType := some (.array .byte) }, accessFlags := 9, code := some k14c2 }
def k14c3 : Code := { maxStack := 3, maxLocals := 7, code := jdk_52_method_21_code, exceptionTable := #[], attributes := #[] }
def k14m3 : Method := { name := "compress", desc := "([CI[BII)I", sig := { parameters := [(.array .char), .int, (.array .byte), .int, .int], returnType := some .int }, accessFlags := 9, code := some k14c3 }
/-- java/lang/StringUTF16 -/
def k14 : Class := { plain "java/lang/StringUTF16" (some 0) with
  accessFlags := 48
  interfaces := #[]
  cf := some (fileOf pool14 12 #[.nestMembers #[627, 629, 369]] #[{ accessFlags := 0, nameIndex := 9, descriptorIndex := 10, attributes := #[] }, { accessFlags := 8, nameIndex := 261, descriptorIndex := 262, attributes := #[] }, { accessFlags := 9, nameIndex := 117, descriptorIndex := 122, attributes := #[] }, { accessFlags := 9, nameIndex := 117, descriptorIndex := 118, attributes := #[] }] 48 6 #[] #[{ accessFlags := 26, nameIndex := 61, descriptorIndex := 62, attributes := #[] }, { accessFlags := 26, nameIndex := 65, descriptorIndex := 62, attributes := #[] }, { accessFlags := 24, nameIndex := 430, descriptorIndex := 62, attributes := #[] }, { accessFlags := 4120, nameIndex := 46, descriptorIndex := 47, attributes := #[] }])
  fields := #[{ name := "HI_BYTE_SHIFT", type := .int, accessFlags := 26, slot := 0, constantValue := 0 }, { name := "LO_BYTE_SHIFT", type := .int, accessFlags := 26, slot := 1, constantValue := 0 }, { name := "MAX_LENGTH", type := .int, accessFlags := 24, slot := 2, constantValue := 0 }, { name := "$assertionsDisabled", type := .boolean, accessFlags := 4120, slot := 3, constantValue := 0 }]
  methods := #[k14m0, k14m1, k14m2, k14m3]
  instanceTypes := #[]
  staticTypes := #[.int, .int, .int, .boolean]
  resolved := Array.replicate 635 none
  statics := none }

def pool15 : Array CpInfo := pool [(9, u "<init>"), (6, .class_ 18), (1, u "java/lang/Object"), (0, u "()V"), (1, .class_ 23), (1, u "jdk/internal/util/ArraysSupport"), (0, u "LOG2_ARRAY_LONG_INDEX_SCALE"), (0, u "I"), (2, u "U"), (0, u "Ljdk/internal/misc/Unsafe;"), (8, u "BIG_ENDIAN"), (0, u "Z"), (8, u "LOG2_BYTE_BIT_SIZE"), (4, u "LOG2_ARRAY_INT_INDEX_SCALE"), (54, u "JLA"), (0, u "Ljdk/internal/access/JavaLangAccess;"), (11, u "LOG2_ARRAY_BOOLEAN_INDEX_SCALE"), (9, u "LOG2_ARRAY_BYTE_INDEX_SCALE"), (5, u "LOG2_ARRAY_CHAR_INDEX_SCALE"), (5, u "LOG2_ARRAY_SHORT_INDEX_SCALE"), (18, u "LOG2_ARRAY_FLOAT_INDEX_SCALE"), (24, u "LOG2_ARRAY_DOUBLE_INDEX_SCALE"), (89, u "T_BOOLEAN"), (2, u "T_CHAR"), (1, u "T_FLOAT"), (1, u "T_DOUBLE"), (1, u "T_BYTE"), (1, u "T_SHORT"), (1, u "T_INT"), (1, u "T_LONG"), (1, u "SOFT_MAX_ARRAY_LENGTH")] 83

def k15m0 : Method := { name := "<init>", desc := "()V", sig := { parameters := [], returnType := none }, accessFlags := 2, code := none }
/-- jdk/internal/util/ArraysSupport -/
def k15 : Class := { plain "jdk/internal/util/ArraysSupport" (some 0) with
  accessFlags := 33
  interfaces := #[]
  cf := some (fileOf pool15 21 #[] #[{ accessFlags := 2, nameIndex := 9, descriptorIndex := 19, attributes := #[] }] 33 16 #[] #[{ accessFlags := 24, nameIndex := 28, descriptorIndex := 29, attributes := #[] }, { accessFlags := 26, nameIndex := 38, descriptorIndex := 39, attributes := #[] }, { accessFlags := 25, nameIndex := 121, descriptorIndex := 25, attributes := #[] }, { accessFlags := 25, nameIndex := 131, descriptorIndex := 25, attributes := #[] }, { accessFlags := 25, nameIndex := 137, descriptorIndex := 25, attributes := #[] }, { accessFlags := 25, nameIndex := 143, descriptorIndex := 25, attributes := #[] }, { accessFlags := 25, nameIndex := 53, descriptorIndex := 25, attributes := #[] }, { accessFlags := 25, nameIndex := 24, descriptorIndex := 25, attributes := #[] }, { accessFlags := 25, nameIndex := 162, descriptorIndex := 25, attributes := #[] }, { accessFlags := 25, nameIndex := 187, descriptorIndex := 25, attributes := #[] }, { accessFlags := 26, nameIndex := 48, descriptorIndex := 25, attributes := #[] }, { accessFlags := 25, nameIndex := 277, descriptorIndex := 25, attributes := #[] }, { accessFlags := 25, nameIndex := 280, descriptorIndex := 25, attributes := #[] }, { accessFlags := 25, nameIndex := 282, descriptorIndex := 25, attributes := #[] }, { accessFlags := 25, nameIndex := 284, descriptorIndex := 25, attributes := #[] }, { accessFlags := 25, nameIndex := 286, descriptorIndex := 25, attributes := #[] }, { accessFlags := 25, nameIndex := 288, descriptorIndex := 25, attributes := #[] }, { accessFlags := 25, nameIndex := 290, descriptorIndex := 25, attributes := #[] }, { accessFlags := 25, nameIndex := 292, descriptorIndex := 25, attributes := #[] }, { accessFlags := 26, nameIndex := 108, descriptorIndex := 109, attributes := #[] }, { accessFlags := 25, nameIndex := 294, descriptorIndex := 25, attributes := #[] }])
  fields := #[{ name := "U", type := (.object "jdk/internal/misc/Unsafe"), accessFlags := 24, slot := 0, constantValue := 0 }, { name := "BIG_ENDIAN", type := .boolean, accessFlags := 26, slot := 1, constantValue := 0 }, { name := "LOG2_ARRAY_BOOLEAN_INDEX_SCALE", type := .int, accessFlags := 25, slot := 2, constantValue := 0 }, { name := "LOG2_ARRAY_BYTE_INDEX_SCALE", type := .int, accessFlags := 25, slot := 3, constantValue := 0 }, { name := "LOG2_ARRAY_CHAR_INDEX_SCALE", type := .int, accessFlags := 25, slot := 4, constantValue := 0 }, { name := "LOG2_ARRAY_SHORT_INDEX_SCALE", type := .int, accessFlags := 25, slot := 5, constantValue := 0 }, { name := "LOG2_ARRAY_INT_INDEX_SCALE", type := .int, accessFlags := 25, slot := 6, constantValue := 0 }, { name := "LOG2_ARRAY_LONG_INDEX_SCALE", type := .int, accessFlags := 25, slot := 7, constantValue := 0 }, { name := "LOG2_ARRAY_FLOAT_INDEX_SCALE", type := .int, accessFlags := 25, slot := 8, constantValue := 0 }, { name := "LOG2_ARRAY_DOUBLE_INDEX_SCALE", type := .int, accessFlags := 25, slot := 9, constantValue := 0 }, { name := "LOG2_BYTE_BIT_SIZE", type := .int, accessFlags := 26, slot := 10, constantValue := 0 }, { name := "T_BOOLEAN", type := .int, accessFlags := 25, slot := 11, constantValue := 0 }, { name := "T_CHAR", type := .int, accessFlags := 25, slot := 12, constantValue := 0 }, { name := "T_FLOAT", type := .int, accessFlags := 25, slot := 13, constantValue := 0 }, { name := "T_DOUBLE", type := .int, accessFlags := 25, slot := 14, constantValue := 0 }, { name := "T_BYTE", type := .int, accessFlags := 25, slot := 15, constantValue := 0 }, { name := "T_SHORT", type := .int, accessFlags := 25, slot := 16, constantValue := 0 }, { name := "T_INT", type := .int, accessFlags := 25, slot := 17, constantValue := 0 }, { name := "T_LONG", type := .int, accessFlags := 25, slot := 18, constantValue := 0 }, { name := "JLA", type := (.object "jdk/internal/access/JavaLangAccess"), accessFlags := 26, slot := 19, constantValue := 0 }, { name := "SOFT_MAX_ARRAY_LENGTH", type := .int, accessFlags := 25, slot := 20, constantValue := 0 }]
  methods := #[k15m0]
  instanceTypes := #[]
  staticTypes := #[(.object "jdk/internal/misc/Unsafe"), .boolean, .int, .int, .int, .int, .int, .int, .int, .int, .int, .int, .int, .int, .int, .int, .int, .int, .int, (.object "jdk/internal/access/JavaLangAccess"), .int]
  resolved := Array.replicate 378 none
  statics := none }

def pool16 : Array CpInfo := pool [(1, u "java/lang/Cloneable"), (0, .class_ 1), (0, u "java/lang/Object"), (0, .class_ 3)] 3

/-- java/lang/Cloneable -/
def k16 : Class := { plain "java/lang/Cloneable" (some 0) with
  accessFlags := 1537
  interfaces := #[]
  cf := some (fileOf pool16 2 #[] #[] 1537 4 #[] #[])
  fields := #[]
  methods := #[]
  instanceTypes := #[]
  staticTypes := #[]
  resolved := Array.replicate 8 none
  statics := none }

/-- the primitive byte -/
def k17 : Class := { plain "byte" none with kind := .primitive 'B', accessFlags := 0x411 }
/-- [B -/
def k18 : Class := { plain "[B" (some 0) with kind := .array 17 .byte, interfaces := #[16, 2], accessFlags := 1041 }

/-- the primitive char -/
def k19 : Class := { plain "char" none with kind := .primitive 'C', accessFlags := 0x411 }
/-- [C -/
def k20 : Class := { plain "[C" (some 0) with kind := .array 19 .char, interfaces := #[16, 2], accessFlags := 1041 }

/-- the primitive int -/
def k21 : Class := { plain "int" none with kind := .primitive 'I', accessFlags := 0x411 }
/-- [I -/
def k22 : Class := { plain "[I" (some 0) with kind := .array 21 .int, interfaces := #[16, 2], accessFlags := 1041 }

def heap : Heap := #[{ cls := 7, slots := #[.long 0, .int 1, .null, .int 0, .null, .int 0, .int 0], vm := .statics 7 },
  { cls := 9, slots := #[.ref 3, .ref 4, .ref 5, .null], vm := .statics 9 },
  { cls := 13, slots := #[.null, .null, .null], vm := .statics 13 },
  { cls := 9, slots := #[.null, .int 0, .int 0, .null, .null], vm := .none },
  { cls := 9, slots := #[.null, .int 1, .int 0, .null, .null], vm := .none },
  { cls := 9, slots := #[.null, .int 2, .int 0, .null, .null], vm := .none }]
def classes : Array Class := #[k0, k1, k2, k3, k4, k5, k6, k7, k8, k9, k10, k11, k12, k13, k14, k15, k16, k17, k18, k19, k20, k21, k22]
def interned : List (Array UInt16 × Addr) := []
def slotsUsed : Nat := 29
def theMethod : MethodId := ⟨1, 4⟩
def args0 : Array Value := #[.int 3, .int 4, .int 5, .int 6, .int 7]
def aboutOver (below : List Frame) : State where
  vm := { classes := classes, interned := interned.toArray }
  heap := heap
  slotsUsed := slotsUsed
  threads := #[{ frames := .invoking theMethod args0 :: below }]
def below0 : List Frame := [.native { method := ⟨0, 0⟩, args := #[] }]
def about1 : State := aboutOver below0
def p0 : Program := .bare "" "" ""
def e0 : Env := launch0.env 0 0 0
theorem w_frames : about1.frames = Frame.invoking theMethod args0 :: below0 := rfl
set_option maxRecDepth 65536 in
theorem w_args : argsFit about1.vm theMethod args0 = true := by decide +kernel
set_option maxRecDepth 65536 in
theorem w_heap : heapFits about1 = true := by decide +kernel
set_option maxRecDepth 65536 in
theorem w_runnable : about1.curStatus? = some .runnable := by decide +kernel
set_option maxRecDepth 65536 in
theorem w_alone : about1.alone = true := by decide +kernel
set_option maxRecDepth 65536 in
theorem w_named : about1.methodNamed? x = some theMethod := by decide +kernel
set_option maxRecDepth 65536 in
theorem w_hears : about1.hears theMethod below0 = true := by decide +kernel
set_option maxRecDepth 65536 in
theorem w_ripe : about1.ripe theMethod args0 below0 = true := by decide +kernel
theorem w_running : about1.status = .running := rfl
set_option maxRecDepth 65536 in
theorem w_room : about1.hasRoom e0.platform room_1 = true :=
  launch0.hasRoom_least _ room_1 (by decide +kernel) (by decide +kernel) (by decide +kernel) (by decide +kernel) (by decide +kernel) (by decide +kernel)
theorem allAtoms_all (ts : List Jvm.Cond) (a : Array Jvm.Value) (st : Jvm.State) : (allAtoms ts).before a st = ts.all (fun c => c.before a st) := by
  induction ts with
  | nil => rfl
  | cons c t ih =>
    show (Jvm.Cond.and c (allAtoms t)).before a st = _
    rw [Jvm.Cond.before_and, ih, List.all_cons]
def words1 : List Jvm.Cond := Jvm.Cond.code x code maxLocals ret :: tables_1
/-- a 'code' word, met by the world's own term for the bytes: nothing is compared byte by byte -/
theorem code_word {y : MethodName} {bytes : ByteArray} {mx : Nat} {rt : Option FieldType} {a : Array Value} {s : State} {m : MethodId} {meth : Method} {c : Code} (h1 : s.methodNamed? y = some m) (h2 : s.vm.method? m = some meth) (h3 : meth.code = some c) (h4 : c.code = bytes)
    (h5 : (c.maxLocals == mx && c.exceptionTable.isEmpty && decide (c.maxStack ≤ mostOperands) && decide (meth.sig.returnType = rt) && !meth.locks && decide (parseMethodDescriptor y.desc = some meth.sig)) = true) : (Jvm.Cond.code y bytes mx rt).before a s = true := by
  simp only [Bool.and_eq_true, beq_iff_eq, Bool.not_eq_true', decide_eq_true_eq] at h5
  obtain ⟨⟨⟨⟨⟨g1, g2⟩, g3⟩, g4⟩, g5⟩, g6⟩ := h5
  simp [Cond.before, Cond.holds, Cond.value, h1, h2, h3, h4, g1, g2, g3, g4, g5, g6]
def isCode : Jvm.Cond → Bool
  | .code _ _ _ _ => true
  | _ => false
theorem all_split {L : List Jvm.Cond} {P : Jvm.Cond → Bool} (h1 : L.all (fun c => isCode c || P c) = true) (h2 : ∀ c ∈ L.filter isCode, P c = true) : L.all P = true := by
  refine List.all_eq_true.mpr fun c hc => ?_
  have h := List.all_eq_true.mp h1 c hc
  rcases Bool.eq_false_or_eq_true (isCode c) with hi | hi
  · exact h2 c (List.mem_filter.mpr ⟨hc, hi⟩)
  · simpa [hi] using h
set_option maxRecDepth 65536 in
theorem w_c0 : (Jvm.Cond.code x code maxLocals ret).before args0 about1 = true := code_word (m := ⟨1, 4⟩) (meth := k1m4) (c := k1c4) (by decide +kernel) rfl rfl rfl (by decide +kernel)
set_option maxRecDepth 65536 in
theorem w_c1 : (Jvm.Cond.code ({ cls := "com/example/slotsholmen/slotsholmen/schema/GroupPointsAtTargetPinLaw", name := "word", desc := "(I)Ljava/lang/String;" } : Jvm.MethodName) method_2_code (1 : Nat) (Option.some (Jvm.ClassFile.FieldType.object "java/lang/String"))).before args0 about1 = true := code_word (m := ⟨1, 1⟩) (meth := k1m1) (c := k1c1) (by decide +kernel) rfl rfl rfl (by decide +kernel)
set_option maxRecDepth 65536 in
theorem w_c2 : (Jvm.Cond.code ({ cls := "java/lang/String", name := "length", desc := "()I" } : Jvm.MethodName) jdk_42_method_54_code (1 : Nat) (Option.some Jvm.ClassFile.FieldType.int)).before args0 about1 = true := code_word (m := ⟨7, 2⟩) (meth := k7m2) (c := k7c2) (by decide +kernel) rfl rfl rfl (by decide +kernel)
set_option maxRecDepth 65536 in
theorem w_c3 : (Jvm.Cond.code ({ cls := "java/lang/String", name := "coder", desc := "()B" } : Jvm.MethodName) jdk_42_method_152_code (1 : Nat) (Option.some Jvm.ClassFile.FieldType.byte)).before args0 about1 = true := code_word (m := ⟨7, 6⟩) (meth := k7m6) (c := k7c6) (by decide +kernel) rfl rfl rfl (by decide +kernel)
set_option maxRecDepth 65536 in
theorem w_c4 : (Jvm.Cond.code ({ cls := "java/lang/String", name := "<init>", desc := "([C)V" } : Jvm.MethodName) jdk_42_method_3_code (2 : Nat) (Option.none : Option Jvm.ClassFile.FieldType)).before args0 about1 = true := code_word (m := ⟨7, 1⟩) (meth := k7m1) (c := k7c1) (by decide +kernel) rfl rfl rfl (by decide +kernel)
set_option maxRecDepth 65536 in
theorem w_c5 : (Jvm.Cond.code ({ cls := "java/lang/String", name := "<init>", desc := "([CIILjava/lang/Void;)V" } : Jvm.MethodName) jdk_42_method_149_code (6 : Nat) (Option.none : Option Jvm.ClassFile.FieldType)).before args0 about1 = true := code_word (m := ⟨7, 5⟩) (meth := k7m5) (c := k7c5) (by decide +kernel) rfl rfl rfl (by decide +kernel)
set_option maxRecDepth 65536 in
theorem w_c6 : (Jvm.Cond.code ({ cls := "java/lang/Object", name := "<init>", desc := "()V" } : Jvm.MethodName) object_method_1_code (1 : Nat) (Option.none : Option Jvm.ClassFile.FieldType)).before args0 about1 = true := code_word (m := ⟨0, 0⟩) (meth := k0m0) (c := k0c0) (by decide +kernel) rfl rfl rfl (by decide +kernel)
set_option maxRecDepth 65536 in
theorem w_c7 : (Jvm.Cond.code ({ cls := "com/example/slotsholmen/slotsholmen/schema/GroupPointsAtTargetPinLaw", name := "section", desc := "(I)Lcom/example/slotsholmen/slotsholmen/schema/Section;" } : Jvm.MethodName) method_3_code (1 : Nat) (Option.some (Jvm.ClassFile.FieldType.object "com/example/slotsholmen/slotsholmen/schema/Section"))).before args0 about1 = true := code_word (m := ⟨1, 2⟩) (meth := k1m2) (c := k1c2) (by decide +kernel) rfl rfl rfl (by decide +kernel)
set_option maxRecDepth 65536 in
theorem w_c8 : (Jvm.Cond.code ({ cls := "com/example/slotsholmen/slotsholmen/schema/Group", name := "pointsAtTarget", desc := "(Lcom/example/slotsholmen/slotsholmen/schema/Section;Ljava/lang/String;)Z" } : Jvm.MethodName) prog_32_method_4_code (2 : Nat) (Option.some Jvm.ClassFile.FieldType.boolean)).before args0 about1 = true := code_word (m := ⟨11, 0⟩) (meth := k11m0) (c := k11c0) (by decide +kernel) rfl rfl rfl (by decide +kernel)
set_option maxRecDepth 65536 in
theorem w_c9 : (Jvm.Cond.code ({ cls := "com/example/slotsholmen/slotsholmen/schema/GroupPointsAtTargetPinLaw", name := "cell", desc := "(Ljava/lang/String;IICI)C" } : Jvm.MethodName) method_4_code (5 : Nat) (Option.some Jvm.ClassFile.FieldType.char)).before args0 about1 = true := code_word (m := ⟨1, 3⟩) (meth := k1m3) (c := k1c3) (by decide +kernel) rfl rfl rfl (by decide +kernel)
set_option maxRecDepth 65536 in
theorem w_c10 : (Jvm.Cond.code ({ cls := "java/lang/String", name := "charAt", desc := "(I)C" } : Jvm.MethodName) jdk_42_method_56_code (2 : Nat) (Option.some Jvm.ClassFile.FieldType.char)).before args0 about1 = true := code_word (m := ⟨7, 3⟩) (meth := k7m3) (c := k7c3) (by decide +kernel) rfl rfl rfl (by decide +kernel)
set_option maxRecDepth 65536 in
theorem w_c11 : (Jvm.Cond.code ({ cls := "java/lang/String", name := "isLatin1", desc := "()Z" } : Jvm.MethodName) jdk_42_method_154_code (1 : Nat) (Option.some Jvm.ClassFile.FieldType.boolean)).before args0 about1 = true := code_word (m := ⟨7, 7⟩) (meth := k7m7) (c := k7c7) (by decide +kernel) rfl rfl rfl (by decide +kernel)
set_option maxRecDepth 65536 in
theorem w_c12 : (Jvm.Cond.code ({ cls := "java/lang/StringLatin1", name := "charAt", desc := "([BI)C" } : Jvm.MethodName) jdk_43_method_2_code (2 : Nat) (Option.some Jvm.ClassFile.FieldType.char)).before args0 about1 = true := code_word (m := ⟨12, 1⟩) (meth := k12m1) (c := k12c1) (by decide +kernel) rfl rfl rfl (by decide +kernel)
set_option maxRecDepth 65536 in
theorem w_c13 : (Jvm.Cond.code ({ cls := "java/lang/String", name := "checkIndex", desc := "(II)V" } : Jvm.MethodName) jdk_42_method_155_code (2 : Nat) (Option.none : Option Jvm.ClassFile.FieldType)).before args0 about1 = true := code_word (m := ⟨7, 8⟩) (meth := k7m8) (c := k7c8) (by decide +kernel) rfl rfl rfl (by decide +kernel)
set_option maxRecDepth 65536 in
theorem w_c14 : (Jvm.Cond.code ({ cls := "jdk/internal/util/Preconditions", name := "checkIndex", desc := "(IILjava/util/function/BiFunction;)I" } : Jvm.MethodName) jdk_41_method_11_code (3 : Nat) (Option.some Jvm.ClassFile.FieldType.int)).before args0 about1 = true := code_word (m := ⟨13, 1⟩) (meth := k13m1) (c := k13c1) (by decide +kernel) rfl rfl rfl (by decide +kernel)
set_option maxRecDepth 65536 in
theorem w_c15 : (Jvm.Cond.code ({ cls := "java/lang/StringUTF16", name := "compress", desc := "([CII)[B" } : Jvm.MethodName) jdk_52_method_16_code (6 : Nat) (Option.some (Jvm.ClassFile.FieldType.array Jvm.ClassFile.FieldType.byte))).before args0 about1 = true := code_word (m := ⟨14, 2⟩) (meth := k14m2) (c := k14c2) (by decide +kernel) rfl rfl rfl (by decide +kernel)
set_option maxRecDepth 65536 in
theorem w_c16 : (Jvm.Cond.code ({ cls := "java/lang/StringUTF16", name := "compress", desc := "([CI[BII)I" } : Jvm.MethodName) jdk_52_method_21_code (7 : Nat) (Option.some Jvm.ClassFile.FieldType.int)).before args0 about1 = true := code_word (m := ⟨14, 3⟩) (meth := k14m3) (c := k14c3) (by decide +kernel) rfl rfl rfl (by decide +kernel)
set_option maxRecDepth 65536 in
theorem w_c17 : (Jvm.Cond.code ({ cls := "java/lang/StringUTF16", name := "coderFromArrayLen", desc := "([BI)B" } : Jvm.MethodName) jdk_52_method_15_code (2 : Nat) (Option.some Jvm.ClassFile.FieldType.byte)).before args0 about1 = true := code_word (m := ⟨14, 1⟩) (meth := k14m1) (c := k14c1) (by decide +kernel) rfl rfl rfl (by decide +kernel)
set_option maxRecDepth 65536 in
theorem w_c18 : (Jvm.Cond.code ({ cls := "java/lang/String", name := "equals", desc := "(Ljava/lang/Object;)Z" } : Jvm.MethodName) jdk_42_method_66_code (3 : Nat) (Option.some Jvm.ClassFile.FieldType.boolean)).before args0 about1 = true := code_word (m := ⟨7, 4⟩) (meth := k7m4) (c := k7c4) (by decide +kernel) rfl rfl rfl (by decide +kernel)
set_option maxRecDepth 65536 in
theorem w_c19 : (Jvm.Cond.code ({ cls := "java/lang/StringLatin1", name := "equals", desc := "([B[B)Z" } : Jvm.MethodName) jdk_43_method_13_code (3 : Nat) (Option.some Jvm.ClassFile.FieldType.boolean)).before args0 about1 = true := code_word (m := ⟨12, 2⟩) (meth := k12m2) (c := k12c2) (by decide +kernel) rfl rfl rfl (by decide +kernel)
def codes1 : List Jvm.Cond := [Jvm.Cond.code x code maxLocals ret, Jvm.Cond.code ({ cls := "com/example/slotsholmen/slotsholmen/schema/GroupPointsAtTargetPinLaw", name := "word", desc := "(I)Ljava/lang/String;" } : Jvm.MethodName) method_2_code (1 : Nat) (Option.some (Jvm.ClassFile.FieldType.object "java/lang/String")), Jvm.Cond.code ({ cls := "java/lang/String", name := "length", desc := "()I" } : Jvm.MethodName) jdk_42_method_54_code (1 : Nat) (Option.some Jvm.ClassFile.FieldType.int), Jvm.Cond.code ({ cls := "java/lang/String", name := "coder", desc := "()B" } : Jvm.MethodName) jdk_42_method_152_code (1 : Nat) (Option.some Jvm.ClassFile.FieldType.byte), Jvm.Cond.code ({ cls := "java/lang/String", name := "<init>", desc := "([C)V" } : Jvm.MethodName) jdk_42_method_3_code (2 : Nat) (Option.none : Option Jvm.ClassFile.FieldType), Jvm.Cond.code ({ cls := "java/lang/String", name := "<init>", desc := "([CIILjava/lang/Void;)V" } : Jvm.MethodName) jdk_42_method_149_code (6 : Nat) (Option.none : Option Jvm.ClassFile.FieldType), Jvm.Cond.code ({ cls := "java/lang/Object", name := "<init>", desc := "()V" } : Jvm.MethodName) object_method_1_code (1 : Nat) (Option.none : Option Jvm.ClassFile.FieldType), Jvm.Cond.code ({ cls := "com/example/slotsholmen/slotsholmen/schema/GroupPointsAtTargetPinLaw", name := "section", desc := "(I)Lcom/example/slotsholmen/slotsholmen/schema/Section;" } : Jvm.MethodName) method_3_code (1 : Nat) (Option.some (Jvm.ClassFile.FieldType.object "com/example/slotsholmen/slotsholmen/schema/Section")), Jvm.Cond.code ({ cls := "com/example/slotsholmen/slotsholmen/schema/Group", name := "pointsAtTarget", desc := "(Lcom/example/slotsholmen/slotsholmen/schema/Section;Ljava/lang/String;)Z" } : Jvm.MethodName) prog_32_method_4_code (2 : Nat) (Option.some Jvm.ClassFile.FieldType.boolean), Jvm.Cond.code ({ cls := "com/example/slotsholmen/slotsholmen/schema/GroupPointsAtTargetPinLaw", name := "cell", desc := "(Ljava/lang/String;IICI)C" } : Jvm.MethodName) method_4_code (5 : Nat) (Option.some Jvm.ClassFile.FieldType.char), Jvm.Cond.code ({ cls := "java/lang/String", name := "charAt", desc := "(I)C" } : Jvm.MethodName) jdk_42_method_56_code (2 : Nat) (Option.some Jvm.ClassFile.FieldType.char), Jvm.Cond.code ({ cls := "java/lang/String", name := "isLatin1", desc := "()Z" } : Jvm.MethodName) jdk_42_method_154_code (1 : Nat) (Option.some Jvm.ClassFile.FieldType.boolean), Jvm.Cond.code ({ cls := "java/lang/StringLatin1", name := "charAt", desc := "([BI)C" } : Jvm.MethodName) jdk_43_method_2_code (2 : Nat) (Option.some Jvm.ClassFile.FieldType.char), Jvm.Cond.code ({ cls := "java/lang/String", name := "checkIndex", desc := "(II)V" } : Jvm.MethodName) jdk_42_method_155_code (2 : Nat) (Option.none : Option Jvm.ClassFile.FieldType), Jvm.Cond.code ({ cls := "jdk/internal/util/Preconditions", name := "checkIndex", desc := "(IILjava/util/function/BiFunction;)I" } : Jvm.MethodName) jdk_41_method_11_code (3 : Nat) (Option.some Jvm.ClassFile.FieldType.int), Jvm.Cond.code ({ cls := "java/lang/StringUTF16", name := "compress", desc := "([CII)[B" } : Jvm.MethodName) jdk_52_method_16_code (6 : Nat) (Option.some (Jvm.ClassFile.FieldType.array Jvm.ClassFile.FieldType.byte)), Jvm.Cond.code ({ cls := "java/lang/StringUTF16", name := "compress", desc := "([CI[BII)I" } : Jvm.MethodName) jdk_52_method_21_code (7 : Nat) (Option.some Jvm.ClassFile.FieldType.int), Jvm.Cond.code ({ cls := "java/lang/StringUTF16", name := "coderFromArrayLen", desc := "([BI)B" } : Jvm.MethodName) jdk_52_method_15_code (2 : Nat) (Option.some Jvm.ClassFile.FieldType.byte), Jvm.Cond.code ({ cls := "java/lang/String", name := "equals", desc := "(Ljava/lang/Object;)Z" } : Jvm.MethodName) jdk_42_method_66_code (3 : Nat) (Option.some Jvm.ClassFile.FieldType.boolean), Jvm.Cond.code ({ cls := "java/lang/StringLatin1", name := "equals", desc := "([B[B)Z" } : Jvm.MethodName) jdk_43_method_13_code (3 : Nat) (Option.some Jvm.ClassFile.FieldType.boolean)]
set_option maxRecDepth 65536 in
theorem codes_eq : words1.filter isCode = codes1 := rfl
theorem w_codes : ∀ c ∈ words1.filter isCode, c.before args0 about1 = true := by
  rw [codes_eq]
  intro c hc
  simp only [codes1, List.mem_cons, List.not_mem_nil, or_false] at hc
  rcases hc with rfl | rfl | rfl | rfl | rfl | rfl | rfl | rfl | rfl | rfl | rfl | rfl | rfl | rfl | rfl | rfl | rfl | rfl | rfl | rfl
  · exact w_c0
  · exact w_c1
  · exact w_c2
  · exact w_c3
  · exact w_c4
  · exact w_c5
  · exact w_c6
  · exact w_c7
  · exact w_c8
  · exact w_c9
  · exact w_c10
  · exact w_c11
  · exact w_c12
  · exact w_c13
  · exact w_c14
  · exact w_c15
  · exact w_c16
  · exact w_c17
  · exact w_c18
  · exact w_c19
set_option maxRecDepth 65536 in
theorem w_t1 : (words1.take 24).all (fun c => isCode c || c.before args0 about1) = true := by decide +kernel
set_option maxRecDepth 65536 in
theorem w_t2 : ((words1.drop 24).take 24).all (fun c => isCode c || c.before args0 about1) = true := by decide +kernel
set_option maxRecDepth 65536 in
theorem w_t3 : (((words1.drop 24).drop 24).take 24).all (fun c => isCode c || c.before args0 about1) = true := by decide +kernel
set_option maxRecDepth 65536 in
theorem w_t4 : ((((words1.drop 24).drop 24).drop 24).take 24).all (fun c => isCode c || c.before args0 about1) = true := by decide +kernel
set_option maxRecDepth 65536 in
theorem w_t5 : ((((words1.drop 24).drop 24).drop 24).drop 24).all (fun c => isCode c || c.before args0 about1) = true := by decide +kernel
theorem w_tables : (allAtoms (Jvm.Cond.code x code maxLocals ret :: tables_1)).before args0 about1 = true := by
  rw [allAtoms_all]
  show words1.all (fun c => c.before args0 about1) = true
  refine all_split ?_ w_codes
  rw [← List.take_append_drop 24 words1, List.all_append, w_t1, ← List.take_append_drop 24 (words1.drop 24), List.all_append, w_t2, ← List.take_append_drop 24 ((words1.drop 24).drop 24), List.all_append, w_t3, ← List.take_append_drop 24 (((words1.drop 24).drop 24).drop 24), List.all_append, w_t4, w_t5]
  rfl
set_option maxRecDepth 65536 in
theorem w_rest : rest_1_c.before args0 about1 = true := by decide +kernel
set_option maxRecDepth 65536 in
theorem w_case : (Jvm.Cond.and given_1 narrow_1).before args0 about1 = true := by decide +kernel
set_option maxRecDepth 65536 in
theorem w_consts : constsHeld consts_1 about1 := Jvm.Lit.constsHeldB_iff.mp (by decide +kernel)
theorem w_applies : (headSpec (Jvm.Cond.code x code maxLocals ret :: tables_1) room_1).applies x e0.platform about1 = true :=
  (Spec.applies_iff w_frames).mpr ⟨w_running, w_runnable, w_alone, w_named, w_hears, w_ripe, w_room, w_tables⟩
theorem atStart : AtStart classFile x code maxLocals ret World_1 tables_1 room_1 Calls_1 rest_1 Pre_1 launch0 p0 e0 about1 theMethod args0 below0 :=
  ⟨lists_1, trivial, launch0.admits_env _ _ _, launch0.least_env, fairChoices_fair.cas, fairChoices_fair.clock, w_frames, w_args, w_heap, w_applies, ⟨w_consts, trivial⟩, w_rest, w_case⟩
end start1
theorem witness_1 : WitnessClaimed_1 := ⟨start1.p0, start1.e0, start1.about1, start1.theMethod, start1.args0, start1.below0, start1.atStart⟩
end Jvm.Pilot.@@N@@
