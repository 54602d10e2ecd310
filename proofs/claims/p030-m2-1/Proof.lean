import JvmDerived
import JvmDerived.Pilot.@@N@@Statement
import JvmDerived.Pilot.@@N@@Code
set_option linter.unusedVariables false
set_option linter.unusedSimpArgs false
/- laws to paste: Road.backV (cut by pick.py; bodies as the Statement names them) -/
namespace Jvm.Pilot.@@N@@
namespace StrChars
open Jvm Sem ClassFile Op Lib Jvm.Stand Jvm.Free.XT Jvm.Free.ALB Jvm.Free.JM Jvm.Free
open Jvm.Lib.Cold (StaticIs)
/-- a char array whose places are chars -/
def Ch (a : Addr) (A : Cell) (U : State) : Prop := Arr .char a A U ∧ Typed .char A
theorem Ch.mv {a : Addr} {A : Cell} {U U' : State} (h : Ch a A U) (hal : U.vm.Alike U'.vm) (hh : U'.heap = U.heap) : Ch a A U' := ⟨h.1.mv hal hh, h.2⟩
theorem Ch.keep {a : Addr} {A : Cell} {U U' : State} (h : Ch a A U) (hal : U.vm.Alike U'.vm) (hk : U'.heap[a]? = some A) : Ch a A U' := ⟨h.1.keep hal hk, h.2⟩
/-- what place i of a char[]'s cell holds -/
def cv (A : Cell) (i : Nat) : Int32 := match A.slots[i]? with | some (.int x) => x | _ => 0
theorem Ch.get {a : Addr} {A : Cell} {U : State} (h : Ch a A U) {i : Nat} (hi : i < A.slots.size) : A.slots[i]? = some (.int (cv A i)) := by
  have e := Array.getElem?_eq_getElem hi
  have f := h.2 i _ e
  unfold cv; rw [e]
  generalize A.slots[i] = v at f
  cases v <;> simp [fits] at f ⊢
/-- the byte that i2b leaves of a char -/
def lo8 (x : Int32) : Int32 := x.toInt8.toInt32
theorem fits_lo8 (y : Int32) : fits .byte (.int (lo8 y)) = true := by
  have h1 := y.toInt8.le_toInt
  have h2 := y.toInt8.toInt_lt
  simp only [lo8, fits, Bool.and_eq_true, decide_eq_true_eq, Int32.le_iff_toInt_le, Int8.toInt_toInt32, show (-128 : Int32).toInt = -128 from by decide, show (127 : Int32).toInt = 127 from by decide]
  omega
/-- A' is A but that each place j of lo .. hi - 1 holds f j -/
def Laid (A A' : Cell) (lo hi : Nat) (f : Nat → Value) : Prop := A'.cls = A.cls ∧ A'.vm = A.vm ∧ A'.slots.size = A.slots.size ∧ ∀ i, A'.slots[i]? = if lo ≤ i ∧ i < hi then some (f i) else A.slots[i]?
theorem Laid.zero (A : Cell) (lo : Nat) (f : Nat → Value) : Laid A A lo (lo + 0) f := ⟨rfl, rfl, rfl, fun i => by rw [if_neg (by omega)]⟩
theorem Laid.step {A Ak : Cell} {lo k : Nat} {f : Nat → Value} {v : Value} (h : Laid A Ak lo k f) (hlo : lo ≤ k) (hk : k < Ak.slots.size) (hv : v = f k) : Laid A (Ak.setSlot k v) lo (k + 1) f := by
  refine ⟨h.1, h.2.1, by simpa [Cell.setSlot] using h.2.2.1, fun i => ?_⟩
  by_cases e : k = i
  · subst e; rw [Cell.slots_setSlot_self v hk, if_pos (by omega), hv]
  · rw [Cell.slots_setSlot_ne v e, h.2.2.2 i]
    by_cases q : lo ≤ i ∧ i < k
    · rw [if_pos q, if_pos (by omega)]
    · rw [if_neg q, if_neg (by omega)]
def U16 : String := "java/lang/StringUTF16"
namespace Cmp5
def yN : MethodName := ⟨"java/lang/StringUTF16", "compress", "([CI[BII)I"⟩
abbrev yB : ByteArray := jdk_52_method_21_code
theorem d0 : decode yB 0 = .ok (.iconst 0, 1) := by decide +kernel
theorem d1 : decode yB 1 = .ok (.istore 5, 2) := by decide +kernel
theorem d3 : decode yB 3 = .ok (.iload 5, 2) := by decide +kernel
theorem d5 : decode yB 5 = .ok (.iload 4, 2) := by decide +kernel
theorem d7 : decode yB 7 = .ok (.if_icmp (.ge) 37, 3) := by decide +kernel
theorem d10 : decode yB 10 = .ok (.aload_n 0, 1) := by decide +kernel
theorem d11 : decode yB 11 = .ok (.iload_n 1, 1) := by decide +kernel
theorem d12 : decode yB 12 = .ok (.caload, 1) := by decide +kernel
theorem d13 : decode yB 13 = .ok (.istore 6, 2) := by decide +kernel
theorem d15 : decode yB 15 = .ok (.iload 6, 2) := by decide +kernel
theorem d17 : decode yB 17 = .ok (.sipush 255, 3) := by decide +kernel
theorem d20 : decode yB 20 = .ok (.if_icmp (.le) 6, 3) := by decide +kernel
theorem d26 : decode yB 26 = .ok (.aload_n 2, 1) := by decide +kernel
theorem d27 : decode yB 27 = .ok (.iload_n 3, 1) := by decide +kernel
theorem d28 : decode yB 28 = .ok (.iload 6, 2) := by decide +kernel
theorem d30 : decode yB 30 = .ok (.i2b, 1) := by decide +kernel
theorem d31 : decode yB 31 = .ok (.bastore, 1) := by decide +kernel
theorem d32 : decode yB 32 = .ok (.iinc 1 1, 3) := by decide +kernel
theorem d35 : decode yB 35 = .ok (.iinc 3 1, 3) := by decide +kernel
theorem d38 : decode yB 38 = .ok (.iinc 5 1, 3) := by decide +kernel
theorem d41 : decode yB 41 = .ok (.goto (-38), 3) := by decide +kernel
theorem d44 : decode yB 44 = .ok (.iload 4, 2) := by decide +kernel
theorem d46 : decode yB 46 = .ok (.ireturn, 1) := by decide +kernel
def site : List Cond := []
def tab : Cond := tabOf yN yB 7 (some .int) site
def P (b : Addr) (A : Cell) (d : Addr) (B : Cell) (o q len : Nat) (args : Array Value) (s : State) : Prop := args = #[.ref b, .int (Int32.ofNat o), .ref d, .int (Int32.ofNat q), .int (Int32.ofNat len)] ∧ Ch b A s ∧ Arr .byte d B s ∧ b ≠ d ∧ o + len ≤ A.slots.size ∧ q + len ≤ B.slots.size ∧ ∀ i, i < len → ¬ 255 < cv A (o + i)
def E (b : Addr) (A : Cell) (d : Addr) (B : Cell) (o q len : Nat) (r : Option Value) (s u : State) : Prop := r = some (.int (Int32.ofNat len)) ∧ ∃ B', Put d B' s u ∧ Laid B B' q (q + len) (fun j => Value.int (lo8 (cv A (o + (j - q)))))
/-- no char of the range above 255: len; the places written hold each char's low byte -/
theorem law (l : Launch) (b : Addr) (A : Cell) (d : Addr) (B : Cell) (o q len : Nat) : Law l yN 5 5 0 0 yB 7 (some .int) site (P b A d B o q len) (E b A d B o q len) (copyLocs d q len) 0 0 := by
  refine Law.of_walk (plainFor_of_name (by decide +kernel)) (by decide +kernel) (by decide +kernel) (by decide) (fun _ _ h => by rw [h.1]; rfl) (fun _ U U' hal hh h => ⟨h.1, h.2.1.mv hal hh, h.2.2.1.mv hal hh, h.2.2.2⟩) (fun r U U' V V' h1 hal h2 h => ⟨h.1, h.2.elim fun B' q => ⟨B', q.1.mv h1 h2, q.2⟩⟩) ?_
  intro p e s m args below meth c s₁ X0 hexec hbytes hml hret hlk hnm hown hh0 W hP
  obtain ⟨rfl, hA, hB, hne, l1, l2, hp⟩ := hP
  have c1 : Steps p.tables e below (s₁.setTop (entryFrame m #[.ref b, .int (Int32.ofNat o), .ref d, .int (Int32.ofNat q), .int (Int32.ofNat len)] 7)) (s₁.setTop (mkF m 0 #[.val (.ref b), .val (.int (Int32.ofNat o)), .val (.ref d), .val (.int (Int32.ofNat q)), .val (.int (Int32.ofNat len)), .unset, .unset] [])) := entry rfl
  have hA0 := hA.1.mv X0.warmed.alike hh0
  have hB0 := hB.mv X0.warmed.alike hh0
  have a31 := hA.1.2.2.2
  have c2 : Steps p.tables e below (s₁.setTop (entryFrame m #[.ref b, .int (Int32.ofNat o), .ref d, .int (Int32.ofNat q), .int (Int32.ofNat len)] 7)) (s₁.setTop (mkF m 3 #[.val (.ref b), .val (.int (Int32.ofNat o)), .val (.ref d), .val (.int (Int32.ofNat q)), .val (.int (Int32.ofNat len)), .val (.int 0), .unset] [])) := c1.trans (by
    refine iconstV X0.here hexec rfl 0 (hb hbytes d0) (by decide) ?_
    refine XS.istore X0.here hexec rfl (hb hbytes d1) rfl rfl ?_
    exact Steps.refl _)
  have loop : ∀ (r i : Nat), i + r = len → ∀ (z : Slot), (z = .unset ∨ ∃ w, z = .val w ∧ w.category = 1) → ∀ (Tl : State) (Bk : Cell), Stand p l e { frames := 0, locals := 0, cells := 0, slots := 0 } s m #[.ref b, .int (Int32.ofNat o), .ref d, .int (Int32.ofNat q), .int (Int32.ofNat len)] below meth c Tl ([] ++ copyLocs d q i) 0 0 → Put d Bk s₁ Tl → Laid B Bk q (q + i) (fun j => Value.int (lo8 (cv A (o + (j - q))))) →
      Steps p.tables e below (s₁.setTop (entryFrame m #[.ref b, .int (Int32.ofNat o), .ref d, .int (Int32.ofNat q), .int (Int32.ofNat len)] 7)) (Tl.setTop (mkF m 3 #[.val (.ref b), .val (.int (Int32.ofNat (o + i))), .val (.ref d), .val (.int (Int32.ofNat (q + i))), .val (.int (Int32.ofNat len)), .val (.int (Int32.ofNat i)), z] [])) → ∃ (T' : State) (B' : Cell) (z' : Slot), Stand p l e { frames := 0, locals := 0, cells := 0, slots := 0 } s m #[.ref b, .int (Int32.ofNat o), .ref d, .int (Int32.ofNat q), .int (Int32.ofNat len)] below meth c T' ([] ++ copyLocs d q len) 0 0 ∧ Put d B' s₁ T' ∧ Laid B B' q (q + len) (fun j => Value.int (lo8 (cv A (o + (j - q))))) ∧
      Steps p.tables e below (s₁.setTop (entryFrame m #[.ref b, .int (Int32.ofNat o), .ref d, .int (Int32.ofNat q), .int (Int32.ofNat len)] 7)) (T'.setTop (mkF m 3 #[.val (.ref b), .val (.int (Int32.ofNat (o + len))), .val (.ref d), .val (.int (Int32.ofNat (q + len))), .val (.int (Int32.ofNat len)), .val (.int (Int32.ofNat len)), z'] [])) := by
    intro r
    induction r with
    | zero =>
      intro i hi z hz Tl Bk Xl pl fl cl
      have hil : i = len := by omega
      rw [hil] at Xl fl cl
      exact ⟨Tl, Bk, z, Xl, pl, fl, cl⟩
    | succ r ih =>
      intro i hi z hz Tl Bk Xl pl fl cl
      have all := X0.warmed.alike.symm.trans Xl.warmed.alike
      have hAl := hA0.keep all (pl.other hne hA0.1)
      have hBk := hB0.like all pl.1 fl.1 fl.2.1 fl.2.2.1
      have hlt : q + i < Bk.slots.size := by rw [fl.2.2.1]; omega
      have c3 : Steps p.tables e below (s₁.setTop (entryFrame m #[.ref b, .int (Int32.ofNat o), .ref d, .int (Int32.ofNat q), .int (Int32.ofNat len)] 7)) (Tl.setTop (mkF m 12 #[.val (.ref b), .val (.int (Int32.ofNat (o + i))), .val (.ref d), .val (.int (Int32.ofNat (q + i))), .val (.int (Int32.ofNat len)), .val (.int (Int32.ofNat i)), z] [.int (Int32.ofNat (o + i)), .ref b])) := cl.trans (by
        refine XS.iload Xl.here hexec rfl (hb hbytes d3) rfl ?_
        refine XS.iload Xl.here hexec rfl (hb hbytes d5) rfl ?_
        refine XS.icmpNo Xl.here hexec rfl (hb hbytes d7) rfl (ii_ge_f (lt32 (by omega) (by omega))) ?_
        refine XS.aloadN Xl.here hexec rfl (hb hbytes d10) rfl rfl ?_
        refine XS.iloadN Xl.here hexec rfl (hb hbytes d11) rfl ?_
        exact Steps.refl _)
      have c4 : Steps p.tables e below (s₁.setTop (entryFrame m #[.ref b, .int (Int32.ofNat o), .ref d, .int (Int32.ofNat q), .int (Int32.ofNat len)] 7)) (Tl.setTop (mkF m 13 #[.val (.ref b), .val (.int (Int32.ofNat (o + i))), .val (.ref d), .val (.int (Int32.ofNat (q + i))), .val (.int (Int32.ofNat len)), .val (.int (Int32.ofNat i)), z] [.int (cv A (o + i))])) := c3.trans (by
        refine Xl.aget hexec hAl rfl (hA.get (i := o + i) (by omega)) rfl rfl (hb hbytes d12) ?_
        exact Steps.refl _)
      have c5 : Steps p.tables e below (s₁.setTop (entryFrame m #[.ref b, .int (Int32.ofNat o), .ref d, .int (Int32.ofNat q), .int (Int32.ofNat len)] 7)) (Tl.setTop (mkF m 15 #[.val (.ref b), .val (.int (Int32.ofNat (o + i))), .val (.ref d), .val (.int (Int32.ofNat (q + i))), .val (.int (Int32.ofNat len)), .val (.int (Int32.ofNat i)), .val (.int (cv A (o + i)))] [])) := c4.trans (by
        refine XS.istoreS Xl.here hexec rfl (hb hbytes d13) rfl rfl hz ?_
        exact Steps.refl _)
      have c6 : Steps p.tables e below (s₁.setTop (entryFrame m #[.ref b, .int (Int32.ofNat o), .ref d, .int (Int32.ofNat q), .int (Int32.ofNat len)] 7)) (Tl.setTop (mkF m 31 #[.val (.ref b), .val (.int (Int32.ofNat (o + i))), .val (.ref d), .val (.int (Int32.ofNat (q + i))), .val (.int (Int32.ofNat len)), .val (.int (Int32.ofNat i)), .val (.int (cv A (o + i)))] [.int (lo8 (cv A (o + i))), .int (Int32.ofNat (q + i)), .ref d])) := c5.trans (by
        refine XS.iload Xl.here hexec rfl (hb hbytes d15) rfl ?_
        refine sipushV Xl.here hexec rfl 255 (hb hbytes d17) (by decide) ?_
        refine XS.icmpYes Xl.here hexec rfl (pc0 := 20) rfl (hb hbytes d20) rfl (ii_le_t (hp i (by omega))) (by decide) rfl ?_
        refine XS.aloadN Xl.here hexec rfl (hb hbytes d26) rfl rfl ?_
        refine XS.iloadN Xl.here hexec rfl (hb hbytes d27) rfl ?_
        refine XS.iload Xl.here hexec rfl (hb hbytes d28) rfl ?_
        refine i2b Xl.here hexec rfl (hb hbytes d30) rfl ?_
        exact Steps.refl _)
      obtain ⟨T7, X7, p7, st7⟩ := Xl.aput hexec hBk rfl hlt rfl (fits_lo8 (cv A (o + i))) (g := (mkF m 31 #[.val (.ref b), .val (.int (Int32.ofNat (o + i))), .val (.ref d), .val (.int (Int32.ofNat (q + i))), .val (.int (Int32.ofNat len)), .val (.int (Int32.ofNat i)), .val (.int (cv A (o + i)))] [.int (lo8 (cv A (o + i))), .int (Int32.ofNat (q + i)), .ref d])) rfl (rest := []) rfl (hb hbytes d31)
      have c8 : Steps p.tables e below (s₁.setTop (entryFrame m #[.ref b, .int (Int32.ofNat o), .ref d, .int (Int32.ofNat q), .int (Int32.ofNat len)] 7)) (T7.setTop (mkF m 32 #[.val (.ref b), .val (.int (Int32.ofNat (o + i))), .val (.ref d), .val (.int (Int32.ofNat (q + i))), .val (.int (Int32.ofNat len)), .val (.int (Int32.ofNat i)), .val (.int (cv A (o + i)))] [])) := c6.trans (st7 _ (Steps.refl _))
      have c9 : Steps p.tables e below (s₁.setTop (entryFrame m #[.ref b, .int (Int32.ofNat o), .ref d, .int (Int32.ofNat q), .int (Int32.ofNat len)] 7)) (T7.setTop (mkF m 3 #[.val (.ref b), .val (.int (Int32.ofNat (o + i) + 1)), .val (.ref d), .val (.int (Int32.ofNat (q + i) + 1)), .val (.int (Int32.ofNat len)), .val (.int (Int32.ofNat i + 1)), .val (.int (cv A (o + i)))] [])) := c8.trans (by
        refine iincV X7.here hexec rfl 1 (hb hbytes d32) (by decide) rfl rfl ?_
        refine iincV X7.here hexec rfl 1 (hb hbytes d35) (by decide) rfl rfl ?_
        refine iincV X7.here hexec rfl 1 (hb hbytes d38) (by decide) rfl rfl ?_
        refine XS.goto X7.here hexec rfl (pc0 := 41) rfl (hb hbytes d41) (by decide) rfl ?_
        exact Steps.refl _)
      have c10 : Steps p.tables e below (s₁.setTop (entryFrame m #[.ref b, .int (Int32.ofNat o), .ref d, .int (Int32.ofNat q), .int (Int32.ofNat len)] 7)) (T7.setTop (mkF m 3 #[.val (.ref b), .val (.int (Int32.ofNat (o + (i + 1)))), .val (.ref d), .val (.int (Int32.ofNat (q + (i + 1)))), .val (.int (Int32.ofNat len)), .val (.int (Int32.ofNat (i + 1))), .val (.int (cv A (o + i)))] [])) := by
        have := c9
        rw [succ32, succ32, succ32] at this
        exact this
      exact ih (i + 1) (by omega) _ (Or.inr ⟨_, rfl, rfl⟩) T7 _ (by rw [copyLocs_step, ← List.append_assoc]; exact X7) (pl.trans p7) (fl.step (by omega) hlt (by simp)) c10
  obtain ⟨T9, B9, z9, X9, p9, f9, g9⟩ := loop len 0 (by omega) .unset (Or.inl rfl) s₁ B (by simpa [copyLocs] using X0) ⟨hB0.1, fun _ _ => rfl, rfl⟩ (Laid.zero _ _ _) c2
  have c11 : Steps p.tables e below (s₁.setTop (entryFrame m #[.ref b, .int (Int32.ofNat o), .ref d, .int (Int32.ofNat q), .int (Int32.ofNat len)] 7)) (T9.setTop (mkF m 46 #[.val (.ref b), .val (.int (Int32.ofNat (o + len))), .val (.ref d), .val (.int (Int32.ofNat (q + len))), .val (.int (Int32.ofNat len)), .val (.int (Int32.ofNat len)), z9] [.int (Int32.ofNat len)])) := g9.trans (by
    refine XS.iload X9.here hexec rfl (hb hbytes d3) rfl ?_
    refine XS.iload X9.here hexec rfl (hb hbytes d5) rfl ?_
    refine XS.icmpYes X9.here hexec rfl (pc0 := 7) rfl (hb hbytes d7) rfl (ii_ge_t (nlt32 (by omega) (Nat.le_refl _))) (by decide) rfl ?_
    refine XS.iload X9.here hexec rfl (hb hbytes d44) rfl ?_
    exact Steps.refl _)
  exact ⟨T9, some (.int (Int32.ofNat len)), _, _, _, X9, by simp, rfl, rfl, (fun h => by cases h), ⟨rfl, B9, p9.from hh0, f9⟩, fun fs hl => c11.trans (X9.ireturnOut hexec hret rfl (Or.inl rfl) (hb hbytes d46) hl)⟩
end Cmp5
namespace Cmp3
def yN : MethodName := ⟨"java/lang/StringUTF16", "compress", "([CII)[B"⟩
abbrev yB : ByteArray := jdk_52_method_16_code
theorem d0 : decode yB 0 = .ok (.iload_n 2, 1) := by decide +kernel
theorem d1 : decode yB 1 = .ok (.newarray .byte, 2) := by decide +kernel
theorem d3 : decode yB 3 = .ok (.astore_n 3, 1) := by decide +kernel
theorem d4 : decode yB 4 = .ok (.aload_n 0, 1) := by decide +kernel
theorem d5 : decode yB 5 = .ok (.iload_n 1, 1) := by decide +kernel
theorem d6 : decode yB 6 = .ok (.aload_n 3, 1) := by decide +kernel
theorem d7 : decode yB 7 = .ok (.iconst 0, 1) := by decide +kernel
theorem d8 : decode yB 8 = .ok (.iload_n 2, 1) := by decide +kernel
theorem d9 : decode yB 9 = .ok (.invokestatic 115, 3) := by decide +kernel
theorem d12 : decode yB 12 = .ok (.istore 4, 2) := by decide +kernel
theorem d14 : decode yB 14 = .ok (.iload 4, 2) := by decide +kernel
theorem d16 : decode yB 16 = .ok (.iload_n 2, 1) := by decide +kernel
theorem d17 : decode yB 17 = .ok (.if_icmp (.eq) 40, 3) := by decide +kernel
theorem d57 : decode yB 57 = .ok (.aload_n 3, 1) := by decide +kernel
theorem d58 : decode yB 58 = .ok (.areturn, 1) := by decide +kernel
def site : List Cond := [.arrayClass .byte, Cmp5.tab] ++ staticW U16 115 Cmp5.yN
def tab : Cond := tabOf yN yB 6 (some (.array .byte)) site
def P (b : Addr) (A : Cell) (o len : Nat) (args : Array Value) (s : State) : Prop := args = #[.ref b, .int (Int32.ofNat o), .int (Int32.ofNat len)] ∧ Ch b A s ∧ o + len ≤ A.slots.size ∧ len ≤ 536870912 ∧ ∀ i, i < len → ¬ 255 < cv A (o + i)
def E (b : Addr) (A : Cell) (o len : Nat) (r : Option Value) (s u : State) : Prop := NewArr .byte "[B" len (fun j => .int (lo8 (cv A (o + j)))) r s u ∧ u.heap.size = s.heap.size + 1
/-- no char of the range above 255: a new byte[] of their low bytes -/
theorem law (l : Launch) (b : Addr) (A : Cell) (o len : Nat) : Law l yN 3 3 1 18 yB 6 (some (.array .byte)) site (P b A o len) (E b A o len) [] 1 len := by
  refine Law.of_walk (plainFor_of_name (by decide +kernel)) (by decide +kernel) (by decide +kernel) (by decide) (fun _ _ h => by rw [h.1]; rfl) (fun _ U U' hal hh h => ⟨h.1, h.2.1.mv hal hh, h.2.2⟩) (fun r U U' V V' h1 hal h2 h => ⟨NewArr.mv r U U' V V' h1 hal h2 h.1, by rw [h1, h2]; exact h.2⟩) ?_
  intro p e s m args below meth c s₁ X0 hexec hbytes hml hret hlk hnm hown hh0 W hP
  obtain ⟨rfl, hA, l1, l2, hp⟩ := hP
  have a31 := hA.1.2.2.2
  have c1 : Steps p.tables e below (s₁.setTop (entryFrame m #[.ref b, .int (Int32.ofNat o), .int (Int32.ofNat len)] 6)) (s₁.setTop (mkF m 0 #[.val (.ref b), .val (.int (Int32.ofNat o)), .val (.int (Int32.ofNat len)), .unset, .unset, .unset] [])) := entry rfl
  have c2 : Steps p.tables e below (s₁.setTop (entryFrame m #[.ref b, .int (Int32.ofNat o), .int (Int32.ofNat len)] 6)) (s₁.setTop (mkF m 1 #[.val (.ref b), .val (.int (Int32.ofNat o)), .val (.int (Int32.ofNat len)), .unset, .unset, .unset] [.int (Int32.ofNat len)])) := c1.trans (by
    refine XS.iloadN X0.here hexec rfl (hb hbytes d0) rfl ?_
    exact Steps.refl _)
  obtain ⟨T3, B3, X3, ba3, bs3, bv3, bh3, bf3, st3⟩ := X0.anew hexec (atype := .byte) (wk W (.arrayClass .byte)) rfl (by show len * 1 ≤ _; omega) (by omega) (g := (mkF m 1 #[.val (.ref b), .val (.int (Int32.ofNat o)), .val (.int (Int32.ofNat len)), .unset, .unset, .unset] [.int (Int32.ofNat len)])) rfl (hb hbytes d1) (rest := []) rfl (Nat.le_refl _) (by show 0 + len ≤ len; omega)
  rw [hh0] at ba3 st3
  have kp3 : XT.Kept s T3 := (XT.Kept.of_eq hh0).push bh3
  have hA3 := hA.keep X3.warmed.alike (kp3 _ _ hA.1.1)
  have hne : b ≠ s.heap.size := hA.1.ne
  have c4 : Steps p.tables e below (s₁.setTop (entryFrame m #[.ref b, .int (Int32.ofNat o), .int (Int32.ofNat len)] 6)) (T3.setTop (mkF m 3 #[.val (.ref b), .val (.int (Int32.ofNat o)), .val (.int (Int32.ofNat len)), .unset, .unset, .unset] [.ref s.heap.size])) := c2.trans (st3 _ (Steps.refl _))
  have c5 : Steps p.tables e below (s₁.setTop (entryFrame m #[.ref b, .int (Int32.ofNat o), .int (Int32.ofNat len)] 6)) (T3.setTop (mkF m 9 #[.val (.ref b), .val (.int (Int32.ofNat o)), .val (.int (Int32.ofNat len)), .val (.ref s.heap.size), .unset, .unset] [.int (Int32.ofNat len), .int 0, .ref s.heap.size, .int (Int32.ofNat o), .ref b])) := c4.trans (by
    refine XS.astoreN X3.here hexec rfl (hb hbytes d3) rfl rfl rfl ?_
    refine XS.aloadN X3.here hexec rfl (hb hbytes d4) rfl rfl ?_
    refine XS.iloadN X3.here hexec rfl (hb hbytes d5) rfl ?_
    refine XS.aloadN X3.here hexec rfl (hb hbytes d6) rfl rfl ?_
    refine iconstV X3.here hexec rfl 0 (hb hbytes d7) (by decide) ?_
    refine XS.iloadN X3.here hexec rfl (hb hbytes d8) rfl ?_
    exact Steps.refl _)
  obtain ⟨v6, T6, X6, E6, g6⟩ := X3.callS hexec (Cmp5.law l b A s.heap.size B3 o 0 len) hown (wks W (staticW U16 115 Cmp5.yN)) (wk W Cmp5.tab) (W := 0) (Nat.le_of_ble_eq_true rfl) (Nat.le_of_ble_eq_true rfl) (Nat.le_refl _) (by show 0 + len + 0 ≤ len; omega) (g := (mkF m 9 #[.val (.ref b), .val (.int (Int32.ofNat o)), .val (.int (Int32.ofNat len)), .val (.ref s.heap.size), .unset, .unset] [.int (Int32.ofNat len), .int (Int32.ofNat 0), .ref s.heap.size, .int (Int32.ofNat o), .ref b])) rfl (by rw [hml]; rfl) c5 (argsL := [.ref b, .int (Int32.ofNat o), .ref s.heap.size, .int (Int32.ofNat 0), .int (Int32.ofNat len)]) (rest := []) rfl rfl (by show 2 * 0 + 0 ≤ _; decide) (hb hbytes d9) (⟨rfl, hA3, ba3, hne, l1, by rw [bs3]; simp, hp⟩)
  obtain ⟨rfl, B6, p6, f6⟩ := E6
  have c7 : Steps p.tables e below (s₁.setTop (entryFrame m #[.ref b, .int (Int32.ofNat o), .int (Int32.ofNat len)] 6)) (T6.setTop (mkF m 12 #[.val (.ref b), .val (.int (Int32.ofNat o)), .val (.int (Int32.ofNat len)), .val (.ref s.heap.size), .unset, .unset] [.int (Int32.ofNat len)])) := g6
  have c8 : Steps p.tables e below (s₁.setTop (entryFrame m #[.ref b, .int (Int32.ofNat o), .int (Int32.ofNat len)] 6)) (T6.setTop (mkF m 58 #[.val (.ref b), .val (.int (Int32.ofNat o)), .val (.int (Int32.ofNat len)), .val (.ref s.heap.size), .val (.int (Int32.ofNat len)), .unset] [.ref s.heap.size])) := c7.trans (by
    refine XS.istore X6.here hexec rfl (hb hbytes d12) rfl rfl ?_
    refine XS.iload X6.here hexec rfl (hb hbytes d14) rfl ?_
    refine XS.iloadN X6.here hexec rfl (hb hbytes d16) rfl ?_
    refine XS.icmpYes X6.here hexec rfl (pc0 := 17) rfl (hb hbytes d17) rfl (ii_eq_t rfl) (by decide) rfl ?_
    refine XS.aloadN X6.here hexec rfl (hb hbytes d57) rfl rfl ?_
    exact Steps.refl _)
  have X8 := X6.wide (L' := []) (cells' := 1) (slots' := len) (fun x hx hlt => by
    simp only [List.nil_append, copyLocs, List.mem_map, List.mem_range] at hx
    obtain ⟨i, -, rfl⟩ := hx
    exact absurd hlt (Nat.lt_irrefl _)) (Nat.le_refl _) (by omega)
  exact ⟨T6, some (.ref s.heap.size), _, _, _, X8, rfl, rfl, rfl, (fun h => by cases h), ⟨⟨rfl, B6, ba3.like (X3.warmed.alike.symm.trans X6.warmed.alike) p6.1 f6.1 f6.2.1 f6.2.2.1, f6.2.1.trans bv3, by rw [X6.warmed.alike.findClass, f6.1]; exact bf3, by rw [f6.2.2.1, bs3]; simp, fun j hj => by rw [f6.2.2.2 j, if_pos (by omega)]; rfl, kp3.put p6 (Nat.le_refl _)⟩, by rw [p6.2.2, bh3, hh0]; simp⟩, fun fs hl => c8.trans (X8.areturnOut hexec rfl hret rfl (hb hbytes d58) hl)⟩
end Cmp3
namespace CodL
def yN : MethodName := ⟨"java/lang/StringUTF16", "coderFromArrayLen", "([BI)B"⟩
abbrev yB : ByteArray := jdk_52_method_15_code
theorem d0 : decode yB 0 = .ok (.iload_n 1, 1) := by decide +kernel
theorem d1 : decode yB 1 = .ok (.aload_n 0, 1) := by decide +kernel
theorem d2 : decode yB 2 = .ok (.arraylength, 1) := by decide +kernel
theorem d3 : decode yB 3 = .ok (.isub, 1) := by decide +kernel
theorem d4 : decode yB 4 = .ok (.bipush 31, 2) := by decide +kernel
theorem d6 : decode yB 6 = .ok (.iushr, 1) := by decide +kernel
theorem d7 : decode yB 7 = .ok (.i2b, 1) := by decide +kernel
theorem d8 : decode yB 8 = .ok (.ireturn, 1) := by decide +kernel
def site : List Cond := []
def tab : Cond := tabOf yN yB 2 (some .byte) site
def P (d : Addr) (B : Cell) (args : Array Value) (s : State) : Prop := args = #[.ref d, .int (Int32.ofNat B.slots.size)] ∧ Arr .byte d B s
def E (r : Option Value) (s u : State) : Prop := XT.PureE (some (.int 0)) r s u
/-- an array as long as the number of chars: LATIN1 -/
theorem law (l : Launch) (d : Addr) (B : Cell) : Law l yN 2 2 0 0 yB 2 (some .byte) site (P d B) E [] 0 0 := by
  refine Law.of_walk (plainFor_of_name (by decide +kernel)) (by decide +kernel) (by decide +kernel) (by decide) (fun _ _ h => by rw [h.1]; rfl) (fun _ U U' hal hh h => ⟨h.1, h.2.mv hal hh⟩) (fun r U U' V V' h1 hal h2 h => XT.PureE.mv r U U' V V' h1 hal h2 h) ?_
  intro p e s m args below meth c s₁ X0 hexec hbytes hml hret hlk hnm hown hh0 W hP
  obtain ⟨rfl, hB⟩ := hP
  have hB0 := hB.mv X0.warmed.alike hh0
  have c1 : Steps p.tables e below (s₁.setTop (entryFrame m #[.ref d, .int (Int32.ofNat B.slots.size)] 2)) (s₁.setTop (mkF m 0 #[.val (.ref d), .val (.int (Int32.ofNat B.slots.size))] [])) := entry rfl
  have c2 : Steps p.tables e below (s₁.setTop (entryFrame m #[.ref d, .int (Int32.ofNat B.slots.size)] 2)) (s₁.setTop (mkF m 2 #[.val (.ref d), .val (.int (Int32.ofNat B.slots.size))] [.ref d, .int (Int32.ofNat B.slots.size)])) := c1.trans (by
    refine XS.iloadN X0.here hexec rfl (hb hbytes d0) rfl ?_
    refine XS.aloadN X0.here hexec rfl (hb hbytes d1) rfl rfl ?_
    exact Steps.refl _)
  have c3 : Steps p.tables e below (s₁.setTop (entryFrame m #[.ref d, .int (Int32.ofNat B.slots.size)] 2)) (s₁.setTop (mkF m 8 #[.val (.ref d), .val (.int (Int32.ofNat B.slots.size))] [.int (lo8 (ushr (Int32.ofNat B.slots.size - Int32.ofNat B.slots.size) 31))])) := c2.trans (by
    refine X0.alen hexec hB0 rfl rfl (hb hbytes d2) ?_
    refine XS.isub X0.here hexec rfl (hb hbytes d3) rfl ?_
    refine bipushV X0.here hexec rfl 31 (hb hbytes d4) (by decide) ?_
    refine iushr X0.here hexec rfl (hb hbytes d6) rfl ?_
    refine i2b X0.here hexec rfl (hb hbytes d7) rfl ?_
    exact Steps.refl _)
  have e0 : lo8 (ushr (Int32.ofNat B.slots.size - Int32.ofNat B.slots.size) 31) = 0 := by rw [Int32.sub_self]; decide
  rw [e0] at c3
  exact ⟨s₁, some (.int 0), _, _, _, X0, rfl, rfl, rfl, (fun h => by cases h), ⟨rfl, hh0⟩, fun fs hl => c3.trans (X0.ireturnOut hexec hret rfl (Or.inr (Or.inr (Or.inl rfl))) (hb hbytes d8) hl)⟩
end CodL
/-- the String at a is Latin-1 over a new byte[] (the heap's one new cell): the low bytes of the len chars of A from o on; every cell but a is kept -/
def Got (a : Addr) (D : Cell) (fV fC : Field) (A : Cell) (o len : Nat) (r : Option Value) (s u : State) : Prop := r = none ∧ ∃ D' V : Cell, Blank "java/lang/String" a D' u ∧ Same D D' [fV.slot, fC.slot] ∧ D'.slots[fV.slot]? = some (.ref s.heap.size) ∧ D'.slots[fC.slot]? = some (.int 0) ∧ Arr .byte s.heap.size V u ∧ V.vm = .none ∧ u.vm.findClass "[B" = some V.cls ∧ V.slots.size = len ∧ (∀ j, j < len → V.slots[j]? = some (.int (lo8 (cv A (o + j))))) ∧ (∀ (y : Addr) (c : Cell), y ≠ a → s.heap[y]? = some c → u.heap[y]? = some c) ∧ u.heap.size = s.heap.size + 1
theorem Got.mv {a : Addr} {D A : Cell} {fV fC : Field} {o len : Nat} : ∀ r (U U' V V' : State), U'.heap = U.heap → V.vm.Alike V'.vm → V'.heap = V.heap → Got a D fV fC A o len r U V → Got a D fV fC A o len r U' V' :=
  fun r U U' V V' h1 hal h2 ⟨e0, D', X, a1, a2, a3, a4, a5, a6, a7, a8, a9, a10, a11⟩ => ⟨e0, D', X, a1.mv hal h2, a2, by rw [h1]; exact a3, a4, by rw [h1]; exact a5.mv hal h2, a6, by rw [hal.findClass]; exact a7, a8, a9, by rw [h1, h2]; exact a10, by rw [h1, h2]; exact a11⟩
namespace New4
def yN : MethodName := ⟨"java/lang/String", "<init>", "([CIILjava/lang/Void;)V"⟩
abbrev yB : ByteArray := jdk_42_method_149_code
theorem d0 : decode yB 0 = .ok (.aload_n 0, 1) := by decide +kernel
theorem d1 : decode yB 1 = .ok (.invokespecial 1, 3) := by decide +kernel
theorem d4 : decode yB 4 = .ok (.iload_n 3, 1) := by decide +kernel
theorem d5 : decode yB 5 = .ok (.ifCond (.ne) 22, 3) := by decide +kernel
theorem d27 : decode yB 27 = .ok (.getstatic 38, 3) := by decide +kernel
theorem d30 : decode yB 30 = .ok (.ifCond (.eq) 28, 3) := by decide +kernel
theorem d33 : decode yB 33 = .ok (.aload_n 1, 1) := by decide +kernel
theorem d34 : decode yB 34 = .ok (.iload_n 2, 1) := by decide +kernel
theorem d35 : decode yB 35 = .ok (.iload_n 3, 1) := by decide +kernel
theorem d36 : decode yB 36 = .ok (.invokestatic 177, 3) := by decide +kernel
theorem d39 : decode yB 39 = .ok (.astore 5, 2) := by decide +kernel
theorem d41 : decode yB 41 = .ok (.aload_n 0, 1) := by decide +kernel
theorem d42 : decode yB 42 = .ok (.aload 5, 2) := by decide +kernel
theorem d44 : decode yB 44 = .ok (.iload_n 3, 1) := by decide +kernel
theorem d45 : decode yB 45 = .ok (.invokestatic 47, 3) := by decide +kernel
theorem d48 : decode yB 48 = .ok (.putfield 15, 3) := by decide +kernel
theorem d51 : decode yB 51 = .ok (.aload_n 0, 1) := by decide +kernel
theorem d52 : decode yB 52 = .ok (.aload 5, 2) := by decide +kernel
theorem d54 : decode yB 54 = .ok (.putfield 9, 3) := by decide +kernel
theorem d57 : decode yB 57 = .ok (.return_, 1) := by decide +kernel
def site : List Cond := [.fieldLink "java/lang/String" 38 "java/lang/String" "COMPACT_STRINGS" "Z", Cmp3.tab, CodL.tab, .laysFinal "java/lang/String" "java/lang/String" "value" "[B", .fieldLink "java/lang/String" 9 "java/lang/String" "value" "[B", .laysFinal "java/lang/String" "java/lang/String" "coder" "B", .fieldLink "java/lang/String" 15 "java/lang/String" "coder" "B"] ++ objW "java/lang/String" 1 ++ staticW "java/lang/String" 177 Cmp3.yN ++ staticW "java/lang/String" 47 CodL.yN
def tab : Cond := tabOf yN yB 6 none site
def P (a : Addr) (D : Cell) (fV fC : Field) (b : Addr) (A : Cell) (z : Int32) (o len : Nat) (args : Array Value) (s : State) : Prop := args = #[.ref a, .ref b, .int (Int32.ofNat o), .int (Int32.ofNat len), .null] ∧ Blank "java/lang/String" a D s ∧ Found "java/lang/String" "value" "[B" fV s ∧ Found "java/lang/String" "coder" "B" fC s ∧ Ch b A s ∧ StaticIs s "java/lang/String" "COMPACT_STRINGS" "Z" (.int z) ∧ ¬ z = 0 ∧ 0 < len ∧ o + len ≤ A.slots.size ∧ len ≤ 536870912 ∧ ∀ i, i < len → ¬ 255 < cv A (o + i)
def E (a : Addr) (D : Cell) (fV fC : Field) (A : Cell) (o len : Nat) (r : Option Value) (s u : State) : Prop := Got a D fV fC A o len r s u
/-- len > 0, no char of the range above 255: a Latin-1 String of their low bytes -/
theorem law (l : Launch) (a : Addr) (D : Cell) (fV fC : Field) (b : Addr) (A : Cell) (z : Int32) (o len : Nat) : Law l yN 5 4 2 35 yB 6 none site (P a D fV fC b A z o len) (E a D fV fC A o len) [⟨a, fC.slot⟩, ⟨a, fV.slot⟩] 1 len := by
  refine Law.of_walk (plainFor_of_name (by decide +kernel)) (by decide +kernel) (by decide +kernel) (by decide) (fun _ _ h => by rw [h.1]; rfl) (fun _ U U' hal hh h => ⟨h.1, h.2.1.mv hal hh, h.2.2.1.al hal, h.2.2.2.1.al hal, h.2.2.2.2.1.mv hal hh, h.2.2.2.2.2.1.there hal hh, h.2.2.2.2.2.2⟩) (fun r U U' V V' h1 hal h2 h => Got.mv r U U' V V' h1 hal h2 h) ?_
  intro p e s m args below meth c s₁ X0 hexec hbytes hml hret hlk hnm hown hh0 W hP
  obtain ⟨rfl, hB, f1, f2, hA, s1, hz, l0, l1, l2, hp⟩ := hP
  have a31 := hA.1.2.2.2
  have c1 : Steps p.tables e below (s₁.setTop (entryFrame m #[.ref a, .ref b, .int (Int32.ofNat o), .int (Int32.ofNat len), .null] 6)) (s₁.setTop (mkF m 0 #[.val (.ref a), .val (.ref b), .val (.int (Int32.ofNat o)), .val (.int (Int32.ofNat len)), .val .null, .unset] [])) := entry rfl
  have c2 : Steps p.tables e below (s₁.setTop (entryFrame m #[.ref a, .ref b, .int (Int32.ofNat o), .int (Int32.ofNat len), .null] 6)) (s₁.setTop (mkF m 1 #[.val (.ref a), .val (.ref b), .val (.int (Int32.ofNat o)), .val (.int (Int32.ofNat len)), .val .null, .unset] [.ref a])) := c1.trans (by
    refine XS.aloadN X0.here hexec rfl (hb hbytes d0) rfl rfl ?_
    exact Steps.refl _)
  obtain ⟨T3, X3, q3, st3⟩ := X0.oinit hexec hown (wks W (objW "java/lang/String" 1)) (g := (mkF m 1 #[.val (.ref a), .val (.ref b), .val (.int (Int32.ofNat o)), .val (.int (Int32.ofNat len)), .val .null, .unset] [.ref a])) rfl (by rw [hml]; rfl) (rest := []) rfl (hb hbytes d1) (W := 0) (by show 2 * 0 + 0 ≤ _; decide) (Nat.le_of_ble_eq_true rfl) (Nat.le_of_ble_eq_true rfl)
  have hh3 := q3.trans hh0
  have c4 : Steps p.tables e below (s₁.setTop (entryFrame m #[.ref a, .ref b, .int (Int32.ofNat o), .int (Int32.ofNat len), .null] 6)) (T3.setTop (mkF m 27 #[.val (.ref a), .val (.ref b), .val (.int (Int32.ofNat o)), .val (.int (Int32.ofNat len)), .val .null, .unset] [])) := (c2.trans (st3 _ (Steps.refl _))).trans (by
    refine XS.iloadN X3.here hexec rfl (hb hbytes d4) rfl ?_
    refine XS.ifYes X3.here hexec rfl (pc0 := 5) rfl (hb hbytes d5) rfl (i0_ne_t (nz32 (by omega) l0)) (by decide) rfl ?_
    exact Steps.refl _)
  obtain ⟨T5, X5, q5, st5⟩ := X3.sget hexec hown (wk W (.fieldLink "java/lang/String" 38 "java/lang/String" "COMPACT_STRINGS" "Z")) s1 (fun _ _ h => by rw [hh3]; exact h) (g := (mkF m 27 #[.val (.ref a), .val (.ref b), .val (.int (Int32.ofNat o)), .val (.int (Int32.ofNat len)), .val .null, .unset] [])) rfl (hb hbytes d27)
  have hh5 := q5.trans hh3
  have c6 : Steps p.tables e below (s₁.setTop (entryFrame m #[.ref a, .ref b, .int (Int32.ofNat o), .int (Int32.ofNat len), .null] 6)) (T5.setTop (mkF m 30 #[.val (.ref a), .val (.ref b), .val (.int (Int32.ofNat o)), .val (.int (Int32.ofNat len)), .val .null, .unset] [.int z])) := c4.trans (st5 _ (Steps.refl _))
  have c7 : Steps p.tables e below (s₁.setTop (entryFrame m #[.ref a, .ref b, .int (Int32.ofNat o), .int (Int32.ofNat len), .null] 6)) (T5.setTop (mkF m 36 #[.val (.ref a), .val (.ref b), .val (.int (Int32.ofNat o)), .val (.int (Int32.ofNat len)), .val .null, .unset] [.int (Int32.ofNat len), .int (Int32.ofNat o), .ref b])) := c6.trans (by
    refine XS.ifNo X5.here hexec rfl (hb hbytes d30) rfl (i0_eq_f hz) ?_
    refine XS.aloadN X5.here hexec rfl (hb hbytes d33) rfl rfl ?_
    refine XS.iloadN X5.here hexec rfl (hb hbytes d34) rfl ?_
    refine XS.iloadN X5.here hexec rfl (hb hbytes d35) rfl ?_
    exact Steps.refl _)
  obtain ⟨v8, T8, X8, E8, g8⟩ := X5.callS hexec (Cmp3.law l b A o len) hown (wks W (staticW "java/lang/String" 177 Cmp3.yN)) (wk W Cmp3.tab) (W := 0) (Nat.le_of_ble_eq_true rfl) (Nat.le_of_ble_eq_true rfl) (Nat.le_refl _) (by show 0 + len ≤ len; omega) (g := (mkF m 36 #[.val (.ref a), .val (.ref b), .val (.int (Int32.ofNat o)), .val (.int (Int32.ofNat len)), .val .null, .unset] [.int (Int32.ofNat len), .int (Int32.ofNat o), .ref b])) rfl (by rw [hml]; rfl) c7 (argsL := [.ref b, .int (Int32.ofNat o), .int (Int32.ofNat len)]) (rest := []) rfl rfl (by show 2 * 0 + 0 ≤ _; decide) (hb hbytes d36) (⟨rfl, hA.mv X5.warmed.alike hh5, l1, l2, hp⟩)
  obtain ⟨e8, z8⟩ := E8
  obtain ⟨rfl, N, n1, n2, n3, n4, n5, n6⟩ := NewArr.mv _ T5 s _ _ hh5.symm (Vm.Alike.refl _) rfl e8
  rw [hh5] at z8
  have hB1 := hB.keep X8.warmed.alike (n6 _ _ hB.1)
  have hne : s.heap.size ≠ a := (Nat.ne_of_lt (Array.getElem?_eq_some_iff.mp hB.1).1).symm
  have c9 : Steps p.tables e below (s₁.setTop (entryFrame m #[.ref a, .ref b, .int (Int32.ofNat o), .int (Int32.ofNat len), .null] 6)) (T8.setTop (mkF m 39 #[.val (.ref a), .val (.ref b), .val (.int (Int32.ofNat o)), .val (.int (Int32.ofNat len)), .val .null, .unset] [.ref s.heap.size])) := g8
  have c10 : Steps p.tables e below (s₁.setTop (entryFrame m #[.ref a, .ref b, .int (Int32.ofNat o), .int (Int32.ofNat len), .null] 6)) (T8.setTop (mkF m 45 #[.val (.ref a), .val (.ref b), .val (.int (Int32.ofNat o)), .val (.int (Int32.ofNat len)), .val .null, .val (.ref s.heap.size)] [.int (Int32.ofNat N.slots.size), .ref s.heap.size, .ref a])) := by
    have hc : Steps p.tables e below (s₁.setTop (entryFrame m #[.ref a, .ref b, .int (Int32.ofNat o), .int (Int32.ofNat len), .null] 6)) (T8.setTop (mkF m 45 #[.val (.ref a), .val (.ref b), .val (.int (Int32.ofNat o)), .val (.int (Int32.ofNat len)), .val .null, .val (.ref s.heap.size)] [.int (Int32.ofNat len), .ref s.heap.size, .ref a])) := c9.trans (by
      refine XS.astore X8.here hexec rfl (hb hbytes d39) rfl rfl rfl ?_
      refine XS.aloadN X8.here hexec rfl (hb hbytes d41) rfl rfl ?_
      refine XS.aload X8.here hexec rfl (hb hbytes d42) rfl rfl ?_
      refine XS.iloadN X8.here hexec rfl (hb hbytes d44) rfl ?_
      exact Steps.refl _)
    rw [n4]; exact hc
  obtain ⟨v11, T11, X11, E11, g11⟩ := X8.callS hexec (CodL.law l s.heap.size N) hown (wks W (staticW "java/lang/String" 47 CodL.yN)) (wk W CodL.tab) (W := 1) (Nat.le_of_ble_eq_true rfl) (Nat.le_of_ble_eq_true rfl) (Nat.le_refl _) (by show 0 + len + 0 ≤ len; omega) (g := (mkF m 45 #[.val (.ref a), .val (.ref b), .val (.int (Int32.ofNat o)), .val (.int (Int32.ofNat len)), .val .null, .val (.ref s.heap.size)] [.int (Int32.ofNat N.slots.size), .ref s.heap.size, .ref a])) rfl (by rw [hml]; rfl) c10 (argsL := [.ref s.heap.size, .int (Int32.ofNat N.slots.size)]) (rest := [.ref a]) rfl rfl (by show 2 * 0 + (1 + 0) ≤ _; decide) (hb hbytes d45) (⟨rfl, n1⟩)
  obtain ⟨rfl, q11⟩ := E11
  have hB11 := hB1.mv (X8.warmed.alike.symm.trans X11.warmed.alike) q11
  have c12 : Steps p.tables e below (s₁.setTop (entryFrame m #[.ref a, .ref b, .int (Int32.ofNat o), .int (Int32.ofNat len), .null] 6)) (T11.setTop (mkF m 48 #[.val (.ref a), .val (.ref b), .val (.int (Int32.ofNat o)), .val (.int (Int32.ofNat len)), .val .null, .val (.ref s.heap.size)] [.int 0, .ref a])) := g11
  obtain ⟨T13, X13, p13, bl13, sl13, st13⟩ := X11.finit hexec hown (wk W (.fieldLink "java/lang/String" 15 "java/lang/String" "coder" "B")) (Or.inr ⟨_, (wk W (.laysFinal "java/lang/String" "java/lang/String" "coder" "B"))⟩) (Or.inl ⟨rfl, hnm⟩) f2 (Or.inl rfl) hB11 (t := .byte) (by decide +kernel) rfl (g := (mkF m 48 #[.val (.ref a), .val (.ref b), .val (.int (Int32.ofNat o)), .val (.int (Int32.ofNat len)), .val .null, .val (.ref s.heap.size)] [.int 0, .ref a])) rfl (rest := []) rfl (hb hbytes d48)
  have c14 : Steps p.tables e below (s₁.setTop (entryFrame m #[.ref a, .ref b, .int (Int32.ofNat o), .int (Int32.ofNat len), .null] 6)) (T13.setTop (mkF m 54 #[.val (.ref a), .val (.ref b), .val (.int (Int32.ofNat o)), .val (.int (Int32.ofNat len)), .val .null, .val (.ref s.heap.size)] [.ref s.heap.size, .ref a])) := (c12.trans (st13 _ (Steps.refl _))).trans (by
    refine XS.aloadN X13.here hexec rfl (hb hbytes d51) rfl rfl ?_
    refine XS.aload X13.here hexec rfl (hb hbytes d52) rfl rfl ?_
    exact Steps.refl _)
  obtain ⟨T15, X15, p15, bl15, sl15, st15⟩ := X13.finit hexec hown (wk W (.fieldLink "java/lang/String" 9 "java/lang/String" "value" "[B")) (Or.inr ⟨_, (wk W (.laysFinal "java/lang/String" "java/lang/String" "value" "[B"))⟩) (Or.inl ⟨rfl, hnm⟩) f1 (Or.inl rfl) bl13 (t := (.array .byte)) (by decide +kernel) rfl (g := (mkF m 54 #[.val (.ref a), .val (.ref b), .val (.int (Int32.ofNat o)), .val (.int (Int32.ofNat len)), .val .null, .val (.ref s.heap.size)] [.ref s.heap.size, .ref a])) rfl (rest := []) rfl (hb hbytes d54)
  have c16 : Steps p.tables e below (s₁.setTop (entryFrame m #[.ref a, .ref b, .int (Int32.ofNat o), .int (Int32.ofNat len), .null] 6)) (T15.setTop (mkF m 57 #[.val (.ref a), .val (.ref b), .val (.int (Int32.ofNat o)), .val (.int (Int32.ofNat len)), .val .null, .val (.ref s.heap.size)] [])) := c14.trans (st15 _ (Steps.refl _))
  have ap := apart (Or.inr ⟨_, (wk W (.laysFinal "java/lang/String" "java/lang/String" "value" "[B"))⟩) (Or.inr ⟨_, (wk W (.laysFinal "java/lang/String" "java/lang/String" "coder" "B"))⟩) f1 f2 (t₁ := .array .byte) (t₂ := .byte) (by decide +kernel) (by decide +kernel) (by decide)
  have al := X8.warmed.alike.symm.trans X15.warmed.alike
  have n7 : T11.heap[s.heap.size]? = some N := by rw [q11]; exact n1.1
  exact ⟨T15, none, _, _, _, X15, by simp, rfl, by omega, (fun _ => rfl), ⟨rfl, _, N, bl15, ((Same.refl D _).set _ (by simp)).set _ (by simp), sl15, (Cell.slots_setSlot_ne _ ap).trans sl13, n1.keep al (p15.other hne (p13.other hne n7)), n2, by rw [al.findClass]; exact n3, n4, n5, fun y c h1 h2 => p15.other h1 (p13.other h1 (by rw [q11]; exact n6 y c h2)), by rw [p15.2.2, p13.2.2, q11]; exact z8⟩, fun fs hl => c16.trans (X15.returnOut hexec hret (hb hbytes d57) hl)⟩
end New4
namespace New1
def yN : MethodName := ⟨"java/lang/String", "<init>", "([C)V"⟩
abbrev yB : ByteArray := jdk_42_method_3_code
theorem d0 : decode yB 0 = .ok (.aload_n 0, 1) := by decide +kernel
theorem d1 : decode yB 1 = .ok (.aload_n 1, 1) := by decide +kernel
theorem d2 : decode yB 2 = .ok (.iconst 0, 1) := by decide +kernel
theorem d3 : decode yB 3 = .ok (.aload_n 1, 1) := by decide +kernel
theorem d4 : decode yB 4 = .ok (.arraylength, 1) := by decide +kernel
theorem d5 : decode yB 5 = .ok (.aconst_null, 1) := by decide +kernel
theorem d6 : decode yB 6 = .ok (.invokespecial 27, 3) := by decide +kernel
theorem d9 : decode yB 9 = .ok (.return_, 1) := by decide +kernel
def site : List Cond := [New4.tab] ++ initW "java/lang/String" 27 New4.yN
def tab : Cond := tabOf yN yB 2 none site
def P (a : Addr) (D : Cell) (fV fC : Field) (b : Addr) (A : Cell) (z : Int32) (args : Array Value) (s : State) : Prop := args = #[.ref a, .ref b] ∧ Blank "java/lang/String" a D s ∧ Found "java/lang/String" "value" "[B" fV s ∧ Found "java/lang/String" "coder" "B" fC s ∧ Ch b A s ∧ StaticIs s "java/lang/String" "COMPACT_STRINGS" "Z" (.int z) ∧ ¬ z = 0 ∧ 0 < A.slots.size ∧ A.slots.size ≤ 536870912 ∧ ∀ i, i < A.slots.size → ¬ 255 < cv A i
def E (a : Addr) (D : Cell) (fV fC : Field) (A : Cell) (r : Option Value) (s u : State) : Prop := Got a D fV fC A 0 A.slots.size r s u
/-- new String(chars), not empty, no char above 255: a Latin-1 String of their low bytes -/
theorem law (l : Launch) (a : Addr) (D : Cell) (fV fC : Field) (b : Addr) (A : Cell) (z : Int32) : Law l yN 2 1 3 52 yB 2 none site (P a D fV fC b A z) (E a D fV fC A) [⟨a, fC.slot⟩, ⟨a, fV.slot⟩] 1 A.slots.size := by
  refine Law.of_walk (plainFor_of_name (by decide +kernel)) (by decide +kernel) (by decide +kernel) (by decide) (fun _ _ h => by rw [h.1]; rfl) (fun _ U U' hal hh h => ⟨h.1, h.2.1.mv hal hh, h.2.2.1.al hal, h.2.2.2.1.al hal, h.2.2.2.2.1.mv hal hh, h.2.2.2.2.2.1.there hal hh, h.2.2.2.2.2.2⟩) (fun r U U' V V' h1 hal h2 h => Got.mv r U U' V V' h1 hal h2 h) ?_
  intro p e s m args below meth c s₁ X0 hexec hbytes hml hret hlk hnm hown hh0 W hP
  obtain ⟨rfl, hB, f1, f2, hA, s1, hz, l0, l2, hp⟩ := hP
  have c1 : Steps p.tables e below (s₁.setTop (entryFrame m #[.ref a, .ref b] 2)) (s₁.setTop (mkF m 0 #[.val (.ref a), .val (.ref b)] [])) := entry rfl
  have c2 : Steps p.tables e below (s₁.setTop (entryFrame m #[.ref a, .ref b] 2)) (s₁.setTop (mkF m 6 #[.val (.ref a), .val (.ref b)] [.null, .int (Int32.ofNat A.slots.size), .int 0, .ref b, .ref a])) := c1.trans (by
    refine XS.aloadN X0.here hexec rfl (hb hbytes d0) rfl rfl ?_
    refine XS.aloadN X0.here hexec rfl (hb hbytes d1) rfl rfl ?_
    refine iconstV X0.here hexec rfl 0 (hb hbytes d2) (by decide) ?_
    refine XS.aloadN X0.here hexec rfl (hb hbytes d3) rfl rfl ?_
    refine X0.alen hexec (hA.1.mv X0.warmed.alike hh0) rfl rfl (hb hbytes d4) ?_
    refine XS.aconstNull X0.here hexec rfl (hb hbytes d5) ?_
    exact Steps.refl _)
  obtain ⟨v3, T3, X3, E3, g3⟩ := X0.callN hexec (New4.law l a D fV fC b A z 0 A.slots.size) rfl hown (wks W (initW "java/lang/String" 27 New4.yN)) (W New4.tab (by simp only [site, List.mem_cons, List.mem_append, true_or, or_true])) (W := 0) (Nat.le_of_ble_eq_true rfl) (Nat.le_of_ble_eq_true rfl) (Nat.le_refl _) (by show 0 + A.slots.size ≤ A.slots.size; omega) (g := (mkF m 6 #[.val (.ref a), .val (.ref b)] [.null, .int (Int32.ofNat A.slots.size), .int (Int32.ofNat 0), .ref b, .ref a])) rfl (by rw [hml]; rfl) c2 (argsL := [.ref b, .int (Int32.ofNat 0), .int (Int32.ofNat A.slots.size), .null]) (rest := []) rfl rfl (by show 2 * 0 + 0 ≤ _; decide) (hb hbytes d6) (⟨rfl, hB.mv X0.warmed.alike hh0, f1.al X0.warmed.alike, f2.al X0.warmed.alike, hA.mv X0.warmed.alike hh0, s1.there X0.warmed.alike hh0, hz, l0, by omega, l2, fun i hi => by rw [Nat.zero_add]; exact hp i hi⟩)
  have e0 := Got.mv _ s₁ s _ _ hh0.symm (Vm.Alike.refl _) rfl E3
  obtain rfl := e0.1
  have c4 : Steps p.tables e below (s₁.setTop (entryFrame m #[.ref a, .ref b] 2)) (T3.setTop (mkF m 9 #[.val (.ref a), .val (.ref b)] [])) := g3
  exact ⟨T3, none, _, _, _, X3, by simp, rfl, by omega, (fun _ => rfl), e0, fun fs hl => c4.trans (X3.returnOut hexec hret (hb hbytes d9) hl)⟩
theorem pays {l : Launch} {R : Room} {p : Program} {e : Env} {below : List Frame} {s : State} {sargs : Array Value} {len W : Nat} (a : Addr) (D : Cell) (fV fC : Field) (b : Addr) (A : Cell) (z : Int32) (htab : tab.before sargs s = true) (hfr : 4 ≤ R.frames) (hlo : W + 65 ≤ R.locals) :
    Back l R p e below s sargs yN len W (fun A₁ a₁ => A₁.cells + 1 ≤ R.cells ∧ A₁.slots + A.slots.size ≤ R.slots ∧ P a D fV fC b A z a₁ A₁.U) (fun A₁ _ v₁ B₁ => E a D fV fC A v₁ A₁.U B₁.U ∧ B₁.locs = A₁.locs ++ [⟨a, fC.slot⟩, ⟨a, fV.slot⟩] ∧ B₁.cells = A₁.cells + 1 ∧ B₁.slots = A₁.slots + A.slots.size) :=
  (law l a D fV fC b A z).pays htab hfr (by omega)
end New1
end StrChars
namespace StrChars.Road
open Jvm Sem ClassFile Op Lib Jvm.Stand Jvm.Free Jvm.Free.XT
open Jvm.Lib.Cold (StaticIs)
abbrev ST : String := "java/lang/String"
/-- every table word that New1's law asks, flat -/
abbrev words : List Jvm.Cond := [.code New1.yN New1.yB 2 none, .initialized ST, .methodLink ST 27 New4.yN, .instanceMethod New4.yN,
  .code New4.yN New4.yB 6 none, .fieldLink ST 38 ST "COMPACT_STRINGS" "Z", .laysFinal ST ST "value" "[B", .fieldLink ST 9 ST "value" "[B", .laysFinal ST ST "coder" "B", .fieldLink ST 15 ST "coder" "B",
  .methodLink ST 1 Lib.objectInit, .instanceMethod Lib.objectInit, .code Lib.objectInit ⟨#[0xb1]⟩ 1 none, .methodLink ST 177 Cmp3.yN, .static Cmp3.yN, .methodLink ST 47 CodL.yN, .static CodL.yN,
  .code Cmp3.yN Cmp3.yB 6 (some (.array .byte)), .initialized U16, .arrayClass .byte, .methodLink U16 115 Cmp5.yN, .static Cmp5.yN, .code Cmp5.yN Cmp5.yB 7 (some .int), .code CodL.yN CodL.yB 2 (some .byte)]
theorem tab_of {a : Array Value} {s : State} (h : ∀ w ∈ words, w.before a s = true) : New1.tab.before a s = true := by
  have h5 : Cmp5.tab.before a s = true := unparts (wk h (.code Cmp5.yN Cmp5.yB 7 (some .int))) (wks h (.initialized Cmp5.yN.cls :: Cmp5.site))
  have hc : CodL.tab.before a s = true := unparts (wk h (.code CodL.yN CodL.yB 2 (some .byte))) (wks h (.initialized CodL.yN.cls :: CodL.site))
  have q5 : ∀ w ∈ Cmp5.tab :: words, w.before a s = true := fun w hw => (List.mem_cons.mp hw).elim (fun e => e ▸ h5) (h w)
  have h3 : Cmp3.tab.before a s = true := unparts (wk q5 (.code Cmp3.yN Cmp3.yB 6 (some (.array .byte)))) (wks q5 (.initialized Cmp3.yN.cls :: Cmp3.site))
  have q3 : ∀ w ∈ Cmp3.tab :: CodL.tab :: words, w.before a s = true := fun w hw => (List.mem_cons.mp hw).elim (fun e => e ▸ h3) fun hw => (List.mem_cons.mp hw).elim (fun e => e ▸ hc) (h w)
  have h4 : New4.tab.before a s = true := unparts (wk q3 (.code New4.yN New4.yB 6 none)) (wks q3 (.initialized New4.yN.cls :: New4.site))
  have q4 : ∀ w ∈ New4.tab :: words, w.before a s = true := fun w hw => (List.mem_cons.mp hw).elim (fun e => e ▸ h4) (h w)
  exact unparts (wk q4 (.code New1.yN New1.yB 2 none)) (wks q4 (.initialized New1.yN.cls :: New1.site))
/-- the words ride from the start Z to the walk's own state -/
theorem moved {Z s : State} {a0 args : Array Value} (hZ : Z.Warmed39 s.vm) (hw : ∀ d ∈ words, d.before a0 Z = true) : ∀ d ∈ words, d.before args s = true := fun d hd => by
  have q := hw d hd
  have t : ∀ d ∈ words, d = .arrayClass .byte ∨ (d.onTables && d.keepsFace) = true := by decide +kernel
  rcases t d hd with rfl | t
  · exact RoadKit.mvA hZ q
  · exact RoadKit.mv hZ q t
/-- WHAT COMES BACK, over the tables of the start Z: h the heap at the call, h' behind it -/
def Q (Z : State) (x : Addr) (A : Cell) (h : Heap) (v : Option Value) (h' : Heap) (L : List Loc) : Prop := v = none ∧ (∀ y ∈ L, y.base = x) ∧ RoadKit.Keep h h' [x] ∧ h'.size = h.size + 1 ∧ RoadKit.Exa Z h' x ST ∧ RoadKit.Fld Z h' x ST "value" "[B" (.ref h.size) ∧ RoadKit.Fld Z h' x ST "coder" "B" (.int 0) ∧
  (∃ V : Cell, RoadKit.Arr Z h' h.size V .byte ∧ V.vm = .none ∧ Z.vm.findClass "[B" = some V.cls ∧ V.slots.size = A.slots.size ∧ ∀ j, j < A.slots.size → V.slots[j]? = some (.int (lo8 (cv A j)))) ∧
  ∀ (O n d : String) (w : Value), RoadKit.Fld Z h x O n d w → RoadKit.slotOf Z O n d ≠ RoadKit.slotOf Z ST "value" "[B" → RoadKit.slotOf Z O n d ≠ RoadKit.slotOf Z ST "coder" "B" → RoadKit.Fld Z h' x O n d w
/-- **new String(chars) AT A CALL, IN THE ROAD'S FORM**: for specialBack behind newO: x the fresh String, b the char[] with the cell A -/
theorem back {p : Program} {l : Launch} {e : Env} {R : Room} {s : State} {args : Array Value} {below : List Frame} {len W : Nat} {Z : State} {a0 : Array Value} {h : Heap} (hZ : Z.Warmed39 s.vm) (hw : ∀ d ∈ words, d.before a0 Z = true) {kI : Nat} (wi : (Jvm.Cond.instantiable ST kI).before a0 Z = true)
    {x b : Addr} {A : Cell} {z : Int32} {v0 c0 : Value} (E : RoadKit.Exa Z h x ST) (V : RoadKit.Fld Z h x ST "value" "[B" v0) (C : RoadKit.Fld Z h x ST "coder" "B" c0) (K : RoadKit.Arr Z h b A .char) (hty : Typed .char A) (S : RoadKit.Sta Z h ST "COMPACT_STRINGS" "Z" (.int z)) (hz : ¬ z = 0)
    (l0 : 0 < A.slots.size) (l2 : A.slots.size ≤ 536870912) (hp : ∀ i, i < A.slots.size → ¬ 255 < cv A i) (hfr : 4 ≤ R.frames) (hlo : W + 65 ≤ R.locals) :
    Back l R p e below s args New1.yN len W (fun P a => a = #[.ref x, .ref b] ∧ P.U.heap = h ∧ P.cells + 1 ≤ R.cells ∧ P.slots + A.slots.size ≤ R.slots)
      (fun P _ v B => ∃ L, Q Z x A h v B.U.heap L ∧ B.locs = P.locs ++ L ∧ B.cells = P.cells + 1 ∧ B.slots = P.slots + A.slots.size) := by
  intro m meth c P g ig mk a X hg hsize hdg hW hn hp'
  obtain ⟨rfl, rfl, r1, r2⟩ := hp'
  have al : Z.vm.Alike P.U.vm := hZ.alike.trans X.warmed.alike
  obtain ⟨D, cfV, kV, iV, fV, hD, gV, stV, knV, obV, asV, slV⟩ := id V
  obtain ⟨D', cfC, kC, iC, fC, hD', gC, stC, -, -, asC, slC⟩ := id C
  cases hD.symm.trans hD'
  obtain ⟨D2, kD, e1, e2, e3, e4, e5⟩ := id E
  cases hD.symm.trans e1
  obtain ⟨c2, k2, i1, i2, i3, -⟩ := Cond.instantiable_spec wi
  cases e2.symm.trans i1
  cases e3.symm.trans i2
  obtain ⟨kU, u1, u2⟩ := al.2.2 _ _ e3
  have hB : Blank ST x D P.U := ⟨hD, ⟨knV, fun q hq => by rw [hq] at obV; cases obV⟩, by rw [al.findClass]; exact e2, kU, u1, by rw [u2]; exact i3, by rw [u2]; exact e5 i3⟩
  have F1 : Found ST "value" "[B" fV P.U := ⟨SBG.found_only al ⟨cfV, kV, iV, gV⟩, stV⟩
  have F2 : Found ST "coder" "B" fC P.U := ⟨SBG.found_only al ⟨cfC, kC, iC, gC⟩, stC⟩
  have hA : Ch b A P.U := ⟨⟨K.1, State.isArrayOf_alike al K.2.1, K.2.2, by omega⟩, hty⟩
  have hS : StaticIs P.U ST "COMPACT_STRINGS" "Z" (.int z) := by
    obtain ⟨cfS, iS, kS, fS, st, cS, t1, t2, t3, t4, t5, t6, t7⟩ := S
    exact StaticIs.there (s := { Z with heap := P.U.heap }) ⟨cfS, iS, kS, fS, st, cS, t1, t2, t3, t4, t5, (fun q => by rw [q] at t6; cases t6), t7⟩ al rfl
  obtain ⟨v, B, X', ⟨⟨hv, E', V', q1, q2, q3, q4, q5, q6, q7, q8, q9, q10, q11⟩, hl, hc, hs⟩, st⟩ := New1.pays x D fV fC b A z (tab_of (moved hZ hw)) hfr hlo m meth c P g ig mk _ X hg hsize hdg hW hn ⟨r1, r2, rfl, hB, F1, F2, hA, hS, hz, l0, l2, hp⟩
  have al' : Z.vm.Alike B.U.vm := hZ.alike.trans X'.warmed.alike
  have hsz : E'.slots.size = D.slots.size := by
    obtain ⟨-, -, -, kB, w1, w2, w3⟩ := q1
    obtain ⟨kB', y1, y2⟩ := al'.2.2 _ _ e3
    rw [q2.2.1] at w1
    cases w1.symm.trans y1
    rw [w3, e5 i3, y2]
  refine ⟨v, B, X', ⟨_, ⟨hv, ?_, ⟨by omega, fun y cy hy hn' => q10 y cy (by simpa using hn') hy, fun y cy hy => ?_⟩, q11, ⟨E', _, q1.1, by rw [q2.2.1]; exact e2, by rw [q2.2.1]; exact e3, by rw [q2.1]; exact obV, fun _ => by rw [hsz]; exact e5 i3⟩,
    ⟨E', cfV, kV, iV, fV, q1.1, gV, stV, by rw [q2.1]; exact knV, by rw [q2.1]; exact obV, by rw [q2.2.1]; exact asV, q3⟩, ⟨E', cfC, kC, iC, fC, q1.1, gC, stC, by rw [q2.1]; exact knV, by rw [q2.1]; exact obV, by rw [q2.2.1]; exact asC, q4⟩,
    ⟨V', ⟨q5.1, State.isArrayOf_alike al'.symm q5.2.1, q5.2.2.1⟩, q6, by rw [← al'.findClass]; exact q7, q8, fun j hj => by have := q9 j hj; rwa [Nat.zero_add] at this⟩, fun O n d w F n1 n2 => ?_⟩, hl, hc, hs⟩, st⟩
  · intro y hy
    simp only [List.mem_cons, List.not_mem_nil, or_false] at hy
    rcases hy with rfl | rfl <;> rfl
  · by_cases q : y = x
    · subst q
      cases hD.symm.trans hy
      exact ⟨E', q1.1, q2.2.1, q2.1, hsz⟩
    · exact ⟨cy, q10 y cy q hy, rfl, rfl, rfl⟩
  · obtain ⟨D3, cf, k, i, f, g1, g2, g3, g4, g5, g6, g7⟩ := F
    cases hD.symm.trans g1
    simp only [RoadKit.slotOf, g2, gV, gC, Option.map_some, Option.getD_some] at n1 n2
    exact ⟨E', cf, k, i, f, q1.1, g2, g3, by rw [q2.1]; exact g4, by rw [q2.1]; exact g5, by rw [q2.2.1]; exact g6, by rw [q2.2.2 f.slot (by simp [n1, n2])]; exact g7⟩
end StrChars.Road
namespace StrChars.Road
open Jvm Sem ClassFile Op Lib Jvm.Stand Jvm.Free Jvm.Free.XT
/-- WHAT COMES BACK, the byte[] as a list of values -/
def QA (Z : State) (x : Addr) (zn : Int32) (cs : List Int32) (h : Heap) (v : Option Value) (h' : Heap) (L : List Loc) : Prop := v = none ∧ (∀ y ∈ L, y.base = x) ∧ RoadKit.Keep h h' [x] ∧ h'.size = h.size + 1 ∧ RoadKit.Exa Z h' x ST ∧ RoadKit.Fld Z h' x ST "value" "[B" (.ref h.size) ∧ RoadKit.Fld Z h' x ST "coder" "B" (.int 0) ∧
  (∃ kb, Z.vm.findClass "[B" = some kb ∧ RoadKit.Arv Z h' h.size kb .byte zn (cs.map fun c => .int (lo8 c)) (.int 0)) ∧
  ∀ (O n d : String) (w : Value), RoadKit.Fld Z h x O n d w → RoadKit.slotOf Z O n d ≠ RoadKit.slotOf Z ST "value" "[B" → RoadKit.slotOf Z O n d ≠ RoadKit.slotOf Z ST "coder" "B" → RoadKit.Fld Z h' x O n d w
/-- **new String(chars) AT A CALL, THE ARRAYS AS LISTS**: the char[] at b holds cs, not empty, no char above 255 -/
theorem backArv {p : Program} {l : Launch} {e : Env} {R : Room} {s : State} {args : Array Value} {below : List Frame} {len W : Nat} {Z : State} {a0 : Array Value} {h : Heap} (hZ : Z.Warmed39 s.vm) (hw : ∀ d ∈ words, d.before a0 Z = true) {kI : Nat} (wi : (Jvm.Cond.instantiable ST kI).before a0 Z = true)
    {x b : Addr} {k : ClassId} {zn z : Int32} {cs : List Int32} {dv v0 c0 : Value} (E : RoadKit.Exa Z h x ST) (V : RoadKit.Fld Z h x ST "value" "[B" v0) (C : RoadKit.Fld Z h x ST "coder" "B" c0) (K : RoadKit.Arv Z h b k .char zn (cs.map Value.int) dv) (S : RoadKit.Sta Z h ST "COMPACT_STRINGS" "Z" (.int z)) (hz : ¬ z = 0)
    (hlen : zn.toNatClampNeg = cs.length) (h0 : 0 < cs.length) (hbig : cs.length ≤ 536870912) (hall : ∀ c ∈ cs, ¬ 255 < c) (hfr : 4 ≤ R.frames) (hlo : W + 65 ≤ R.locals) :
    Back l R p e below s args New1.yN len W (fun P a => a = #[.ref x, .ref b] ∧ P.U.heap = h ∧ P.cells + 1 ≤ R.cells ∧ P.slots + cs.length ≤ R.slots)
      (fun P _ v B => ∃ L, QA Z x zn cs h v B.U.heap L ∧ B.locs = P.locs ++ L ∧ B.cells = P.cells + 1 ∧ B.slots = P.slots + cs.length) := by
  obtain ⟨A, K1, K2, K3, K4, K5, K6⟩ := K
  have e : A.slots.size = cs.length := K3.trans hlen
  have hat : ∀ (i : Nat) (hi : i < cs.length), A.slots[i]? = some (.int cs[i]) := fun i hi => by rw [K5 i (by omega)]; simp [List.getD_eq_getElem?_getD, hi]
  have hcv : ∀ (i : Nat) (hi : i < cs.length), cv A i = cs[i] := fun i hi => by unfold cv; rw [hat i hi]
  have hty : Typed .char A := fun i v hv => by
    have hi : i < A.slots.size := (Array.getElem?_eq_some_iff.mp hv).1
    have q := K5 i hi
    rw [hv] at q
    rw [Option.some.inj q]
    exact K6 i hi
  refine Back.mono (back hZ hw wi E V C K1 hty S hz (by omega) (by omega) (fun i hi => by rw [hcv i (by omega)]; exact hall _ (List.getElem_mem _)) hfr hlo) (fun P a hp => ⟨hp.1, hp.2.1, hp.2.2.1, by rw [e]; exact hp.2.2.2⟩) (fun P a v B hp hq => ?_)
  obtain ⟨L, ⟨q1, q2, q3, q4, q5, q6, q7, ⟨V', v1, v2, v3, v4, v5⟩, q9⟩, hl, hc, hs⟩ := hq
  refine ⟨L, ⟨q1, q2, q3, q4, q5, q6, q7, ⟨V'.cls, v3, V', v1, rfl, by rw [v4, e, hlen], K4, fun i hi => ?_, fun i hi => ?_⟩, q9⟩, hl, hc, by rw [hs, e]⟩
  · have hi' : i < cs.length := by omega
    rw [v5 i (by omega), hcv i hi']; simp [List.getD_eq_getElem?_getD, hi']
  · have hi' : i < cs.length := by omega
    simp only [List.getD_eq_getElem?_getD, List.getElem?_map, List.getElem?_eq_getElem hi', Option.map_some, Option.getD_some]
    exact fits_lo8 _
end StrChars.Road
namespace StrChars.Road
open Jvm Sem ClassFile Op Lib Jvm.Stand Jvm.Free Jvm.Free.XT
/-- WHAT COMES BACK, in the writer's own shape -/
def QV (Z : State) (x : Addr) (N : Int32) (bs : List Int32) (h : Heap) (n0 : Nat) (v : Option Value) (h' : Heap) (L : List Loc) : Prop := v = none ∧ RoadKit.Fr n0 L ∧ RoadKit.Keep h h' [x] ∧ RoadKit.Exa Z h' x ST ∧ RoadKit.Fld Z h' x ST "coder" "B" (.int 0) ∧
  ∃ (t : Addr) (kb : ClassId), n0 ≤ t ∧ h.size ≤ t ∧ ¬ t = x ∧ RoadKit.Fld Z h' x ST "value" "[B" (.ref t) ∧ RoadKit.Arv Z h' t kb .byte N (bs.map Value.int) (.int 0)
/-- **new String(chars) AT A CALL, FOR THE WRITER**: a char[] of n known ints, each 0 to 255 -/
theorem backV {p : Program} {l : Launch} {e : Env} {R : Room} {s : State} {args : Array Value} {below : List Frame} {len W : Nat} {Z : State} {a0 : Array Value} {h : Heap} (hZ : Z.Warmed39 s.vm) (hw : ∀ d ∈ words, d.before a0 Z = true) {kI : Nat} (wi : (Jvm.Cond.instantiable ST kI).before a0 Z = true)
    {x b : Addr} {kC : ClassId} {cs bs : List Int32} {d v0 c0 : Value} {z N : Int32} {n n0 : Nat} (hx0 : n0 ≤ x) (hh0 : n0 ≤ h.size) (E : RoadKit.Exa Z h x ST) (V : RoadKit.Fld Z h x ST "value" "[B" v0) (C : RoadKit.Fld Z h x ST "coder" "B" c0) (K : RoadKit.Arv Z h b kC .char N (cs.map Value.int) d) (S : RoadKit.Sta Z h ST "COMPACT_STRINGS" "Z" (.int z)) (hz : ¬ z = 0)
    (hn : cs.length = n) (hN : N = Int32.ofNat n) (l0 : 0 < n) (l2 : n ≤ 4000) (hp : ∀ c ∈ cs, ¬ c < 0 ∧ ¬ (255 : Int32) < c) (hb : bs = cs.map (fun c => c.toInt8.toInt32)) (hfr : 4 ≤ R.frames) (hlo : W + 65 ≤ R.locals) :
    Back l R p e below s args (⟨"java/lang/String", "<init>", "([C)V"⟩ : MethodName) len W (fun P a => a = #[.ref x, .ref b] ∧ P.U.heap = h ∧ P.cells + 1 ≤ R.cells ∧ P.slots + n ≤ R.slots)
      (fun P _ v B => ∃ L, QV Z x N bs h n0 v B.U.heap L ∧ B.locs = P.locs ++ L ∧ B.cells = P.cells + 1 ∧ B.slots = P.slots + n) := by
  subst hn hN hb
  refine Back.mono (backArv hZ hw wi E V C K S hz (n32 (by omega)) l0 (by omega) (fun c hc => (hp c hc).2) hfr hlo) (fun P a hp => hp) (fun P a v B hp hq => ?_)
  obtain ⟨L, ⟨q1, q2, q3, q4, q5, q6, q7, ⟨kb, v1, v2⟩, q9⟩, hl, hc, hs⟩ := hq
  exact ⟨L, ⟨q1, fun y hy => by rw [q2 y hy]; exact hx0, q3, q5, q7, h.size, kb, hh0, Nat.le_refl _, Nat.ne_of_gt E.lt, q6, by rw [List.map_map]; exact v2⟩, hl, hc, hs⟩
end StrChars.Road
end Jvm.Pilot.@@N@@

namespace Jvm.Pilot.@@N@@
open Jvm Jvm.ClassFile Sem Op Lib Jvm.Free Jvm.Stand Jvm.LawKit Jvm.RoadKit Bundle Jvm.Pilot.@@N@@.Jvm.D
/-! my own layer: a walk in continuation form. OGo P T g: from the frame g at T the run comes to an end that meets P. -/
section Own
variable {p : Program} {l : Launch} {e : Env} {R : Room} {s : State} {m : MethodId} {args : Array Value} {below : List Frame} {meth : Method} {c : Code} {T : State} {locs : List Loc} {cells slots : Nat} {Z : State} {a0 : Array Value} {h : Heap}
def OGo (p : Program) (e : Env) (below : List Frame) (P : State → Outcome → Prop) (T : State) (g : JFrame) : Prop :=
  ∃ t o, Steps p.tables e below (T.setTop g) t ∧ t.status = .running ∧ Ended t below o ∧ P t o
def OEnd (s : State) (Q : Option Value → Heap → List Loc → Prop) (ck sk : Nat) (t : State) (o : Outcome) : Prop :=
  ∃ v L, o = .returned v ∧ Q v t.heap L ∧ FrameEnd s o t L ck sk
def OMet (l : Launch) (y : MethodName) (bytes : ByteArray) (maxL : Nat) (ret : Option FieldType) (ws : List Jvm.Cond) (rm : Room) (Z : State) (as' : Array Value) (h : Heap) (Q : Option Value → Heap → List Loc → Prop) : Prop :=
  MetFree l y (head1 (Jvm.Cond.code y bytes maxL ret :: ws) rm) (fun a U => a = as' ∧ Z.Warmed39 U.vm ∧ U.heap = h) (fun _ _ _ _ _ => True)
    (fun _ U o U' => ∃ v L, o = .returned v ∧ Q v U'.heap L ∧ FrameEnd U o U' L rm.cells rm.slots)
variable {P : State → Outcome → Prop}
theorem own_step {g g' : JFrame} (k : ∀ target, Steps p.tables e below (T.setTop g') target → Steps p.tables e below (T.setTop g) target) (d : OGo p e below P T g') : OGo p e below P T g := by
  obtain ⟨t, o, h1, h2⟩ := d
  exact ⟨t, o, k t h1, h2⟩
theorem own_via {T' : State} {g g' : JFrame} (k : ∀ target, Steps p.tables e below (T'.setTop g') target → Steps p.tables e below (T.setTop g) target) (d : OGo p e below P T' g') : OGo p e below P T g := by
  obtain ⟨t, o, h1, h2⟩ := d
  exact ⟨t, o, k t h1, h2⟩
theorem own_entry {g g' : JFrame} (q : g = g') (d : OGo p e below P T g') : OGo p e below P T g := q ▸ d
/-- a body by its walk -/
theorem own_body {y : MethodName} {bytes : ByteArray} {maxL : Nat} {ret : Option FieldType} {ws : List Jvm.Cond} {rm : Room} {as' : Array Value} {Q : Option Value → Heap → List Loc → Prop} (hpl : plainFor y = true)
    (body : ∀ (p : Program) (e : Env) (s : State) (m : MethodId) (below : List Frame) (meth : Method) (c : Code) (T : State), Stand p l e rm s m as' below meth c T [] 0 0 → p.tables.exec = Jvm.exec → Z.Warmed39 s.vm → c.code = bytes → c.maxLocals = maxL →
      s.vm.findClass y.cls = some m.cls → meth.name = y.name → meth.sig.returnType = ret → meth.locks = false → T.heap = h → OGo p e below (OEnd s Q rm.cells rm.slots) T (entryFrame m as' maxL)) :
    OMet l y bytes maxL ret ws rm Z as' h Q := by
  refine MetFree.of_bodySF hpl hisR ?_
  intro p e s m args below meth c s₁ Bd hml0 hP hK
  obtain ⟨rfl, hZ, hh⟩ := hP
  exact body p e s m below meth c s₁ (Stand.of_body Bd) Bd.exec hZ Bd.bytes hml0 (findClass_of_methodNamed Bd.named) (name_of_methodNamed Bd.named Bd.method).1 Bd.returns Bd.notSynchronized (by rw [← hh, Bd.state]; rfl)
variable {Q : Option Value → Heap → List Loc → Prop} {ck sk : Nat}
theorem own_retN (X : Stand p l e R s m args below meth c T locs cells slots) (hx : p.tables.exec = Jvm.exec) {pc : Nat} {Ls : Array Slot} {z : Int32} {t : FieldType} {rest : List Value} (hret : meth.sig.returnType = some t) (ht : t = .boolean ∨ t = .byte ∨ t = .char ∨ t = .short)
    (hlk : meth.locks = false) (hd : decode c.code pc = .ok (.ireturn, 1)) (eT : T.heap = h) (hQ : Q (some (.int (nar t z))) h locs) (hc : cells ≤ ck) (hs : slots ≤ sk) :
    OGo p e below (OEnd s Q ck sk) T (mkF m pc Ls (.int z :: rest)) := by
  obtain ⟨fs, hr, hrun, hended, hW, hsame⟩ := X.leave (v := some (.int (nar t z))) (fun h => by rw [hret] at h; cases h) hlk
  exact ⟨_, _, retN X hx hret ht hd hr, hrun, hended, _, locs, rfl, (show Q _ T.heap locs by rw [eT]; exact hQ), ⟨_, rfl⟩, hW, hsame.mono hc hs⟩
theorem own_retO (X : Stand p l e R s m args below meth c T locs cells slots) (hx : p.tables.exec = Jvm.exec) {pc : Nat} {Ls : Array Slot} {w : Value} {t : FieldType} {i : Instr} {rest : List Value} (hret : meth.sig.returnType = some t) (hn : narrow t w = w)
    (hi : (i = .ireturn ∧ (t = .int ∨ t = .boolean ∨ t = .byte ∨ t = .char ∨ t = .short) ∧ ∃ z, w = .int z) ∨ (i = .lreturn ∧ t = .long ∧ ∃ z, w = .long z) ∨ (i = .dreturn ∧ t = .double ∧ ∃ z, w = .double z) ∨ (i = .freturn ∧ t = .float ∧ ∃ z, w = .float z) ∨ (i = .areturn ∧ t.isReference = true ∧ w.isRef = true))
    (hlk : meth.locks = false) (hd : decode c.code pc = .ok (i, 1)) (eT : T.heap = h) (hQ : Q (some w) h locs) (hc : cells ≤ ck) (hs : slots ≤ sk) :
    OGo p e below (OEnd s Q ck sk) T (mkF m pc Ls (w :: rest)) := by
  obtain ⟨fs, hr, hrun, hended, hW, hsame⟩ := X.leave (v := some w) (fun h => by rw [hret] at h; cases h) hlk
  exact ⟨_, _, retOut X hx hret hn hi hd hr, hrun, hended, _, locs, rfl, (show Q _ T.heap locs by rw [eT]; exact hQ), ⟨_, rfl⟩, hW, hsame.mono hc hs⟩
theorem own_retI (X : Stand p l e R s m args below meth c T locs cells slots) (hx : p.tables.exec = Jvm.exec) {pc : Nat} {Ls : Array Slot} {z : Int32} {rest : List Value} (hret : meth.sig.returnType = some .int)
    (hlk : meth.locks = false) (hd : decode c.code pc = .ok (.ireturn, 1)) (eT : T.heap = h) (hQ : Q (some (.int z)) h locs) (hc : cells ≤ ck) (hs : slots ≤ sk) :
    OGo p e below (OEnd s Q ck sk) T (mkF m pc Ls (.int z :: rest)) := own_retO X hx hret rfl (Or.inl ⟨rfl, Or.inl rfl, z, rfl⟩) hlk hd eT hQ hc hs
theorem own_retA (X : Stand p l e R s m args below meth c T locs cells slots) (hx : p.tables.exec = Jvm.exec) {pc : Nat} {Ls : Array Slot} {w : Value} {t : FieldType} {rest : List Value} (hret : meth.sig.returnType = some t) (ht : t.isReference = true) (hw : w.isRef = true)
    (hlk : meth.locks = false) (hd : decode c.code pc = .ok (.areturn, 1)) (eT : T.heap = h) (hQ : Q (some w) h locs) (hc : cells ≤ ck) (hs : slots ≤ sk) :
    OGo p e below (OEnd s Q ck sk) T (mkF m pc Ls (w :: rest)) :=
  own_retO X hx hret (by cases t <;> cases w <;> first | rfl | (cases ht; done) | (cases hw; done)) (Or.inr (Or.inr (Or.inr (Or.inr ⟨rfl, ht, hw⟩)))) hlk hd eT hQ hc hs
theorem own_retV (X : Stand p l e R s m args below meth c T locs cells slots) (hx : p.tables.exec = Jvm.exec) {pc : Nat} {Ls : Array Slot} (hret : meth.sig.returnType = none)
    (hlk : meth.locks = false) (hd : decode c.code pc = .ok (.return_, 1)) (eT : T.heap = h) (hQ : Q none h locs) (hc : cells ≤ ck) (hs : slots ≤ sk) :
    OGo p e below (OEnd s Q ck sk) T (mkF m pc Ls []) := by
  obtain ⟨fs, hr, hrun, hended, hW, hsame⟩ := X.leave (v := none) (fun _ => rfl) hlk
  exact ⟨_, _, X.returnOut hx hret hd hr, hrun, hended, _, locs, rfl, (show Q _ T.heap locs by rw [eT]; exact hQ), ⟨_, rfl⟩, hW, hsame.mono hc hs⟩
variable {y : MethodName} {bytes : ByteArray} {maxL : Nat} {ret : Option FieldType} {rm : Room} {as' : Array Value}
theorem own_callS (X : Stand p l e R s m args below meth c T locs cells slots) (hx : p.tables.exec = Jvm.exec) (hZ : Z.Warmed39 s.vm) {own : String} {index W : Nat} (hown : s.vm.findClass own = some m.cls) (eT : T.heap = h)
    (hM : OMet l y bytes maxL ret [] rm Z as' h Q)
    (w1 : (Cond.methodLink own index y).before a0 Z = true) (w2 : (Cond.static y).before a0 Z = true) (w3 : (Cond.initialized y.cls).before a0 Z = true) (w4 : (Cond.code y bytes maxL ret).before a0 Z = true)
    (hy : y.cls ≠ "java/lang/invoke/MethodHandle" ∧ y.cls ≠ "java/lang/invoke/VarHandle") (hf : rm.frames + 1 ≤ R.frames) (hl : W + (maxL + 11) + rm.locals ≤ R.locals)
    {g : JFrame} (hg : g.method = m) (hsize : g.locals.size = c.maxLocals) {argsL rest : List Value} (has : argsL.toArray = as') (hlen : ∀ sig, parseMethodDescriptor y.desc = some sig → argsL.length = sig.parameters.length)
    (hstack : g.stack = argsL.reverse ++ rest) (hW : 2 * g.monitorRoom + (rest.map fun v => v.category).sum ≤ W) (hdg : decode c.code g.pc = .ok (.invokestatic index, 3))
    (hc : cells + rm.cells ≤ R.cells) (hs : slots + rm.slots ≤ R.slots)
    (k : ∀ (v : Option Value) (T' : State) (L : List Loc), Stand p l e R s m args below meth c T' (locs ++ L) (cells + rm.cells) (slots + rm.slots) → Q v T'.heap L → OGo p e below P T' { g with pc := g.pc + 3, stack := v.toList ++ rest }) :
    OGo p e below P T g := by
  obtain ⟨v, _, ⟨T', L', k', n'⟩, -, X', ⟨Lc, hQ, e1, e2, e3⟩, st⟩ := Jvm.LawKit.callS X hx (y := y) hown (mvT hZ w1) (mvT hZ w2) (mvT hZ w3) (mvT hZ w4) hy (backOf (W := W) hM hZ w4 w3 hf hl) hg hsize hlen hstack hW hdg (fun _ _ => ⟨has, eT, hc, hs⟩)
  dsimp only [Pt.U, Pt.locs, Pt.cells, Pt.slots] at X' e1 e2 e3 st hQ
  subst e1 e2 e3
  exact own_via st (k v T' Lc X' hQ)
theorem own_callV (X : Stand p l e R s m args below meth c T locs cells slots) (hx : p.tables.exec = Jvm.exec) (hZ : Z.Warmed39 s.vm) {own C : String} {index W : Nat} {z : MethodName} (hown : s.vm.findClass own = some m.cls) (eT : T.heap = h)
    (hM : OMet l z bytes maxL ret [] rm Z as' h Q) {b : Addr} (E : Exa Z h b C)
    (w1 : (Cond.methodLink own index y).before a0 Z = true) (w2 : (Cond.declares y).before a0 Z = true) (nf : NotFace s y) (w3 : (Cond.selects C y z).before a0 Z = true) (w4 : (Cond.instanceMethod z).before a0 Z = true) (w5 : (Cond.code z bytes maxL ret).before a0 Z = true) (w6 : (Cond.initialized z.cls).before a0 Z = true)
    (hy : y.cls ≠ "java/lang/invoke/MethodHandle" ∧ y.cls ≠ "java/lang/invoke/VarHandle") (hf : rm.frames + 1 ≤ R.frames) (hl : W + (maxL + 11) + rm.locals ≤ R.locals)
    {g : JFrame} (hg : g.method = m) (hsize : g.locals.size = c.maxLocals) {argsL rest : List Value} (has : (.ref b :: argsL).toArray = as') (hlen : ∀ sig, parseMethodDescriptor y.desc = some sig → argsL.length = sig.parameters.length)
    (hstack : g.stack = argsL.reverse ++ .ref b :: rest) (hW : 2 * g.monitorRoom + (rest.map fun v => v.category).sum ≤ W) (hdg : decode c.code g.pc = .ok (.invokevirtual index, 3))
    (hc : cells + rm.cells ≤ R.cells) (hs : slots + rm.slots ≤ R.slots)
    (k : ∀ (v : Option Value) (T' : State) (L : List Loc), Stand p l e R s m args below meth c T' (locs ++ L) (cells + rm.cells) (slots + rm.slots) → Q v T'.heap L → OGo p e below P T' { g with pc := g.pc + 3, stack := v.toList ++ rest }) :
    OGo p e below P T g := by
  obtain ⟨cq, kq, qa, qb, qc⟩ := isOf hZ eT E
  obtain ⟨v, _, ⟨T', L', k', n'⟩, -, X', ⟨Lc, hQ, e1, e2, e3⟩, st⟩ := X.virtualBack hx (y := y) (z := z) hown (mvT hZ w1) (mvT hZ w2) nf (mvT hZ w3) (mvT hZ w4) hy (backOf (W := W) hM hZ w5 w6 hf hl) qa qc hg hsize (Steps.refl _) hlen hstack hW hdg (fun _ _ => ⟨has, eT, hc, hs⟩)
  dsimp only [Pt.U, Pt.locs, Pt.cells, Pt.slots] at X' e1 e2 e3 st hQ
  subst e1 e2 e3
  exact own_via (fun _ kk => st.trans kk) (k v T' Lc X' hQ)
theorem own_callI (X : Stand p l e R s m args below meth c T locs cells slots) (hx : p.tables.exec = Jvm.exec) (hZ : Z.Warmed39 s.vm) {own C : String} {index count W : Nat} {z : MethodName} (hown : s.vm.findClass own = some m.cls) (eT : T.heap = h)
    (hM : OMet l z bytes maxL ret [] rm Z as' h Q) {b : Addr} (E : Exa Z h b C)
    (w1 : (Cond.methodLink own index y).before a0 Z = true) (w2 : (Cond.declares y).before a0 Z = true) (wf : (Cond.interfaceMethod y.cls y.cls y.name y.desc).before args s = true) (w3 : (Cond.selects C y z).before a0 Z = true) (w4 : (Cond.instanceMethod z).before a0 Z = true)
    (wp : (Cond.publicMethod z).before a0 Z = true) (wu : (Cond.unhidden C y.name y.desc).before a0 Z = true) (wc : (Cond.castable C y.cls).before a0 Z = true) (w5 : (Cond.code z bytes maxL ret).before a0 Z = true) (w6 : (Cond.initialized z.cls).before a0 Z = true)
    (hy : y.cls ≠ "java/lang/invoke/MethodHandle" ∧ y.cls ≠ "java/lang/invoke/VarHandle") (hf : rm.frames + 1 ≤ R.frames) (hl : W + (maxL + 11) + rm.locals ≤ R.locals)
    {g : JFrame} (hg : g.method = m) (hsize : g.locals.size = c.maxLocals) {argsL rest : List Value} (has : (.ref b :: argsL).toArray = as') (hlen : ∀ sig, parseMethodDescriptor y.desc = some sig → argsL.length = sig.parameters.length)
    (hstack : g.stack = argsL.reverse ++ .ref b :: rest) (hW : 2 * g.monitorRoom + (rest.map fun v => v.category).sum ≤ W) (hdg : decode c.code g.pc = .ok (.invokeinterface index count, 5))
    (hc : cells + rm.cells ≤ R.cells) (hs : slots + rm.slots ≤ R.slots)
    (k : ∀ (v : Option Value) (T' : State) (L : List Loc), Stand p l e R s m args below meth c T' (locs ++ L) (cells + rm.cells) (slots + rm.slots) → Q v T'.heap L → OGo p e below P T' { g with pc := g.pc + 5, stack := v.toList ++ rest }) :
    OGo p e below P T g := by
  obtain ⟨cq, kq, qa, qb, qc⟩ := isOf hZ eT E
  obtain ⟨v, _, ⟨T', L', k', n'⟩, -, X', ⟨Lc, hQ, e1, e2, e3⟩, st⟩ := X.interfaceBack hx (xi := y) (y := z) hown (mvT hZ w1) (mvT hZ w2) wf (mvT hZ w3) (mvT hZ w4) (mvT hZ wp) (mvT hZ wu) (mvT hZ wc) hy (backOf (W := W) hM hZ w5 w6 hf hl) qa qb qc hg hsize (Steps.refl _) hlen hstack hW hdg (fun _ _ => ⟨has, eT, hc, hs⟩)
  dsimp only [Pt.U, Pt.locs, Pt.cells, Pt.slots] at X' e1 e2 e3 st hQ
  subst e1 e2 e3
  exact own_via (fun _ kk => st.trans kk) (k v T' Lc X' hQ)
theorem own_init (X : Stand p l e R s m args below meth c T locs cells slots) (hx : p.tables.exec = Jvm.exec) (hZ : Z.Warmed39 s.vm) {own : String} {index W : Nat} (hown : s.vm.findClass own = some m.cls) (eT : T.heap = h)
    (hM : OMet l y bytes maxL none [] rm Z as' h Q) {b : Addr} (hy1 : y.name = "<init>")
    (w1 : (Cond.methodLink own index y).before a0 Z = true) (w2 : (Cond.instanceMethod y).before a0 Z = true) (w3 : (Cond.code y bytes maxL none).before a0 Z = true) (w4 : (Cond.initialized y.cls).before a0 Z = true)
    (hy : y.cls ≠ "java/lang/invoke/MethodHandle" ∧ y.cls ≠ "java/lang/invoke/VarHandle") (hf : rm.frames + 1 ≤ R.frames) (hl : W + (maxL + 11) + rm.locals ≤ R.locals)
    {g : JFrame} (hg : g.method = m) (hsize : g.locals.size = c.maxLocals) {argsL rest : List Value} (has : (.ref b :: argsL).toArray = as') (hlen : ∀ sig, parseMethodDescriptor y.desc = some sig → argsL.length = sig.parameters.length)
    (hstack : g.stack = argsL.reverse ++ .ref b :: rest) (hW : 2 * g.monitorRoom + (rest.map fun v => v.category).sum ≤ W) (hdg : decode c.code g.pc = .ok (.invokespecial index, 3))
    (hc : cells + rm.cells ≤ R.cells) (hs : slots + rm.slots ≤ R.slots)
    (k : ∀ (v : Option Value) (T' : State) (L : List Loc), Stand p l e R s m args below meth c T' (locs ++ L) (cells + rm.cells) (slots + rm.slots) → Q v T'.heap L → OGo p e below P T' { g with pc := g.pc + 3, stack := v.toList ++ rest }) :
    OGo p e below P T g := by
  obtain ⟨v, _, ⟨T', L', k', n'⟩, -, X', ⟨Lc, hQ, e1, e2, e3⟩, st⟩ := X.specialBack hx (y := y) hy1 hown (mvT hZ w1) (mvT hZ w2) (mvT hZ w3) hy (backOf (W := W) hM hZ w3 w4 hf hl) hg hsize (Steps.refl _) hlen hstack hW hdg (fun _ _ => ⟨has, eT, hc, hs⟩)
  dsimp only [Pt.U, Pt.locs, Pt.cells, Pt.slots] at X' e1 e2 e3 st hQ
  subst e1 e2 e3
  exact own_via (fun _ kk => st.trans kk) (k v T' Lc X' hQ)
theorem own_initB (X : Stand p l e R s m args below meth c T locs cells slots) (hx : p.tables.exec = Jvm.exec) (hZ : Z.Warmed39 s.vm) {own : String} {index W ck' sk' : Nat} (hown : s.vm.findClass own = some m.cls) (eT : T.heap = h)
    (hK : Back l R p e below s args y 3 W (fun A a => a = as' ∧ A.U.heap = h ∧ A.cells + ck' ≤ R.cells ∧ A.slots + sk' ≤ R.slots) (fun A _ v B => ∃ L, Q v B.U.heap L ∧ B.locs = A.locs ++ L ∧ B.cells = A.cells + ck' ∧ B.slots = A.slots + sk')) {b : Addr} (hy1 : y.name = "<init>")
    (w1 : (Cond.methodLink own index y).before a0 Z = true) (w2 : (Cond.instanceMethod y).before a0 Z = true) (w3 : (Cond.code y bytes maxL none).before a0 Z = true)
    (hy : y.cls ≠ "java/lang/invoke/MethodHandle" ∧ y.cls ≠ "java/lang/invoke/VarHandle")
    {g : JFrame} (hg : g.method = m) (hsize : g.locals.size = c.maxLocals) {argsL rest : List Value} (has : (.ref b :: argsL).toArray = as') (hlen : ∀ sig, parseMethodDescriptor y.desc = some sig → argsL.length = sig.parameters.length)
    (hstack : g.stack = argsL.reverse ++ .ref b :: rest) (hW : 2 * g.monitorRoom + (rest.map fun v => v.category).sum ≤ W) (hdg : decode c.code g.pc = .ok (.invokespecial index, 3))
    (hc : cells + ck' ≤ R.cells) (hs : slots + sk' ≤ R.slots)
    (k : ∀ (v : Option Value) (T' : State) (L : List Loc), Stand p l e R s m args below meth c T' (locs ++ L) (cells + ck') (slots + sk') → Q v T'.heap L → OGo p e below P T' { g with pc := g.pc + 3, stack := v.toList ++ rest }) :
    OGo p e below P T g := by
  obtain ⟨v, _, ⟨T', L', k', n'⟩, -, X', ⟨Lc, hQ, e1, e2, e3⟩, st⟩ := X.specialBack hx (y := y) hy1 hown (mvT hZ w1) (mvT hZ w2) (mvT hZ w3) hy hK hg hsize (Steps.refl _) hlen hstack hW hdg (fun _ _ => ⟨has, eT, hc, hs⟩)
  dsimp only [Pt.U, Pt.locs, Pt.cells, Pt.slots] at X' e1 e2 e3 st hQ
  subst e1 e2 e3
  exact own_via (fun _ kk => st.trans kk) (k v T' Lc X' hQ)
theorem own_irem {tb : Tables} [Ours tb] {e : Env} {below : List Frame} {T target : State} {m : MethodId} {c : Code} {g : JFrame} (h : At T m c below) (hx : tb.exec = Jvm.exec) (hg : g.method = m) {x y : Int32} {rest : List Value} (hd : decode c.code g.pc = .ok (.irem, 1)) (hs : g.stack = .int y :: .int x :: rest) (hy : y ≠ 0)
    (hr : Steps tb e below (T.setTop { g with pc := g.pc + 1, stack := .int (x % y) :: rest }) target) : Steps tb e below (T.setTop g) target := XS.irem h hx hg hd hs hy (by rw [irem_eq_mod]; exact hr)
theorem own_storeV {Ls : Array Slot} {n : Nat} {w : Value} (hw : w.isRef = true) (f : Value → Array Slot) (h0 : storeLocals Ls n .null = some (f .null)) (h1 : ∀ a, storeLocals Ls n (.ref a) = some (f (.ref a))) : storeLocals Ls n w = some (f w) := by
  cases w <;> first | exact h0 | exact h1 _ | (cases hw; done)
theorem own_len {z w : Int32} (q : z = w) {g : JFrame} {rest : List Value} {pc : Nat} (k : ∀ target, Steps p.tables e below (T.setTop { g with pc := pc, stack := .int z :: rest }) target → Steps p.tables e below (T.setTop g) target) :
    ∀ target, Steps p.tables e below (T.setTop { g with pc := pc, stack := .int w :: rest }) target → Steps p.tables e below (T.setTop g) target := q ▸ k
theorem own_narZ {x : Int32} (hx : x = 0 ∨ x = 1) : narrow .boolean (.int x) = .int x := by rcases hx with rfl | rfl <;> rfl
theorem own_fitZ {x : Int32} (hx : x = 0 ∨ x = 1) : fits .boolean (.int x) = true := by rcases hx with rfl | rfl <;> rfl
theorem own_fits_byte (x : Int32) : fits .byte (.int (nar .byte x)) = true := fits_nar_byte x
theorem own_lat (x : Int32) : ¬ (x &&& (255 : Int32)).toUInt32.toUInt16.toUInt32.toInt32 < (0 : Int32) ∧ ¬ (255 : Int32) < (x &&& (255 : Int32)).toUInt32.toUInt16.toUInt32.toInt32 := by
  rw [i2c_mask]
  have q := c_and x 255 (by decide)
  rw [Int32.lt_iff_toInt_lt, Int32.lt_iff_toInt_lt]
  have e1 : (0 : Int32).toInt = 0 := by decide
  have e2 : (255 : Int32).toInt = 255 := by decide
  omega
theorem own_latN (x : Int32) : ¬ nar .char ((x &&& (255 : Int32)).toUInt32.toUInt16.toUInt32.toInt32) < (0 : Int32) ∧ ¬ (255 : Int32) < nar .char ((x &&& (255 : Int32)).toUInt32.toUInt16.toUInt32.toInt32) := by
  have e : nar .char ((x &&& (255 : Int32)).toUInt32.toUInt16.toUInt32.toInt32) = (x &&& (255 : Int32)).toUInt32.toUInt16.toUInt32.toInt32 := by simp only [nar, i2c_mask]
  rw [e]
  exact own_lat x
theorem own_callP (X : Stand p l e R s m args below meth c T locs cells slots) (hx : p.tables.exec = Jvm.exec) (hZ : Z.Warmed39 s.vm) {own C : String} {index W : Nat} (hown : s.vm.findClass own = some m.cls) (eT : T.heap = h)
    (hM : OMet l y bytes maxL ret [] rm Z as' h Q) {b : Addr} (E : Exa Z h b C)
    (w1 : (Cond.methodLink own index y).before a0 Z = true) (w2 : (Cond.instanceMethod y).before a0 Z = true) (w3 : (Cond.selects y.cls y y).before a0 Z = true) (w4 : (Cond.privateMethod y).before a0 Z = true) (w5 : (Cond.code y bytes maxL ret).before a0 Z = true) (w6 : (Cond.initialized y.cls).before a0 Z = true)
    (hy : y.cls ≠ "java/lang/invoke/MethodHandle" ∧ y.cls ≠ "java/lang/invoke/VarHandle") (hf : rm.frames + 1 ≤ R.frames) (hl : W + (maxL + 11) + rm.locals ≤ R.locals)
    {g : JFrame} (hg : g.method = m) (hsize : g.locals.size = c.maxLocals) {argsL rest : List Value} (has : (.ref b :: argsL).toArray = as') (hlen : ∀ sig, parseMethodDescriptor y.desc = some sig → argsL.length = sig.parameters.length)
    (hstack : g.stack = argsL.reverse ++ .ref b :: rest) (hW : 2 * g.monitorRoom + (rest.map fun v => v.category).sum ≤ W) (hdg : decode c.code g.pc = .ok (.invokevirtual index, 3))
    (hc : cells + rm.cells ≤ R.cells) (hs : slots + rm.slots ≤ R.slots)
    (k : ∀ (v : Option Value) (T' : State) (L : List Loc), Stand p l e R s m args below meth c T' (locs ++ L) (cells + rm.cells) (slots + rm.slots) → Q v T'.heap L → OGo p e below P T' { g with pc := g.pc + 3, stack := v.toList ++ rest }) :
    OGo p e below P T g := by
  obtain ⟨cq, qa, qb⟩ := E.cell
  obtain ⟨v, _, ⟨T', L', k', n'⟩, -, X', ⟨Lc, hQ, e1, e2, e3⟩, st⟩ := X.privateBack hx (y := y) hown (mvT hZ w1) (mvT hZ w2) (mvT hZ w3) (Cond.privateMethod_at (mvP hZ w4 (args := #[]))) (mvT hZ w5) hy (backOf (W := W) hM hZ w5 w6 hf hl) hg hsize (Steps.refl _) (by rw [eT]; exact qa) qb hlen hstack hW hdg (fun _ _ => ⟨has, eT, hc, hs⟩)
  dsimp only [Pt.U, Pt.locs, Pt.cells, Pt.slots] at X' e1 e2 e3 st hQ
  subst e1 e2 e3
  exact own_via (fun _ kk => st.trans kk) (k v T' Lc X' hQ)
theorem own_superB (X : Stand p l e R s m args below meth c T locs cells slots) (hx : p.tables.exec = Jvm.exec) (hZ : Z.Warmed39 s.vm) {own K : String} {index W : Nat} (hown : s.vm.findClass own = some m.cls) (eT : T.heap = h)
    (hM : OMet l y bytes maxL ret [] rm Z as' h Q) {b : Addr} (F : Ins Z h b K true) (hn : y.name ≠ "<init>")
    (w1 : (Cond.methodLink own index y).before a0 Z = true) (w2 : (Cond.sameMethod y.cls y.cls y.name y.desc).before a0 Z = true) (w3 : (Cond.instanceMethod y).before a0 Z = true) (w4 : (Cond.superclass own y.cls).before a0 Z = true) (w5 : (Cond.code y bytes maxL ret).before a0 Z = true) (w6 : (Cond.initialized y.cls).before a0 Z = true)
    (hf : rm.frames + 1 ≤ R.frames) (hl : W + (maxL + 11) + rm.locals ≤ R.locals)
    {g : JFrame} (hg : g.method = m) (hsize : g.locals.size = c.maxLocals) {argsL rest : List Value} (has : (.ref b :: argsL).toArray = as') (hlen : ∀ sig, parseMethodDescriptor y.desc = some sig → argsL.length = sig.parameters.length)
    (hstack : g.stack = argsL.reverse ++ .ref b :: rest) (hW : 2 * g.monitorRoom + (rest.map fun v => v.category).sum ≤ W) (hdg : decode c.code g.pc = .ok (.invokespecial index, 3))
    (hc : cells + rm.cells ≤ R.cells) (hs : slots + rm.slots ≤ R.slots)
    (k : ∀ (v : Option Value) (T' : State) (L : List Loc), Stand p l e R s m args below meth c T' (locs ++ L) (cells + rm.cells) (slots + rm.slots) → Q v T'.heap L → OGo p e below P T' { g with pc := g.pc + 3, stack := v.toList ++ rest }) :
    OGo p e below P T g := by
  obtain ⟨v, _, ⟨T', L', k', n'⟩, -, X', ⟨Lc, hQ, e1, e2, e3⟩, st⟩ := superBack X hx hZ (y := y) hown w1 w2 w3 w4 hn (backOf (W := W) hM hZ w5 w6 hf hl) eT F hg hsize w5 hlen hstack hW hdg (fun _ _ => ⟨has, eT, hc, hs⟩)
  dsimp only [Pt.U, Pt.locs, Pt.cells, Pt.slots] at X' e1 e2 e3 st hQ
  subst e1 e2 e3
  exact own_via (fun _ kk => st.trans kk) (k v T' Lc X' hQ)
theorem own_pureX (X : Stand p l e R s m args below meth c T (locs ++ []) (cells + 0) (slots + 0)) : Stand p l e R s m args below meth c T locs cells slots := by simpa using X
theorem own_sta_keep {h' : Heap} {ws : List Addr} {C n d : String} {v : Value} (F : Sta Z h C n d v) (K : Keep h h' ws) (q : ∀ x ∈ ws, ∀ c : Cell, h[x]? = some c → c.vm.isStatics = false) : Sta Z h' C n d v := by
  obtain ⟨cf, i, k, f, st, cell, h1, h2, h3, h4, h5, h6, h7⟩ := F
  exact ⟨cf, i, k, f, st, cell, h1, h2, h3, h4, K.2.1 st cell h5 (fun mm => by have := q st mm cell h5; rw [h6] at this; cases this), h6, h7⟩
theorem own_ins_keep {h' : Heap} {ws : List Addr} {a : Addr} {C : String} {b : Bool} (F : Ins Z h a C b) (K : Keep h h' ws) : Ins Z h' a C b := by
  obtain ⟨cell, cT, h1, h2, h3⟩ := F
  obtain ⟨c', q1, q2, q3, -⟩ := K.2.2 a cell h1
  exact ⟨c', cT, q1, h2, by rw [q2, q3]; exact h3⟩
theorem own_nsE {a : Addr} {C : String} (E : Exa Z h a C) : ∀ c : Cell, h[a]? = some c → c.vm.isStatics = false := fun c hc => by
  obtain ⟨cell, k, h1, h2, h3, h4, h5⟩ := E
  cases h1.symm.trans hc
  exact h4
theorem own_nsA {a : Addr} {k : ClassId} {ty : FieldType} {z : Int32} {vs : List Value} {dv : Value} (F : Arv Z h a k ty z vs dv) : ∀ c : Cell, h[a]? = some c → c.vm.isStatics = false := fun c hc => by
  obtain ⟨cell, A, -⟩ := F
  cases A.1.symm.trans hc
  exact A.plain
theorem own_nar_ref {t : FieldType} {w : Value} (hw : w.isRef = true) (ht : t.isReference = true) : narrow t w = w := by cases t <;> cases w <;> first | rfl | (cases ht; done) | (cases hw; done)
theorem own_fits_ref {t : FieldType} {w : Value} (hw : w.isRef = true) (ht : t.isReference = true) : fits t w = true := by cases t <;> cases w <;> first | rfl | (cases ht; done) | (cases hw; done)
theorem own_len0 {t : Term} {x : Addr} {cl : Cell} {ty : FieldType} (ht : t.eval args s none [] s = some (.ref x)) (A : Arr s s.heap x cl ty) (hq : (Jvm.Cond.eq (.length t) (.int 0)).value args s none s [] = some true) : cl.slots.size = 0 := by
  have e1 := A.fin (U := s) (Vm.Alike.refl _)
  simp only [Cond.value, Term.eval, ht, e1] at hq
  by_cases q : cl.slots.size < 2 ^ 31
  · simp [e1, q] at hq
    have e2 := len_toInt q
    rw [hq] at e2
    have e3 : (0 : Int32).toInt = 0 := by decide
    omega
  · simp [e1, q] at hq
theorem own_arv0 {x : Addr} {cl : Cell} {ty : FieldType} {dv : Value} (A : Arr s s.heap x cl ty) (hq : cl.slots.size = 0) : Arv s s.heap x cl.cls ty (0 : Int32) [] dv :=
  ⟨cl, A, rfl, by rw [hq]; decide, by decide, fun i hi => by omega, fun i hi => by omega⟩
/-- a static's object and its int field, out of the case's words -/
theorem own_fldI {t : Term} {C n d : String} {x : Addr} {k : Int32} (ht : t.eval args s none [] s = some (.ref x)) (h : (Jvm.Cond.eq (.field t C n d) (.int k)).value args s none s [] = some true) : Fld s s.heap x C n d (.int k) := by
  refine Fld.start ?_
  have e1 := fld_at (C := C) (n := n) (dd := d) ht
  have e2 : (Term.int k).eval args s none [] s = some (.int k) := rfl
  simp only [Cond.value, e1, e2] at h
  cases hv : s.fieldOf? x C n d with
  | none => simp [hv] at h
  | some w => cases w <;> simp_all
end Own
/-! the same layer for walks that may intern String constants: the Stand is over (s.setVm vm0); the booked constants of EL are kept (CHv, CHr) -/
section OwnW
variable {p : Program} {l : Launch} {e : Env} {R : Room} {s : State} {m : MethodId} {args : Array Value} {below : List Frame} {meth : Method} {c : Code} {T : State} {locs : List Loc} {cells slots : Nat} {Z : State} {a0 : Array Value} {h : Heap} {EL : List (String × Nat)} {vm0 : Vm} {k0 : Nat}
def OEndW (Z : State) (EL : List (String × Nat)) (s : State) (Q : Option Value → Heap → List Loc → Prop) (ck sk : Nat) (t : State) (o : Outcome) : Prop :=
  ∃ v L, o = .returned v ∧ Q v t.heap L ∧ CHr Z EL s.vm s.heap t.vm t.heap ∧ ReturnedEndW s o t L ck sk
def OMetW (l : Launch) (y : MethodName) (bytes : ByteArray) (maxL : Nat) (ret : Option FieldType) (ws : List Jvm.Cond) (rm : Room) (Z : State) (EL : List (String × Nat)) (as' : Array Value) (h : Heap) (Q : Option Value → Heap → List Loc → Prop) : Prop :=
  MetFree l y (head1 (Jvm.Cond.code y bytes maxL ret :: ws) rm) (fun a U => a = as' ∧ Z.Warmed39 U.vm ∧ U.heap = h ∧ CHv Z EL U.vm h) (fun _ _ _ _ _ => True)
    (fun _ U o U' => ∃ v L, o = .returned v ∧ Q v U'.heap L ∧ CHr Z EL U.vm U.heap U'.vm U'.heap ∧ ReturnedEndW U o U' L rm.cells rm.slots)
theorem own_bodyW {y : MethodName} {bytes : ByteArray} {maxL : Nat} {ret : Option FieldType} {ws : List Jvm.Cond} {rm : Room} {as' : Array Value} {Q : Option Value → Heap → List Loc → Prop} (hpl : plainFor y = true)
    (body : ∀ (p : Program) (e : Env) (s : State) (m : MethodId) (below : List Frame) (meth : Method) (c : Code) (T : State), Stand p l e rm (s.setVm s.vm) m as' below meth c T [] 0 0 → p.tables.exec = Jvm.exec → Z.Warmed39 s.vm → c.code = bytes → c.maxLocals = maxL →
      s.vm.findClass y.cls = some m.cls → meth.name = y.name → meth.sig.returnType = ret → meth.locks = false → T.heap = h → s.Since s.vm h.size → CHr Z EL s.vm s.heap s.vm h → OGo p e below (OEndW Z EL s Q rm.cells rm.slots) T (entryFrame m as' maxL)) :
    OMetW l y bytes maxL ret ws rm Z EL as' h Q := by
  refine MetFree.of_bodySF hpl hisR ?_
  intro p e s m args below meth c s₁ Bd hml0 hP hK
  obtain ⟨rfl, hZ, hh, hC⟩ := hP
  have X : Stand p l e rm (s.setVm s.vm) m args below meth c s₁ [] 0 0 := Stand.of_body Bd
  refine body p e s m below meth c s₁ X Bd.exec hZ Bd.bytes hml0 (findClass_of_methodNamed Bd.named) (name_of_methodNamed Bd.named Bd.method).1 Bd.returns Bd.notSynchronized (by rw [← hh, Bd.state]; rfl) ((State.WarmedH.refl s).since _) ?_
  rw [hh]
  exact CHr.refl hC
variable {P : State → Outcome → Prop} {Q : Option Value → Heap → List Loc → Prop} {ck sk : Nat}
theorem own_endW (X : Stand p l e R (s.setVm vm0) m args below meth c T locs cells slots) (hZ : Z.Warmed39 vm0) (hEL : EW Z a0 EL) (hS : s.Since vm0 k0) (hk : k0 ≤ h.size) (hC : CHr Z EL s.vm s.heap vm0 h) (eT : T.heap = h) {v : Option Value} (hv : meth.sig.returnType = none → v = none) (hlk : meth.locks = false) (hQ : Q v h locs) (hc : cells ≤ ck) (hs : slots ≤ sk)
    {g : JFrame} (st : ∀ fs, (∀ (f : JFrame) (acts : List Action), f.method = m → f.locked = none → f.entered = [] → (doReturn e (T.setTop f) acts v).1 = T.setFrames fs) → Steps p.tables e below (T.setTop g) (T.setFrames fs)) :
    OGo p e below (OEndW Z EL s Q ck sk) T g := by
  obtain ⟨fs, hr, hrun, hended, h1, h2, h3, h4⟩ := X.leaveW hS (by rw [eT]; exact hk) hv hlk
  refine ⟨_, _, st fs hr, hrun, hended, _, locs, rfl, (show Q _ T.heap locs by rw [eT]; exact hQ), ?_, h1, h2, h3, h4.mono hc hs⟩
  show CHr Z EL s.vm s.heap T.vm T.heap
  rw [eT]
  exact hC.trans (CHv.at X hZ hEL hC.1)
theorem own_retNW (X : Stand p l e R (s.setVm vm0) m args below meth c T locs cells slots) (hx : p.tables.exec = Jvm.exec) (hZ : Z.Warmed39 vm0) (hEL : EW Z a0 EL) (hS : s.Since vm0 k0) (hk : k0 ≤ h.size) (hC : CHr Z EL s.vm s.heap vm0 h) {pc : Nat} {Ls : Array Slot} {z : Int32} {t : FieldType} {rest : List Value} (hret : meth.sig.returnType = some t) (ht : t = .boolean ∨ t = .byte ∨ t = .char ∨ t = .short)
    (hlk : meth.locks = false) (hd : decode c.code pc = .ok (.ireturn, 1)) (eT : T.heap = h) (hQ : Q (some (.int (nar t z))) h locs) (hc : cells ≤ ck) (hs : slots ≤ sk) :
    OGo p e below (OEndW Z EL s Q ck sk) T (mkF m pc Ls (.int z :: rest)) :=
  own_endW X hZ hEL hS hk hC eT (fun q => by rw [hret] at q; cases q) hlk hQ hc hs fun fs hr => retN X hx hret ht hd hr
theorem own_retAW (X : Stand p l e R (s.setVm vm0) m args below meth c T locs cells slots) (hx : p.tables.exec = Jvm.exec) (hZ : Z.Warmed39 vm0) (hEL : EW Z a0 EL) (hS : s.Since vm0 k0) (hk : k0 ≤ h.size) (hC : CHr Z EL s.vm s.heap vm0 h) {pc : Nat} {Ls : Array Slot} {w : Value} {t : FieldType} {rest : List Value} (hret : meth.sig.returnType = some t) (ht : t.isReference = true) (hw : w.isRef = true)
    (hlk : meth.locks = false) (hd : decode c.code pc = .ok (.areturn, 1)) (eT : T.heap = h) (hQ : Q (some w) h locs) (hc : cells ≤ ck) (hs : slots ≤ sk) :
    OGo p e below (OEndW Z EL s Q ck sk) T (mkF m pc Ls (w :: rest)) :=
  own_endW X hZ hEL hS hk hC eT (fun q => by rw [hret] at q; cases q) hlk hQ hc hs fun fs hr => retOut X hx hret (own_nar_ref hw ht) (Or.inr (Or.inr (Or.inr (Or.inr ⟨rfl, ht, hw⟩)))) hd hr
theorem own_retVW (X : Stand p l e R (s.setVm vm0) m args below meth c T locs cells slots) (hx : p.tables.exec = Jvm.exec) (hZ : Z.Warmed39 vm0) (hEL : EW Z a0 EL) (hS : s.Since vm0 k0) (hk : k0 ≤ h.size) (hC : CHr Z EL s.vm s.heap vm0 h) {pc : Nat} {Ls : Array Slot} (hret : meth.sig.returnType = none)
    (hlk : meth.locks = false) (hd : decode c.code pc = .ok (.return_, 1)) (eT : T.heap = h) (hQ : Q none h locs) (hc : cells ≤ ck) (hs : slots ≤ sk) :
    OGo p e below (OEndW Z EL s Q ck sk) T (mkF m pc Ls []) :=
  own_endW X hZ hEL hS hk hC eT (fun _ => rfl) hlk hQ hc hs fun fs hr => X.returnOut hx hret hd hr
variable {y : MethodName} {bytes : ByteArray} {maxL : Nat} {ret : Option FieldType} {rm : Room} {as' : Array Value}
/-- what a walk knows behind a callee that may have interned -/
def OBackW (p : Program) (l : Launch) (e : Env) (R : Room) (s : State) (m : MethodId) (args : Array Value) (below : List Frame) (meth : Method) (c : Code) (Z : State) (EL : List (String × Nat)) (own : String) (Q : Option Value → Heap → List Loc → Prop) (locs : List Loc) (cells slots : Nat) (v : Option Value) (T' : State) (L : List Loc) : Prop :=
  Stand p l e R (s.setVm T'.vm) m args below meth c T' (locs ++ L) cells slots ∧ Q v T'.heap L ∧ s.Since T'.vm T'.heap.size ∧ Z.Warmed39 T'.vm ∧ T'.vm.findClass own = some m.cls ∧ CHr Z EL s.vm s.heap T'.vm T'.heap
theorem own_callSW (X : Stand p l e R (s.setVm vm0) m args below meth c T locs cells slots) (hx : p.tables.exec = Jvm.exec) (hZ : Z.Warmed39 vm0) (hEL : EW Z a0 EL) (hS : s.Since vm0 k0) (hk : k0 ≤ h.size) (hC : CHr Z EL s.vm s.heap vm0 h) {own : String} {index W : Nat} (hown : vm0.findClass own = some m.cls) (eT : T.heap = h)
    (hM : OMetW l y bytes maxL ret [] rm Z EL as' h Q)
    (w1 : (Cond.methodLink own index y).before a0 Z = true) (w2 : (Cond.static y).before a0 Z = true) (w3 : (Cond.initialized y.cls).before a0 Z = true) (w4 : (Cond.code y bytes maxL ret).before a0 Z = true)
    (hy : y.cls ≠ "java/lang/invoke/MethodHandle" ∧ y.cls ≠ "java/lang/invoke/VarHandle") (hf : rm.frames + 1 ≤ R.frames) (hl : W + (maxL + 11) + rm.locals ≤ R.locals)
    {g : JFrame} (hg : g.method = m) (hsize : g.locals.size = c.maxLocals) {argsL rest : List Value} (has : argsL.toArray = as') (hlen : ∀ sig, parseMethodDescriptor y.desc = some sig → argsL.length = sig.parameters.length)
    (hstack : g.stack = argsL.reverse ++ rest) (hW : 2 * g.monitorRoom + (rest.map fun v => v.category).sum ≤ W) (hdg : decode c.code g.pc = .ok (.invokestatic index, 3))
    (hc : cells + rm.cells ≤ R.cells) (hs : slots + rm.slots ≤ R.slots)
    (k : ∀ (v : Option Value) (T' : State) (L : List Loc), OBackW p l e R s m args below meth c Z EL own Q locs (cells + rm.cells) (slots + rm.slots) v T' L → OGo p e below P T' { g with pc := g.pc + 3, stack := v.toList ++ rest }) :
    OGo p e below P T g := by
  have hZ' : Z.Warmed39 (s.setVm vm0).vm := hZ
  have hown' : (s.setVm vm0).vm.findClass own = some m.cls := hown
  obtain ⟨v, vm₁, ⟨T', L', k', n'⟩, -, X', h2, hgr, ⟨Lc, hQ, e1, e2, e3, hC'⟩, st⟩ := callSS X hx (y := y) hown' (mvT hZ' w1) (mvT hZ' w2) (mvT hZ' w3) (mvT hZ' w4) hy (backOfSH (W := W) hM hZ w4 w3 hf hl hEL hC.1) hg hsize hlen hstack hW hdg (fun _ _ => ⟨has, eT, hc, hs⟩)
  dsimp only [Pt.U, Pt.locs, Pt.cells, Pt.slots] at X' e1 e2 e3 st hQ h2 hgr hC'
  subst e1 e2 e3
  obtain ⟨Y, hS', hZ2, ho2⟩ := rebS hS (by rw [← eT] at hk; exact hk) X' h2 hgr hZ' hown'
  exact own_via (fun _ kk => st.trans kk) (k v T' Lc ⟨Y, hQ, hS', hZ2, ho2, hC.trans hC'⟩)
theorem own_initW (X : Stand p l e R (s.setVm vm0) m args below meth c T locs cells slots) (hx : p.tables.exec = Jvm.exec) (hZ : Z.Warmed39 vm0) (hEL : EW Z a0 EL) (hS : s.Since vm0 k0) (hk : k0 ≤ h.size) (hC : CHr Z EL s.vm s.heap vm0 h) {own : String} {index W : Nat} (hown : vm0.findClass own = some m.cls) (eT : T.heap = h)
    (hM : OMetW l y bytes maxL none [] rm Z EL as' h Q) {b : Addr} (hy1 : y.name = "<init>")
    (w1 : (Cond.methodLink own index y).before a0 Z = true) (w2 : (Cond.instanceMethod y).before a0 Z = true) (w3 : (Cond.code y bytes maxL none).before a0 Z = true) (w4 : (Cond.initialized y.cls).before a0 Z = true)
    (hy : y.cls ≠ "java/lang/invoke/MethodHandle" ∧ y.cls ≠ "java/lang/invoke/VarHandle") (hf : rm.frames + 1 ≤ R.frames) (hl : W + (maxL + 11) + rm.locals ≤ R.locals)
    {g : JFrame} (hg : g.method = m) (hsize : g.locals.size = c.maxLocals) {argsL rest : List Value} (has : (.ref b :: argsL).toArray = as') (hlen : ∀ sig, parseMethodDescriptor y.desc = some sig → argsL.length = sig.parameters.length)
    (hstack : g.stack = argsL.reverse ++ .ref b :: rest) (hW : 2 * g.monitorRoom + (rest.map fun v => v.category).sum ≤ W) (hdg : decode c.code g.pc = .ok (.invokespecial index, 3))
    (hc : cells + rm.cells ≤ R.cells) (hs : slots + rm.slots ≤ R.slots)
    (k : ∀ (v : Option Value) (T' : State) (L : List Loc), OBackW p l e R s m args below meth c Z EL own Q locs (cells + rm.cells) (slots + rm.slots) v T' L → OGo p e below P T' { g with pc := g.pc + 3, stack := v.toList ++ rest }) :
    OGo p e below P T g := by
  have hZ' : Z.Warmed39 (s.setVm vm0).vm := hZ
  have hown' : (s.setVm vm0).vm.findClass own = some m.cls := hown
  obtain ⟨v, vm₁, ⟨T', L', k', n'⟩, -, X', h2, hgr, ⟨Lc, hQ, e1, e2, e3, hC'⟩, st⟩ := X.specialBackS hx (y := y) hy1 hown' (mvT hZ' w1) (mvT hZ' w2) (mvT hZ' w3) hy (backOfSH (W := W) hM hZ w3 w4 hf hl hEL hC.1) hg hsize (Steps.refl _) hlen hstack hW hdg (fun _ _ => ⟨has, eT, hc, hs⟩)
  dsimp only [Pt.U, Pt.locs, Pt.cells, Pt.slots] at X' e1 e2 e3 st hQ h2 hgr hC'
  subst e1 e2 e3
  obtain ⟨Y, hS', hZ2, ho2⟩ := rebS hS (by rw [← eT] at hk; exact hk) X' h2 hgr hZ' hown'
  exact own_via (fun _ kk => st.trans kk) (k v T' Lc ⟨Y, hQ, hS', hZ2, ho2, hC.trans hC'⟩)
/-- a String whose value isn't laid yet is no constant of EL -/
theorem own_safe_null {a : Addr} (hal : Z.vm.Alike vm0) (E : Exa Z h a "java/lang/String") (F : Fld Z h a "java/lang/String" "value" "[B" .null) : Safe Z EL vm0 h a := fun B => by
  obtain ⟨pp, -, u, a', -, q, -, G, rfl | rfl⟩ := B
  · obtain ⟨cell, cf, k, i, f, h1, h2, h3, h4, h5, h6, h7⟩ := F
    have ha := G.ha
    cases (show h[q.sa]? = some q.sC from ha).symm.trans h1
    obtain ⟨cS, ⟨⟨s1, s2, s3, ⟨cv, kv, iv, s4, s4'⟩, s5, s6, s7, s8, -⟩, -, -⟩, -⟩ := G
    obtain ⟨kv', z4⟩ := ff_back (U := Wst Z vm0 h) hal s4
    cases z4.symm.trans h2
    rw [s8] at h7
    cases h7
  · obtain ⟨cell, k, e1, e2, e3, -, -⟩ := E
    cases (show h[q.sd]? = some q.SA from G.hd).symm.trans e1
    obtain ⟨cS, -, -, f, -⟩ := G
    have f' : vm0.findClass "[B" = some q.SA.cls := f
    rw [hal.findClass] at f'
    obtain ⟨k1, q1, q2⟩ := Vm.findClass_spec f'
    obtain ⟨k2, q3, q4⟩ := Vm.findClass_spec e2
    cases q1.symm.trans q3
    have := q2.symm.trans q4
    revert this
    decide
theorem own_safe_nil {x : Addr} : Safe Z [] vm0 h x := fun B => by
  obtain ⟨_, hp, -⟩ := B
  cases hp
theorem own_chv_nil : CHv Z [] vm0 h := fun _ hp => by cases hp
end OwnW
theorem d8_0 : decode jdk_30_method_1_code 0 = .ok (.aload_n 0, 1) := by decide +kernel
theorem d8_1 : decode jdk_30_method_1_code 1 = .ok (.invokespecial 1, 3) := by decide +kernel
theorem d8_4 : decode jdk_30_method_1_code 4 = .ok (.return_, 1) := by decide +kernel
theorem pn_8 : plainName "java/lang/Record" = true := by first | (simp [plainName, overriddenIn]; done) | decide +kernel
set_option maxRecDepth 65536 in
set_option maxHeartbeats 40000000 in
theorem rmRec (l : Launch) (Z : State) (a0 : Array Value) (hw : ∀ d ∈ tables_1, d.before a0 Z = true) (ws : List Jvm.Cond) (a1 : Addr) (h0 : Heap) (n0 : Nat) (Z0 : n0 ≤ h0.size)  :
    OMet l (⟨"java/lang/Record", "<init>", "()V"⟩ : MethodName) jdk_30_method_1_code 1 none ws ({ frames := 1, cells := 0, slots := 0, locals := 12 } : Room) Z #[(.ref a1)] h0 (fun v h L => v = none ∧ L = [] ∧ h = h0) := by
  refine own_body (plainFor_of_name pn_8) ?_
  intro p e s m below meth cdx T0 X0 hx hZ hby hml hown hnm hret hlk e0
  have N0 := Fr.nil n0
  refine own_entry (g' := (mkF m 0 #[.val (.ref a1)] [])) (by first | rfl | (simp [entryFrame, mkF, argsToLocals, Value.category, maxLocals]; done)) ?_
  refine own_step (g' := (mkF m 1 #[.val (.ref a1)] [(.ref a1)])) (fun _ k => XS.aloadN X0.here hx rfl (hb hby d8_0) rfl rfl k) ?_
  obtain ⟨T1, X1, e1, st1⟩ := initO X0 hx hZ hown (hw _ (List.mem_of_getElem? (i := 45) rfl)) (hw _ (List.mem_of_getElem? (i := 13) rfl)) (hw _ (List.mem_of_getElem? (i := 14) rfl)) e0 (g := (mkF m 1 #[.val (.ref a1)] [(.ref a1)])) rfl (by rw [hml]; rfl) rfl (hb hby d8_1) (by decide) (W := 0) (by show 2 * 0 + _ ≤ _; exact Nat.le_of_eq rfl) (by decide)
  refine own_via (g' := (mkF m 4 #[.val (.ref a1)] [])) st1 ?_
  exact own_retV X1 hx hret hlk (hb hby d8_4) e1 (by exact ⟨rfl, rfl, rfl⟩) (by decide) (by decide)
theorem d7_0 : decode prog_19_method_1_code 0 = .ok (.aload_n 0, 1) := by decide +kernel
theorem d7_1 : decode prog_19_method_1_code 1 = .ok (.invokespecial 1, 3) := by decide +kernel
theorem d7_4 : decode prog_19_method_1_code 4 = .ok (.aload_n 0, 1) := by decide +kernel
theorem d7_5 : decode prog_19_method_1_code 5 = .ok (.aload_n 1, 1) := by decide +kernel
theorem d7_6 : decode prog_19_method_1_code 6 = .ok (.putfield 7, 3) := by decide +kernel
theorem d7_9 : decode prog_19_method_1_code 9 = .ok (.aload_n 0, 1) := by decide +kernel
theorem d7_10 : decode prog_19_method_1_code 10 = .ok (.aload_n 2, 1) := by decide +kernel
theorem d7_11 : decode prog_19_method_1_code 11 = .ok (.putfield 13, 3) := by decide +kernel
theorem d7_14 : decode prog_19_method_1_code 14 = .ok (.aload_n 0, 1) := by decide +kernel
theorem d7_15 : decode prog_19_method_1_code 15 = .ok (.iload_n 3, 1) := by decide +kernel
theorem d7_16 : decode prog_19_method_1_code 16 = .ok (.putfield 16, 3) := by decide +kernel
theorem d7_19 : decode prog_19_method_1_code 19 = .ok (.aload_n 0, 1) := by decide +kernel
theorem d7_20 : decode prog_19_method_1_code 20 = .ok (.iload 4, 2) := by decide +kernel
theorem d7_22 : decode prog_19_method_1_code 22 = .ok (.putfield 20, 3) := by decide +kernel
theorem d7_25 : decode prog_19_method_1_code 25 = .ok (.return_, 1) := by decide +kernel
theorem pd_0 : parseMethodDescriptor "()V" = some ⟨[], none⟩ := by decide +kernel
theorem pn_7 : plainName "com/example/handl/handl/cli/Arguments$Option" = true := by first | (simp [plainName, overriddenIn]; done) | decide +kernel
set_option maxRecDepth 65536 in
set_option maxHeartbeats 40000000 in
theorem rmOp (l : Launch) (Z : State) (a0 : Array Value) (hw : ∀ d ∈ tables_1, d.before a0 Z = true) (ws : List Jvm.Cond) (a1 r2 r3 : Addr) (p4 p5 : Int32) (h0 : Heap) (n0 : Nat) (Z0 : n0 ≤ h0.size) (g_a1 : n0 ≤ a1) (E1 : Exa Z h0 a1 "com/example/handl/handl/cli/Arguments$Option") (F1 : Fld Z h0 a1 "com/example/handl/handl/cli/Arguments$Option" "name" "Ljava/lang/String;" .null) (F2 : Fld Z h0 a1 "com/example/handl/handl/cli/Arguments$Option" "value" "Ljava/lang/String;" .null) (F3 : Fld Z h0 a1 "com/example/handl/handl/cli/Arguments$Option" "repeatable" "Z" (.int (0 : Int32))) (F4 : Fld Z h0 a1 "com/example/handl/handl/cli/Arguments$Option" "joinable" "Z" (.int (0 : Int32))) (hb4 : p4 = (0 : Int32) ∨ p4 = (1 : Int32)) (hb5 : p5 = (0 : Int32) ∨ p5 = (1 : Int32)) :
    OMet l (⟨"com/example/handl/handl/cli/Arguments$Option", "<init>", "(Ljava/lang/String;Ljava/lang/String;ZZ)V"⟩ : MethodName) prog_19_method_1_code 5 none ws ({ frames := 2, cells := 0, slots := 0, locals := 24 } : Room) Z #[(.ref a1), (.ref r2), (.ref r3), (.int p4), (.int p5)] h0 (fun v h L => v = none ∧ Fr n0 L ∧ Keep h0 h [a1] ∧ Exa Z h a1 "com/example/handl/handl/cli/Arguments$Option") := by
  refine own_body (plainFor_of_name pn_7) ?_
  intro p e s m below meth cdx T0 X0 hx hZ hby hml hown hnm hret hlk e0
  have N0 := Fr.nil n0
  refine own_entry (g' := (mkF m 0 #[.val (.ref a1), .val (.ref r2), .val (.ref r3), .val (.int p4), .val (.int p5)] [])) (by first | rfl | (simp [entryFrame, mkF, argsToLocals, Value.category, maxLocals]; done)) ?_
  have KC0 := Keep.refl h0 [a1]
  refine own_step (g' := (mkF m 1 #[.val (.ref a1), .val (.ref r2), .val (.ref r3), .val (.int p4), .val (.int p5)] [(.ref a1)])) (fun _ k => XS.aloadN X0.here hx rfl (hb hby d7_0) rfl rfl k) ?_
  refine own_init X0 hx hZ (W := 0) hown e0 (rmRec l Z a0 hw [] a1 h0 n0 Z0) rfl (hw _ (List.mem_of_getElem? (i := 40) rfl)) (hw _ (List.mem_of_getElem? (i := 41) rfl)) (hw _ (List.mem_of_getElem? (i := 44) rfl)) (hw _ (List.mem_of_getElem? (i := 43) rfl)) (by decide) (by decide) (by decide) (g := (mkF m 1 #[.val (.ref a1), .val (.ref r2), .val (.ref r3), .val (.int p4), .val (.int p5)] [(.ref a1)])) rfl (by rw [hml]; rfl) (argsL := []) (rest := []) rfl (lenOf pd_0 rfl) rfl (by show 2 * 0 + _ ≤ _; exact Nat.le_of_eq rfl) (hb hby d7_1) (by decide) (by decide) ?_
  intro v1 T1 L1 X1 hQ1
  obtain ⟨rfl, rfl, e1⟩ := hQ1
  replace X1 := own_pureX X1
  show OGo p e below _ T1 (mkF m 4 #[.val (.ref a1), .val (.ref r2), .val (.ref r3), .val (.int p4), .val (.int p5)] [])
  refine own_step (g' := (mkF m 5 #[.val (.ref a1), .val (.ref r2), .val (.ref r3), .val (.int p4), .val (.int p5)] [(.ref a1)])) (fun _ k => XS.aloadN X1.here hx rfl (hb hby d7_4) rfl rfl k) ?_
  refine own_step (g' := (mkF m 6 #[.val (.ref a1), .val (.ref r2), .val (.ref r3), .val (.int p4), .val (.int p5)] [(.ref r2), (.ref a1)])) (fun _ k => XS.aloadN X1.here hx rfl (hb hby d7_5) rfl rfl k) ?_
  obtain ⟨T2, h2, X2, e2, W2, st2⟩ := putF X1 hx hZ hown (host := "") (Or.inl (hw _ (List.mem_of_getElem? (i := 46) rfl))) Via.refl e1 F1 E1 (Or.inr ⟨(hw _ (List.mem_of_getElem? (i := 47) rfl)), rfl, hnm⟩) (hw _ (List.mem_of_getElem? (i := 32) rfl)) (ty := (.object "java/lang/String")) (by decide) rfl rfl (g := (mkF m 6 #[.val (.ref a1), .val (.ref r2), .val (.ref r3), .val (.int p4), .val (.int p5)] [(.ref r2), (.ref a1)])) rfl rfl (hb hby d7_6)
  have Fw2 := Fld.same W2 F1
  have N2 := Fr.snoc X2 N0 g_a1
  have K2 : Keep h0 h2 [a1] := KC0.wr W2 (Or.inl (List.mem_of_getElem? (i := 0) rfl))
  refine own_via (g' := (mkF m 9 #[.val (.ref a1), .val (.ref r2), .val (.ref r3), .val (.int p4), .val (.int p5)] [])) st2 ?_
  refine own_step (g' := (mkF m 10 #[.val (.ref a1), .val (.ref r2), .val (.ref r3), .val (.int p4), .val (.int p5)] [(.ref a1)])) (fun _ k => XS.aloadN X2.here hx rfl (hb hby d7_9) rfl rfl k) ?_
  refine own_step (g' := (mkF m 11 #[.val (.ref a1), .val (.ref r2), .val (.ref r3), .val (.int p4), .val (.int p5)] [(.ref r3), (.ref a1)])) (fun _ k => XS.aloadN X2.here hx rfl (hb hby d7_10) rfl rfl k) ?_
  have F_3 : Fld Z h2 a1 "com/example/handl/handl/cli/Arguments$Option" "value" "Ljava/lang/String;" .null := (Fld.other W2 F2 (Or.inr (slot_ne (Or.inr (hw _ (List.mem_of_getElem? (i := 49) rfl))) (Or.inr (hw _ (List.mem_of_getElem? (i := 47) rfl))) (by decide) (t := (.object "java/lang/String")) (t' := (.object "java/lang/String")) (by decide) (by decide))))
  have C_4 : Exa Z h2 a1 "com/example/handl/handl/cli/Arguments$Option" := (Exa.wr W2 E1)
  obtain ⟨T5, h5, X5, e5, W5, st5⟩ := putF X2 hx hZ hown (host := "") (Or.inl (hw _ (List.mem_of_getElem? (i := 48) rfl))) Via.refl e2 F_3 C_4 (Or.inr ⟨(hw _ (List.mem_of_getElem? (i := 49) rfl)), rfl, hnm⟩) (hw _ (List.mem_of_getElem? (i := 32) rfl)) (ty := (.object "java/lang/String")) (by decide) rfl rfl (g := (mkF m 11 #[.val (.ref a1), .val (.ref r2), .val (.ref r3), .val (.int p4), .val (.int p5)] [(.ref r3), (.ref a1)])) rfl rfl (hb hby d7_11)
  have Fw5 := Fld.same W5 F_3
  have N5 := Fr.snoc X5 N2 g_a1
  have K5 : Keep h0 h5 [a1] := K2.wr W5 (Or.inl (List.mem_of_getElem? (i := 0) rfl))
  refine own_via (g' := (mkF m 14 #[.val (.ref a1), .val (.ref r2), .val (.ref r3), .val (.int p4), .val (.int p5)] [])) st5 ?_
  refine own_step (g' := (mkF m 15 #[.val (.ref a1), .val (.ref r2), .val (.ref r3), .val (.int p4), .val (.int p5)] [(.ref a1)])) (fun _ k => XS.aloadN X5.here hx rfl (hb hby d7_14) rfl rfl k) ?_
  refine own_step (g' := (mkF m 16 #[.val (.ref a1), .val (.ref r2), .val (.ref r3), .val (.int p4), .val (.int p5)] [(.int p4), (.ref a1)])) (fun _ k => XS.iloadN X5.here hx rfl (hb hby d7_15) rfl k) ?_
  have F_6 : Fld Z h5 a1 "com/example/handl/handl/cli/Arguments$Option" "repeatable" "Z" (.int (0 : Int32)) := (Fld.other W5 (Fld.other W2 F3 (Or.inr (slot_ne (Or.inr (hw _ (List.mem_of_getElem? (i := 51) rfl))) (Or.inr (hw _ (List.mem_of_getElem? (i := 47) rfl))) (by decide) (t := .boolean) (t' := (.object "java/lang/String")) (by decide) (by decide)))) (Or.inr (slot_ne (Or.inr (hw _ (List.mem_of_getElem? (i := 51) rfl))) (Or.inr (hw _ (List.mem_of_getElem? (i := 49) rfl))) (by decide) (t := .boolean) (t' := (.object "java/lang/String")) (by decide) (by decide))))
  have C_7 : Exa Z h5 a1 "com/example/handl/handl/cli/Arguments$Option" := (Exa.wr W5 C_4)
  obtain ⟨T8, h8, X8, e8, W8, st8⟩ := putF X5 hx hZ hown (host := "") (Or.inl (hw _ (List.mem_of_getElem? (i := 50) rfl))) Via.refl e5 F_6 C_7 (Or.inr ⟨(hw _ (List.mem_of_getElem? (i := 51) rfl)), rfl, hnm⟩) (hw _ (List.mem_of_getElem? (i := 32) rfl)) (ty := .boolean) (by decide) (own_narZ hb4) (own_fitZ hb4) (g := (mkF m 16 #[.val (.ref a1), .val (.ref r2), .val (.ref r3), .val (.int p4), .val (.int p5)] [(.int p4), (.ref a1)])) rfl rfl (hb hby d7_16)
  have Fw8 := Fld.same W8 F_6
  have N8 := Fr.snoc X8 N5 g_a1
  have K8 : Keep h0 h8 [a1] := K5.wr W8 (Or.inl (List.mem_of_getElem? (i := 0) rfl))
  refine own_via (g' := (mkF m 19 #[.val (.ref a1), .val (.ref r2), .val (.ref r3), .val (.int p4), .val (.int p5)] [])) st8 ?_
  refine own_step (g' := (mkF m 20 #[.val (.ref a1), .val (.ref r2), .val (.ref r3), .val (.int p4), .val (.int p5)] [(.ref a1)])) (fun _ k => XS.aloadN X8.here hx rfl (hb hby d7_19) rfl rfl k) ?_
  refine own_step (g' := (mkF m 22 #[.val (.ref a1), .val (.ref r2), .val (.ref r3), .val (.int p4), .val (.int p5)] [(.int p5), (.ref a1)])) (fun _ k => XS.iload X8.here hx rfl (hb hby d7_20) rfl k) ?_
  have F_9 : Fld Z h8 a1 "com/example/handl/handl/cli/Arguments$Option" "joinable" "Z" (.int (0 : Int32)) := (Fld.other W8 (Fld.other W5 (Fld.other W2 F4 (Or.inr (slot_ne (Or.inr (hw _ (List.mem_of_getElem? (i := 53) rfl))) (Or.inr (hw _ (List.mem_of_getElem? (i := 47) rfl))) (by decide) (t := .boolean) (t' := (.object "java/lang/String")) (by decide) (by decide)))) (Or.inr (slot_ne (Or.inr (hw _ (List.mem_of_getElem? (i := 53) rfl))) (Or.inr (hw _ (List.mem_of_getElem? (i := 49) rfl))) (by decide) (t := .boolean) (t' := (.object "java/lang/String")) (by decide) (by decide)))) (Or.inr (slot_ne (Or.inr (hw _ (List.mem_of_getElem? (i := 53) rfl))) (Or.inr (hw _ (List.mem_of_getElem? (i := 51) rfl))) (by decide) (t := .boolean) (t' := .boolean) (by decide) (by decide))))
  have C_10 : Exa Z h8 a1 "com/example/handl/handl/cli/Arguments$Option" := (Exa.wr W8 C_7)
  obtain ⟨T11, h11, X11, e11, W11, st11⟩ := putF X8 hx hZ hown (host := "") (Or.inl (hw _ (List.mem_of_getElem? (i := 52) rfl))) Via.refl e8 F_9 C_10 (Or.inr ⟨(hw _ (List.mem_of_getElem? (i := 53) rfl)), rfl, hnm⟩) (hw _ (List.mem_of_getElem? (i := 32) rfl)) (ty := .boolean) (by decide) (own_narZ hb5) (own_fitZ hb5) (g := (mkF m 22 #[.val (.ref a1), .val (.ref r2), .val (.ref r3), .val (.int p4), .val (.int p5)] [(.int p5), (.ref a1)])) rfl rfl (hb hby d7_22)
  have Fw11 := Fld.same W11 F_9
  have N11 := Fr.snoc X11 N8 g_a1
  have K11 : Keep h0 h11 [a1] := K8.wr W11 (Or.inl (List.mem_of_getElem? (i := 0) rfl))
  refine own_via (g' := (mkF m 25 #[.val (.ref a1), .val (.ref r2), .val (.ref r3), .val (.int p4), .val (.int p5)] [])) st11 ?_
  have C_12 : Exa Z h11 a1 "com/example/handl/handl/cli/Arguments$Option" := (Exa.wr W11 C_10)
  exact own_retV X11 hx hret hlk (hb hby d7_25) e11 (by exact ⟨rfl, N11, K11, C_12⟩) (by decide) (by decide)
theorem d12_0 : decode prog_20_method_1_code 0 = .ok (.aload_n 0, 1) := by decide +kernel
theorem d12_1 : decode prog_20_method_1_code 1 = .ok (.invokespecial 1, 3) := by decide +kernel
theorem d12_4 : decode prog_20_method_1_code 4 = .ok (.aload_n 0, 1) := by decide +kernel
theorem d12_5 : decode prog_20_method_1_code 5 = .ok (.aload_n 1, 1) := by decide +kernel
theorem d12_6 : decode prog_20_method_1_code 6 = .ok (.putfield 7, 3) := by decide +kernel
theorem d12_9 : decode prog_20_method_1_code 9 = .ok (.aload_n 0, 1) := by decide +kernel
theorem d12_10 : decode prog_20_method_1_code 10 = .ok (.iload_n 2, 1) := by decide +kernel
theorem d12_11 : decode prog_20_method_1_code 11 = .ok (.putfield 13, 3) := by decide +kernel
theorem d12_14 : decode prog_20_method_1_code 14 = .ok (.return_, 1) := by decide +kernel
theorem pn_12 : plainName "com/example/handl/handl/cli/Arguments$Syntax" = true := by first | (simp [plainName, overriddenIn]; done) | decide +kernel
set_option maxRecDepth 65536 in
set_option maxHeartbeats 40000000 in
theorem rmSy (l : Launch) (Z : State) (a0 : Array Value) (hw : ∀ d ∈ tables_1, d.before a0 Z = true) (ws : List Jvm.Cond) (a1 r2 : Addr) (p3 : Int32) (h0 : Heap) (n0 : Nat) (Z0 : n0 ≤ h0.size) (g_a1 : n0 ≤ a1) (E1 : Exa Z h0 a1 "com/example/handl/handl/cli/Arguments$Syntax") (F1 : Fld Z h0 a1 "com/example/handl/handl/cli/Arguments$Syntax" "options" "Ljava/util/List;" .null) (F2 : Fld Z h0 a1 "com/example/handl/handl/cli/Arguments$Syntax" "operands" "Z" (.int (0 : Int32))) (hb3 : p3 = (0 : Int32) ∨ p3 = (1 : Int32)) :
    OMet l (⟨"com/example/handl/handl/cli/Arguments$Syntax", "<init>", "(Ljava/util/List;Z)V"⟩ : MethodName) prog_20_method_1_code 3 none ws ({ frames := 2, cells := 0, slots := 0, locals := 24 } : Room) Z #[(.ref a1), (.ref r2), (.int p3)] h0 (fun v h L => v = none ∧ Fr n0 L ∧ Keep h0 h [a1] ∧ Exa Z h a1 "com/example/handl/handl/cli/Arguments$Syntax" ∧ Fld Z h a1 "com/example/handl/handl/cli/Arguments$Syntax" "options" "Ljava/util/List;" (.ref r2) ∧ Fld Z h a1 "com/example/handl/handl/cli/Arguments$Syntax" "operands" "Z" (.int p3)) := by
  refine own_body (plainFor_of_name pn_12) ?_
  intro p e s m below meth cdx T0 X0 hx hZ hby hml hown hnm hret hlk e0
  have N0 := Fr.nil n0
  refine own_entry (g' := (mkF m 0 #[.val (.ref a1), .val (.ref r2), .val (.int p3)] [])) (by first | rfl | (simp [entryFrame, mkF, argsToLocals, Value.category, maxLocals]; done)) ?_
  have KC0 := Keep.refl h0 [a1]
  refine own_step (g' := (mkF m 1 #[.val (.ref a1), .val (.ref r2), .val (.int p3)] [(.ref a1)])) (fun _ k => XS.aloadN X0.here hx rfl (hb hby d12_0) rfl rfl k) ?_
  refine own_init X0 hx hZ (W := 0) hown e0 (rmRec l Z a0 hw [] a1 h0 n0 Z0) rfl (hw _ (List.mem_of_getElem? (i := 85) rfl)) (hw _ (List.mem_of_getElem? (i := 41) rfl)) (hw _ (List.mem_of_getElem? (i := 44) rfl)) (hw _ (List.mem_of_getElem? (i := 43) rfl)) (by decide) (by decide) (by decide) (g := (mkF m 1 #[.val (.ref a1), .val (.ref r2), .val (.int p3)] [(.ref a1)])) rfl (by rw [hml]; rfl) (argsL := []) (rest := []) rfl (lenOf pd_0 rfl) rfl (by show 2 * 0 + _ ≤ _; exact Nat.le_of_eq rfl) (hb hby d12_1) (by decide) (by decide) ?_
  intro v1 T1 L1 X1 hQ1
  obtain ⟨rfl, rfl, e1⟩ := hQ1
  replace X1 := own_pureX X1
  show OGo p e below _ T1 (mkF m 4 #[.val (.ref a1), .val (.ref r2), .val (.int p3)] [])
  refine own_step (g' := (mkF m 5 #[.val (.ref a1), .val (.ref r2), .val (.int p3)] [(.ref a1)])) (fun _ k => XS.aloadN X1.here hx rfl (hb hby d12_4) rfl rfl k) ?_
  refine own_step (g' := (mkF m 6 #[.val (.ref a1), .val (.ref r2), .val (.int p3)] [(.ref r2), (.ref a1)])) (fun _ k => XS.aloadN X1.here hx rfl (hb hby d12_5) rfl rfl k) ?_
  obtain ⟨T2, h2, X2, e2, W2, st2⟩ := putF X1 hx hZ hown (host := "") (Or.inl (hw _ (List.mem_of_getElem? (i := 86) rfl))) Via.refl e1 F1 E1 (Or.inr ⟨(hw _ (List.mem_of_getElem? (i := 87) rfl)), rfl, hnm⟩) (hw _ (List.mem_of_getElem? (i := 80) rfl)) (ty := (.object "java/util/List")) (by decide) rfl rfl (g := (mkF m 6 #[.val (.ref a1), .val (.ref r2), .val (.int p3)] [(.ref r2), (.ref a1)])) rfl rfl (hb hby d12_6)
  have Fw2 := Fld.same W2 F1
  have N2 := Fr.snoc X2 N0 g_a1
  have K2 : Keep h0 h2 [a1] := KC0.wr W2 (Or.inl (List.mem_of_getElem? (i := 0) rfl))
  refine own_via (g' := (mkF m 9 #[.val (.ref a1), .val (.ref r2), .val (.int p3)] [])) st2 ?_
  refine own_step (g' := (mkF m 10 #[.val (.ref a1), .val (.ref r2), .val (.int p3)] [(.ref a1)])) (fun _ k => XS.aloadN X2.here hx rfl (hb hby d12_9) rfl rfl k) ?_
  refine own_step (g' := (mkF m 11 #[.val (.ref a1), .val (.ref r2), .val (.int p3)] [(.int p3), (.ref a1)])) (fun _ k => XS.iloadN X2.here hx rfl (hb hby d12_10) rfl k) ?_
  have F_3 : Fld Z h2 a1 "com/example/handl/handl/cli/Arguments$Syntax" "operands" "Z" (.int (0 : Int32)) := (Fld.other W2 F2 (Or.inr (slot_ne (Or.inr (hw _ (List.mem_of_getElem? (i := 89) rfl))) (Or.inr (hw _ (List.mem_of_getElem? (i := 87) rfl))) (by decide) (t := .boolean) (t' := (.object "java/util/List")) (by decide) (by decide))))
  have C_4 : Exa Z h2 a1 "com/example/handl/handl/cli/Arguments$Syntax" := (Exa.wr W2 E1)
  obtain ⟨T5, h5, X5, e5, W5, st5⟩ := putF X2 hx hZ hown (host := "") (Or.inl (hw _ (List.mem_of_getElem? (i := 88) rfl))) Via.refl e2 F_3 C_4 (Or.inr ⟨(hw _ (List.mem_of_getElem? (i := 89) rfl)), rfl, hnm⟩) (hw _ (List.mem_of_getElem? (i := 80) rfl)) (ty := .boolean) (by decide) (own_narZ hb3) (own_fitZ hb3) (g := (mkF m 11 #[.val (.ref a1), .val (.ref r2), .val (.int p3)] [(.int p3), (.ref a1)])) rfl rfl (hb hby d12_11)
  have Fw5 := Fld.same W5 F_3
  have N5 := Fr.snoc X5 N2 g_a1
  have K5 : Keep h0 h5 [a1] := K2.wr W5 (Or.inl (List.mem_of_getElem? (i := 0) rfl))
  refine own_via (g' := (mkF m 14 #[.val (.ref a1), .val (.ref r2), .val (.int p3)] [])) st5 ?_
  have C_6 : Exa Z h5 a1 "com/example/handl/handl/cli/Arguments$Syntax" := (Exa.wr W5 C_4)
  have F_7 : Fld Z h5 a1 "com/example/handl/handl/cli/Arguments$Syntax" "options" "Ljava/util/List;" (.ref r2) := (Fld.other W5 Fw2 (Or.inr (slot_ne (Or.inr (hw _ (List.mem_of_getElem? (i := 87) rfl))) (Or.inr (hw _ (List.mem_of_getElem? (i := 89) rfl))) (by decide) (t := (.object "java/util/List")) (t' := .boolean) (by decide) (by decide))))
  exact own_retV X5 hx hret hlk (hb hby d12_14) e5 (by exact ⟨rfl, N5, K5, C_6, F_7, Fw5⟩) (by decide) (by decide)
theorem d13_0 : decode prog_20_method_3_code 0 = .ok (.new 8, 3) := by decide +kernel
theorem d13_3 : decode prog_20_method_3_code 3 = .ok (.dup, 1) := by decide +kernel
theorem d13_4 : decode prog_20_method_3_code 4 = .ok (.aload_n 0, 1) := by decide +kernel
theorem d13_5 : decode prog_20_method_3_code 5 = .ok (.getfield 7, 3) := by decide +kernel
theorem d13_8 : decode prog_20_method_3_code 8 = .ok (.iconst 1, 1) := by decide +kernel
theorem d13_9 : decode prog_20_method_3_code 9 = .ok (.invokespecial 23, 3) := by decide +kernel
theorem d13_12 : decode prog_20_method_3_code 12 = .ok (.areturn, 1) := by decide +kernel
theorem pd_1 : parseMethodDescriptor "(Ljava/util/List;Z)V" = some ⟨[(.object "java/util/List"), .boolean], none⟩ := by decide +kernel
set_option maxRecDepth 65536 in
set_option maxHeartbeats 40000000 in
theorem rmWith (l : Launch) (Z : State) (a0 : Array Value) (hw : ∀ d ∈ tables_1, d.before a0 Z = true) (ws : List Jvm.Cond) (a1 r2 : Addr) (h0 : Heap) (n0 : Nat) (Z0 : n0 ≤ h0.size) (E1 : Exa Z h0 a1 "com/example/handl/handl/cli/Arguments$Syntax") (F1 : Fld Z h0 a1 "com/example/handl/handl/cli/Arguments$Syntax" "options" "Ljava/util/List;" (.ref r2)) :
    OMet l (⟨"com/example/handl/handl/cli/Arguments$Syntax", "withOperands", "()Lcom/example/handl/handl/cli/Arguments$Syntax;"⟩ : MethodName) prog_20_method_3_code 1 (some (.object "com/example/handl/handl/cli/Arguments$Syntax")) ws ({ frames := 3, cells := 1, slots := 2, locals := 39 } : Room) Z #[(.ref a1)] h0 (fun v h L => (∃ b, v = some (.ref b) ∧ h0.size ≤ b ∧ Exa Z h b "com/example/handl/handl/cli/Arguments$Syntax" ∧ Fld Z h b "com/example/handl/handl/cli/Arguments$Syntax" "options" "Ljava/util/List;" (.ref r2) ∧ Fld Z h b "com/example/handl/handl/cli/Arguments$Syntax" "operands" "Z" (.int (1 : Int32))) ∧ Fr n0 L ∧ Keep h0 h []) := by
  refine own_body (plainFor_of_name pn_12) ?_
  intro p e s m below meth cdx T0 X0 hx hZ hby hml hown hnm hret hlk e0
  have N0 := Fr.nil n0
  refine own_entry (g' := (mkF m 0 #[.val (.ref a1)] [])) (by first | rfl | (simp [entryFrame, mkF, argsToLocals, Value.category, maxLocals]; done)) ?_
  have KC0 := Keep.refl h0 []
  obtain ⟨T1, h1, X1, e1, Ex1, A1, D1, -, st1⟩ := newO X0 hx hZ hown (hw _ (List.mem_of_getElem? (i := 95) rfl)) (hw _ (List.mem_of_getElem? (i := 80) rfl)) (hw _ (List.mem_of_getElem? (i := 81) rfl)) e0 (g := (mkF m 0 #[.val (.ref a1)] [])) rfl (hb hby d13_0) (by decide) (by decide)
  obtain ⟨nb1, g1⟩ : ∃ z, z = h0.size := ⟨_, rfl⟩
  rw [← g1] at A1 D1 st1
  have g_nb1 : n0 ≤ nb1 := Nat.le_trans Z0 (Nat.le_of_eq g1.symm)
  have ne_a1_nb1 : a1 ≠ nb1 := Nat.ne_of_lt (Nat.lt_of_lt_of_le E1.lt (Nat.le_of_eq g1.symm))
  have sz_nb1 : h0.size ≤ nb1 := Nat.le_trans KC0.1 (Nat.le_of_eq g1.symm)
  have K1 : Keep h0 h1 [] := KC0.ext Ex1
  have F1_options : Fld Z h1 nb1 "com/example/handl/handl/cli/Arguments$Syntax" "options" "Ljava/util/List;" .null := D1 (Or.inr (hw _ (List.mem_of_getElem? (i := 87) rfl))) (ty := (.object "java/util/List")) (by decide)
  have F1_operands : Fld Z h1 nb1 "com/example/handl/handl/cli/Arguments$Syntax" "operands" "Z" (.int (0 : Int32)) := D1 (Or.inr (hw _ (List.mem_of_getElem? (i := 89) rfl))) (ty := .boolean) (by decide)
  refine own_via (g' := (mkF m 3 #[.val (.ref a1)] [(.ref nb1)])) st1 ?_
  refine own_step (g' := (mkF m 4 #[.val (.ref a1)] [(.ref nb1), (.ref nb1)])) (fun _ k => XS.dup X1.here hx rfl (hb hby d13_3) rfl rfl k) ?_
  refine own_step (g' := (mkF m 5 #[.val (.ref a1)] [(.ref a1), (.ref nb1), (.ref nb1)])) (fun _ k => XS.aloadN X1.here hx rfl (hb hby d13_4) rfl rfl k) ?_
  have F_2 : Fld Z h1 a1 "com/example/handl/handl/cli/Arguments$Syntax" "options" "Ljava/util/List;" (.ref r2) := (Fld.ext Ex1 F1)
  obtain ⟨T3, X3, e3, st3⟩ := getF X1 hx hZ hown (host := "") (Or.inl (hw _ (List.mem_of_getElem? (i := 86) rfl))) Via.refl e1 F_2 (g := (mkF m 5 #[.val (.ref a1)] [(.ref a1), (.ref nb1), (.ref nb1)])) rfl rfl (hb hby d13_5)
  refine own_via (g' := (mkF m 8 #[.val (.ref a1)] [(.ref r2), (.ref nb1), (.ref nb1)])) st3 ?_
  refine own_step (g' := (mkF m 9 #[.val (.ref a1)] [(.int (1 : Int32)), (.ref r2), (.ref nb1), (.ref nb1)])) (fun _ k => XS.iconst X3.here hx rfl (hb hby d13_8) k) ?_
  refine own_init X3 hx hZ (W := 1) hown e3 (rmSy l Z a0 hw [] nb1 r2 (1 : Int32) h1 n0 (Nat.le_trans Z0 Ex1.1) g_nb1 A1 F1_options F1_operands (Or.inr rfl)) rfl (hw _ (List.mem_of_getElem? (i := 96) rfl)) (hw _ (List.mem_of_getElem? (i := 83) rfl)) (hw _ (List.mem_of_getElem? (i := 84) rfl)) (hw _ (List.mem_of_getElem? (i := 81) rfl)) (by decide) (by decide) (by decide) (g := (mkF m 9 #[.val (.ref a1)] [(.int (1 : Int32)), (.ref r2), (.ref nb1), (.ref nb1)])) rfl (by rw [hml]; rfl) (argsL := [(.ref r2), (.int (1 : Int32))]) (rest := [(.ref nb1)]) rfl (lenOf pd_1 rfl) rfl (by show 2 * 0 + _ ≤ _; exact Nat.le_of_eq rfl) (hb hby d13_9) (by decide) (by decide) ?_
  intro v5 T5 L5 X5 hQ5
  obtain ⟨rfl, Nq5, Kq5, Cs4, F1s4, F2s4⟩ := hQ5
  have N5 := Fr.app N0 Nq5
  have K5 : Keep h0 T5.heap [] := K1.trans Kq5 (allS (Or.inr sz_nb1) all0)
  show OGo p e below _ T5 (mkF m 12 #[.val (.ref a1)] [(.ref nb1)])
  exact own_retA X5 hx hret rfl rfl hlk (hb hby d13_12) rfl (by exact ⟨⟨_, rfl, sz_nb1, Cs4, F1s4, F2s4⟩, N5, K5⟩) (by decide) (by decide)
theorem d14_0 : decode prog_20_method_11_code 0 = .ok (.aload_n 0, 1) := by decide +kernel
theorem d14_1 : decode prog_20_method_11_code 1 = .ok (.getfield 7, 3) := by decide +kernel
theorem d14_4 : decode prog_20_method_11_code 4 = .ok (.areturn, 1) := by decide +kernel
set_option maxRecDepth 65536 in
set_option maxHeartbeats 40000000 in
theorem rmGopt (l : Launch) (Z : State) (a0 : Array Value) (hw : ∀ d ∈ tables_1, d.before a0 Z = true) (ws : List Jvm.Cond) (a1 r1 : Addr) (h0 : Heap) (n0 : Nat) (Z0 : n0 ≤ h0.size) (F1 : Fld Z h0 a1 "com/example/handl/handl/cli/Arguments$Syntax" "options" "Ljava/util/List;" (.ref r1)) :
    OMet l (⟨"com/example/handl/handl/cli/Arguments$Syntax", "options", "()Ljava/util/List;"⟩ : MethodName) prog_20_method_11_code 1 (some (.object "java/util/List")) ws ({ frames := 0, cells := 0, slots := 0, locals := 0 } : Room) Z #[(.ref a1)] h0 (fun v h L => v = some (.ref r1) ∧ L = [] ∧ h = h0) := by
  refine own_body (plainFor_of_name pn_12) ?_
  intro p e s m below meth cdx T0 X0 hx hZ hby hml hown hnm hret hlk e0
  have N0 := Fr.nil n0
  refine own_entry (g' := (mkF m 0 #[.val (.ref a1)] [])) (by first | rfl | (simp [entryFrame, mkF, argsToLocals, Value.category, maxLocals]; done)) ?_
  refine own_step (g' := (mkF m 1 #[.val (.ref a1)] [(.ref a1)])) (fun _ k => XS.aloadN X0.here hx rfl (hb hby d14_0) rfl rfl k) ?_
  obtain ⟨T1, X1, e1, st1⟩ := getF X0 hx hZ hown (host := "") (Or.inl (hw _ (List.mem_of_getElem? (i := 86) rfl))) Via.refl e0 F1 (g := (mkF m 1 #[.val (.ref a1)] [(.ref a1)])) rfl rfl (hb hby d14_1)
  refine own_via (g' := (mkF m 4 #[.val (.ref a1)] [(.ref r1)])) st1 ?_
  exact own_retA X1 hx hret rfl rfl hlk (hb hby d14_4) e1 (by exact ⟨rfl, rfl, rfl⟩) (by decide) (by decide)
theorem d15_0 : decode prog_20_method_12_code 0 = .ok (.aload_n 0, 1) := by decide +kernel
theorem d15_1 : decode prog_20_method_12_code 1 = .ok (.getfield 13, 3) := by decide +kernel
theorem d15_4 : decode prog_20_method_12_code 4 = .ok (.ireturn, 1) := by decide +kernel
set_option maxRecDepth 65536 in
set_option maxHeartbeats 40000000 in
theorem rmGopd (l : Launch) (Z : State) (a0 : Array Value) (hw : ∀ d ∈ tables_1, d.before a0 Z = true) (ws : List Jvm.Cond) (a1 : Addr) (p1 : Int32) (h0 : Heap) (n0 : Nat) (Z0 : n0 ≤ h0.size) (F1 : Fld Z h0 a1 "com/example/handl/handl/cli/Arguments$Syntax" "operands" "Z" (.int p1)) (hbo : p1 = (0 : Int32) ∨ p1 = (1 : Int32)) :
    OMet l (⟨"com/example/handl/handl/cli/Arguments$Syntax", "operands", "()Z"⟩ : MethodName) prog_20_method_12_code 1 (some .boolean) ws ({ frames := 0, cells := 0, slots := 0, locals := 0 } : Room) Z #[(.ref a1)] h0 (fun v h L => v = some (.int p1) ∧ L = [] ∧ h = h0) := by
  refine own_body (plainFor_of_name pn_12) ?_
  intro p e s m below meth cdx T0 X0 hx hZ hby hml hown hnm hret hlk e0
  have N0 := Fr.nil n0
  refine own_entry (g' := (mkF m 0 #[.val (.ref a1)] [])) (by first | rfl | (simp [entryFrame, mkF, argsToLocals, Value.category, maxLocals]; done)) ?_
  refine own_step (g' := (mkF m 1 #[.val (.ref a1)] [(.ref a1)])) (fun _ k => XS.aloadN X0.here hx rfl (hb hby d15_0) rfl rfl k) ?_
  obtain ⟨T1, X1, e1, st1⟩ := getF X0 hx hZ hown (host := "") (Or.inl (hw _ (List.mem_of_getElem? (i := 88) rfl))) Via.refl e0 F1 (g := (mkF m 1 #[.val (.ref a1)] [(.ref a1)])) rfl rfl (hb hby d15_1)
  refine own_via (g' := (mkF m 4 #[.val (.ref a1)] [(.int p1)])) st1 ?_
  exact own_retN X1 hx (t := .boolean) hret (by simp) hlk (hb hby d15_4) e1 (by exact (by rcases hbo with rfl | rfl <;> exact ⟨rfl, rfl, rfl⟩)) (by decide) (by decide)
theorem d11_0 : decode jdk_22_method_1_code 0 = .ok (.aload_n 0, 1) := by decide +kernel
theorem d11_1 : decode jdk_22_method_1_code 1 = .ok (.invokespecial 1, 3) := by decide +kernel
theorem d11_4 : decode jdk_22_method_1_code 4 = .ok (.return_, 1) := by decide +kernel
theorem pn_11 : plainName "java/util/AbstractCollection" = true := by first | (simp [plainName, overriddenIn]; done) | decide +kernel
set_option maxRecDepth 65536 in
set_option maxHeartbeats 40000000 in
theorem rmABC (l : Launch) (Z : State) (a0 : Array Value) (hw : ∀ d ∈ tables_1, d.before a0 Z = true) (ws : List Jvm.Cond) (a1 : Addr) (h0 : Heap) (n0 : Nat) (Z0 : n0 ≤ h0.size)  :
    OMet l (⟨"java/util/AbstractCollection", "<init>", "()V"⟩ : MethodName) jdk_22_method_1_code 1 none ws ({ frames := 1, cells := 0, slots := 0, locals := 12 } : Room) Z #[(.ref a1)] h0 (fun v h L => v = none ∧ L = [] ∧ h = h0) := by
  refine own_body (plainFor_of_name pn_11) ?_
  intro p e s m below meth cdx T0 X0 hx hZ hby hml hown hnm hret hlk e0
  have N0 := Fr.nil n0
  refine own_entry (g' := (mkF m 0 #[.val (.ref a1)] [])) (by first | rfl | (simp [entryFrame, mkF, argsToLocals, Value.category, maxLocals]; done)) ?_
  refine own_step (g' := (mkF m 1 #[.val (.ref a1)] [(.ref a1)])) (fun _ k => XS.aloadN X0.here hx rfl (hb hby d11_0) rfl rfl k) ?_
  obtain ⟨T1, X1, e1, st1⟩ := initO X0 hx hZ hown (hw _ (List.mem_of_getElem? (i := 73) rfl)) (hw _ (List.mem_of_getElem? (i := 13) rfl)) (hw _ (List.mem_of_getElem? (i := 14) rfl)) e0 (g := (mkF m 1 #[.val (.ref a1)] [(.ref a1)])) rfl (by rw [hml]; rfl) rfl (hb hby d11_1) (by decide) (W := 0) (by show 2 * 0 + _ ≤ _; exact Nat.le_of_eq rfl) (by decide)
  refine own_via (g' := (mkF m 4 #[.val (.ref a1)] [])) st1 ?_
  exact own_retV X1 hx hret hlk (hb hby d11_4) e1 (by exact ⟨rfl, rfl, rfl⟩) (by decide) (by decide)
theorem d10_0 : decode jdk_39_method_1_code 0 = .ok (.aload_n 0, 1) := by decide +kernel
theorem d10_1 : decode jdk_39_method_1_code 1 = .ok (.invokespecial 1, 3) := by decide +kernel
theorem d10_4 : decode jdk_39_method_1_code 4 = .ok (.aload_n 0, 1) := by decide +kernel
theorem d10_5 : decode jdk_39_method_1_code 5 = .ok (.iconst 0, 1) := by decide +kernel
theorem d10_6 : decode jdk_39_method_1_code 6 = .ok (.putfield 7, 3) := by decide +kernel
theorem d10_9 : decode jdk_39_method_1_code 9 = .ok (.return_, 1) := by decide +kernel
theorem pn_10 : plainName "java/util/AbstractList" = true := by first | (simp [plainName, overriddenIn]; done) | decide +kernel
set_option maxRecDepth 65536 in
set_option maxHeartbeats 40000000 in
theorem rmABL (l : Launch) (Z : State) (a0 : Array Value) (hw : ∀ d ∈ tables_1, d.before a0 Z = true) (ws : List Jvm.Cond) (a1 : Addr) (h0 : Heap) (n0 : Nat) (Z0 : n0 ≤ h0.size) (g_a1 : n0 ≤ a1) (E1 : Exa Z h0 a1 "java/util/ArrayList") (Fm : Fld Z h0 a1 "java/util/AbstractList" "modCount" "I" (.int (0 : Int32))) (Fe : Fld Z h0 a1 "java/util/ArrayList" "elementData" "[Ljava/lang/Object;" .null) (Fs : Fld Z h0 a1 "java/util/ArrayList" "size" "I" (.int (0 : Int32))) :
    OMet l (⟨"java/util/AbstractList", "<init>", "()V"⟩ : MethodName) jdk_39_method_1_code 1 none ws ({ frames := 2, cells := 0, slots := 0, locals := 24 } : Room) Z #[(.ref a1)] h0 (fun v h L => v = none ∧ Fr n0 L ∧ Keep h0 h [a1] ∧ Exa Z h a1 "java/util/ArrayList" ∧ Fld Z h a1 "java/util/AbstractList" "modCount" "I" (.int (0 : Int32)) ∧ Fld Z h a1 "java/util/ArrayList" "elementData" "[Ljava/lang/Object;" .null ∧ Fld Z h a1 "java/util/ArrayList" "size" "I" (.int (0 : Int32))) := by
  refine own_body (plainFor_of_name pn_10) ?_
  intro p e s m below meth cdx T0 X0 hx hZ hby hml hown hnm hret hlk e0
  have N0 := Fr.nil n0
  refine own_entry (g' := (mkF m 0 #[.val (.ref a1)] [])) (by first | rfl | (simp [entryFrame, mkF, argsToLocals, Value.category, maxLocals]; done)) ?_
  have KC0 := Keep.refl h0 [a1]
  refine own_step (g' := (mkF m 1 #[.val (.ref a1)] [(.ref a1)])) (fun _ k => XS.aloadN X0.here hx rfl (hb hby d10_0) rfl rfl k) ?_
  refine own_init X0 hx hZ (W := 0) hown e0 (rmABC l Z a0 hw [] a1 h0 n0 Z0) rfl (hw _ (List.mem_of_getElem? (i := 67) rfl)) (hw _ (List.mem_of_getElem? (i := 68) rfl)) (hw _ (List.mem_of_getElem? (i := 72) rfl)) (hw _ (List.mem_of_getElem? (i := 71) rfl)) (by decide) (by decide) (by decide) (g := (mkF m 1 #[.val (.ref a1)] [(.ref a1)])) rfl (by rw [hml]; rfl) (argsL := []) (rest := []) rfl (lenOf pd_0 rfl) rfl (by show 2 * 0 + _ ≤ _; exact Nat.le_of_eq rfl) (hb hby d10_1) (by decide) (by decide) ?_
  intro v1 T1 L1 X1 hQ1
  obtain ⟨rfl, rfl, e1⟩ := hQ1
  replace X1 := own_pureX X1
  show OGo p e below _ T1 (mkF m 4 #[.val (.ref a1)] [])
  refine own_step (g' := (mkF m 5 #[.val (.ref a1)] [(.ref a1)])) (fun _ k => XS.aloadN X1.here hx rfl (hb hby d10_4) rfl rfl k) ?_
  refine own_step (g' := (mkF m 6 #[.val (.ref a1)] [(.int (0 : Int32)), (.ref a1)])) (fun _ k => XS.iconst X1.here hx rfl (hb hby d10_5) k) ?_
  obtain ⟨T2, h2, X2, e2, W2, st2⟩ := putF X1 hx hZ hown (host := "") (Or.inl (hw _ (List.mem_of_getElem? (i := 74) rfl))) Via.refl e1 Fm E1 (Or.inl (hw _ (List.mem_of_getElem? (i := 75) rfl))) (hw _ (List.mem_of_getElem? (i := 56) rfl)) (ty := .int) (by decide) rfl rfl (g := (mkF m 6 #[.val (.ref a1)] [(.int (0 : Int32)), (.ref a1)])) rfl rfl (hb hby d10_6)
  have Fw2 := Fld.same W2 Fm
  have N2 := Fr.snoc X2 N0 g_a1
  have K2 : Keep h0 h2 [a1] := KC0.wr W2 (Or.inl (List.mem_of_getElem? (i := 0) rfl))
  refine own_via (g' := (mkF m 9 #[.val (.ref a1)] [])) st2 ?_
  have C_3 : Exa Z h2 a1 "java/util/ArrayList" := (Exa.wr W2 E1)
  have F_4 : Fld Z h2 a1 "java/util/ArrayList" "elementData" "[Ljava/lang/Object;" .null := (Fld.other W2 Fe (Or.inr (slot_ne (Or.inl (hw _ (List.mem_of_getElem? (i := 78) rfl))) (Or.inl (hw _ (List.mem_of_getElem? (i := 75) rfl))) (by decide) (t := (.array (.object "java/lang/Object"))) (t' := .int) (by decide) (by decide))))
  have F_5 : Fld Z h2 a1 "java/util/ArrayList" "size" "I" (.int (0 : Int32)) := (Fld.other W2 Fs (Or.inr (slot_ne (Or.inl (hw _ (List.mem_of_getElem? (i := 117) rfl))) (Or.inl (hw _ (List.mem_of_getElem? (i := 75) rfl))) (by decide) (t := .int) (t' := .int) (by decide) (by decide))))
  exact own_retV X2 hx hret hlk (hb hby d10_9) e2 (by exact ⟨rfl, N2, K2, C_3, Fw2, F_4, F_5⟩) (by decide) (by decide)
theorem d9_0 : decode jdk_38_method_2_code 0 = .ok (.aload_n 0, 1) := by decide +kernel
theorem d9_1 : decode jdk_38_method_2_code 1 = .ok (.invokespecial 1, 3) := by decide +kernel
theorem d9_4 : decode jdk_38_method_2_code 4 = .ok (.aload_n 0, 1) := by decide +kernel
theorem d9_5 : decode jdk_38_method_2_code 5 = .ok (.getstatic 39, 3) := by decide +kernel
theorem d9_8 : decode jdk_38_method_2_code 8 = .ok (.putfield 9, 3) := by decide +kernel
theorem d9_11 : decode jdk_38_method_2_code 11 = .ok (.return_, 1) := by decide +kernel
theorem pn_9 : plainName "java/util/ArrayList" = true := by first | (simp [plainName, overriddenIn]; done) | decide +kernel
set_option maxRecDepth 65536 in
set_option maxHeartbeats 40000000 in
theorem rmAL (l : Launch) (Z : State) (a0 : Array Value) (hw : ∀ d ∈ tables_1, d.before a0 Z = true) (ws : List Jvm.Cond) (a1 ed : Addr) (h0 : Heap) (n0 : Nat) (Z0 : n0 ≤ h0.size) (S_DC : Sta Z h0 "java/util/ArrayList" "DEFAULTCAPACITY_EMPTY_ELEMENTDATA" "[Ljava/lang/Object;" (.ref ed)) (g_a1 : n0 ≤ a1) (E1 : Exa Z h0 a1 "java/util/ArrayList") (Fm : Fld Z h0 a1 "java/util/AbstractList" "modCount" "I" (.int (0 : Int32))) (Fe : Fld Z h0 a1 "java/util/ArrayList" "elementData" "[Ljava/lang/Object;" .null) (Fs : Fld Z h0 a1 "java/util/ArrayList" "size" "I" (.int (0 : Int32))) :
    OMet l (⟨"java/util/ArrayList", "<init>", "()V"⟩ : MethodName) jdk_38_method_2_code 1 none ws ({ frames := 3, cells := 0, slots := 0, locals := 36 } : Room) Z #[(.ref a1)] h0 (fun v h L => v = none ∧ Fr n0 L ∧ Keep h0 h [a1] ∧ Exa Z h a1 "java/util/ArrayList" ∧ Fld Z h a1 "java/util/AbstractList" "modCount" "I" (.int (0 : Int32)) ∧ Fld Z h a1 "java/util/ArrayList" "elementData" "[Ljava/lang/Object;" (.ref ed) ∧ Fld Z h a1 "java/util/ArrayList" "size" "I" (.int (0 : Int32))) := by
  refine own_body (plainFor_of_name pn_9) ?_
  intro p e s m below meth cdx T0 X0 hx hZ hby hml hown hnm hret hlk e0
  have N0 := Fr.nil n0
  refine own_entry (g' := (mkF m 0 #[.val (.ref a1)] [])) (by first | rfl | (simp [entryFrame, mkF, argsToLocals, Value.category, maxLocals]; done)) ?_
  have KC0 := Keep.refl h0 [a1]
  refine own_step (g' := (mkF m 1 #[.val (.ref a1)] [(.ref a1)])) (fun _ k => XS.aloadN X0.here hx rfl (hb hby d9_0) rfl rfl k) ?_
  refine own_init X0 hx hZ (W := 0) hown e0 (rmABL l Z a0 hw [] a1 h0 n0 Z0 g_a1 E1 Fm Fe Fs) rfl (hw _ (List.mem_of_getElem? (i := 61) rfl)) (hw _ (List.mem_of_getElem? (i := 62) rfl)) (hw _ (List.mem_of_getElem? (i := 66) rfl)) (hw _ (List.mem_of_getElem? (i := 65) rfl)) (by decide) (by decide) (by decide) (g := (mkF m 1 #[.val (.ref a1)] [(.ref a1)])) rfl (by rw [hml]; rfl) (argsL := []) (rest := []) rfl (lenOf pd_0 rfl) rfl (by show 2 * 0 + _ ≤ _; exact Nat.le_of_eq rfl) (hb hby d9_1) (by decide) (by decide) ?_
  intro v1 T1 L1 X1 hQ1
  obtain ⟨rfl, Nq1, Kq1, Ck, Fk1, Fk2, Fk3⟩ := hQ1
  have N1 := Fr.app N0 Nq1
  have K1 : Keep h0 T1.heap [a1] := KC0.trans Kq1 (allS (Or.inl (List.mem_of_getElem? (i := 0) rfl)) all0)
  show OGo p e below _ T1 (mkF m 4 #[.val (.ref a1)] [])
  refine own_step (g' := (mkF m 5 #[.val (.ref a1)] [(.ref a1)])) (fun _ k => XS.aloadN X1.here hx rfl (hb hby d9_4) rfl rfl k) ?_
  have S_2 : Sta Z T1.heap "java/util/ArrayList" "DEFAULTCAPACITY_EMPTY_ELEMENTDATA" "[Ljava/lang/Object;" (.ref ed) := (own_sta_keep S_DC Kq1 (allS (own_nsE E1) all0))
  obtain ⟨T3, X3, e3, st3⟩ := getS2 X1 hx hZ hown (host := "") (Or.inl (hw _ (List.mem_of_getElem? (i := 76) rfl))) Via.refl rfl S_2 (g := (mkF m 5 #[.val (.ref a1)] [(.ref a1)])) rfl (hb hby d9_5)
  refine own_via (g' := (mkF m 8 #[.val (.ref a1)] [(.ref ed), (.ref a1)])) st3 ?_
  obtain ⟨T4, h4, X4, e4, W4, st4⟩ := putF X3 hx hZ hown (host := "") (Or.inl (hw _ (List.mem_of_getElem? (i := 77) rfl))) Via.refl e3 Fk2 Ck (Or.inl (hw _ (List.mem_of_getElem? (i := 78) rfl))) (hw _ (List.mem_of_getElem? (i := 56) rfl)) (ty := (.array (.object "java/lang/Object"))) (by decide) rfl rfl (g := (mkF m 8 #[.val (.ref a1)] [(.ref ed), (.ref a1)])) rfl rfl (hb hby d9_8)
  have Fw4 := Fld.same W4 Fk2
  have N4 := Fr.snoc X4 N1 g_a1
  have K4 : Keep h0 h4 [a1] := K1.wr W4 (Or.inl (List.mem_of_getElem? (i := 0) rfl))
  refine own_via (g' := (mkF m 11 #[.val (.ref a1)] [])) st4 ?_
  have C_5 : Exa Z h4 a1 "java/util/ArrayList" := (Exa.wr W4 Ck)
  have F_6 : Fld Z h4 a1 "java/util/AbstractList" "modCount" "I" (.int (0 : Int32)) := (Fld.other W4 Fk1 (Or.inr (slot_ne (Or.inl (hw _ (List.mem_of_getElem? (i := 75) rfl))) (Or.inl (hw _ (List.mem_of_getElem? (i := 78) rfl))) (by decide) (t := .int) (t' := (.array (.object "java/lang/Object"))) (by decide) (by decide))))
  have F_7 : Fld Z h4 a1 "java/util/ArrayList" "size" "I" (.int (0 : Int32)) := (Fld.other W4 Fk3 (Or.inr (slot_ne (Or.inl (hw _ (List.mem_of_getElem? (i := 117) rfl))) (Or.inl (hw _ (List.mem_of_getElem? (i := 78) rfl))) (by decide) (t := .int) (t' := (.array (.object "java/lang/Object"))) (by decide) (by decide))))
  exact own_retV X4 hx hret hlk (hb hby d9_11) e4 (by exact ⟨rfl, N4, K4, C_5, F_6, Fw4, F_7⟩) (by decide) (by decide)
theorem d21_0 : decode jdk_29_method_65_code 0 = .ok (.iload_n 0, 1) := by decide +kernel
theorem d21_1 : decode jdk_29_method_65_code 1 = .ok (.iload_n 1, 1) := by decide +kernel
theorem d21_2 : decode jdk_29_method_65_code 2 = .ok (.if_icmp .lt 7, 3) := by decide +kernel
theorem d21_5 : decode jdk_29_method_65_code 5 = .ok (.iload_n 0, 1) := by decide +kernel
theorem d21_6 : decode jdk_29_method_65_code 6 = .ok (.goto 4, 3) := by decide +kernel
theorem d21_10 : decode jdk_29_method_65_code 10 = .ok (.ireturn, 1) := by decide +kernel
set_option maxRecDepth 65536 in
set_option maxHeartbeats 40000000 in
theorem rmMax (l : Launch) (Z : State) (a0 : Array Value) (hw : ∀ d ∈ tables_1, d.before a0 Z = true) (ws : List Jvm.Cond)  (h0 : Heap) (n0 : Nat) (Z0 : n0 ≤ h0.size)  :
    OMet l (⟨"java/lang/Math", "max", "(II)I"⟩ : MethodName) jdk_29_method_65_code 2 (some .int) ws ({ frames := 0, cells := 0, slots := 0, locals := 0 } : Room) Z #[(.int (10 : Int32)), (.int (1 : Int32))] h0 (fun v h L => v = some (.int (10 : Int32)) ∧ L = [] ∧ h = h0) := by
  refine own_body (Jvm.Free.JP.mathPlain rfl (by decide +kernel)) ?_
  intro p e s m below meth cdx T0 X0 hx hZ hby hml hown hnm hret hlk e0
  have N0 := Fr.nil n0
  refine own_entry (g' := (mkF m 0 #[.val (.int (10 : Int32)), .val (.int (1 : Int32))] [])) (by first | rfl | (simp [entryFrame, mkF, argsToLocals, Value.category, maxLocals]; done)) ?_
  refine own_step (g' := (mkF m 1 #[.val (.int (10 : Int32)), .val (.int (1 : Int32))] [(.int (10 : Int32))])) (fun _ k => XS.iloadN X0.here hx rfl (hb hby d21_0) rfl k) ?_
  refine own_step (g' := (mkF m 2 #[.val (.int (10 : Int32)), .val (.int (1 : Int32))] [(.int (1 : Int32)), (.int (10 : Int32))])) (fun _ k => XS.iloadN X0.here hx rfl (hb hby d21_1) rfl k) ?_
  refine own_step (g' := (mkF m 5 #[.val (.int (10 : Int32)), .val (.int (1 : Int32))] [])) (fun _ k => XS.icmpNo X0.here hx rfl (hb hby d21_2) rfl (flt (by decide : ¬ ((10 : Int32) < (1 : Int32)))).1 k) ?_
  refine own_step (g' := (mkF m 6 #[.val (.int (10 : Int32)), .val (.int (1 : Int32))] [(.int (10 : Int32))])) (fun _ k => XS.iloadN X0.here hx rfl (hb hby d21_5) rfl k) ?_
  refine own_step (g' := (mkF m 10 #[.val (.int (10 : Int32)), .val (.int (1 : Int32))] [(.int (10 : Int32))])) (fun _ k => XS.goto X0.here hx rfl (pc0 := 6) (pc' := 10) rfl (hb hby d21_6) (by decide) (by decide) k) ?_
  exact own_retI X0 hx hret hlk (hb hby d21_10) e0 (by exact ⟨rfl, rfl, rfl⟩) (by decide) (by decide)
theorem d20_0 : decode jdk_38_method_6_code 0 = .ok (.aload_n 0, 1) := by decide +kernel
theorem d20_1 : decode jdk_38_method_6_code 1 = .ok (.getfield 9, 3) := by decide +kernel
theorem d20_4 : decode jdk_38_method_6_code 4 = .ok (.arraylength, 1) := by decide +kernel
theorem d20_5 : decode jdk_38_method_6_code 5 = .ok (.istore_n 2, 1) := by decide +kernel
theorem d20_6 : decode jdk_38_method_6_code 6 = .ok (.iload_n 2, 1) := by decide +kernel
theorem d20_7 : decode jdk_38_method_6_code 7 = .ok (.ifCond .gt 13, 3) := by decide +kernel
theorem d20_10 : decode jdk_38_method_6_code 10 = .ok (.aload_n 0, 1) := by decide +kernel
theorem d20_11 : decode jdk_38_method_6_code 11 = .ok (.getfield 9, 3) := by decide +kernel
theorem d20_14 : decode jdk_38_method_6_code 14 = .ok (.getstatic 39, 3) := by decide +kernel
theorem d20_17 : decode jdk_38_method_6_code 17 = .ok (.if_acmp .eq 28, 3) := by decide +kernel
theorem d20_45 : decode jdk_38_method_6_code 45 = .ok (.aload_n 0, 1) := by decide +kernel
theorem d20_46 : decode jdk_38_method_6_code 46 = .ok (.bipush 10, 2) := by decide +kernel
theorem d20_48 : decode jdk_38_method_6_code 48 = .ok (.iload_n 1, 1) := by decide +kernel
theorem d20_49 : decode jdk_38_method_6_code 49 = .ok (.invokestatic 79, 3) := by decide +kernel
theorem d20_52 : decode jdk_38_method_6_code 52 = .ok (.anewarray 7, 3) := by decide +kernel
theorem d20_55 : decode jdk_38_method_6_code 55 = .ok (.dup_x1, 1) := by decide +kernel
theorem d20_56 : decode jdk_38_method_6_code 56 = .ok (.putfield 9, 3) := by decide +kernel
theorem d20_59 : decode jdk_38_method_6_code 59 = .ok (.areturn, 1) := by decide +kernel
theorem pd_2 : parseMethodDescriptor "(II)I" = some ⟨[.int, .int], some .int⟩ := by decide +kernel
set_option maxRecDepth 65536 in
set_option maxHeartbeats 40000000 in
theorem rmGrowI (l : Launch) (Z : State) (a0 : Array Value) (hw : ∀ d ∈ tables_1, d.before a0 Z = true) (ws : List Jvm.Cond) (a1 ed : Addr) (kd : ClassId) (mc : Int32) (h0 : Heap) (n0 : Nat) (Z0 : n0 ≤ h0.size) (S_DC : Sta Z h0 "java/util/ArrayList" "DEFAULTCAPACITY_EMPTY_ELEMENTDATA" "[Ljava/lang/Object;" (.ref ed)) (Vd : Arv Z h0 ed kd (.object "java/lang/Object") (0 : Int32) [] .null) (g_a1 : n0 ≤ a1) (E1 : Exa Z h0 a1 "java/util/ArrayList") (Fm : Fld Z h0 a1 "java/util/AbstractList" "modCount" "I" (.int mc)) (Fe : Fld Z h0 a1 "java/util/ArrayList" "elementData" "[Ljava/lang/Object;" (.ref ed)) (Fs : Fld Z h0 a1 "java/util/ArrayList" "size" "I" (.int (0 : Int32))) :
    OMet l (⟨"java/util/ArrayList", "grow", "(I)[Ljava/lang/Object;"⟩ : MethodName) jdk_38_method_6_code 4 (some (.array (.object "java/lang/Object"))) ws ({ frames := 1, cells := 1, slots := 10, locals := 14 } : Room) Z #[(.ref a1), (.int (1 : Int32))] h0 (fun v h L => (∃ (b : Addr) (k : ClassId), v = some (.ref b) ∧ h0.size ≤ b ∧ n0 ≤ b ∧ Ovr Z k "java/lang/Object" ∧ Arv Z h b k (.object "java/lang/Object") (10 : Int32) [.null, .null, .null, .null, .null, .null, .null, .null, .null, .null] .null ∧ Exa Z h a1 "java/util/ArrayList" ∧ Fld Z h a1 "java/util/AbstractList" "modCount" "I" (.int mc) ∧ Fld Z h a1 "java/util/ArrayList" "elementData" "[Ljava/lang/Object;" (.ref b) ∧ Fld Z h a1 "java/util/ArrayList" "size" "I" (.int (0 : Int32))) ∧ Fr n0 L ∧ Keep h0 h [a1]) := by
  refine own_body (plainFor_of_name pn_9) ?_
  intro p e s m below meth cdx T0 X0 hx hZ hby hml hown hnm hret hlk e0
  have N0 := Fr.nil n0
  refine own_entry (g' := (mkF m 0 #[.val (.ref a1), .val (.int (1 : Int32)), .unset, .unset] [])) (by first | rfl | (simp [entryFrame, mkF, argsToLocals, Value.category, maxLocals]; done)) ?_
  have KC0 := Keep.refl h0 [a1]
  have ne_a1_ed : a1 ≠ ed := Exa.neArv E1 Vd (hw _ (List.mem_of_getElem? (i := 56) rfl))
  refine own_step (g' := (mkF m 1 #[.val (.ref a1), .val (.int (1 : Int32)), .unset, .unset] [(.ref a1)])) (fun _ k => XS.aloadN X0.here hx rfl (hb hby d20_0) rfl rfl k) ?_
  obtain ⟨T1, X1, e1, st1⟩ := getF X0 hx hZ hown (host := "") (Or.inl (hw _ (List.mem_of_getElem? (i := 77) rfl))) Via.refl e0 Fe (g := (mkF m 1 #[.val (.ref a1), .val (.int (1 : Int32)), .unset, .unset] [(.ref a1)])) rfl rfl (hb hby d20_1)
  refine own_via (g' := (mkF m 4 #[.val (.ref a1), .val (.int (1 : Int32)), .unset, .unset] [(.ref ed)])) st1 ?_
  obtain ⟨cl2, Ar2, q2, S2, M2, H2, G2⟩ := id Vd
  refine own_step (g' := (mkF m 5 #[.val (.ref a1), .val (.int (1 : Int32)), .unset, .unset] [(.int (0 : Int32))])) (own_len (len_of S2 M2) (X1.arraylength hx (by rw [e1]; exact Ar2.1) (State.isArrayOf_alike hZ.alike Ar2.2.1) (g := (mkF m 4 #[.val (.ref a1), .val (.int (1 : Int32)), .unset, .unset] [(.ref ed)])) rfl rfl (hb hby d20_4))) ?_
  refine own_step (g' := (mkF m 6 #[.val (.ref a1), .val (.int (1 : Int32)), .val (.int (0 : Int32)), .unset] [])) (fun _ k => XS.istoreN X1.here hx rfl (hb hby d20_5) rfl (l' := #[.val (.ref a1), .val (.int (1 : Int32)), .val (.int (0 : Int32)), .unset]) rfl k) ?_
  refine own_step (g' := (mkF m 7 #[.val (.ref a1), .val (.int (1 : Int32)), .val (.int (0 : Int32)), .unset] [(.int (0 : Int32))])) (fun _ k => XS.iloadN X1.here hx rfl (hb hby d20_6) rfl k) ?_
  refine own_step (g' := (mkF m 10 #[.val (.ref a1), .val (.int (1 : Int32)), .val (.int (0 : Int32)), .unset] [])) (fun _ k => XS.ifNo X1.here hx rfl (hb hby d20_7) rfl ((if0 _ _).trans (flt (by decide : ¬ ((0 : Int32) < (0 : Int32)))).2.2.1) k) ?_
  refine own_step (g' := (mkF m 11 #[.val (.ref a1), .val (.int (1 : Int32)), .val (.int (0 : Int32)), .unset] [(.ref a1)])) (fun _ k => XS.aloadN X1.here hx rfl (hb hby d20_10) rfl rfl k) ?_
  obtain ⟨T3, X3, e3, st3⟩ := getF X1 hx hZ hown (host := "") (Or.inl (hw _ (List.mem_of_getElem? (i := 77) rfl))) Via.refl e1 Fe (g := (mkF m 11 #[.val (.ref a1), .val (.int (1 : Int32)), .val (.int (0 : Int32)), .unset] [(.ref a1)])) rfl rfl (hb hby d20_11)
  refine own_via (g' := (mkF m 14 #[.val (.ref a1), .val (.int (1 : Int32)), .val (.int (0 : Int32)), .unset] [(.ref ed)])) st3 ?_
  obtain ⟨T4, X4, e4, st4⟩ := getS2 X3 hx hZ hown (host := "") (Or.inl (hw _ (List.mem_of_getElem? (i := 76) rfl))) Via.refl e3 S_DC (g := (mkF m 14 #[.val (.ref a1), .val (.int (1 : Int32)), .val (.int (0 : Int32)), .unset] [(.ref ed)])) rfl (hb hby d20_14)
  refine own_via (g' := (mkF m 17 #[.val (.ref a1), .val (.int (1 : Int32)), .val (.int (0 : Int32)), .unset] [(.ref ed), (.ref ed)])) st4 ?_
  refine own_step (g' := (mkF m 45 #[.val (.ref a1), .val (.int (1 : Int32)), .val (.int (0 : Int32)), .unset] [])) (fun _ k => Jvm.RoadKit.acmp (g := (mkF m 17 #[.val (.ref a1), .val (.int (1 : Int32)), .val (.int (0 : Int32)), .unset] [(.ref ed), (.ref ed)])) X4 hx rfl rfl rfl (pc0 := 17) (pc' := 45) (same := true) rfl (hb hby d20_17) rfl (decide_eq_true rfl) (by decide) (by decide) k) ?_
  refine own_step (g' := (mkF m 46 #[.val (.ref a1), .val (.int (1 : Int32)), .val (.int (0 : Int32)), .unset] [(.ref a1)])) (fun _ k => XS.aloadN X4.here hx rfl (hb hby d20_45) rfl rfl k) ?_
  refine own_step (g' := (mkF m 48 #[.val (.ref a1), .val (.int (1 : Int32)), .val (.int (0 : Int32)), .unset] [(.int (10 : Int32)), (.ref a1)])) (fun _ k => XS.bipush X4.here hx rfl (hb hby d20_46) k) ?_
  refine own_step (g' := (mkF m 49 #[.val (.ref a1), .val (.int (1 : Int32)), .val (.int (0 : Int32)), .unset] [(.int (1 : Int32)), (.int (10 : Int32)), (.ref a1)])) (fun _ k => XS.iloadN X4.here hx rfl (hb hby d20_48) rfl k) ?_
  refine own_callS X4 hx hZ (W := 1) hown e4 (rmMax l Z a0 hw [] h0 n0 Z0) (hw _ (List.mem_of_getElem? (i := 143) rfl)) (hw _ (List.mem_of_getElem? (i := 144) rfl)) (hw _ (List.mem_of_getElem? (i := 145) rfl)) (hw _ (List.mem_of_getElem? (i := 146) rfl)) (by decide) (by decide) (by decide) (g := (mkF m 49 #[.val (.ref a1), .val (.int (1 : Int32)), .val (.int (0 : Int32)), .unset] [(.int (1 : Int32)), (.int (10 : Int32)), (.ref a1)])) rfl (by rw [hml]; rfl) (argsL := [(.int (10 : Int32)), (.int (1 : Int32))]) (rest := [(.ref a1)]) rfl (lenOf pd_2 rfl) rfl (by show 2 * 0 + _ ≤ _; exact Nat.le_of_eq rfl) (hb hby d20_49) (by decide) (by decide) ?_
  intro v5 T5 L5 X5 hQ5
  obtain ⟨rfl, rfl, e5⟩ := hQ5
  replace X5 := own_pureX X5
  show OGo p e below _ T5 (mkF m 52 #[.val (.ref a1), .val (.int (1 : Int32)), .val (.int (0 : Int32)), .unset] [(.int (10 : Int32)), (.ref a1)])
  obtain ⟨T6, h6, k6, X6, e6, Ex6, A6, O6, st6⟩ := newR X5 hx hZ hown (hw _ (List.mem_of_getElem? (i := 147) rfl)) (hw _ (List.mem_of_getElem? (i := 148) rfl)) e5 (g := (mkF m 52 #[.val (.ref a1), .val (.int (1 : Int32)), .val (.int (0 : Int32)), .unset] [(.int (10 : Int32)), (.ref a1)])) rfl (hb hby d20_52) rfl (by decide) (cap := 10) (by decide) (by decide) (by decide) (by decide)
  obtain ⟨nb6, g6⟩ : ∃ z, z = h0.size := ⟨_, rfl⟩
  rw [← g6] at A6 st6
  have V6 : Arv Z h6 nb6 k6 (.object "java/lang/Object") (10 : Int32) [.null, .null, .null, .null, .null, .null, .null, .null, .null, .null] .null := (Arv.new A6 (by decide)).pad (pad_rep [] .null 10)
  have g_nb6 : n0 ≤ nb6 := Nat.le_trans Z0 (Nat.le_of_eq g6.symm)
  have ne_ed_nb6 : ed ≠ nb6 := Nat.ne_of_lt (Nat.lt_of_lt_of_le Vd.lt (Nat.le_of_eq g6.symm))
  have ne_a1_nb6 : a1 ≠ nb6 := Nat.ne_of_lt (Nat.lt_of_lt_of_le E1.lt (Nat.le_of_eq g6.symm))
  have sz_nb6 : h0.size ≤ nb6 := Nat.le_trans KC0.1 (Nat.le_of_eq g6.symm)
  have K6 : Keep h0 h6 [a1] := KC0.ext Ex6
  refine own_via (g' := (mkF m 55 #[.val (.ref a1), .val (.int (1 : Int32)), .val (.int (0 : Int32)), .unset] [(.ref nb6), (.ref a1)])) st6 ?_
  refine own_step (g' := (mkF m 56 #[.val (.ref a1), .val (.int (1 : Int32)), .val (.int (0 : Int32)), .unset] [(.ref nb6), (.ref a1), (.ref nb6)])) (fun _ k => XS.dupX1 X6.here hx rfl (hb hby d20_55) rfl rfl rfl k) ?_
  have F_7 : Fld Z h6 a1 "java/util/ArrayList" "elementData" "[Ljava/lang/Object;" (.ref ed) := (Fld.ext Ex6 Fe)
  have C_8 : Exa Z h6 a1 "java/util/ArrayList" := (Exa.ext Ex6 E1)
  obtain ⟨T9, h9, X9, e9, W9, st9⟩ := putF X6 hx hZ hown (host := "") (Or.inl (hw _ (List.mem_of_getElem? (i := 77) rfl))) Via.refl e6 F_7 C_8 (Or.inl (hw _ (List.mem_of_getElem? (i := 78) rfl))) (hw _ (List.mem_of_getElem? (i := 56) rfl)) (ty := (.array (.object "java/lang/Object"))) (by decide) rfl rfl (g := (mkF m 56 #[.val (.ref a1), .val (.int (1 : Int32)), .val (.int (0 : Int32)), .unset] [(.ref nb6), (.ref a1), (.ref nb6)])) rfl rfl (hb hby d20_56)
  have Fw9 := Fld.same W9 F_7
  have N9 := Fr.snoc X9 N0 g_a1
  have K9 : Keep h0 h9 [a1] := K6.wr W9 (Or.inl (List.mem_of_getElem? (i := 0) rfl))
  refine own_via (g' := (mkF m 59 #[.val (.ref a1), .val (.int (1 : Int32)), .val (.int (0 : Int32)), .unset] [(.ref nb6)])) st9 ?_
  have V_10 : Arv Z h9 nb6 k6 (.object "java/lang/Object") (10 : Int32) [.null, .null, .null, .null, .null, .null, .null, .null, .null, .null] .null := (V6.other W9 (Ne.symm ne_a1_nb6))
  have C_11 : Exa Z h9 a1 "java/util/ArrayList" := (Exa.wr W9 C_8)
  have F_12 : Fld Z h9 a1 "java/util/AbstractList" "modCount" "I" (.int mc) := (Fld.other W9 (Fld.ext Ex6 Fm) (Or.inr (slot_ne (Or.inl (hw _ (List.mem_of_getElem? (i := 75) rfl))) (Or.inl (hw _ (List.mem_of_getElem? (i := 78) rfl))) (by decide) (t := .int) (t' := (.array (.object "java/lang/Object"))) (by decide) (by decide))))
  have F_13 : Fld Z h9 a1 "java/util/ArrayList" "size" "I" (.int (0 : Int32)) := (Fld.other W9 (Fld.ext Ex6 Fs) (Or.inr (slot_ne (Or.inl (hw _ (List.mem_of_getElem? (i := 117) rfl))) (Or.inl (hw _ (List.mem_of_getElem? (i := 78) rfl))) (by decide) (t := .int) (t' := (.array (.object "java/lang/Object"))) (by decide) (by decide))))
  exact own_retA X9 hx hret rfl rfl hlk (hb hby d20_59) e9 (by exact ⟨⟨_, _, rfl, sz_nb6, g_nb6, O6, V_10, C_11, F_12, Fw9, F_13⟩, N9, K9⟩) (by decide) (by decide)
theorem d19_0 : decode jdk_38_method_7_code 0 = .ok (.aload_n 0, 1) := by decide +kernel
theorem d19_1 : decode jdk_38_method_7_code 1 = .ok (.aload_n 0, 1) := by decide +kernel
theorem d19_2 : decode jdk_38_method_7_code 2 = .ok (.getfield 48, 3) := by decide +kernel
theorem d19_5 : decode jdk_38_method_7_code 5 = .ok (.iconst 1, 1) := by decide +kernel
theorem d19_6 : decode jdk_38_method_7_code 6 = .ok (.iadd, 1) := by decide +kernel
theorem d19_7 : decode jdk_38_method_7_code 7 = .ok (.invokevirtual 69, 3) := by decide +kernel
theorem d19_10 : decode jdk_38_method_7_code 10 = .ok (.areturn, 1) := by decide +kernel
theorem pd_3 : parseMethodDescriptor "(I)[Ljava/lang/Object;" = some ⟨[.int], some (.array (.object "java/lang/Object"))⟩ := by decide +kernel
set_option maxRecDepth 65536 in
set_option maxHeartbeats 40000000 in
theorem rmGrow (l : Launch) (Z : State) (a0 : Array Value) (hw : ∀ d ∈ tables_1, d.before a0 Z = true) (ws : List Jvm.Cond) (a1 ed : Addr) (kd : ClassId) (mc : Int32) (h0 : Heap) (n0 : Nat) (Z0 : n0 ≤ h0.size) (S_DC : Sta Z h0 "java/util/ArrayList" "DEFAULTCAPACITY_EMPTY_ELEMENTDATA" "[Ljava/lang/Object;" (.ref ed)) (Vd : Arv Z h0 ed kd (.object "java/lang/Object") (0 : Int32) [] .null) (g_a1 : n0 ≤ a1) (E1 : Exa Z h0 a1 "java/util/ArrayList") (Fm : Fld Z h0 a1 "java/util/AbstractList" "modCount" "I" (.int mc)) (Fe : Fld Z h0 a1 "java/util/ArrayList" "elementData" "[Ljava/lang/Object;" (.ref ed)) (Fs : Fld Z h0 a1 "java/util/ArrayList" "size" "I" (.int (0 : Int32))) :
    OMet l (⟨"java/util/ArrayList", "grow", "()[Ljava/lang/Object;"⟩ : MethodName) jdk_38_method_7_code 1 (some (.array (.object "java/lang/Object"))) ws ({ frames := 2, cells := 1, slots := 10, locals := 29 } : Room) Z #[(.ref a1)] h0 (fun v h L => (∃ (b : Addr) (k : ClassId), v = some (.ref b) ∧ h0.size ≤ b ∧ n0 ≤ b ∧ Ovr Z k "java/lang/Object" ∧ Arv Z h b k (.object "java/lang/Object") (10 : Int32) [.null, .null, .null, .null, .null, .null, .null, .null, .null, .null] .null ∧ Exa Z h a1 "java/util/ArrayList" ∧ Fld Z h a1 "java/util/AbstractList" "modCount" "I" (.int mc) ∧ Fld Z h a1 "java/util/ArrayList" "elementData" "[Ljava/lang/Object;" (.ref b) ∧ Fld Z h a1 "java/util/ArrayList" "size" "I" (.int (0 : Int32))) ∧ Fr n0 L ∧ Keep h0 h [a1]) := by
  refine own_body (plainFor_of_name pn_9) ?_
  intro p e s m below meth cdx T0 X0 hx hZ hby hml hown hnm hret hlk e0
  have N0 := Fr.nil n0
  refine own_entry (g' := (mkF m 0 #[.val (.ref a1)] [])) (by first | rfl | (simp [entryFrame, mkF, argsToLocals, Value.category, maxLocals]; done)) ?_
  have KC0 := Keep.refl h0 [a1]
  have ne_a1_ed : a1 ≠ ed := Exa.neArv E1 Vd (hw _ (List.mem_of_getElem? (i := 56) rfl))
  refine own_step (g' := (mkF m 1 #[.val (.ref a1)] [(.ref a1)])) (fun _ k => XS.aloadN X0.here hx rfl (hb hby d19_0) rfl rfl k) ?_
  refine own_step (g' := (mkF m 2 #[.val (.ref a1)] [(.ref a1), (.ref a1)])) (fun _ k => XS.aloadN X0.here hx rfl (hb hby d19_1) rfl rfl k) ?_
  obtain ⟨T1, X1, e1, st1⟩ := getF X0 hx hZ hown (host := "") (Or.inl (hw _ (List.mem_of_getElem? (i := 116) rfl))) Via.refl e0 Fs (g := (mkF m 2 #[.val (.ref a1)] [(.ref a1), (.ref a1)])) rfl rfl (hb hby d19_2)
  refine own_via (g' := (mkF m 5 #[.val (.ref a1)] [(.int (0 : Int32)), (.ref a1)])) st1 ?_
  refine own_step (g' := (mkF m 6 #[.val (.ref a1)] [(.int (1 : Int32)), (.int (0 : Int32)), (.ref a1)])) (fun _ k => XS.iconst X1.here hx rfl (hb hby d19_5) k) ?_
  refine own_step (g' := (mkF m 7 #[.val (.ref a1)] [(.int (1 : Int32)), (.ref a1)])) (fun _ k => XS.iadd X1.here hx rfl (hb hby d19_6) rfl k) ?_
  refine own_callP X1 hx hZ (W := 0) hown e1 (rmGrowI l Z a0 hw [] a1 ed kd mc h0 n0 Z0 S_DC Vd g_a1 E1 Fm Fe Fs) E1 (hw _ (List.mem_of_getElem? (i := 138) rfl)) (hw _ (List.mem_of_getElem? (i := 139) rfl)) (hw _ (List.mem_of_getElem? (i := 141) rfl)) (hw _ (List.mem_of_getElem? (i := 140) rfl)) (hw _ (List.mem_of_getElem? (i := 142) rfl)) (hw _ (List.mem_of_getElem? (i := 57) rfl)) (by decide) (by decide) (by decide) (g := (mkF m 7 #[.val (.ref a1)] [(.int (1 : Int32)), (.ref a1)])) rfl (by rw [hml]; rfl) (argsL := [(.int (1 : Int32))]) (rest := []) rfl (lenOf pd_3 rfl) rfl (by show 2 * 0 + _ ≤ _; exact Nat.le_of_eq rfl) (hb hby d19_7) (by decide) (by decide) ?_
  intro v2 T2 L2 X2 hQ2
  obtain ⟨⟨gb, gk, rfl, szg, g_gb, Og, Vg, Cg, Fg1, Fg2, Fg3⟩, Nq2, Kq2⟩ := hQ2
  have N2 := Fr.app N0 Nq2
  have K2 : Keep h0 T2.heap [a1] := KC0.trans Kq2 (allS (Or.inl (List.mem_of_getElem? (i := 0) rfl)) all0)
  have sz_gb : h0.size ≤ gb := Nat.le_trans KC0.1 szg
  show OGo p e below _ T2 (mkF m 10 #[.val (.ref a1)] [(.ref gb)])
  have ne_a1_gb : a1 ≠ gb := Exa.neArv Cg Vg (hw _ (List.mem_of_getElem? (i := 56) rfl))
  exact own_retA X2 hx hret rfl rfl hlk (hb hby d19_10) rfl (by exact ⟨⟨_, _, rfl, sz_gb, g_gb, Og, Vg, Cg, Fg1, Fg2, Fg3⟩, N2, K2⟩) (by decide) (by decide)
theorem d18_0 : decode jdk_38_method_24_code 0 = .ok (.iload_n 3, 1) := by decide +kernel
theorem d18_1 : decode jdk_38_method_24_code 1 = .ok (.aload_n 2, 1) := by decide +kernel
theorem d18_2 : decode jdk_38_method_24_code 2 = .ok (.arraylength, 1) := by decide +kernel
theorem d18_3 : decode jdk_38_method_24_code 3 = .ok (.if_icmp .ne 8, 3) := by decide +kernel
theorem d18_6 : decode jdk_38_method_24_code 6 = .ok (.aload_n 0, 1) := by decide +kernel
theorem d18_7 : decode jdk_38_method_24_code 7 = .ok (.invokevirtual 129, 3) := by decide +kernel
theorem d18_10 : decode jdk_38_method_24_code 10 = .ok (.astore_n 2, 1) := by decide +kernel
theorem d18_11 : decode jdk_38_method_24_code 11 = .ok (.aload_n 2, 1) := by decide +kernel
theorem d18_12 : decode jdk_38_method_24_code 12 = .ok (.iload_n 3, 1) := by decide +kernel
theorem d18_13 : decode jdk_38_method_24_code 13 = .ok (.aload_n 1, 1) := by decide +kernel
theorem d18_14 : decode jdk_38_method_24_code 14 = .ok (.aastore, 1) := by decide +kernel
theorem d18_15 : decode jdk_38_method_24_code 15 = .ok (.aload_n 0, 1) := by decide +kernel
theorem d18_16 : decode jdk_38_method_24_code 16 = .ok (.iload_n 3, 1) := by decide +kernel
theorem d18_17 : decode jdk_38_method_24_code 17 = .ok (.iconst 1, 1) := by decide +kernel
theorem d18_18 : decode jdk_38_method_24_code 18 = .ok (.iadd, 1) := by decide +kernel
theorem d18_19 : decode jdk_38_method_24_code 19 = .ok (.putfield 48, 3) := by decide +kernel
theorem d18_22 : decode jdk_38_method_24_code 22 = .ok (.return_, 1) := by decide +kernel
theorem pd_4 : parseMethodDescriptor "()[Ljava/lang/Object;" = some ⟨[], some (.array (.object "java/lang/Object"))⟩ := by decide +kernel
set_option maxRecDepth 65536 in
set_option maxHeartbeats 40000000 in
theorem rmHelp0 (l : Launch) (Z : State) (a0 : Array Value) (hw : ∀ d ∈ tables_1, d.before a0 Z = true) (ws : List Jvm.Cond) (a1 o ed : Addr) (kd : ClassId) (mc : Int32) (h0 : Heap) (n0 : Nat) (Z0 : n0 ≤ h0.size) (S_DC : Sta Z h0 "java/util/ArrayList" "DEFAULTCAPACITY_EMPTY_ELEMENTDATA" "[Ljava/lang/Object;" (.ref ed)) (Vd : Arv Z h0 ed kd (.object "java/lang/Object") (0 : Int32) [] .null) (g_a1 : n0 ≤ a1) (E1 : Exa Z h0 a1 "java/util/ArrayList") (Fm : Fld Z h0 a1 "java/util/AbstractList" "modCount" "I" (.int mc)) (Fe : Fld Z h0 a1 "java/util/ArrayList" "elementData" "[Ljava/lang/Object;" (.ref ed)) (Fs : Fld Z h0 a1 "java/util/ArrayList" "size" "I" (.int (0 : Int32))) (Eo : Exa Z h0 o "com/example/handl/handl/cli/Arguments$Option") :
    OMet l (⟨"java/util/ArrayList", "add", "(Ljava/lang/Object;[Ljava/lang/Object;I)V"⟩ : MethodName) jdk_38_method_24_code 4 none ws ({ frames := 3, cells := 1, slots := 10, locals := 41 } : Room) Z #[(.ref a1), (.ref o), (.ref ed), (.int (0 : Int32))] h0 (fun v h L => (∃ (b : Addr) (k : ClassId), v = none ∧ h0.size ≤ b ∧ n0 ≤ b ∧ Ovr Z k "java/lang/Object" ∧ Arv Z h b k (.object "java/lang/Object") (10 : Int32) [(.ref o), .null, .null, .null, .null, .null, .null, .null, .null, .null] .null ∧ Exa Z h a1 "java/util/ArrayList" ∧ Fld Z h a1 "java/util/AbstractList" "modCount" "I" (.int mc) ∧ Fld Z h a1 "java/util/ArrayList" "elementData" "[Ljava/lang/Object;" (.ref b) ∧ Fld Z h a1 "java/util/ArrayList" "size" "I" (.int (1 : Int32))) ∧ Fr n0 L ∧ Keep h0 h [a1]) := by
  refine own_body (plainFor_of_name pn_9) ?_
  intro p e s m below meth cdx T0 X0 hx hZ hby hml hown hnm hret hlk e0
  have N0 := Fr.nil n0
  refine own_entry (g' := (mkF m 0 #[.val (.ref a1), .val (.ref o), .val (.ref ed), .val (.int (0 : Int32))] [])) (by first | rfl | (simp [entryFrame, mkF, argsToLocals, Value.category, maxLocals]; done)) ?_
  have KC0 := Keep.refl h0 [a1]
  have ne_a1_ed : a1 ≠ ed := Exa.neArv E1 Vd (hw _ (List.mem_of_getElem? (i := 56) rfl))
  refine own_step (g' := (mkF m 1 #[.val (.ref a1), .val (.ref o), .val (.ref ed), .val (.int (0 : Int32))] [(.int (0 : Int32))])) (fun _ k => XS.iloadN X0.here hx rfl (hb hby d18_0) rfl k) ?_
  refine own_step (g' := (mkF m 2 #[.val (.ref a1), .val (.ref o), .val (.ref ed), .val (.int (0 : Int32))] [(.ref ed), (.int (0 : Int32))])) (fun _ k => XS.aloadN X0.here hx rfl (hb hby d18_1) rfl rfl k) ?_
  obtain ⟨cl1, Ar1, q1, S1, M1, H1, G1⟩ := id Vd
  refine own_step (g' := (mkF m 3 #[.val (.ref a1), .val (.ref o), .val (.ref ed), .val (.int (0 : Int32))] [(.int (0 : Int32)), (.int (0 : Int32))])) (own_len (len_of S1 M1) (X0.arraylength hx (by rw [e0]; exact Ar1.1) (State.isArrayOf_alike hZ.alike Ar1.2.1) (g := (mkF m 2 #[.val (.ref a1), .val (.ref o), .val (.ref ed), .val (.int (0 : Int32))] [(.ref ed), (.int (0 : Int32))])) rfl rfl (hb hby d18_2))) ?_
  refine own_step (g' := (mkF m 6 #[.val (.ref a1), .val (.ref o), .val (.ref ed), .val (.int (0 : Int32))] [])) (fun _ k => XS.icmpNo X0.here hx rfl (hb hby d18_3) rfl (teq (by decide : (0 : Int32) = (0 : Int32))).2 k) ?_
  refine own_step (g' := (mkF m 7 #[.val (.ref a1), .val (.ref o), .val (.ref ed), .val (.int (0 : Int32))] [(.ref a1)])) (fun _ k => XS.aloadN X0.here hx rfl (hb hby d18_6) rfl rfl k) ?_
  refine own_callP X0 hx hZ (W := 0) hown e0 (rmGrow l Z a0 hw [] a1 ed kd mc h0 n0 Z0 S_DC Vd g_a1 E1 Fm Fe Fs) E1 (hw _ (List.mem_of_getElem? (i := 133) rfl)) (hw _ (List.mem_of_getElem? (i := 134) rfl)) (hw _ (List.mem_of_getElem? (i := 136) rfl)) (hw _ (List.mem_of_getElem? (i := 135) rfl)) (hw _ (List.mem_of_getElem? (i := 137) rfl)) (hw _ (List.mem_of_getElem? (i := 57) rfl)) (by decide) (by decide) (by decide) (g := (mkF m 7 #[.val (.ref a1), .val (.ref o), .val (.ref ed), .val (.int (0 : Int32))] [(.ref a1)])) rfl (by rw [hml]; rfl) (argsL := []) (rest := []) rfl (lenOf pd_4 rfl) rfl (by show 2 * 0 + _ ≤ _; exact Nat.le_of_eq rfl) (hb hby d18_7) (by decide) (by decide) ?_
  intro v2 T2 L2 X2 hQ2
  obtain ⟨⟨gb, gk, rfl, szg, g_gb, Og, Vg, Cg, Fg1, Fg2, Fg3⟩, Nq2, Kq2⟩ := hQ2
  have N2 := Fr.app N0 Nq2
  have K2 : Keep h0 T2.heap [a1] := KC0.trans Kq2 (allS (Or.inl (List.mem_of_getElem? (i := 0) rfl)) all0)
  have sz_gb : h0.size ≤ gb := Nat.le_trans KC0.1 szg
  show OGo p e below _ T2 (mkF m 10 #[.val (.ref a1), .val (.ref o), .val (.ref ed), .val (.int (0 : Int32))] [(.ref gb)])
  have ne_a1_gb : a1 ≠ gb := Exa.neArv Cg Vg (hw _ (List.mem_of_getElem? (i := 56) rfl))
  refine own_step (g' := (mkF m 11 #[.val (.ref a1), .val (.ref o), .val (.ref gb), .val (.int (0 : Int32))] [])) (fun _ k => XS.astoreN X2.here hx rfl (hb hby d18_10) rfl rfl (l' := #[.val (.ref a1), .val (.ref o), .val (.ref gb), .val (.int (0 : Int32))]) rfl k) ?_
  refine own_step (g' := (mkF m 12 #[.val (.ref a1), .val (.ref o), .val (.ref gb), .val (.int (0 : Int32))] [(.ref gb)])) (fun _ k => XS.aloadN X2.here hx rfl (hb hby d18_11) rfl rfl k) ?_
  refine own_step (g' := (mkF m 13 #[.val (.ref a1), .val (.ref o), .val (.ref gb), .val (.int (0 : Int32))] [(.int (0 : Int32)), (.ref gb)])) (fun _ k => XS.iloadN X2.here hx rfl (hb hby d18_12) rfl k) ?_
  refine own_step (g' := (mkF m 14 #[.val (.ref a1), .val (.ref o), .val (.ref gb), .val (.int (0 : Int32))] [(.ref o), (.int (0 : Int32)), (.ref gb)])) (fun _ k => XS.aloadN X2.here hx rfl (hb hby d18_13) rfl rfl k) ?_
  have C_4 : Exa Z T2.heap o "com/example/handl/handl/cli/Arguments$Option" := (Eo.keep Kq2)
  obtain ⟨cl3, Ar3, q3, S3, M3, H3, G3⟩ := id Vg
  obtain ⟨T3, h3, X3, e3, W3, st3⟩ := stR X2 hx hZ rfl Ar3 (j := (0 : Int32)) (inb_of S3 ⟨by decide, by decide⟩) rfl (Sto.ofV Ar3 q3 Og (Ins.of_exa C_4 (hw _ (List.mem_of_getElem? (i := 149) rfl)))) (g := (mkF m 14 #[.val (.ref a1), .val (.ref o), .val (.ref gb), .val (.int (0 : Int32))] [(.ref o), (.int (0 : Int32)), (.ref gb)])) rfl rfl (hb hby d18_14)
  have V3 : Arv Z h3 gb gk (.object "java/lang/Object") (10 : Int32) [(.ref o), .null, .null, .null, .null, .null, .null, .null, .null, .null] .null := Arv.set Ar3 q3 S3 M3 H3 G3 rfl W3 0 rfl (Nat.le_of_ble_eq_true rfl)
  have N3 := Fr.snoc X3 N2 g_gb
  have K3 : Keep h0 h3 [a1] := K2.wr W3 (Or.inr sz_gb)
  refine own_via (g' := (mkF m 15 #[.val (.ref a1), .val (.ref o), .val (.ref gb), .val (.int (0 : Int32))] [])) st3 ?_
  refine own_step (g' := (mkF m 16 #[.val (.ref a1), .val (.ref o), .val (.ref gb), .val (.int (0 : Int32))] [(.ref a1)])) (fun _ k => XS.aloadN X3.here hx rfl (hb hby d18_15) rfl rfl k) ?_
  refine own_step (g' := (mkF m 17 #[.val (.ref a1), .val (.ref o), .val (.ref gb), .val (.int (0 : Int32))] [(.int (0 : Int32)), (.ref a1)])) (fun _ k => XS.iloadN X3.here hx rfl (hb hby d18_16) rfl k) ?_
  refine own_step (g' := (mkF m 18 #[.val (.ref a1), .val (.ref o), .val (.ref gb), .val (.int (0 : Int32))] [(.int (1 : Int32)), (.int (0 : Int32)), (.ref a1)])) (fun _ k => XS.iconst X3.here hx rfl (hb hby d18_17) k) ?_
  refine own_step (g' := (mkF m 19 #[.val (.ref a1), .val (.ref o), .val (.ref gb), .val (.int (0 : Int32))] [(.int (1 : Int32)), (.ref a1)])) (fun _ k => XS.iadd X3.here hx rfl (hb hby d18_18) rfl k) ?_
  have F_5 : Fld Z h3 a1 "java/util/ArrayList" "size" "I" (.int (0 : Int32)) := (Fld.other W3 Fg3 (Or.inl ne_a1_gb))
  have C_6 : Exa Z h3 a1 "java/util/ArrayList" := (Exa.wr W3 Cg)
  obtain ⟨T7, h7, X7, e7, W7, st7⟩ := putF X3 hx hZ hown (host := "") (Or.inl (hw _ (List.mem_of_getElem? (i := 116) rfl))) Via.refl e3 F_5 C_6 (Or.inl (hw _ (List.mem_of_getElem? (i := 117) rfl))) (hw _ (List.mem_of_getElem? (i := 56) rfl)) (ty := .int) (by decide) rfl rfl (g := (mkF m 19 #[.val (.ref a1), .val (.ref o), .val (.ref gb), .val (.int (0 : Int32))] [(.int (1 : Int32)), (.ref a1)])) rfl rfl (hb hby d18_19)
  have Fw7 := Fld.same W7 F_5
  have N7 := Fr.snoc X7 N3 g_a1
  have K7 : Keep h0 h7 [a1] := K3.wr W7 (Or.inl (List.mem_of_getElem? (i := 0) rfl))
  refine own_via (g' := (mkF m 22 #[.val (.ref a1), .val (.ref o), .val (.ref gb), .val (.int (0 : Int32))] [])) st7 ?_
  have V_8 : Arv Z h7 gb gk (.object "java/lang/Object") (10 : Int32) [(.ref o), .null, .null, .null, .null, .null, .null, .null, .null, .null] .null := (V3.other W7 (Ne.symm ne_a1_gb))
  have C_9 : Exa Z h7 a1 "java/util/ArrayList" := (Exa.wr W7 C_6)
  have F_10 : Fld Z h7 a1 "java/util/AbstractList" "modCount" "I" (.int mc) := (Fld.other W7 (Fld.other W3 Fg1 (Or.inl ne_a1_gb)) (Or.inr (slot_ne (Or.inl (hw _ (List.mem_of_getElem? (i := 75) rfl))) (Or.inl (hw _ (List.mem_of_getElem? (i := 117) rfl))) (by decide) (t := .int) (t' := .int) (by decide) (by decide))))
  have F_11 : Fld Z h7 a1 "java/util/ArrayList" "elementData" "[Ljava/lang/Object;" (.ref gb) := (Fld.other W7 (Fld.other W3 Fg2 (Or.inl ne_a1_gb)) (Or.inr (slot_ne (Or.inl (hw _ (List.mem_of_getElem? (i := 78) rfl))) (Or.inl (hw _ (List.mem_of_getElem? (i := 117) rfl))) (by decide) (t := (.array (.object "java/lang/Object"))) (t' := .int) (by decide) (by decide))))
  exact own_retV X7 hx hret hlk (hb hby d18_22) e7 (by exact ⟨⟨_, _, rfl, sz_gb, g_gb, Og, V_8, C_9, F_10, F_11, Fw7⟩, N7, K7⟩) (by decide) (by decide)
theorem d17_0 : decode jdk_38_method_25_code 0 = .ok (.aload_n 0, 1) := by decide +kernel
theorem d17_1 : decode jdk_38_method_25_code 1 = .ok (.dup, 1) := by decide +kernel
theorem d17_2 : decode jdk_38_method_25_code 2 = .ok (.getfield 63, 3) := by decide +kernel
theorem d17_5 : decode jdk_38_method_25_code 5 = .ok (.iconst 1, 1) := by decide +kernel
theorem d17_6 : decode jdk_38_method_25_code 6 = .ok (.iadd, 1) := by decide +kernel
theorem d17_7 : decode jdk_38_method_25_code 7 = .ok (.putfield 63, 3) := by decide +kernel
theorem d17_10 : decode jdk_38_method_25_code 10 = .ok (.aload_n 0, 1) := by decide +kernel
theorem d17_11 : decode jdk_38_method_25_code 11 = .ok (.aload_n 1, 1) := by decide +kernel
theorem d17_12 : decode jdk_38_method_25_code 12 = .ok (.aload_n 0, 1) := by decide +kernel
theorem d17_13 : decode jdk_38_method_25_code 13 = .ok (.getfield 9, 3) := by decide +kernel
theorem d17_16 : decode jdk_38_method_25_code 16 = .ok (.aload_n 0, 1) := by decide +kernel
theorem d17_17 : decode jdk_38_method_25_code 17 = .ok (.getfield 48, 3) := by decide +kernel
theorem d17_20 : decode jdk_38_method_25_code 20 = .ok (.invokevirtual 131, 3) := by decide +kernel
theorem d17_23 : decode jdk_38_method_25_code 23 = .ok (.iconst 1, 1) := by decide +kernel
theorem d17_24 : decode jdk_38_method_25_code 24 = .ok (.ireturn, 1) := by decide +kernel
theorem pd_5 : parseMethodDescriptor "(Ljava/lang/Object;[Ljava/lang/Object;I)V" = some ⟨[(.object "java/lang/Object"), (.array (.object "java/lang/Object")), .int], none⟩ := by decide +kernel
set_option maxRecDepth 65536 in
set_option maxHeartbeats 40000000 in
theorem rmAdd0 (l : Launch) (Z : State) (a0 : Array Value) (hw : ∀ d ∈ tables_1, d.before a0 Z = true) (ws : List Jvm.Cond) (a1 o ed : Addr) (kd : ClassId) (mc : Int32) (h0 : Heap) (n0 : Nat) (Z0 : n0 ≤ h0.size) (S_DC : Sta Z h0 "java/util/ArrayList" "DEFAULTCAPACITY_EMPTY_ELEMENTDATA" "[Ljava/lang/Object;" (.ref ed)) (Vd : Arv Z h0 ed kd (.object "java/lang/Object") (0 : Int32) [] .null) (g_a1 : n0 ≤ a1) (E1 : Exa Z h0 a1 "java/util/ArrayList") (Fm : Fld Z h0 a1 "java/util/AbstractList" "modCount" "I" (.int mc)) (Fe : Fld Z h0 a1 "java/util/ArrayList" "elementData" "[Ljava/lang/Object;" (.ref ed)) (Fs : Fld Z h0 a1 "java/util/ArrayList" "size" "I" (.int (0 : Int32))) (Eo : Exa Z h0 o "com/example/handl/handl/cli/Arguments$Option") :
    OMet l (⟨"java/util/ArrayList", "add", "(Ljava/lang/Object;)Z"⟩ : MethodName) jdk_38_method_25_code 2 (some .boolean) ws ({ frames := 4, cells := 1, slots := 10, locals := 56 } : Room) Z #[(.ref a1), (.ref o)] h0 (fun v h L => (∃ (b : Addr) (k : ClassId), v = some (.int (1 : Int32)) ∧ h0.size ≤ b ∧ n0 ≤ b ∧ Ovr Z k "java/lang/Object" ∧ Arv Z h b k (.object "java/lang/Object") (10 : Int32) [(.ref o), .null, .null, .null, .null, .null, .null, .null, .null, .null] .null ∧ Exa Z h a1 "java/util/ArrayList" ∧ Fld Z h a1 "java/util/AbstractList" "modCount" "I" (.int (mc + (1 : Int32))) ∧ Fld Z h a1 "java/util/ArrayList" "elementData" "[Ljava/lang/Object;" (.ref b) ∧ Fld Z h a1 "java/util/ArrayList" "size" "I" (.int (1 : Int32))) ∧ Fr n0 L ∧ Keep h0 h [a1]) := by
  refine own_body (plainFor_of_name pn_9) ?_
  intro p e s m below meth cdx T0 X0 hx hZ hby hml hown hnm hret hlk e0
  have N0 := Fr.nil n0
  refine own_entry (g' := (mkF m 0 #[.val (.ref a1), .val (.ref o)] [])) (by first | rfl | (simp [entryFrame, mkF, argsToLocals, Value.category, maxLocals]; done)) ?_
  have KC0 := Keep.refl h0 [a1]
  have ne_a1_ed : a1 ≠ ed := Exa.neArv E1 Vd (hw _ (List.mem_of_getElem? (i := 56) rfl))
  refine own_step (g' := (mkF m 1 #[.val (.ref a1), .val (.ref o)] [(.ref a1)])) (fun _ k => XS.aloadN X0.here hx rfl (hb hby d17_0) rfl rfl k) ?_
  refine own_step (g' := (mkF m 2 #[.val (.ref a1), .val (.ref o)] [(.ref a1), (.ref a1)])) (fun _ k => XS.dup X0.here hx rfl (hb hby d17_1) rfl rfl k) ?_
  obtain ⟨T1, X1, e1, st1⟩ := getF X0 hx hZ hown (host := "") (Or.inl (hw _ (List.mem_of_getElem? (i := 126) rfl))) (Via.of (hw _ (List.mem_of_getElem? (i := 127) rfl))) e0 Fm (g := (mkF m 2 #[.val (.ref a1), .val (.ref o)] [(.ref a1), (.ref a1)])) rfl rfl (hb hby d17_2)
  refine own_via (g' := (mkF m 5 #[.val (.ref a1), .val (.ref o)] [(.int mc), (.ref a1)])) st1 ?_
  refine own_step (g' := (mkF m 6 #[.val (.ref a1), .val (.ref o)] [(.int (1 : Int32)), (.int mc), (.ref a1)])) (fun _ k => XS.iconst X1.here hx rfl (hb hby d17_5) k) ?_
  refine own_step (g' := (mkF m 7 #[.val (.ref a1), .val (.ref o)] [(.int (mc + (1 : Int32))), (.ref a1)])) (fun _ k => XS.iadd X1.here hx rfl (hb hby d17_6) rfl k) ?_
  obtain ⟨T2, h2, X2, e2, W2, st2⟩ := putF X1 hx hZ hown (host := "") (Or.inl (hw _ (List.mem_of_getElem? (i := 126) rfl))) (Via.of (hw _ (List.mem_of_getElem? (i := 127) rfl))) e1 Fm E1 (Or.inl (hw _ (List.mem_of_getElem? (i := 75) rfl))) (hw _ (List.mem_of_getElem? (i := 56) rfl)) (ty := .int) (by decide) rfl rfl (g := (mkF m 7 #[.val (.ref a1), .val (.ref o)] [(.int (mc + (1 : Int32))), (.ref a1)])) rfl rfl (hb hby d17_7)
  have Fw2 := Fld.same W2 Fm
  have N2 := Fr.snoc X2 N0 g_a1
  have K2 : Keep h0 h2 [a1] := KC0.wr W2 (Or.inl (List.mem_of_getElem? (i := 0) rfl))
  refine own_via (g' := (mkF m 10 #[.val (.ref a1), .val (.ref o)] [])) st2 ?_
  refine own_step (g' := (mkF m 11 #[.val (.ref a1), .val (.ref o)] [(.ref a1)])) (fun _ k => XS.aloadN X2.here hx rfl (hb hby d17_10) rfl rfl k) ?_
  refine own_step (g' := (mkF m 12 #[.val (.ref a1), .val (.ref o)] [(.ref o), (.ref a1)])) (fun _ k => XS.aloadN X2.here hx rfl (hb hby d17_11) rfl rfl k) ?_
  refine own_step (g' := (mkF m 13 #[.val (.ref a1), .val (.ref o)] [(.ref a1), (.ref o), (.ref a1)])) (fun _ k => XS.aloadN X2.here hx rfl (hb hby d17_12) rfl rfl k) ?_
  have F_3 : Fld Z h2 a1 "java/util/ArrayList" "elementData" "[Ljava/lang/Object;" (.ref ed) := (Fld.other W2 Fe (Or.inr (slot_ne (Or.inl (hw _ (List.mem_of_getElem? (i := 78) rfl))) (Or.inl (hw _ (List.mem_of_getElem? (i := 75) rfl))) (by decide) (t := (.array (.object "java/lang/Object"))) (t' := .int) (by decide) (by decide))))
  obtain ⟨T4, X4, e4, st4⟩ := getF X2 hx hZ hown (host := "") (Or.inl (hw _ (List.mem_of_getElem? (i := 77) rfl))) Via.refl e2 F_3 (g := (mkF m 13 #[.val (.ref a1), .val (.ref o)] [(.ref a1), (.ref o), (.ref a1)])) rfl rfl (hb hby d17_13)
  refine own_via (g' := (mkF m 16 #[.val (.ref a1), .val (.ref o)] [(.ref ed), (.ref o), (.ref a1)])) st4 ?_
  refine own_step (g' := (mkF m 17 #[.val (.ref a1), .val (.ref o)] [(.ref a1), (.ref ed), (.ref o), (.ref a1)])) (fun _ k => XS.aloadN X4.here hx rfl (hb hby d17_16) rfl rfl k) ?_
  have F_5 : Fld Z h2 a1 "java/util/ArrayList" "size" "I" (.int (0 : Int32)) := (Fld.other W2 Fs (Or.inr (slot_ne (Or.inl (hw _ (List.mem_of_getElem? (i := 117) rfl))) (Or.inl (hw _ (List.mem_of_getElem? (i := 75) rfl))) (by decide) (t := .int) (t' := .int) (by decide) (by decide))))
  obtain ⟨T6, X6, e6, st6⟩ := getF X4 hx hZ hown (host := "") (Or.inl (hw _ (List.mem_of_getElem? (i := 116) rfl))) Via.refl e4 F_5 (g := (mkF m 17 #[.val (.ref a1), .val (.ref o)] [(.ref a1), (.ref ed), (.ref o), (.ref a1)])) rfl rfl (hb hby d17_17)
  refine own_via (g' := (mkF m 20 #[.val (.ref a1), .val (.ref o)] [(.int (0 : Int32)), (.ref ed), (.ref o), (.ref a1)])) st6 ?_
  have S_7 : Sta Z h2 "java/util/ArrayList" "DEFAULTCAPACITY_EMPTY_ELEMENTDATA" "[Ljava/lang/Object;" (.ref ed) := (Sta.wr W2 S_DC)
  have V_8 : Arv Z h2 ed kd (.object "java/lang/Object") (0 : Int32) [] .null := (Vd.other W2 (Ne.symm ne_a1_ed))
  have C_9 : Exa Z h2 a1 "java/util/ArrayList" := (Exa.wr W2 E1)
  have C_10 : Exa Z h2 o "com/example/handl/handl/cli/Arguments$Option" := (Exa.wr W2 Eo)
  refine own_callP X6 hx hZ (W := 0) hown e6 (rmHelp0 l Z a0 hw [] a1 o ed kd (mc + (1 : Int32)) h2 n0 (Nat.le_trans Z0 (Nat.le_of_eq W2.size.symm)) S_7 V_8 g_a1 C_9 Fw2 F_3 F_5 C_10) C_9 (hw _ (List.mem_of_getElem? (i := 128) rfl)) (hw _ (List.mem_of_getElem? (i := 129) rfl)) (hw _ (List.mem_of_getElem? (i := 131) rfl)) (hw _ (List.mem_of_getElem? (i := 130) rfl)) (hw _ (List.mem_of_getElem? (i := 132) rfl)) (hw _ (List.mem_of_getElem? (i := 57) rfl)) (by decide) (by decide) (by decide) (g := (mkF m 20 #[.val (.ref a1), .val (.ref o)] [(.int (0 : Int32)), (.ref ed), (.ref o), (.ref a1)])) rfl (by rw [hml]; rfl) (argsL := [(.ref o), (.ref ed), (.int (0 : Int32))]) (rest := []) rfl (lenOf pd_5 rfl) rfl (by show 2 * 0 + _ ≤ _; exact Nat.le_of_eq rfl) (hb hby d17_20) (by decide) (by decide) ?_
  intro v11 T11 L11 X11 hQ11
  obtain ⟨⟨gb, gk, rfl, szg, g_gb, Og, Vg, Cg, Fg1, Fg2, Fg3⟩, Nq11, Kq11⟩ := hQ11
  have N11 := Fr.app N2 Nq11
  have K11 : Keep h0 T11.heap [a1] := K2.trans Kq11 (allS (Or.inl (List.mem_of_getElem? (i := 0) rfl)) all0)
  have sz_gb : h0.size ≤ gb := Nat.le_trans K2.1 szg
  show OGo p e below _ T11 (mkF m 23 #[.val (.ref a1), .val (.ref o)] [])
  refine own_step (g' := (mkF m 24 #[.val (.ref a1), .val (.ref o)] [(.int (1 : Int32))])) (fun _ k => XS.iconst X11.here hx rfl (hb hby d17_23) k) ?_
  exact own_retN X11 hx (t := .boolean) hret (by simp) hlk (hb hby d17_24) rfl (by exact ⟨⟨_, _, rfl, sz_gb, g_gb, Og, Vg, Cg, Fg1, Fg2, Fg3⟩, N11, K11⟩) (by decide) (by decide)
set_option maxRecDepth 65536 in
set_option maxHeartbeats 40000000 in
theorem rmHelp1 (l : Launch) (Z : State) (a0 : Array Value) (hw : ∀ d ∈ tables_1, d.before a0 Z = true) (ws : List Jvm.Cond) (a1 o ea y0 : Addr) (kd : ClassId) (mc : Int32) (h0 : Heap) (n0 : Nat) (Z0 : n0 ≤ h0.size) (g_a1 : n0 ≤ a1) (g_ea : n0 ≤ ea) (Oe : Ovr Z kd "java/lang/Object") (Ve : Arv Z h0 ea kd (.object "java/lang/Object") (10 : Int32) [(.ref y0), .null, .null, .null, .null, .null, .null, .null, .null, .null] .null) (E1 : Exa Z h0 a1 "java/util/ArrayList") (Fm : Fld Z h0 a1 "java/util/AbstractList" "modCount" "I" (.int mc)) (Fe : Fld Z h0 a1 "java/util/ArrayList" "elementData" "[Ljava/lang/Object;" (.ref ea)) (Fs : Fld Z h0 a1 "java/util/ArrayList" "size" "I" (.int (1 : Int32))) (Eo : Exa Z h0 o "com/example/handl/handl/cli/Arguments$Option") :
    OMet l (⟨"java/util/ArrayList", "add", "(Ljava/lang/Object;[Ljava/lang/Object;I)V"⟩ : MethodName) jdk_38_method_24_code 4 none ws ({ frames := 0, cells := 0, slots := 0, locals := 0 } : Room) Z #[(.ref a1), (.ref o), (.ref ea), (.int (1 : Int32))] h0 (fun v h L => v = none ∧ Fr n0 L ∧ Keep h0 h [a1, ea] ∧ Arv Z h ea kd (.object "java/lang/Object") (10 : Int32) [(.ref y0), (.ref o), .null, .null, .null, .null, .null, .null, .null, .null] .null ∧ Exa Z h a1 "java/util/ArrayList" ∧ Fld Z h a1 "java/util/AbstractList" "modCount" "I" (.int mc) ∧ Fld Z h a1 "java/util/ArrayList" "elementData" "[Ljava/lang/Object;" (.ref ea) ∧ Fld Z h a1 "java/util/ArrayList" "size" "I" (.int (2 : Int32))) := by
  refine own_body (plainFor_of_name pn_9) ?_
  intro p e s m below meth cdx T0 X0 hx hZ hby hml hown hnm hret hlk e0
  have N0 := Fr.nil n0
  refine own_entry (g' := (mkF m 0 #[.val (.ref a1), .val (.ref o), .val (.ref ea), .val (.int (1 : Int32))] [])) (by first | rfl | (simp [entryFrame, mkF, argsToLocals, Value.category, maxLocals]; done)) ?_
  have KC0 := Keep.refl h0 [a1, ea]
  have ne_a1_ea : a1 ≠ ea := Exa.neArv E1 Ve (hw _ (List.mem_of_getElem? (i := 56) rfl))
  refine own_step (g' := (mkF m 1 #[.val (.ref a1), .val (.ref o), .val (.ref ea), .val (.int (1 : Int32))] [(.int (1 : Int32))])) (fun _ k => XS.iloadN X0.here hx rfl (hb hby d18_0) rfl k) ?_
  refine own_step (g' := (mkF m 2 #[.val (.ref a1), .val (.ref o), .val (.ref ea), .val (.int (1 : Int32))] [(.ref ea), (.int (1 : Int32))])) (fun _ k => XS.aloadN X0.here hx rfl (hb hby d18_1) rfl rfl k) ?_
  obtain ⟨cl1, Ar1, q1, S1, M1, H1, G1⟩ := id Ve
  refine own_step (g' := (mkF m 3 #[.val (.ref a1), .val (.ref o), .val (.ref ea), .val (.int (1 : Int32))] [(.int (10 : Int32)), (.int (1 : Int32))])) (own_len (len_of S1 M1) (X0.arraylength hx (by rw [e0]; exact Ar1.1) (State.isArrayOf_alike hZ.alike Ar1.2.1) (g := (mkF m 2 #[.val (.ref a1), .val (.ref o), .val (.ref ea), .val (.int (1 : Int32))] [(.ref ea), (.int (1 : Int32))])) rfl rfl (hb hby d18_2))) ?_
  refine own_step (g' := (mkF m 11 #[.val (.ref a1), .val (.ref o), .val (.ref ea), .val (.int (1 : Int32))] [])) (fun _ k => XS.icmpYes X0.here hx rfl (pc0 := 3) (pc' := 11) rfl (hb hby d18_3) rfl (feq (by decide : ¬ ((1 : Int32) = (10 : Int32)))).2 (by decide) (by decide) k) ?_
  refine own_step (g' := (mkF m 12 #[.val (.ref a1), .val (.ref o), .val (.ref ea), .val (.int (1 : Int32))] [(.ref ea)])) (fun _ k => XS.aloadN X0.here hx rfl (hb hby d18_11) rfl rfl k) ?_
  refine own_step (g' := (mkF m 13 #[.val (.ref a1), .val (.ref o), .val (.ref ea), .val (.int (1 : Int32))] [(.int (1 : Int32)), (.ref ea)])) (fun _ k => XS.iloadN X0.here hx rfl (hb hby d18_12) rfl k) ?_
  refine own_step (g' := (mkF m 14 #[.val (.ref a1), .val (.ref o), .val (.ref ea), .val (.int (1 : Int32))] [(.ref o), (.int (1 : Int32)), (.ref ea)])) (fun _ k => XS.aloadN X0.here hx rfl (hb hby d18_13) rfl rfl k) ?_
  obtain ⟨cl2, Ar2, q2, S2, M2, H2, G2⟩ := id Ve
  obtain ⟨T2, h2, X2, e2, W2, st2⟩ := stR X0 hx hZ e0 Ar2 (j := (1 : Int32)) (inb_of S2 ⟨by decide, by decide⟩) rfl (Sto.ofV Ar2 q2 Oe (Ins.of_exa Eo (hw _ (List.mem_of_getElem? (i := 149) rfl)))) (g := (mkF m 14 #[.val (.ref a1), .val (.ref o), .val (.ref ea), .val (.int (1 : Int32))] [(.ref o), (.int (1 : Int32)), (.ref ea)])) rfl rfl (hb hby d18_14)
  have V2 : Arv Z h2 ea kd (.object "java/lang/Object") (10 : Int32) [(.ref y0), (.ref o), .null, .null, .null, .null, .null, .null, .null, .null] .null := Arv.set Ar2 q2 S2 M2 H2 G2 rfl W2 1 rfl (Nat.le_of_ble_eq_true rfl)
  have N2 := Fr.snoc X2 N0 g_ea
  have K2 : Keep h0 h2 [a1, ea] := KC0.wr W2 (Or.inl (List.mem_of_getElem? (i := 1) rfl))
  refine own_via (g' := (mkF m 15 #[.val (.ref a1), .val (.ref o), .val (.ref ea), .val (.int (1 : Int32))] [])) st2 ?_
  refine own_step (g' := (mkF m 16 #[.val (.ref a1), .val (.ref o), .val (.ref ea), .val (.int (1 : Int32))] [(.ref a1)])) (fun _ k => XS.aloadN X2.here hx rfl (hb hby d18_15) rfl rfl k) ?_
  refine own_step (g' := (mkF m 17 #[.val (.ref a1), .val (.ref o), .val (.ref ea), .val (.int (1 : Int32))] [(.int (1 : Int32)), (.ref a1)])) (fun _ k => XS.iloadN X2.here hx rfl (hb hby d18_16) rfl k) ?_
  refine own_step (g' := (mkF m 18 #[.val (.ref a1), .val (.ref o), .val (.ref ea), .val (.int (1 : Int32))] [(.int (1 : Int32)), (.int (1 : Int32)), (.ref a1)])) (fun _ k => XS.iconst X2.here hx rfl (hb hby d18_17) k) ?_
  refine own_step (g' := (mkF m 19 #[.val (.ref a1), .val (.ref o), .val (.ref ea), .val (.int (1 : Int32))] [(.int (2 : Int32)), (.ref a1)])) (fun _ k => XS.iadd X2.here hx rfl (hb hby d18_18) rfl k) ?_
  have F_3 : Fld Z h2 a1 "java/util/ArrayList" "size" "I" (.int (1 : Int32)) := (Fld.other W2 Fs (Or.inl ne_a1_ea))
  have C_4 : Exa Z h2 a1 "java/util/ArrayList" := (Exa.wr W2 E1)
  obtain ⟨T5, h5, X5, e5, W5, st5⟩ := putF X2 hx hZ hown (host := "") (Or.inl (hw _ (List.mem_of_getElem? (i := 116) rfl))) Via.refl e2 F_3 C_4 (Or.inl (hw _ (List.mem_of_getElem? (i := 117) rfl))) (hw _ (List.mem_of_getElem? (i := 56) rfl)) (ty := .int) (by decide) rfl rfl (g := (mkF m 19 #[.val (.ref a1), .val (.ref o), .val (.ref ea), .val (.int (1 : Int32))] [(.int (2 : Int32)), (.ref a1)])) rfl rfl (hb hby d18_19)
  have Fw5 := Fld.same W5 F_3
  have N5 := Fr.snoc X5 N2 g_a1
  have K5 : Keep h0 h5 [a1, ea] := K2.wr W5 (Or.inl (List.mem_of_getElem? (i := 0) rfl))
  refine own_via (g' := (mkF m 22 #[.val (.ref a1), .val (.ref o), .val (.ref ea), .val (.int (1 : Int32))] [])) st5 ?_
  have V_6 : Arv Z h5 ea kd (.object "java/lang/Object") (10 : Int32) [(.ref y0), (.ref o), .null, .null, .null, .null, .null, .null, .null, .null] .null := (V2.other W5 (Ne.symm ne_a1_ea))
  have C_7 : Exa Z h5 a1 "java/util/ArrayList" := (Exa.wr W5 C_4)
  have F_8 : Fld Z h5 a1 "java/util/AbstractList" "modCount" "I" (.int mc) := (Fld.other W5 (Fld.other W2 Fm (Or.inl ne_a1_ea)) (Or.inr (slot_ne (Or.inl (hw _ (List.mem_of_getElem? (i := 75) rfl))) (Or.inl (hw _ (List.mem_of_getElem? (i := 117) rfl))) (by decide) (t := .int) (t' := .int) (by decide) (by decide))))
  have F_9 : Fld Z h5 a1 "java/util/ArrayList" "elementData" "[Ljava/lang/Object;" (.ref ea) := (Fld.other W5 (Fld.other W2 Fe (Or.inl ne_a1_ea)) (Or.inr (slot_ne (Or.inl (hw _ (List.mem_of_getElem? (i := 78) rfl))) (Or.inl (hw _ (List.mem_of_getElem? (i := 117) rfl))) (by decide) (t := (.array (.object "java/lang/Object"))) (t' := .int) (by decide) (by decide))))
  exact own_retV X5 hx hret hlk (hb hby d18_22) e5 (by exact ⟨rfl, N5, K5, V_6, C_7, F_8, F_9, Fw5⟩) (by decide) (by decide)
set_option maxRecDepth 65536 in
set_option maxHeartbeats 40000000 in
theorem rmAdd1 (l : Launch) (Z : State) (a0 : Array Value) (hw : ∀ d ∈ tables_1, d.before a0 Z = true) (ws : List Jvm.Cond) (a1 o ea y0 : Addr) (kd : ClassId) (mc : Int32) (h0 : Heap) (n0 : Nat) (Z0 : n0 ≤ h0.size) (g_a1 : n0 ≤ a1) (g_ea : n0 ≤ ea) (Oe : Ovr Z kd "java/lang/Object") (Ve : Arv Z h0 ea kd (.object "java/lang/Object") (10 : Int32) [(.ref y0), .null, .null, .null, .null, .null, .null, .null, .null, .null] .null) (E1 : Exa Z h0 a1 "java/util/ArrayList") (Fm : Fld Z h0 a1 "java/util/AbstractList" "modCount" "I" (.int mc)) (Fe : Fld Z h0 a1 "java/util/ArrayList" "elementData" "[Ljava/lang/Object;" (.ref ea)) (Fs : Fld Z h0 a1 "java/util/ArrayList" "size" "I" (.int (1 : Int32))) (Eo : Exa Z h0 o "com/example/handl/handl/cli/Arguments$Option") :
    OMet l (⟨"java/util/ArrayList", "add", "(Ljava/lang/Object;)Z"⟩ : MethodName) jdk_38_method_25_code 2 (some .boolean) ws ({ frames := 1, cells := 0, slots := 0, locals := 15 } : Room) Z #[(.ref a1), (.ref o)] h0 (fun v h L => v = some (.int (1 : Int32)) ∧ Fr n0 L ∧ Keep h0 h [a1, ea] ∧ Arv Z h ea kd (.object "java/lang/Object") (10 : Int32) [(.ref y0), (.ref o), .null, .null, .null, .null, .null, .null, .null, .null] .null ∧ Exa Z h a1 "java/util/ArrayList" ∧ Fld Z h a1 "java/util/AbstractList" "modCount" "I" (.int (mc + (1 : Int32))) ∧ Fld Z h a1 "java/util/ArrayList" "elementData" "[Ljava/lang/Object;" (.ref ea) ∧ Fld Z h a1 "java/util/ArrayList" "size" "I" (.int (2 : Int32))) := by
  refine own_body (plainFor_of_name pn_9) ?_
  intro p e s m below meth cdx T0 X0 hx hZ hby hml hown hnm hret hlk e0
  have N0 := Fr.nil n0
  refine own_entry (g' := (mkF m 0 #[.val (.ref a1), .val (.ref o)] [])) (by first | rfl | (simp [entryFrame, mkF, argsToLocals, Value.category, maxLocals]; done)) ?_
  have KC0 := Keep.refl h0 [a1, ea]
  have ne_a1_ea : a1 ≠ ea := Exa.neArv E1 Ve (hw _ (List.mem_of_getElem? (i := 56) rfl))
  refine own_step (g' := (mkF m 1 #[.val (.ref a1), .val (.ref o)] [(.ref a1)])) (fun _ k => XS.aloadN X0.here hx rfl (hb hby d17_0) rfl rfl k) ?_
  refine own_step (g' := (mkF m 2 #[.val (.ref a1), .val (.ref o)] [(.ref a1), (.ref a1)])) (fun _ k => XS.dup X0.here hx rfl (hb hby d17_1) rfl rfl k) ?_
  obtain ⟨T1, X1, e1, st1⟩ := getF X0 hx hZ hown (host := "") (Or.inl (hw _ (List.mem_of_getElem? (i := 126) rfl))) (Via.of (hw _ (List.mem_of_getElem? (i := 127) rfl))) e0 Fm (g := (mkF m 2 #[.val (.ref a1), .val (.ref o)] [(.ref a1), (.ref a1)])) rfl rfl (hb hby d17_2)
  refine own_via (g' := (mkF m 5 #[.val (.ref a1), .val (.ref o)] [(.int mc), (.ref a1)])) st1 ?_
  refine own_step (g' := (mkF m 6 #[.val (.ref a1), .val (.ref o)] [(.int (1 : Int32)), (.int mc), (.ref a1)])) (fun _ k => XS.iconst X1.here hx rfl (hb hby d17_5) k) ?_
  refine own_step (g' := (mkF m 7 #[.val (.ref a1), .val (.ref o)] [(.int (mc + (1 : Int32))), (.ref a1)])) (fun _ k => XS.iadd X1.here hx rfl (hb hby d17_6) rfl k) ?_
  obtain ⟨T2, h2, X2, e2, W2, st2⟩ := putF X1 hx hZ hown (host := "") (Or.inl (hw _ (List.mem_of_getElem? (i := 126) rfl))) (Via.of (hw _ (List.mem_of_getElem? (i := 127) rfl))) e1 Fm E1 (Or.inl (hw _ (List.mem_of_getElem? (i := 75) rfl))) (hw _ (List.mem_of_getElem? (i := 56) rfl)) (ty := .int) (by decide) rfl rfl (g := (mkF m 7 #[.val (.ref a1), .val (.ref o)] [(.int (mc + (1 : Int32))), (.ref a1)])) rfl rfl (hb hby d17_7)
  have Fw2 := Fld.same W2 Fm
  have N2 := Fr.snoc X2 N0 g_a1
  have K2 : Keep h0 h2 [a1, ea] := KC0.wr W2 (Or.inl (List.mem_of_getElem? (i := 0) rfl))
  refine own_via (g' := (mkF m 10 #[.val (.ref a1), .val (.ref o)] [])) st2 ?_
  refine own_step (g' := (mkF m 11 #[.val (.ref a1), .val (.ref o)] [(.ref a1)])) (fun _ k => XS.aloadN X2.here hx rfl (hb hby d17_10) rfl rfl k) ?_
  refine own_step (g' := (mkF m 12 #[.val (.ref a1), .val (.ref o)] [(.ref o), (.ref a1)])) (fun _ k => XS.aloadN X2.here hx rfl (hb hby d17_11) rfl rfl k) ?_
  refine own_step (g' := (mkF m 13 #[.val (.ref a1), .val (.ref o)] [(.ref a1), (.ref o), (.ref a1)])) (fun _ k => XS.aloadN X2.here hx rfl (hb hby d17_12) rfl rfl k) ?_
  have F_3 : Fld Z h2 a1 "java/util/ArrayList" "elementData" "[Ljava/lang/Object;" (.ref ea) := (Fld.other W2 Fe (Or.inr (slot_ne (Or.inl (hw _ (List.mem_of_getElem? (i := 78) rfl))) (Or.inl (hw _ (List.mem_of_getElem? (i := 75) rfl))) (by decide) (t := (.array (.object "java/lang/Object"))) (t' := .int) (by decide) (by decide))))
  obtain ⟨T4, X4, e4, st4⟩ := getF X2 hx hZ hown (host := "") (Or.inl (hw _ (List.mem_of_getElem? (i := 77) rfl))) Via.refl e2 F_3 (g := (mkF m 13 #[.val (.ref a1), .val (.ref o)] [(.ref a1), (.ref o), (.ref a1)])) rfl rfl (hb hby d17_13)
  refine own_via (g' := (mkF m 16 #[.val (.ref a1), .val (.ref o)] [(.ref ea), (.ref o), (.ref a1)])) st4 ?_
  refine own_step (g' := (mkF m 17 #[.val (.ref a1), .val (.ref o)] [(.ref a1), (.ref ea), (.ref o), (.ref a1)])) (fun _ k => XS.aloadN X4.here hx rfl (hb hby d17_16) rfl rfl k) ?_
  have F_5 : Fld Z h2 a1 "java/util/ArrayList" "size" "I" (.int (1 : Int32)) := (Fld.other W2 Fs (Or.inr (slot_ne (Or.inl (hw _ (List.mem_of_getElem? (i := 117) rfl))) (Or.inl (hw _ (List.mem_of_getElem? (i := 75) rfl))) (by decide) (t := .int) (t' := .int) (by decide) (by decide))))
  obtain ⟨T6, X6, e6, st6⟩ := getF X4 hx hZ hown (host := "") (Or.inl (hw _ (List.mem_of_getElem? (i := 116) rfl))) Via.refl e4 F_5 (g := (mkF m 17 #[.val (.ref a1), .val (.ref o)] [(.ref a1), (.ref ea), (.ref o), (.ref a1)])) rfl rfl (hb hby d17_17)
  refine own_via (g' := (mkF m 20 #[.val (.ref a1), .val (.ref o)] [(.int (1 : Int32)), (.ref ea), (.ref o), (.ref a1)])) st6 ?_
  have V_7 : Arv Z h2 ea kd (.object "java/lang/Object") (10 : Int32) [(.ref y0), .null, .null, .null, .null, .null, .null, .null, .null, .null] .null := (Ve.other W2 (Ne.symm ne_a1_ea))
  have C_8 : Exa Z h2 a1 "java/util/ArrayList" := (Exa.wr W2 E1)
  have C_9 : Exa Z h2 o "com/example/handl/handl/cli/Arguments$Option" := (Exa.wr W2 Eo)
  refine own_callP X6 hx hZ (W := 0) hown e6 (rmHelp1 l Z a0 hw [] a1 o ea y0 kd (mc + (1 : Int32)) h2 n0 (Nat.le_trans Z0 (Nat.le_of_eq W2.size.symm)) g_a1 g_ea Oe V_7 C_8 Fw2 F_3 F_5 C_9) C_8 (hw _ (List.mem_of_getElem? (i := 128) rfl)) (hw _ (List.mem_of_getElem? (i := 129) rfl)) (hw _ (List.mem_of_getElem? (i := 131) rfl)) (hw _ (List.mem_of_getElem? (i := 130) rfl)) (hw _ (List.mem_of_getElem? (i := 132) rfl)) (hw _ (List.mem_of_getElem? (i := 57) rfl)) (by decide) (by decide) (by decide) (g := (mkF m 20 #[.val (.ref a1), .val (.ref o)] [(.int (1 : Int32)), (.ref ea), (.ref o), (.ref a1)])) rfl (by rw [hml]; rfl) (argsL := [(.ref o), (.ref ea), (.int (1 : Int32))]) (rest := []) rfl (lenOf pd_5 rfl) rfl (by show 2 * 0 + _ ≤ _; exact Nat.le_of_eq rfl) (hb hby d17_20) (by decide) (by decide) ?_
  intro v10 T10 L10 X10 hQ10
  obtain ⟨rfl, Nq10, Kq10, Vg, Cg, Fg1, Fg2, Fg3⟩ := hQ10
  have N10 := Fr.app N2 Nq10
  have K10 : Keep h0 T10.heap [a1, ea] := K2.trans Kq10 (allS (Or.inl (List.mem_of_getElem? (i := 0) rfl)) (allS (Or.inl (List.mem_of_getElem? (i := 1) rfl)) all0))
  show OGo p e below _ T10 (mkF m 23 #[.val (.ref a1), .val (.ref o)] [])
  refine own_step (g' := (mkF m 24 #[.val (.ref a1), .val (.ref o)] [(.int (1 : Int32))])) (fun _ k => XS.iconst X10.here hx rfl (hb hby d17_23) k) ?_
  exact own_retN X10 hx (t := .boolean) hret (by simp) hlk (hb hby d17_24) rfl (by exact ⟨rfl, N10, K10, Vg, Cg, Fg1, Fg2, Fg3⟩) (by decide) (by decide)
theorem d16_0 : decode jdk_38_method_8_code 0 = .ok (.aload_n 0, 1) := by decide +kernel
theorem d16_1 : decode jdk_38_method_8_code 1 = .ok (.getfield 48, 3) := by decide +kernel
theorem d16_4 : decode jdk_38_method_8_code 4 = .ok (.ireturn, 1) := by decide +kernel
set_option maxRecDepth 65536 in
set_option maxHeartbeats 40000000 in
theorem rmSize (l : Launch) (Z : State) (a0 : Array Value) (hw : ∀ d ∈ tables_1, d.before a0 Z = true) (ws : List Jvm.Cond) (a1 : Addr) (n : Int32) (h0 : Heap) (n0 : Nat) (Z0 : n0 ≤ h0.size) (Fs : Fld Z h0 a1 "java/util/ArrayList" "size" "I" (.int n)) :
    OMet l (⟨"java/util/ArrayList", "size", "()I"⟩ : MethodName) jdk_38_method_8_code 1 (some .int) ws ({ frames := 0, cells := 0, slots := 0, locals := 0 } : Room) Z #[(.ref a1)] h0 (fun v h L => v = some (.int n) ∧ L = [] ∧ h = h0) := by
  refine own_body (plainFor_of_name pn_9) ?_
  intro p e s m below meth cdx T0 X0 hx hZ hby hml hown hnm hret hlk e0
  have N0 := Fr.nil n0
  refine own_entry (g' := (mkF m 0 #[.val (.ref a1)] [])) (by first | rfl | (simp [entryFrame, mkF, argsToLocals, Value.category, maxLocals]; done)) ?_
  refine own_step (g' := (mkF m 1 #[.val (.ref a1)] [(.ref a1)])) (fun _ k => XS.aloadN X0.here hx rfl (hb hby d16_0) rfl rfl k) ?_
  obtain ⟨T1, X1, e1, st1⟩ := getF X0 hx hZ hown (host := "") (Or.inl (hw _ (List.mem_of_getElem? (i := 116) rfl))) Via.refl e0 Fs (g := (mkF m 1 #[.val (.ref a1)] [(.ref a1)])) rfl rfl (hb hby d16_1)
  refine own_via (g' := (mkF m 4 #[.val (.ref a1)] [(.int n)])) st1 ?_
  exact own_retI X1 hx hret hlk (hb hby d16_4) e1 (by exact ⟨rfl, rfl, rfl⟩) (by decide) (by decide)
theorem d24_0 : decode jdk_41_method_11_code 0 = .ok (.iload_n 0, 1) := by decide +kernel
theorem d24_1 : decode jdk_41_method_11_code 1 = .ok (.ifCond .lt 8, 3) := by decide +kernel
theorem d24_4 : decode jdk_41_method_11_code 4 = .ok (.iload_n 0, 1) := by decide +kernel
theorem d24_5 : decode jdk_41_method_11_code 5 = .ok (.iload_n 1, 1) := by decide +kernel
theorem d24_6 : decode jdk_41_method_11_code 6 = .ok (.if_icmp .lt 10, 3) := by decide +kernel
theorem d24_16 : decode jdk_41_method_11_code 16 = .ok (.iload_n 0, 1) := by decide +kernel
theorem d24_17 : decode jdk_41_method_11_code 17 = .ok (.ireturn, 1) := by decide +kernel
theorem pn_24 : plainName "jdk/internal/util/Preconditions" = true := by first | (simp [plainName, overriddenIn]; done) | decide +kernel
set_option maxRecDepth 65536 in
set_option maxHeartbeats 40000000 in
theorem rmPre1_0 (l : Launch) (Z : State) (a0 : Array Value) (hw : ∀ d ∈ tables_1, d.before a0 Z = true) (ws : List Jvm.Cond)  (h0 : Heap) (n0 : Nat) (Z0 : n0 ≤ h0.size)  :
    OMet l (⟨"jdk/internal/util/Preconditions", "checkIndex", "(IILjava/util/function/BiFunction;)I"⟩ : MethodName) jdk_41_method_11_code 3 (some .int) ws ({ frames := 0, cells := 0, slots := 0, locals := 0 } : Room) Z #[(.int (0 : Int32)), (.int (1 : Int32)), .null] h0 (fun v h L => v = some (.int (0 : Int32)) ∧ L = [] ∧ h = h0) := by
  refine own_body (plainFor_of_name pn_24) ?_
  intro p e s m below meth cdx T0 X0 hx hZ hby hml hown hnm hret hlk e0
  have N0 := Fr.nil n0
  refine own_entry (g' := (mkF m 0 #[.val (.int (0 : Int32)), .val (.int (1 : Int32)), .val .null] [])) (by first | rfl | (simp [entryFrame, mkF, argsToLocals, Value.category, maxLocals]; done)) ?_
  refine own_step (g' := (mkF m 1 #[.val (.int (0 : Int32)), .val (.int (1 : Int32)), .val .null] [(.int (0 : Int32))])) (fun _ k => XS.iloadN X0.here hx rfl (hb hby d24_0) rfl k) ?_
  refine own_step (g' := (mkF m 4 #[.val (.int (0 : Int32)), .val (.int (1 : Int32)), .val .null] [])) (fun _ k => XS.ifNo X0.here hx rfl (hb hby d24_1) rfl ((if0 _ _).trans (flt (by decide : ¬ ((0 : Int32) < (0 : Int32)))).1) k) ?_
  refine own_step (g' := (mkF m 5 #[.val (.int (0 : Int32)), .val (.int (1 : Int32)), .val .null] [(.int (0 : Int32))])) (fun _ k => XS.iloadN X0.here hx rfl (hb hby d24_4) rfl k) ?_
  refine own_step (g' := (mkF m 6 #[.val (.int (0 : Int32)), .val (.int (1 : Int32)), .val .null] [(.int (1 : Int32)), (.int (0 : Int32))])) (fun _ k => XS.iloadN X0.here hx rfl (hb hby d24_5) rfl k) ?_
  refine own_step (g' := (mkF m 16 #[.val (.int (0 : Int32)), .val (.int (1 : Int32)), .val .null] [])) (fun _ k => XS.icmpYes X0.here hx rfl (pc0 := 6) (pc' := 16) rfl (hb hby d24_6) rfl (tlt (by decide : (0 : Int32) < (1 : Int32))).1 (by decide) (by decide) k) ?_
  refine own_step (g' := (mkF m 17 #[.val (.int (0 : Int32)), .val (.int (1 : Int32)), .val .null] [(.int (0 : Int32))])) (fun _ k => XS.iloadN X0.here hx rfl (hb hby d24_16) rfl k) ?_
  exact own_retI X0 hx hret hlk (hb hby d24_17) e0 (by exact ⟨rfl, rfl, rfl⟩) (by decide) (by decide)
theorem d23_0 : decode jdk_31_method_17_code 0 = .ok (.iload_n 0, 1) := by decide +kernel
theorem d23_1 : decode jdk_31_method_17_code 1 = .ok (.iload_n 1, 1) := by decide +kernel
theorem d23_2 : decode jdk_31_method_17_code 2 = .ok (.aconst_null, 1) := by decide +kernel
theorem d23_3 : decode jdk_31_method_17_code 3 = .ok (.invokestatic 105, 3) := by decide +kernel
theorem d23_6 : decode jdk_31_method_17_code 6 = .ok (.ireturn, 1) := by decide +kernel
theorem pd_6 : parseMethodDescriptor "(IILjava/util/function/BiFunction;)I" = some ⟨[.int, .int, (.object "java/util/function/BiFunction")], some .int⟩ := by decide +kernel
theorem pn_23 : plainName "java/util/Objects" = true := by first | (simp [plainName, overriddenIn]; done) | decide +kernel
set_option maxRecDepth 65536 in
set_option maxHeartbeats 40000000 in
theorem rmObj1_0 (l : Launch) (Z : State) (a0 : Array Value) (hw : ∀ d ∈ tables_1, d.before a0 Z = true) (ws : List Jvm.Cond)  (h0 : Heap) (n0 : Nat) (Z0 : n0 ≤ h0.size)  :
    OMet l (⟨"java/util/Objects", "checkIndex", "(II)I"⟩ : MethodName) jdk_31_method_17_code 2 (some .int) ws ({ frames := 1, cells := 0, slots := 0, locals := 14 } : Room) Z #[(.int (0 : Int32)), (.int (1 : Int32))] h0 (fun v h L => v = some (.int (0 : Int32)) ∧ L = [] ∧ h = h0) := by
  refine own_body (plainFor_of_name pn_23) ?_
  intro p e s m below meth cdx T0 X0 hx hZ hby hml hown hnm hret hlk e0
  have N0 := Fr.nil n0
  refine own_entry (g' := (mkF m 0 #[.val (.int (0 : Int32)), .val (.int (1 : Int32))] [])) (by first | rfl | (simp [entryFrame, mkF, argsToLocals, Value.category, maxLocals]; done)) ?_
  refine own_step (g' := (mkF m 1 #[.val (.int (0 : Int32)), .val (.int (1 : Int32))] [(.int (0 : Int32))])) (fun _ k => XS.iloadN X0.here hx rfl (hb hby d23_0) rfl k) ?_
  refine own_step (g' := (mkF m 2 #[.val (.int (0 : Int32)), .val (.int (1 : Int32))] [(.int (1 : Int32)), (.int (0 : Int32))])) (fun _ k => XS.iloadN X0.here hx rfl (hb hby d23_1) rfl k) ?_
  refine own_step (g' := (mkF m 3 #[.val (.int (0 : Int32)), .val (.int (1 : Int32))] [.null, (.int (1 : Int32)), (.int (0 : Int32))])) (fun _ k => XS.aconstNull X0.here hx rfl (hb hby d23_2) k) ?_
  refine own_callS X0 hx hZ (W := 0) hown e0 (rmPre1_0 l Z a0 hw [] h0 n0 Z0) (hw _ (List.mem_of_getElem? (i := 162) rfl)) (hw _ (List.mem_of_getElem? (i := 163) rfl)) (hw _ (List.mem_of_getElem? (i := 164) rfl)) (hw _ (List.mem_of_getElem? (i := 165) rfl)) (by decide) (by decide) (by decide) (g := (mkF m 3 #[.val (.int (0 : Int32)), .val (.int (1 : Int32))] [.null, (.int (1 : Int32)), (.int (0 : Int32))])) rfl (by rw [hml]; rfl) (argsL := [(.int (0 : Int32)), (.int (1 : Int32)), .null]) (rest := []) rfl (lenOf pd_6 rfl) rfl (by show 2 * 0 + _ ≤ _; exact Nat.le_of_eq rfl) (hb hby d23_3) (by decide) (by decide) ?_
  intro v1 T1 L1 X1 hQ1
  obtain ⟨rfl, rfl, e1⟩ := hQ1
  replace X1 := own_pureX X1
  show OGo p e below _ T1 (mkF m 6 #[.val (.int (0 : Int32)), .val (.int (1 : Int32))] [(.int (0 : Int32))])
  exact own_retI X1 hx hret hlk (hb hby d23_6) e1 (by exact ⟨rfl, rfl, rfl⟩) (by decide) (by decide)
theorem d25_0 : decode jdk_38_method_18_code 0 = .ok (.aload_n 0, 1) := by decide +kernel
theorem d25_1 : decode jdk_38_method_18_code 1 = .ok (.getfield 9, 3) := by decide +kernel
theorem d25_4 : decode jdk_38_method_18_code 4 = .ok (.iload_n 1, 1) := by decide +kernel
theorem d25_5 : decode jdk_38_method_18_code 5 = .ok (.aaload, 1) := by decide +kernel
theorem d25_6 : decode jdk_38_method_18_code 6 = .ok (.areturn, 1) := by decide +kernel
set_option maxRecDepth 65536 in
set_option maxHeartbeats 40000000 in
theorem rmEl1_0 (l : Launch) (Z : State) (a0 : Array Value) (hw : ∀ d ∈ tables_1, d.before a0 Z = true) (ws : List Jvm.Cond) (a1 ea y0 : Addr) (kd : ClassId) (h0 : Heap) (n0 : Nat) (Z0 : n0 ≤ h0.size) (E1 : Exa Z h0 a1 "java/util/ArrayList") (Fe : Fld Z h0 a1 "java/util/ArrayList" "elementData" "[Ljava/lang/Object;" (.ref ea)) (Ve : Arv Z h0 ea kd (.object "java/lang/Object") (10 : Int32) [(.ref y0), .null, .null, .null, .null, .null, .null, .null, .null, .null] .null) :
    OMet l (⟨"java/util/ArrayList", "elementData", "(I)Ljava/lang/Object;"⟩ : MethodName) jdk_38_method_18_code 2 (some (.object "java/lang/Object")) ws ({ frames := 0, cells := 0, slots := 0, locals := 0 } : Room) Z #[(.ref a1), (.int (0 : Int32))] h0 (fun v h L => v = some (.ref y0) ∧ L = [] ∧ h = h0) := by
  refine own_body (plainFor_of_name pn_9) ?_
  intro p e s m below meth cdx T0 X0 hx hZ hby hml hown hnm hret hlk e0
  have N0 := Fr.nil n0
  refine own_entry (g' := (mkF m 0 #[.val (.ref a1), .val (.int (0 : Int32))] [])) (by first | rfl | (simp [entryFrame, mkF, argsToLocals, Value.category, maxLocals]; done)) ?_
  refine own_step (g' := (mkF m 1 #[.val (.ref a1), .val (.int (0 : Int32))] [(.ref a1)])) (fun _ k => XS.aloadN X0.here hx rfl (hb hby d25_0) rfl rfl k) ?_
  obtain ⟨T1, X1, e1, st1⟩ := getF X0 hx hZ hown (host := "") (Or.inl (hw _ (List.mem_of_getElem? (i := 77) rfl))) Via.refl e0 Fe (g := (mkF m 1 #[.val (.ref a1), .val (.int (0 : Int32))] [(.ref a1)])) rfl rfl (hb hby d25_1)
  refine own_via (g' := (mkF m 4 #[.val (.ref a1), .val (.int (0 : Int32))] [(.ref ea)])) st1 ?_
  refine own_step (g' := (mkF m 5 #[.val (.ref a1), .val (.int (0 : Int32))] [(.int (0 : Int32)), (.ref ea)])) (fun _ k => XS.iloadN X1.here hx rfl (hb hby d25_4) rfl k) ?_
  obtain ⟨cl2, Ar2, q2, S2, M2, H2, G2⟩ := id Ve
  refine own_step (g' := (mkF m 6 #[.val (.ref a1), .val (.int (0 : Int32))] [(.ref y0)])) (X1.aaload hx (j := (0 : Int32)) (v := (.ref y0)) (by rw [e1]; exact Ar2.1) (State.isArrayOf_alike hZ.alike Ar2.2.1) rfl Ar2.2.2 (inb_of S2 ⟨by decide, by decide⟩) (Has.at H2 (inb_of S2 ⟨by decide, by decide⟩) rfl) (g := (mkF m 5 #[.val (.ref a1), .val (.int (0 : Int32))] [(.int (0 : Int32)), (.ref ea)])) rfl rfl (hb hby d25_5)) ?_
  exact own_retA X1 hx hret rfl rfl hlk (hb hby d25_6) e1 (by exact ⟨rfl, rfl, rfl⟩) (by decide) (by decide)
theorem d22_0 : decode jdk_38_method_20_code 0 = .ok (.iload_n 1, 1) := by decide +kernel
theorem d22_1 : decode jdk_38_method_20_code 1 = .ok (.aload_n 0, 1) := by decide +kernel
theorem d22_2 : decode jdk_38_method_20_code 2 = .ok (.getfield 48, 3) := by decide +kernel
theorem d22_5 : decode jdk_38_method_20_code 5 = .ok (.invokestatic 118, 3) := by decide +kernel
theorem d22_8 : decode jdk_38_method_20_code 8 = .ok (.pop, 1) := by decide +kernel
theorem d22_9 : decode jdk_38_method_20_code 9 = .ok (.aload_n 0, 1) := by decide +kernel
theorem d22_10 : decode jdk_38_method_20_code 10 = .ok (.iload_n 1, 1) := by decide +kernel
theorem d22_11 : decode jdk_38_method_20_code 11 = .ok (.invokevirtual 123, 3) := by decide +kernel
theorem d22_14 : decode jdk_38_method_20_code 14 = .ok (.areturn, 1) := by decide +kernel
theorem pd_7 : parseMethodDescriptor "(I)Ljava/lang/Object;" = some ⟨[.int], some (.object "java/lang/Object")⟩ := by decide +kernel
set_option maxRecDepth 65536 in
set_option maxHeartbeats 40000000 in
theorem rmGet1_0 (l : Launch) (Z : State) (a0 : Array Value) (hw : ∀ d ∈ tables_1, d.before a0 Z = true) (ws : List Jvm.Cond) (a1 ea y0 : Addr) (kd : ClassId) (h0 : Heap) (n0 : Nat) (Z0 : n0 ≤ h0.size) (E1 : Exa Z h0 a1 "java/util/ArrayList") (Fe : Fld Z h0 a1 "java/util/ArrayList" "elementData" "[Ljava/lang/Object;" (.ref ea)) (Ve : Arv Z h0 ea kd (.object "java/lang/Object") (10 : Int32) [(.ref y0), .null, .null, .null, .null, .null, .null, .null, .null, .null] .null) (Fs : Fld Z h0 a1 "java/util/ArrayList" "size" "I" (.int (1 : Int32))) :
    OMet l (⟨"java/util/ArrayList", "get", "(I)Ljava/lang/Object;"⟩ : MethodName) jdk_38_method_20_code 2 (some (.object "java/lang/Object")) ws ({ frames := 2, cells := 0, slots := 0, locals := 27 } : Room) Z #[(.ref a1), (.int (0 : Int32))] h0 (fun v h L => v = some (.ref y0) ∧ L = [] ∧ h = h0) := by
  refine own_body (plainFor_of_name pn_9) ?_
  intro p e s m below meth cdx T0 X0 hx hZ hby hml hown hnm hret hlk e0
  have N0 := Fr.nil n0
  refine own_entry (g' := (mkF m 0 #[.val (.ref a1), .val (.int (0 : Int32))] [])) (by first | rfl | (simp [entryFrame, mkF, argsToLocals, Value.category, maxLocals]; done)) ?_
  refine own_step (g' := (mkF m 1 #[.val (.ref a1), .val (.int (0 : Int32))] [(.int (0 : Int32))])) (fun _ k => XS.iloadN X0.here hx rfl (hb hby d22_0) rfl k) ?_
  refine own_step (g' := (mkF m 2 #[.val (.ref a1), .val (.int (0 : Int32))] [(.ref a1), (.int (0 : Int32))])) (fun _ k => XS.aloadN X0.here hx rfl (hb hby d22_1) rfl rfl k) ?_
  obtain ⟨T1, X1, e1, st1⟩ := getF X0 hx hZ hown (host := "") (Or.inl (hw _ (List.mem_of_getElem? (i := 116) rfl))) Via.refl e0 Fs (g := (mkF m 2 #[.val (.ref a1), .val (.int (0 : Int32))] [(.ref a1), (.int (0 : Int32))])) rfl rfl (hb hby d22_2)
  refine own_via (g' := (mkF m 5 #[.val (.ref a1), .val (.int (0 : Int32))] [(.int (1 : Int32)), (.int (0 : Int32))])) st1 ?_
  refine own_callS X1 hx hZ (W := 0) hown e1 (rmObj1_0 l Z a0 hw [] h0 n0 Z0) (hw _ (List.mem_of_getElem? (i := 158) rfl)) (hw _ (List.mem_of_getElem? (i := 159) rfl)) (hw _ (List.mem_of_getElem? (i := 160) rfl)) (hw _ (List.mem_of_getElem? (i := 161) rfl)) (by decide) (by decide) (by decide) (g := (mkF m 5 #[.val (.ref a1), .val (.int (0 : Int32))] [(.int (1 : Int32)), (.int (0 : Int32))])) rfl (by rw [hml]; rfl) (argsL := [(.int (0 : Int32)), (.int (1 : Int32))]) (rest := []) rfl (lenOf pd_2 rfl) rfl (by show 2 * 0 + _ ≤ _; exact Nat.le_of_eq rfl) (hb hby d22_5) (by decide) (by decide) ?_
  intro v2 T2 L2 X2 hQ2
  obtain ⟨rfl, rfl, e2⟩ := hQ2
  replace X2 := own_pureX X2
  show OGo p e below _ T2 (mkF m 8 #[.val (.ref a1), .val (.int (0 : Int32))] [(.int (0 : Int32))])
  refine own_step (g' := (mkF m 9 #[.val (.ref a1), .val (.int (0 : Int32))] [])) (fun _ k => XS.pop X2.here hx rfl (hb hby d22_8) rfl rfl k) ?_
  refine own_step (g' := (mkF m 10 #[.val (.ref a1), .val (.int (0 : Int32))] [(.ref a1)])) (fun _ k => XS.aloadN X2.here hx rfl (hb hby d22_9) rfl rfl k) ?_
  refine own_step (g' := (mkF m 11 #[.val (.ref a1), .val (.int (0 : Int32))] [(.int (0 : Int32)), (.ref a1)])) (fun _ k => XS.iloadN X2.here hx rfl (hb hby d22_10) rfl k) ?_
  refine own_callV X2 hx hZ (W := 0) hown e2 (rmEl1_0 l Z a0 hw [] a1 ea y0 kd h0 n0 Z0 E1 Fe Ve) E1 (hw _ (List.mem_of_getElem? (i := 166) rfl)) (hw _ (List.mem_of_getElem? (i := 167) rfl)) (notFace_of_selects (args := #[]) (mvT hZ (hw _ (List.mem_of_getElem? (i := 169) rfl)))) (hw _ (List.mem_of_getElem? (i := 169) rfl)) (hw _ (List.mem_of_getElem? (i := 168) rfl)) (hw _ (List.mem_of_getElem? (i := 170) rfl)) (hw _ (List.mem_of_getElem? (i := 57) rfl)) (by decide) (by decide) (by decide) (g := (mkF m 11 #[.val (.ref a1), .val (.int (0 : Int32))] [(.int (0 : Int32)), (.ref a1)])) rfl (by rw [hml]; rfl) (argsL := [(.int (0 : Int32))]) (rest := []) rfl (lenOf pd_7 rfl) rfl (by show 2 * 0 + _ ≤ _; exact Nat.le_of_eq rfl) (hb hby d22_11) (by decide) (by decide) ?_
  intro v3 T3 L3 X3 hQ3
  obtain ⟨rfl, rfl, e3⟩ := hQ3
  replace X3 := own_pureX X3
  show OGo p e below _ T3 (mkF m 14 #[.val (.ref a1), .val (.int (0 : Int32))] [(.ref y0)])
  exact own_retA X3 hx hret rfl rfl hlk (hb hby d22_14) e3 (by exact ⟨rfl, rfl, rfl⟩) (by decide) (by decide)
set_option maxRecDepth 65536 in
set_option maxHeartbeats 40000000 in
theorem rmPre2_0 (l : Launch) (Z : State) (a0 : Array Value) (hw : ∀ d ∈ tables_1, d.before a0 Z = true) (ws : List Jvm.Cond)  (h0 : Heap) (n0 : Nat) (Z0 : n0 ≤ h0.size)  :
    OMet l (⟨"jdk/internal/util/Preconditions", "checkIndex", "(IILjava/util/function/BiFunction;)I"⟩ : MethodName) jdk_41_method_11_code 3 (some .int) ws ({ frames := 0, cells := 0, slots := 0, locals := 0 } : Room) Z #[(.int (0 : Int32)), (.int (2 : Int32)), .null] h0 (fun v h L => v = some (.int (0 : Int32)) ∧ L = [] ∧ h = h0) := by
  refine own_body (plainFor_of_name pn_24) ?_
  intro p e s m below meth cdx T0 X0 hx hZ hby hml hown hnm hret hlk e0
  have N0 := Fr.nil n0
  refine own_entry (g' := (mkF m 0 #[.val (.int (0 : Int32)), .val (.int (2 : Int32)), .val .null] [])) (by first | rfl | (simp [entryFrame, mkF, argsToLocals, Value.category, maxLocals]; done)) ?_
  refine own_step (g' := (mkF m 1 #[.val (.int (0 : Int32)), .val (.int (2 : Int32)), .val .null] [(.int (0 : Int32))])) (fun _ k => XS.iloadN X0.here hx rfl (hb hby d24_0) rfl k) ?_
  refine own_step (g' := (mkF m 4 #[.val (.int (0 : Int32)), .val (.int (2 : Int32)), .val .null] [])) (fun _ k => XS.ifNo X0.here hx rfl (hb hby d24_1) rfl ((if0 _ _).trans (flt (by decide : ¬ ((0 : Int32) < (0 : Int32)))).1) k) ?_
  refine own_step (g' := (mkF m 5 #[.val (.int (0 : Int32)), .val (.int (2 : Int32)), .val .null] [(.int (0 : Int32))])) (fun _ k => XS.iloadN X0.here hx rfl (hb hby d24_4) rfl k) ?_
  refine own_step (g' := (mkF m 6 #[.val (.int (0 : Int32)), .val (.int (2 : Int32)), .val .null] [(.int (2 : Int32)), (.int (0 : Int32))])) (fun _ k => XS.iloadN X0.here hx rfl (hb hby d24_5) rfl k) ?_
  refine own_step (g' := (mkF m 16 #[.val (.int (0 : Int32)), .val (.int (2 : Int32)), .val .null] [])) (fun _ k => XS.icmpYes X0.here hx rfl (pc0 := 6) (pc' := 16) rfl (hb hby d24_6) rfl (tlt (by decide : (0 : Int32) < (2 : Int32))).1 (by decide) (by decide) k) ?_
  refine own_step (g' := (mkF m 17 #[.val (.int (0 : Int32)), .val (.int (2 : Int32)), .val .null] [(.int (0 : Int32))])) (fun _ k => XS.iloadN X0.here hx rfl (hb hby d24_16) rfl k) ?_
  exact own_retI X0 hx hret hlk (hb hby d24_17) e0 (by exact ⟨rfl, rfl, rfl⟩) (by decide) (by decide)
set_option maxRecDepth 65536 in
set_option maxHeartbeats 40000000 in
theorem rmObj2_0 (l : Launch) (Z : State) (a0 : Array Value) (hw : ∀ d ∈ tables_1, d.before a0 Z = true) (ws : List Jvm.Cond)  (h0 : Heap) (n0 : Nat) (Z0 : n0 ≤ h0.size)  :
    OMet l (⟨"java/util/Objects", "checkIndex", "(II)I"⟩ : MethodName) jdk_31_method_17_code 2 (some .int) ws ({ frames := 1, cells := 0, slots := 0, locals := 14 } : Room) Z #[(.int (0 : Int32)), (.int (2 : Int32))] h0 (fun v h L => v = some (.int (0 : Int32)) ∧ L = [] ∧ h = h0) := by
  refine own_body (plainFor_of_name pn_23) ?_
  intro p e s m below meth cdx T0 X0 hx hZ hby hml hown hnm hret hlk e0
  have N0 := Fr.nil n0
  refine own_entry (g' := (mkF m 0 #[.val (.int (0 : Int32)), .val (.int (2 : Int32))] [])) (by first | rfl | (simp [entryFrame, mkF, argsToLocals, Value.category, maxLocals]; done)) ?_
  refine own_step (g' := (mkF m 1 #[.val (.int (0 : Int32)), .val (.int (2 : Int32))] [(.int (0 : Int32))])) (fun _ k => XS.iloadN X0.here hx rfl (hb hby d23_0) rfl k) ?_
  refine own_step (g' := (mkF m 2 #[.val (.int (0 : Int32)), .val (.int (2 : Int32))] [(.int (2 : Int32)), (.int (0 : Int32))])) (fun _ k => XS.iloadN X0.here hx rfl (hb hby d23_1) rfl k) ?_
  refine own_step (g' := (mkF m 3 #[.val (.int (0 : Int32)), .val (.int (2 : Int32))] [.null, (.int (2 : Int32)), (.int (0 : Int32))])) (fun _ k => XS.aconstNull X0.here hx rfl (hb hby d23_2) k) ?_
  refine own_callS X0 hx hZ (W := 0) hown e0 (rmPre2_0 l Z a0 hw [] h0 n0 Z0) (hw _ (List.mem_of_getElem? (i := 162) rfl)) (hw _ (List.mem_of_getElem? (i := 163) rfl)) (hw _ (List.mem_of_getElem? (i := 164) rfl)) (hw _ (List.mem_of_getElem? (i := 165) rfl)) (by decide) (by decide) (by decide) (g := (mkF m 3 #[.val (.int (0 : Int32)), .val (.int (2 : Int32))] [.null, (.int (2 : Int32)), (.int (0 : Int32))])) rfl (by rw [hml]; rfl) (argsL := [(.int (0 : Int32)), (.int (2 : Int32)), .null]) (rest := []) rfl (lenOf pd_6 rfl) rfl (by show 2 * 0 + _ ≤ _; exact Nat.le_of_eq rfl) (hb hby d23_3) (by decide) (by decide) ?_
  intro v1 T1 L1 X1 hQ1
  obtain ⟨rfl, rfl, e1⟩ := hQ1
  replace X1 := own_pureX X1
  show OGo p e below _ T1 (mkF m 6 #[.val (.int (0 : Int32)), .val (.int (2 : Int32))] [(.int (0 : Int32))])
  exact own_retI X1 hx hret hlk (hb hby d23_6) e1 (by exact ⟨rfl, rfl, rfl⟩) (by decide) (by decide)
set_option maxRecDepth 65536 in
set_option maxHeartbeats 40000000 in
theorem rmEl2_0 (l : Launch) (Z : State) (a0 : Array Value) (hw : ∀ d ∈ tables_1, d.before a0 Z = true) (ws : List Jvm.Cond) (a1 ea y0 y1 : Addr) (kd : ClassId) (h0 : Heap) (n0 : Nat) (Z0 : n0 ≤ h0.size) (E1 : Exa Z h0 a1 "java/util/ArrayList") (Fe : Fld Z h0 a1 "java/util/ArrayList" "elementData" "[Ljava/lang/Object;" (.ref ea)) (Ve : Arv Z h0 ea kd (.object "java/lang/Object") (10 : Int32) [(.ref y0), (.ref y1), .null, .null, .null, .null, .null, .null, .null, .null] .null) :
    OMet l (⟨"java/util/ArrayList", "elementData", "(I)Ljava/lang/Object;"⟩ : MethodName) jdk_38_method_18_code 2 (some (.object "java/lang/Object")) ws ({ frames := 0, cells := 0, slots := 0, locals := 0 } : Room) Z #[(.ref a1), (.int (0 : Int32))] h0 (fun v h L => v = some (.ref y0) ∧ L = [] ∧ h = h0) := by
  refine own_body (plainFor_of_name pn_9) ?_
  intro p e s m below meth cdx T0 X0 hx hZ hby hml hown hnm hret hlk e0
  have N0 := Fr.nil n0
  refine own_entry (g' := (mkF m 0 #[.val (.ref a1), .val (.int (0 : Int32))] [])) (by first | rfl | (simp [entryFrame, mkF, argsToLocals, Value.category, maxLocals]; done)) ?_
  refine own_step (g' := (mkF m 1 #[.val (.ref a1), .val (.int (0 : Int32))] [(.ref a1)])) (fun _ k => XS.aloadN X0.here hx rfl (hb hby d25_0) rfl rfl k) ?_
  obtain ⟨T1, X1, e1, st1⟩ := getF X0 hx hZ hown (host := "") (Or.inl (hw _ (List.mem_of_getElem? (i := 77) rfl))) Via.refl e0 Fe (g := (mkF m 1 #[.val (.ref a1), .val (.int (0 : Int32))] [(.ref a1)])) rfl rfl (hb hby d25_1)
  refine own_via (g' := (mkF m 4 #[.val (.ref a1), .val (.int (0 : Int32))] [(.ref ea)])) st1 ?_
  refine own_step (g' := (mkF m 5 #[.val (.ref a1), .val (.int (0 : Int32))] [(.int (0 : Int32)), (.ref ea)])) (fun _ k => XS.iloadN X1.here hx rfl (hb hby d25_4) rfl k) ?_
  obtain ⟨cl2, Ar2, q2, S2, M2, H2, G2⟩ := id Ve
  refine own_step (g' := (mkF m 6 #[.val (.ref a1), .val (.int (0 : Int32))] [(.ref y0)])) (X1.aaload hx (j := (0 : Int32)) (v := (.ref y0)) (by rw [e1]; exact Ar2.1) (State.isArrayOf_alike hZ.alike Ar2.2.1) rfl Ar2.2.2 (inb_of S2 ⟨by decide, by decide⟩) (Has.at H2 (inb_of S2 ⟨by decide, by decide⟩) rfl) (g := (mkF m 5 #[.val (.ref a1), .val (.int (0 : Int32))] [(.int (0 : Int32)), (.ref ea)])) rfl rfl (hb hby d25_5)) ?_
  exact own_retA X1 hx hret rfl rfl hlk (hb hby d25_6) e1 (by exact ⟨rfl, rfl, rfl⟩) (by decide) (by decide)
set_option maxRecDepth 65536 in
set_option maxHeartbeats 40000000 in
theorem rmGet2_0 (l : Launch) (Z : State) (a0 : Array Value) (hw : ∀ d ∈ tables_1, d.before a0 Z = true) (ws : List Jvm.Cond) (a1 ea y0 y1 : Addr) (kd : ClassId) (h0 : Heap) (n0 : Nat) (Z0 : n0 ≤ h0.size) (E1 : Exa Z h0 a1 "java/util/ArrayList") (Fe : Fld Z h0 a1 "java/util/ArrayList" "elementData" "[Ljava/lang/Object;" (.ref ea)) (Ve : Arv Z h0 ea kd (.object "java/lang/Object") (10 : Int32) [(.ref y0), (.ref y1), .null, .null, .null, .null, .null, .null, .null, .null] .null) (Fs : Fld Z h0 a1 "java/util/ArrayList" "size" "I" (.int (2 : Int32))) :
    OMet l (⟨"java/util/ArrayList", "get", "(I)Ljava/lang/Object;"⟩ : MethodName) jdk_38_method_20_code 2 (some (.object "java/lang/Object")) ws ({ frames := 2, cells := 0, slots := 0, locals := 27 } : Room) Z #[(.ref a1), (.int (0 : Int32))] h0 (fun v h L => v = some (.ref y0) ∧ L = [] ∧ h = h0) := by
  refine own_body (plainFor_of_name pn_9) ?_
  intro p e s m below meth cdx T0 X0 hx hZ hby hml hown hnm hret hlk e0
  have N0 := Fr.nil n0
  refine own_entry (g' := (mkF m 0 #[.val (.ref a1), .val (.int (0 : Int32))] [])) (by first | rfl | (simp [entryFrame, mkF, argsToLocals, Value.category, maxLocals]; done)) ?_
  refine own_step (g' := (mkF m 1 #[.val (.ref a1), .val (.int (0 : Int32))] [(.int (0 : Int32))])) (fun _ k => XS.iloadN X0.here hx rfl (hb hby d22_0) rfl k) ?_
  refine own_step (g' := (mkF m 2 #[.val (.ref a1), .val (.int (0 : Int32))] [(.ref a1), (.int (0 : Int32))])) (fun _ k => XS.aloadN X0.here hx rfl (hb hby d22_1) rfl rfl k) ?_
  obtain ⟨T1, X1, e1, st1⟩ := getF X0 hx hZ hown (host := "") (Or.inl (hw _ (List.mem_of_getElem? (i := 116) rfl))) Via.refl e0 Fs (g := (mkF m 2 #[.val (.ref a1), .val (.int (0 : Int32))] [(.ref a1), (.int (0 : Int32))])) rfl rfl (hb hby d22_2)
  refine own_via (g' := (mkF m 5 #[.val (.ref a1), .val (.int (0 : Int32))] [(.int (2 : Int32)), (.int (0 : Int32))])) st1 ?_
  refine own_callS X1 hx hZ (W := 0) hown e1 (rmObj2_0 l Z a0 hw [] h0 n0 Z0) (hw _ (List.mem_of_getElem? (i := 158) rfl)) (hw _ (List.mem_of_getElem? (i := 159) rfl)) (hw _ (List.mem_of_getElem? (i := 160) rfl)) (hw _ (List.mem_of_getElem? (i := 161) rfl)) (by decide) (by decide) (by decide) (g := (mkF m 5 #[.val (.ref a1), .val (.int (0 : Int32))] [(.int (2 : Int32)), (.int (0 : Int32))])) rfl (by rw [hml]; rfl) (argsL := [(.int (0 : Int32)), (.int (2 : Int32))]) (rest := []) rfl (lenOf pd_2 rfl) rfl (by show 2 * 0 + _ ≤ _; exact Nat.le_of_eq rfl) (hb hby d22_5) (by decide) (by decide) ?_
  intro v2 T2 L2 X2 hQ2
  obtain ⟨rfl, rfl, e2⟩ := hQ2
  replace X2 := own_pureX X2
  show OGo p e below _ T2 (mkF m 8 #[.val (.ref a1), .val (.int (0 : Int32))] [(.int (0 : Int32))])
  refine own_step (g' := (mkF m 9 #[.val (.ref a1), .val (.int (0 : Int32))] [])) (fun _ k => XS.pop X2.here hx rfl (hb hby d22_8) rfl rfl k) ?_
  refine own_step (g' := (mkF m 10 #[.val (.ref a1), .val (.int (0 : Int32))] [(.ref a1)])) (fun _ k => XS.aloadN X2.here hx rfl (hb hby d22_9) rfl rfl k) ?_
  refine own_step (g' := (mkF m 11 #[.val (.ref a1), .val (.int (0 : Int32))] [(.int (0 : Int32)), (.ref a1)])) (fun _ k => XS.iloadN X2.here hx rfl (hb hby d22_10) rfl k) ?_
  refine own_callV X2 hx hZ (W := 0) hown e2 (rmEl2_0 l Z a0 hw [] a1 ea y0 y1 kd h0 n0 Z0 E1 Fe Ve) E1 (hw _ (List.mem_of_getElem? (i := 166) rfl)) (hw _ (List.mem_of_getElem? (i := 167) rfl)) (notFace_of_selects (args := #[]) (mvT hZ (hw _ (List.mem_of_getElem? (i := 169) rfl)))) (hw _ (List.mem_of_getElem? (i := 169) rfl)) (hw _ (List.mem_of_getElem? (i := 168) rfl)) (hw _ (List.mem_of_getElem? (i := 170) rfl)) (hw _ (List.mem_of_getElem? (i := 57) rfl)) (by decide) (by decide) (by decide) (g := (mkF m 11 #[.val (.ref a1), .val (.int (0 : Int32))] [(.int (0 : Int32)), (.ref a1)])) rfl (by rw [hml]; rfl) (argsL := [(.int (0 : Int32))]) (rest := []) rfl (lenOf pd_7 rfl) rfl (by show 2 * 0 + _ ≤ _; exact Nat.le_of_eq rfl) (hb hby d22_11) (by decide) (by decide) ?_
  intro v3 T3 L3 X3 hQ3
  obtain ⟨rfl, rfl, e3⟩ := hQ3
  replace X3 := own_pureX X3
  show OGo p e below _ T3 (mkF m 14 #[.val (.ref a1), .val (.int (0 : Int32))] [(.ref y0)])
  exact own_retA X3 hx hret rfl rfl hlk (hb hby d22_14) e3 (by exact ⟨rfl, rfl, rfl⟩) (by decide) (by decide)
set_option maxRecDepth 65536 in
set_option maxHeartbeats 40000000 in
theorem rmPre2_1 (l : Launch) (Z : State) (a0 : Array Value) (hw : ∀ d ∈ tables_1, d.before a0 Z = true) (ws : List Jvm.Cond)  (h0 : Heap) (n0 : Nat) (Z0 : n0 ≤ h0.size)  :
    OMet l (⟨"jdk/internal/util/Preconditions", "checkIndex", "(IILjava/util/function/BiFunction;)I"⟩ : MethodName) jdk_41_method_11_code 3 (some .int) ws ({ frames := 0, cells := 0, slots := 0, locals := 0 } : Room) Z #[(.int (1 : Int32)), (.int (2 : Int32)), .null] h0 (fun v h L => v = some (.int (1 : Int32)) ∧ L = [] ∧ h = h0) := by
  refine own_body (plainFor_of_name pn_24) ?_
  intro p e s m below meth cdx T0 X0 hx hZ hby hml hown hnm hret hlk e0
  have N0 := Fr.nil n0
  refine own_entry (g' := (mkF m 0 #[.val (.int (1 : Int32)), .val (.int (2 : Int32)), .val .null] [])) (by first | rfl | (simp [entryFrame, mkF, argsToLocals, Value.category, maxLocals]; done)) ?_
  refine own_step (g' := (mkF m 1 #[.val (.int (1 : Int32)), .val (.int (2 : Int32)), .val .null] [(.int (1 : Int32))])) (fun _ k => XS.iloadN X0.here hx rfl (hb hby d24_0) rfl k) ?_
  refine own_step (g' := (mkF m 4 #[.val (.int (1 : Int32)), .val (.int (2 : Int32)), .val .null] [])) (fun _ k => XS.ifNo X0.here hx rfl (hb hby d24_1) rfl ((if0 _ _).trans (flt (by decide : ¬ ((1 : Int32) < (0 : Int32)))).1) k) ?_
  refine own_step (g' := (mkF m 5 #[.val (.int (1 : Int32)), .val (.int (2 : Int32)), .val .null] [(.int (1 : Int32))])) (fun _ k => XS.iloadN X0.here hx rfl (hb hby d24_4) rfl k) ?_
  refine own_step (g' := (mkF m 6 #[.val (.int (1 : Int32)), .val (.int (2 : Int32)), .val .null] [(.int (2 : Int32)), (.int (1 : Int32))])) (fun _ k => XS.iloadN X0.here hx rfl (hb hby d24_5) rfl k) ?_
  refine own_step (g' := (mkF m 16 #[.val (.int (1 : Int32)), .val (.int (2 : Int32)), .val .null] [])) (fun _ k => XS.icmpYes X0.here hx rfl (pc0 := 6) (pc' := 16) rfl (hb hby d24_6) rfl (tlt (by decide : (1 : Int32) < (2 : Int32))).1 (by decide) (by decide) k) ?_
  refine own_step (g' := (mkF m 17 #[.val (.int (1 : Int32)), .val (.int (2 : Int32)), .val .null] [(.int (1 : Int32))])) (fun _ k => XS.iloadN X0.here hx rfl (hb hby d24_16) rfl k) ?_
  exact own_retI X0 hx hret hlk (hb hby d24_17) e0 (by exact ⟨rfl, rfl, rfl⟩) (by decide) (by decide)
set_option maxRecDepth 65536 in
set_option maxHeartbeats 40000000 in
theorem rmObj2_1 (l : Launch) (Z : State) (a0 : Array Value) (hw : ∀ d ∈ tables_1, d.before a0 Z = true) (ws : List Jvm.Cond)  (h0 : Heap) (n0 : Nat) (Z0 : n0 ≤ h0.size)  :
    OMet l (⟨"java/util/Objects", "checkIndex", "(II)I"⟩ : MethodName) jdk_31_method_17_code 2 (some .int) ws ({ frames := 1, cells := 0, slots := 0, locals := 14 } : Room) Z #[(.int (1 : Int32)), (.int (2 : Int32))] h0 (fun v h L => v = some (.int (1 : Int32)) ∧ L = [] ∧ h = h0) := by
  refine own_body (plainFor_of_name pn_23) ?_
  intro p e s m below meth cdx T0 X0 hx hZ hby hml hown hnm hret hlk e0
  have N0 := Fr.nil n0
  refine own_entry (g' := (mkF m 0 #[.val (.int (1 : Int32)), .val (.int (2 : Int32))] [])) (by first | rfl | (simp [entryFrame, mkF, argsToLocals, Value.category, maxLocals]; done)) ?_
  refine own_step (g' := (mkF m 1 #[.val (.int (1 : Int32)), .val (.int (2 : Int32))] [(.int (1 : Int32))])) (fun _ k => XS.iloadN X0.here hx rfl (hb hby d23_0) rfl k) ?_
  refine own_step (g' := (mkF m 2 #[.val (.int (1 : Int32)), .val (.int (2 : Int32))] [(.int (2 : Int32)), (.int (1 : Int32))])) (fun _ k => XS.iloadN X0.here hx rfl (hb hby d23_1) rfl k) ?_
  refine own_step (g' := (mkF m 3 #[.val (.int (1 : Int32)), .val (.int (2 : Int32))] [.null, (.int (2 : Int32)), (.int (1 : Int32))])) (fun _ k => XS.aconstNull X0.here hx rfl (hb hby d23_2) k) ?_
  refine own_callS X0 hx hZ (W := 0) hown e0 (rmPre2_1 l Z a0 hw [] h0 n0 Z0) (hw _ (List.mem_of_getElem? (i := 162) rfl)) (hw _ (List.mem_of_getElem? (i := 163) rfl)) (hw _ (List.mem_of_getElem? (i := 164) rfl)) (hw _ (List.mem_of_getElem? (i := 165) rfl)) (by decide) (by decide) (by decide) (g := (mkF m 3 #[.val (.int (1 : Int32)), .val (.int (2 : Int32))] [.null, (.int (2 : Int32)), (.int (1 : Int32))])) rfl (by rw [hml]; rfl) (argsL := [(.int (1 : Int32)), (.int (2 : Int32)), .null]) (rest := []) rfl (lenOf pd_6 rfl) rfl (by show 2 * 0 + _ ≤ _; exact Nat.le_of_eq rfl) (hb hby d23_3) (by decide) (by decide) ?_
  intro v1 T1 L1 X1 hQ1
  obtain ⟨rfl, rfl, e1⟩ := hQ1
  replace X1 := own_pureX X1
  show OGo p e below _ T1 (mkF m 6 #[.val (.int (1 : Int32)), .val (.int (2 : Int32))] [(.int (1 : Int32))])
  exact own_retI X1 hx hret hlk (hb hby d23_6) e1 (by exact ⟨rfl, rfl, rfl⟩) (by decide) (by decide)
set_option maxRecDepth 65536 in
set_option maxHeartbeats 40000000 in
theorem rmEl2_1 (l : Launch) (Z : State) (a0 : Array Value) (hw : ∀ d ∈ tables_1, d.before a0 Z = true) (ws : List Jvm.Cond) (a1 ea y0 y1 : Addr) (kd : ClassId) (h0 : Heap) (n0 : Nat) (Z0 : n0 ≤ h0.size) (E1 : Exa Z h0 a1 "java/util/ArrayList") (Fe : Fld Z h0 a1 "java/util/ArrayList" "elementData" "[Ljava/lang/Object;" (.ref ea)) (Ve : Arv Z h0 ea kd (.object "java/lang/Object") (10 : Int32) [(.ref y0), (.ref y1), .null, .null, .null, .null, .null, .null, .null, .null] .null) :
    OMet l (⟨"java/util/ArrayList", "elementData", "(I)Ljava/lang/Object;"⟩ : MethodName) jdk_38_method_18_code 2 (some (.object "java/lang/Object")) ws ({ frames := 0, cells := 0, slots := 0, locals := 0 } : Room) Z #[(.ref a1), (.int (1 : Int32))] h0 (fun v h L => v = some (.ref y1) ∧ L = [] ∧ h = h0) := by
  refine own_body (plainFor_of_name pn_9) ?_
  intro p e s m below meth cdx T0 X0 hx hZ hby hml hown hnm hret hlk e0
  have N0 := Fr.nil n0
  refine own_entry (g' := (mkF m 0 #[.val (.ref a1), .val (.int (1 : Int32))] [])) (by first | rfl | (simp [entryFrame, mkF, argsToLocals, Value.category, maxLocals]; done)) ?_
  refine own_step (g' := (mkF m 1 #[.val (.ref a1), .val (.int (1 : Int32))] [(.ref a1)])) (fun _ k => XS.aloadN X0.here hx rfl (hb hby d25_0) rfl rfl k) ?_
  obtain ⟨T1, X1, e1, st1⟩ := getF X0 hx hZ hown (host := "") (Or.inl (hw _ (List.mem_of_getElem? (i := 77) rfl))) Via.refl e0 Fe (g := (mkF m 1 #[.val (.ref a1), .val (.int (1 : Int32))] [(.ref a1)])) rfl rfl (hb hby d25_1)
  refine own_via (g' := (mkF m 4 #[.val (.ref a1), .val (.int (1 : Int32))] [(.ref ea)])) st1 ?_
  refine own_step (g' := (mkF m 5 #[.val (.ref a1), .val (.int (1 : Int32))] [(.int (1 : Int32)), (.ref ea)])) (fun _ k => XS.iloadN X1.here hx rfl (hb hby d25_4) rfl k) ?_
  obtain ⟨cl2, Ar2, q2, S2, M2, H2, G2⟩ := id Ve
  refine own_step (g' := (mkF m 6 #[.val (.ref a1), .val (.int (1 : Int32))] [(.ref y1)])) (X1.aaload hx (j := (1 : Int32)) (v := (.ref y1)) (by rw [e1]; exact Ar2.1) (State.isArrayOf_alike hZ.alike Ar2.2.1) rfl Ar2.2.2 (inb_of S2 ⟨by decide, by decide⟩) (Has.at H2 (inb_of S2 ⟨by decide, by decide⟩) rfl) (g := (mkF m 5 #[.val (.ref a1), .val (.int (1 : Int32))] [(.int (1 : Int32)), (.ref ea)])) rfl rfl (hb hby d25_5)) ?_
  exact own_retA X1 hx hret rfl rfl hlk (hb hby d25_6) e1 (by exact ⟨rfl, rfl, rfl⟩) (by decide) (by decide)
set_option maxRecDepth 65536 in
set_option maxHeartbeats 40000000 in
theorem rmGet2_1 (l : Launch) (Z : State) (a0 : Array Value) (hw : ∀ d ∈ tables_1, d.before a0 Z = true) (ws : List Jvm.Cond) (a1 ea y0 y1 : Addr) (kd : ClassId) (h0 : Heap) (n0 : Nat) (Z0 : n0 ≤ h0.size) (E1 : Exa Z h0 a1 "java/util/ArrayList") (Fe : Fld Z h0 a1 "java/util/ArrayList" "elementData" "[Ljava/lang/Object;" (.ref ea)) (Ve : Arv Z h0 ea kd (.object "java/lang/Object") (10 : Int32) [(.ref y0), (.ref y1), .null, .null, .null, .null, .null, .null, .null, .null] .null) (Fs : Fld Z h0 a1 "java/util/ArrayList" "size" "I" (.int (2 : Int32))) :
    OMet l (⟨"java/util/ArrayList", "get", "(I)Ljava/lang/Object;"⟩ : MethodName) jdk_38_method_20_code 2 (some (.object "java/lang/Object")) ws ({ frames := 2, cells := 0, slots := 0, locals := 27 } : Room) Z #[(.ref a1), (.int (1 : Int32))] h0 (fun v h L => v = some (.ref y1) ∧ L = [] ∧ h = h0) := by
  refine own_body (plainFor_of_name pn_9) ?_
  intro p e s m below meth cdx T0 X0 hx hZ hby hml hown hnm hret hlk e0
  have N0 := Fr.nil n0
  refine own_entry (g' := (mkF m 0 #[.val (.ref a1), .val (.int (1 : Int32))] [])) (by first | rfl | (simp [entryFrame, mkF, argsToLocals, Value.category, maxLocals]; done)) ?_
  refine own_step (g' := (mkF m 1 #[.val (.ref a1), .val (.int (1 : Int32))] [(.int (1 : Int32))])) (fun _ k => XS.iloadN X0.here hx rfl (hb hby d22_0) rfl k) ?_
  refine own_step (g' := (mkF m 2 #[.val (.ref a1), .val (.int (1 : Int32))] [(.ref a1), (.int (1 : Int32))])) (fun _ k => XS.aloadN X0.here hx rfl (hb hby d22_1) rfl rfl k) ?_
  obtain ⟨T1, X1, e1, st1⟩ := getF X0 hx hZ hown (host := "") (Or.inl (hw _ (List.mem_of_getElem? (i := 116) rfl))) Via.refl e0 Fs (g := (mkF m 2 #[.val (.ref a1), .val (.int (1 : Int32))] [(.ref a1), (.int (1 : Int32))])) rfl rfl (hb hby d22_2)
  refine own_via (g' := (mkF m 5 #[.val (.ref a1), .val (.int (1 : Int32))] [(.int (2 : Int32)), (.int (1 : Int32))])) st1 ?_
  refine own_callS X1 hx hZ (W := 0) hown e1 (rmObj2_1 l Z a0 hw [] h0 n0 Z0) (hw _ (List.mem_of_getElem? (i := 158) rfl)) (hw _ (List.mem_of_getElem? (i := 159) rfl)) (hw _ (List.mem_of_getElem? (i := 160) rfl)) (hw _ (List.mem_of_getElem? (i := 161) rfl)) (by decide) (by decide) (by decide) (g := (mkF m 5 #[.val (.ref a1), .val (.int (1 : Int32))] [(.int (2 : Int32)), (.int (1 : Int32))])) rfl (by rw [hml]; rfl) (argsL := [(.int (1 : Int32)), (.int (2 : Int32))]) (rest := []) rfl (lenOf pd_2 rfl) rfl (by show 2 * 0 + _ ≤ _; exact Nat.le_of_eq rfl) (hb hby d22_5) (by decide) (by decide) ?_
  intro v2 T2 L2 X2 hQ2
  obtain ⟨rfl, rfl, e2⟩ := hQ2
  replace X2 := own_pureX X2
  show OGo p e below _ T2 (mkF m 8 #[.val (.ref a1), .val (.int (1 : Int32))] [(.int (1 : Int32))])
  refine own_step (g' := (mkF m 9 #[.val (.ref a1), .val (.int (1 : Int32))] [])) (fun _ k => XS.pop X2.here hx rfl (hb hby d22_8) rfl rfl k) ?_
  refine own_step (g' := (mkF m 10 #[.val (.ref a1), .val (.int (1 : Int32))] [(.ref a1)])) (fun _ k => XS.aloadN X2.here hx rfl (hb hby d22_9) rfl rfl k) ?_
  refine own_step (g' := (mkF m 11 #[.val (.ref a1), .val (.int (1 : Int32))] [(.int (1 : Int32)), (.ref a1)])) (fun _ k => XS.iloadN X2.here hx rfl (hb hby d22_10) rfl k) ?_
  refine own_callV X2 hx hZ (W := 0) hown e2 (rmEl2_1 l Z a0 hw [] a1 ea y0 y1 kd h0 n0 Z0 E1 Fe Ve) E1 (hw _ (List.mem_of_getElem? (i := 166) rfl)) (hw _ (List.mem_of_getElem? (i := 167) rfl)) (notFace_of_selects (args := #[]) (mvT hZ (hw _ (List.mem_of_getElem? (i := 169) rfl)))) (hw _ (List.mem_of_getElem? (i := 169) rfl)) (hw _ (List.mem_of_getElem? (i := 168) rfl)) (hw _ (List.mem_of_getElem? (i := 170) rfl)) (hw _ (List.mem_of_getElem? (i := 57) rfl)) (by decide) (by decide) (by decide) (g := (mkF m 11 #[.val (.ref a1), .val (.int (1 : Int32))] [(.int (1 : Int32)), (.ref a1)])) rfl (by rw [hml]; rfl) (argsL := [(.int (1 : Int32))]) (rest := []) rfl (lenOf pd_7 rfl) rfl (by show 2 * 0 + _ ≤ _; exact Nat.le_of_eq rfl) (hb hby d22_11) (by decide) (by decide) ?_
  intro v3 T3 L3 X3 hQ3
  obtain ⟨rfl, rfl, e3⟩ := hQ3
  replace X3 := own_pureX X3
  show OGo p e below _ T3 (mkF m 14 #[.val (.ref a1), .val (.int (1 : Int32))] [(.ref y1)])
  exact own_retA X3 hx hret rfl rfl hlk (hb hby d22_14) e3 (by exact ⟨rfl, rfl, rfl⟩) (by decide) (by decide)
def Q0 (n0 : Nat) : Option Value → Heap → List Loc → Prop := fun v h L => v = some (.int 1) ∧ Fr n0 L
theorem own_rem3 (x : Int32) : (x &&& (2147483647 : Int32)) % (3 : Int32) = (0 : Int32) ∨ (x &&& (2147483647 : Int32)) % (3 : Int32) = (1 : Int32) ∨ (x &&& (2147483647 : Int32)) % (3 : Int32) = (2 : Int32) := by
  have q := c_and x 2147483647 (by decide)
  have r := (c_irem (x &&& (2147483647 : Int32)) 3 3 (by decide)).1 q.1
  simp only [← Int32.toInt_inj]
  have e0 : (0 : Int32).toInt = 0 := by decide
  have e1 : (1 : Int32).toInt = 1 := by decide
  have e2 : (2 : Int32).toInt = 2 := by decide
  omega
theorem pd_8 : parseMethodDescriptor "([C)V" = some ⟨[(.array .char)], none⟩ := by decide +kernel
theorem pd_9 : parseMethodDescriptor "(Ljava/lang/String;Ljava/lang/String;ZZ)V" = some ⟨[(.object "java/lang/String"), (.object "java/lang/String"), .boolean, .boolean], none⟩ := by decide +kernel
theorem pd_10 : parseMethodDescriptor "()Lcom/example/handl/handl/cli/Arguments$Syntax;" = some ⟨[], some (.object "com/example/handl/handl/cli/Arguments$Syntax")⟩ := by decide +kernel
theorem pd_11 : parseMethodDescriptor "()Ljava/util/List;" = some ⟨[], some (.object "java/util/List")⟩ := by decide +kernel
theorem pd_12 : parseMethodDescriptor "()Z" = some ⟨[], some .boolean⟩ := by decide +kernel
theorem pd_13 : parseMethodDescriptor "()I" = some ⟨[], some .int⟩ := by decide +kernel
theorem pd_14 : parseMethodDescriptor "(Ljava/lang/Object;)Z" = some ⟨[(.object "java/lang/Object")], some .boolean⟩ := by decide +kernel
theorem pn_0 : plainName "com/example/handl/handl/cli/SyntaxWithOperandsPinLaw" = true := by first | (simp [plainName, overriddenIn]; done) | decide +kernel
set_option maxRecDepth 65536 in
set_option maxHeartbeats 40000000 in
theorem rm0 (l : Launch) (Z : State) (a0 : Array Value) (hw : ∀ d ∈ tables_1, d.before a0 Z = true) (ws : List Jvm.Cond) (p1 p2 p3 z : Int32) (ed : Addr) (kd : ClassId) (h0 : Heap) (n0 : Nat) (Z0 : n0 ≤ h0.size) (S_CS : Sta Z h0 "java/lang/String" "COMPACT_STRINGS" "Z" (.int z)) (hz : ¬ (z = (0 : Int32))) (S_DC : Sta Z h0 "java/util/ArrayList" "DEFAULTCAPACITY_EMPTY_ELEMENTDATA" "[Ljava/lang/Object;" (.ref ed)) (Vd : Arv Z h0 ed kd (.object "java/lang/Object") (0 : Int32) [] .null) :
    OMetW l x code maxLocals ret ws room_1 Z ([]) #[(.int p1), (.int p2), (.int p3)] h0 (Q0 n0) := by
  refine own_bodyW (plainFor_of_name pn_0) ?_
  intro p e s m below meth cdx T0 X0 hx hZ hby hml hown hnm hret hlk e0 hS hC
  have N0 := Fr.nil n0
  have hk : h0.size ≤ h0.size := Nat.le_refl _
  have hwS : ∀ d ∈ Bundle.stringAtoms, d.before a0 Z = true := fun d hd => hw d ((by decide +kernel : ∀ d ∈ Bundle.stringAtoms, d ∈ tables_1) d hd)
  refine own_entry (g' := (mkF m 0 #[.val (.int p1), .val (.int p2), .val (.int p3), .unset, .unset, .unset, .unset, .unset, .unset, .unset, .unset, .unset, .unset, .unset] [])) (by first | rfl | (simp [entryFrame, mkF, argsToLocals, Value.category, maxLocals]; done)) ?_
  have hws : ∀ d ∈ StrChars.Road.words, d.before a0 Z = true := fun d hd => hw d ((by decide +kernel : ∀ d ∈ StrChars.Road.words, d ∈ tables_1) d hd)
  have hEL : EW Z a0 [] := EW.nil
  rcases own_rem3 p1 with hq | hq | hq
  · refine own_step (g' := (mkF m 1 #[.val (.int p1), .val (.int p2), .val (.int p3), .unset, .unset, .unset, .unset, .unset, .unset, .unset, .unset, .unset, .unset, .unset] [(.int p1)])) (fun _ k => XS.iloadN X0.here hx rfl (hb hby at_0) rfl k) ?_
    refine own_step (g' := (mkF m 3 #[.val (.int p1), .val (.int p2), .val (.int p3), .unset, .unset, .unset, .unset, .unset, .unset, .unset, .unset, .unset, .unset, .unset] [(.int (2147483647 : Int32)), (.int p1)])) (X0.ldcInt hx hown (mvT hZ (hw _ (List.mem_of_getElem? (i := 0) rfl))) (g := (mkF m 1 #[.val (.int p1), .val (.int p2), .val (.int p3), .unset, .unset, .unset, .unset, .unset, .unset, .unset, .unset, .unset, .unset, .unset] [(.int p1)])) rfl (hb hby at_1)) ?_
    refine own_step (g' := (mkF m 4 #[.val (.int p1), .val (.int p2), .val (.int p3), .unset, .unset, .unset, .unset, .unset, .unset, .unset, .unset, .unset, .unset, .unset] [(.int (p1 &&& (2147483647 : Int32)))])) (fun _ k => XS.iand X0.here hx rfl (hb hby at_3) rfl k) ?_
    refine own_step (g' := (mkF m 5 #[.val (.int p1), .val (.int p2), .val (.int p3), .unset, .unset, .unset, .unset, .unset, .unset, .unset, .unset, .unset, .unset, .unset] [(.int (3 : Int32)), (.int (p1 &&& (2147483647 : Int32)))])) (fun _ k => XS.iconst X0.here hx rfl (hb hby at_4) k) ?_
    refine own_step (g' := (mkF m 6 #[.val (.int p1), .val (.int p2), .val (.int p3), .unset, .unset, .unset, .unset, .unset, .unset, .unset, .unset, .unset, .unset, .unset] [(.int ((p1 &&& (2147483647 : Int32)) % (3 : Int32)))])) (fun _ k => own_irem X0.here hx rfl (hb hby at_5) rfl (by decide) k) ?_
    refine own_step (g' := (mkF m 7 #[.val (.int p1), .val (.int p2), .val (.int p3), .val (.int ((p1 &&& (2147483647 : Int32)) % (3 : Int32))), .unset, .unset, .unset, .unset, .unset, .unset, .unset, .unset, .unset, .unset] [])) (fun _ k => XS.istoreN X0.here hx rfl (hb hby at_6) rfl (l' := #[.val (.int p1), .val (.int p2), .val (.int p3), .val (.int ((p1 &&& (2147483647 : Int32)) % (3 : Int32))), .unset, .unset, .unset, .unset, .unset, .unset, .unset, .unset, .unset, .unset]) rfl k) ?_
    obtain ⟨T1, h1, X1, e1, Ex1, A1, D1, -, st1⟩ := newO X0 hx hZ hown (hw _ (List.mem_of_getElem? (i := 1) rfl)) (hw _ (List.mem_of_getElem? (i := 2) rfl)) (hw _ (List.mem_of_getElem? (i := 3) rfl)) e0 (g := (mkF m 7 #[.val (.int p1), .val (.int p2), .val (.int p3), .val (.int ((p1 &&& (2147483647 : Int32)) % (3 : Int32))), .unset, .unset, .unset, .unset, .unset, .unset, .unset, .unset, .unset, .unset] [])) rfl (hb hby at_7) (by decide) (by decide)
    obtain ⟨nb1, g1⟩ : ∃ z, z = h0.size := ⟨_, rfl⟩
    rw [← g1] at A1 D1 st1
    have g_nb1 : n0 ≤ nb1 := Nat.le_trans Z0 (Nat.le_of_eq g1.symm)
    have ne_ed_nb1 : ed ≠ nb1 := Nat.ne_of_lt (Nat.lt_of_lt_of_le Vd.lt (Nat.le_of_eq g1.symm))
    have hk := Nat.le_trans hk Ex1.1
    have hC := hC.trans (CHr.ext Ex1 hC.1)
    have F1_coder : Fld Z h1 nb1 "java/lang/String" "coder" "B" (.int (0 : Int32)) := D1 (Or.inr (hw _ (List.mem_of_getElem? (i := 28) rfl))) (ty := .byte) (by decide)
    have F1_value : Fld Z h1 nb1 "java/lang/String" "value" "[B" .null := D1 (Or.inr (hw _ (List.mem_of_getElem? (i := 30) rfl))) (ty := (.array .byte)) (by decide)
    refine own_via (g' := (mkF m 10 #[.val (.int p1), .val (.int p2), .val (.int p3), .val (.int ((p1 &&& (2147483647 : Int32)) % (3 : Int32))), .unset, .unset, .unset, .unset, .unset, .unset, .unset, .unset, .unset, .unset] [(.ref nb1)])) st1 ?_
    refine own_step (g' := (mkF m 11 #[.val (.int p1), .val (.int p2), .val (.int p3), .val (.int ((p1 &&& (2147483647 : Int32)) % (3 : Int32))), .unset, .unset, .unset, .unset, .unset, .unset, .unset, .unset, .unset, .unset] [(.ref nb1), (.ref nb1)])) (fun _ k => XS.dup X1.here hx rfl (hb hby at_10) rfl rfl k) ?_
    refine own_step (g' := (mkF m 12 #[.val (.int p1), .val (.int p2), .val (.int p3), .val (.int ((p1 &&& (2147483647 : Int32)) % (3 : Int32))), .unset, .unset, .unset, .unset, .unset, .unset, .unset, .unset, .unset, .unset] [(.int (2 : Int32)), (.ref nb1), (.ref nb1)])) (fun _ k => XS.iconst X1.here hx rfl (hb hby at_11) k) ?_
    have V_2 : Arv Z h1 ed kd (.object "java/lang/Object") (0 : Int32) [] .null := (Vd.ext Ex1)
    obtain ⟨T3, h3, k3, X3, e3, Ex3, A3, st3⟩ := newP X1 hx hZ (hw _ (List.mem_of_getElem? (i := 4) rfl)) e1 (g := (mkF m 12 #[.val (.int p1), .val (.int p2), .val (.int p3), .val (.int ((p1 &&& (2147483647 : Int32)) % (3 : Int32))), .unset, .unset, .unset, .unset, .unset, .unset, .unset, .unset, .unset, .unset] [(.int (2 : Int32)), (.ref nb1), (.ref nb1)])) rfl (hb hby at_12) rfl (by decide) (cap := 2) (by decide) (by decide) (by decide) (by decide)
    obtain ⟨nb3, g3⟩ : ∃ z, z = h1.size := ⟨_, rfl⟩
    rw [← g3] at A3 st3
    have V3 : Arv Z h3 nb3 k3 .char (2 : Int32) [(.int (0 : Int32)), (.int (0 : Int32))] (.int (0 : Int32)) := (Arv.new A3 (by decide)).pad (pad_rep [] (.int (0 : Int32)) 2)
    have g_nb3 : n0 ≤ nb3 := Nat.le_trans (Nat.le_trans Z0 Ex1.1) (Nat.le_of_eq g3.symm)
    have ne_ed_nb3 : ed ≠ nb3 := Nat.ne_of_lt (Nat.lt_of_lt_of_le V_2.lt (Nat.le_of_eq g3.symm))
    have ne_nb1_nb3 : nb1 ≠ nb3 := Nat.ne_of_lt (Nat.lt_of_lt_of_le A1.lt (Nat.le_of_eq g3.symm))
    have hk := Nat.le_trans hk Ex3.1
    have hC := hC.trans (CHr.ext Ex3 hC.1)
    refine own_via (g' := (mkF m 14 #[.val (.int p1), .val (.int p2), .val (.int p3), .val (.int ((p1 &&& (2147483647 : Int32)) % (3 : Int32))), .unset, .unset, .unset, .unset, .unset, .unset, .unset, .unset, .unset, .unset] [(.ref nb3), (.ref nb1), (.ref nb1)])) st3 ?_
    refine own_step (g' := (mkF m 15 #[.val (.int p1), .val (.int p2), .val (.int p3), .val (.int ((p1 &&& (2147483647 : Int32)) % (3 : Int32))), .unset, .unset, .unset, .unset, .unset, .unset, .unset, .unset, .unset, .unset] [(.ref nb3), (.ref nb3), (.ref nb1), (.ref nb1)])) (fun _ k => XS.dup X3.here hx rfl (hb hby at_14) rfl rfl k) ?_
    refine own_step (g' := (mkF m 16 #[.val (.int p1), .val (.int p2), .val (.int p3), .val (.int ((p1 &&& (2147483647 : Int32)) % (3 : Int32))), .unset, .unset, .unset, .unset, .unset, .unset, .unset, .unset, .unset, .unset] [(.int (0 : Int32)), (.ref nb3), (.ref nb3), (.ref nb1), (.ref nb1)])) (fun _ k => XS.iconst X3.here hx rfl (hb hby at_15) k) ?_
    refine own_step (g' := (mkF m 18 #[.val (.int p1), .val (.int p2), .val (.int p3), .val (.int ((p1 &&& (2147483647 : Int32)) % (3 : Int32))), .unset, .unset, .unset, .unset, .unset, .unset, .unset, .unset, .unset, .unset] [(.int (45 : Int32)), (.int (0 : Int32)), (.ref nb3), (.ref nb3), (.ref nb1), (.ref nb1)])) (fun _ k => XS.bipush X3.here hx rfl (hb hby at_16) k) ?_
    obtain ⟨cl4, Ar4, q4, S4, M4, H4, G4⟩ := id V3
    obtain ⟨T4, h4, X4, e4, W4, st4⟩ := stC X3 hx hZ e3 Ar4 (j := (0 : Int32)) (inb_of S4 ⟨by decide, by decide⟩)  (g := (mkF m 18 #[.val (.int p1), .val (.int p2), .val (.int p3), .val (.int ((p1 &&& (2147483647 : Int32)) % (3 : Int32))), .unset, .unset, .unset, .unset, .unset, .unset, .unset, .unset, .unset, .unset] [(.int (45 : Int32)), (.int (0 : Int32)), (.ref nb3), (.ref nb3), (.ref nb1), (.ref nb1)])) rfl rfl (hb hby at_18)
    have V4 : Arv Z h4 nb3 k3 .char (2 : Int32) [(.int (nar .char (45 : Int32))), (.int (0 : Int32))] (.int (0 : Int32)) := Arv.set Ar4 q4 S4 M4 H4 G4 (fits_nar_char _) W4 0 rfl (Nat.le_of_ble_eq_true rfl)
    have N4 := Fr.snoc X4 N0 g_nb3
    have hk := Nat.le_trans hk (Nat.le_of_eq W4.size.symm)
    have hC := hC.trans (CHr.wr W4 own_safe_nil hC.1)
    refine own_via (g' := (mkF m 19 #[.val (.int p1), .val (.int p2), .val (.int p3), .val (.int ((p1 &&& (2147483647 : Int32)) % (3 : Int32))), .unset, .unset, .unset, .unset, .unset, .unset, .unset, .unset, .unset, .unset] [(.ref nb3), (.ref nb1), (.ref nb1)])) st4 ?_
    refine own_step (g' := (mkF m 20 #[.val (.int p1), .val (.int p2), .val (.int p3), .val (.int ((p1 &&& (2147483647 : Int32)) % (3 : Int32))), .unset, .unset, .unset, .unset, .unset, .unset, .unset, .unset, .unset, .unset] [(.ref nb3), (.ref nb3), (.ref nb1), (.ref nb1)])) (fun _ k => XS.dup X4.here hx rfl (hb hby at_19) rfl rfl k) ?_
    refine own_step (g' := (mkF m 21 #[.val (.int p1), .val (.int p2), .val (.int p3), .val (.int ((p1 &&& (2147483647 : Int32)) % (3 : Int32))), .unset, .unset, .unset, .unset, .unset, .unset, .unset, .unset, .unset, .unset] [(.int (1 : Int32)), (.ref nb3), (.ref nb3), (.ref nb1), (.ref nb1)])) (fun _ k => XS.iconst X4.here hx rfl (hb hby at_20) k) ?_
    refine own_step (g' := (mkF m 22 #[.val (.int p1), .val (.int p2), .val (.int p3), .val (.int ((p1 &&& (2147483647 : Int32)) % (3 : Int32))), .unset, .unset, .unset, .unset, .unset, .unset, .unset, .unset, .unset, .unset] [(.int p2), (.int (1 : Int32)), (.ref nb3), (.ref nb3), (.ref nb1), (.ref nb1)])) (fun _ k => XS.iloadN X4.here hx rfl (hb hby at_21) rfl k) ?_
    refine own_step (g' := (mkF m 25 #[.val (.int p1), .val (.int p2), .val (.int p3), .val (.int ((p1 &&& (2147483647 : Int32)) % (3 : Int32))), .unset, .unset, .unset, .unset, .unset, .unset, .unset, .unset, .unset, .unset] [(.int (255 : Int32)), (.int p2), (.int (1 : Int32)), (.ref nb3), (.ref nb3), (.ref nb1), (.ref nb1)])) (fun _ k => XS.sipush X4.here hx rfl (hb hby at_22) k) ?_
    refine own_step (g' := (mkF m 26 #[.val (.int p1), .val (.int p2), .val (.int p3), .val (.int ((p1 &&& (2147483647 : Int32)) % (3 : Int32))), .unset, .unset, .unset, .unset, .unset, .unset, .unset, .unset, .unset, .unset] [(.int (p2 &&& (255 : Int32))), (.int (1 : Int32)), (.ref nb3), (.ref nb3), (.ref nb1), (.ref nb1)])) (fun _ k => XS.iand X4.here hx rfl (hb hby at_25) rfl k) ?_
    refine own_step (g' := (mkF m 27 #[.val (.int p1), .val (.int p2), .val (.int p3), .val (.int ((p1 &&& (2147483647 : Int32)) % (3 : Int32))), .unset, .unset, .unset, .unset, .unset, .unset, .unset, .unset, .unset, .unset] [(.int ((p2 &&& (255 : Int32)).toUInt32.toUInt16.toUInt32.toInt32)), (.int (1 : Int32)), (.ref nb3), (.ref nb3), (.ref nb1), (.ref nb1)])) (fun _ k => XS.i2c X4.here hx rfl (hb hby at_26) rfl k) ?_
    obtain ⟨cl5, Ar5, q5, S5, M5, H5, G5⟩ := id V4
    obtain ⟨T5, h5, X5, e5, W5, st5⟩ := stC X4 hx hZ e4 Ar5 (j := (1 : Int32)) (inb_of S5 ⟨by decide, by decide⟩)  (g := (mkF m 27 #[.val (.int p1), .val (.int p2), .val (.int p3), .val (.int ((p1 &&& (2147483647 : Int32)) % (3 : Int32))), .unset, .unset, .unset, .unset, .unset, .unset, .unset, .unset, .unset, .unset] [(.int ((p2 &&& (255 : Int32)).toUInt32.toUInt16.toUInt32.toInt32)), (.int (1 : Int32)), (.ref nb3), (.ref nb3), (.ref nb1), (.ref nb1)])) rfl rfl (hb hby at_27)
    have V5 : Arv Z h5 nb3 k3 .char (2 : Int32) [(.int (nar .char (45 : Int32))), (.int (nar .char ((p2 &&& (255 : Int32)).toUInt32.toUInt16.toUInt32.toInt32)))] (.int (0 : Int32)) := Arv.set Ar5 q5 S5 M5 H5 G5 (fits_nar_char _) W5 1 rfl (Nat.le_of_ble_eq_true rfl)
    have N5 := Fr.snoc X5 N4 g_nb3
    have hk := Nat.le_trans hk (Nat.le_of_eq W5.size.symm)
    have hC := hC.trans (CHr.wr W5 own_safe_nil hC.1)
    refine own_via (g' := (mkF m 28 #[.val (.int p1), .val (.int p2), .val (.int p3), .val (.int ((p1 &&& (2147483647 : Int32)) % (3 : Int32))), .unset, .unset, .unset, .unset, .unset, .unset, .unset, .unset, .unset, .unset] [(.ref nb3), (.ref nb1), (.ref nb1)])) st5 ?_
    have hlat6 : ∀ c ∈ [(nar .char (45 : Int32)), (nar .char ((p2 &&& (255 : Int32)).toUInt32.toUInt16.toUInt32.toInt32))], ¬ c < (0 : Int32) ∧ ¬ (255 : Int32) < c := by
      intro c hc
      simp only [List.mem_cons, List.not_mem_nil, or_false] at hc
      rcases hc with rfl | rfl
      · decide
      · exact own_latN _
    have C_7 : Exa Z h5 nb1 "java/lang/String" := (Exa.wr W5 (Exa.wr W4 (Exa.ext Ex3 A1)))
    have F_8 : Fld Z h5 nb1 "java/lang/String" "value" "[B" .null := (Fld.other W5 (Fld.other W4 (Fld.ext Ex3 F1_value) (Or.inl ne_nb1_nb3)) (Or.inl ne_nb1_nb3))
    have F_9 : Fld Z h5 nb1 "java/lang/String" "coder" "B" (.int (0 : Int32)) := (Fld.other W5 (Fld.other W4 (Fld.ext Ex3 F1_coder) (Or.inl ne_nb1_nb3)) (Or.inl ne_nb1_nb3))
    have S_10 : Sta Z h5 "java/lang/String" "COMPACT_STRINGS" "Z" (.int z) := (Sta.wr W5 (Sta.wr W4 (Sta.ext Ex3 (Sta.ext Ex1 S_CS))))
    refine own_initB X5 hx hZ (W := 1) hown e5 (StrChars.Road.backV (W := 1) hZ hws (kI := 4) (hw _ (List.mem_of_getElem? (i := 2) rfl)) (cs := [(nar .char (45 : Int32)), (nar .char ((p2 &&& (255 : Int32)).toUInt32.toUInt16.toUInt32.toInt32))]) (bs := [((nar .char (45 : Int32))).toInt8.toInt32, ((nar .char ((p2 &&& (255 : Int32)).toUInt32.toUInt16.toUInt32.toInt32))).toInt8.toInt32]) (n := 2) g_nb1 (Nat.le_trans (Nat.le_trans (Nat.le_trans (Nat.le_trans Z0 Ex1.1) Ex3.1) (Nat.le_of_eq W4.size.symm)) (Nat.le_of_eq W5.size.symm)) C_7 F_8 F_9 V5 S_10 hz rfl rfl (by decide) (by decide) hlat6 rfl (by decide) (by decide)) rfl (hw _ (List.mem_of_getElem? (i := 5) rfl)) (hw _ (List.mem_of_getElem? (i := 6) rfl)) (hw _ (List.mem_of_getElem? (i := 7) rfl)) (by decide) (g := (mkF m 28 #[.val (.int p1), .val (.int p2), .val (.int p3), .val (.int ((p1 &&& (2147483647 : Int32)) % (3 : Int32))), .unset, .unset, .unset, .unset, .unset, .unset, .unset, .unset, .unset, .unset] [(.ref nb3), (.ref nb1), (.ref nb1)])) rfl (by rw [hml]; rfl) (argsL := [(.ref nb3)]) (rest := [(.ref nb1)]) rfl (lenOf pd_8 rfl) rfl (by show 2 * 0 + _ ≤ _; exact Nat.le_of_eq rfl) (hb hby at_28) (by decide) (by decide) ?_
    intro v11 T11 L11 X11 hQ11
    obtain ⟨rfl, Nq11, Kq11, Cq11, -⟩ := hQ11
    have N11 := Fr.app N5 Nq11
    have hk := Nat.le_trans hk Kq11.1
    have hC := hC.trans (CHr.keep Kq11 (sfS own_safe_nil sf0) hC.1)
    show OGo p e below _ T11 (mkF m 31 #[.val (.int p1), .val (.int p2), .val (.int p3), .val (.int ((p1 &&& (2147483647 : Int32)) % (3 : Int32))), .unset, .unset, .unset, .unset, .unset, .unset, .unset, .unset, .unset, .unset] [(.ref nb1)])
    refine own_step (g' := (mkF m 33 #[.val (.int p1), .val (.int p2), .val (.int p3), .val (.int ((p1 &&& (2147483647 : Int32)) % (3 : Int32))), .val (.ref nb1), .unset, .unset, .unset, .unset, .unset, .unset, .unset, .unset, .unset] [])) (fun _ k => XS.astore X11.here hx rfl (hb hby at_31) rfl rfl (l' := #[.val (.int p1), .val (.int p2), .val (.int p3), .val (.int ((p1 &&& (2147483647 : Int32)) % (3 : Int32))), .val (.ref nb1), .unset, .unset, .unset, .unset, .unset, .unset, .unset, .unset, .unset]) rfl k) ?_
    have V_13 : Arv Z T11.heap ed kd (.object "java/lang/Object") (0 : Int32) [] .null := ((((V_2.ext Ex3).other W4 ne_ed_nb3).other W5 ne_ed_nb3).keep Kq11 (ninS ne_ed_nb1 nin0))
    obtain ⟨T12, h12, X12, e12, Ex12, A12, D12, -, st12⟩ := newO X11 hx hZ hown (hw _ (List.mem_of_getElem? (i := 1) rfl)) (hw _ (List.mem_of_getElem? (i := 2) rfl)) (hw _ (List.mem_of_getElem? (i := 3) rfl)) rfl (g := (mkF m 33 #[.val (.int p1), .val (.int p2), .val (.int p3), .val (.int ((p1 &&& (2147483647 : Int32)) % (3 : Int32))), .val (.ref nb1), .unset, .unset, .unset, .unset, .unset, .unset, .unset, .unset, .unset] [])) rfl (hb hby at_33) (by decide) (by decide)
    obtain ⟨nb12, g12⟩ : ∃ z, z = T11.heap.size := ⟨_, rfl⟩
    rw [← g12] at A12 D12 st12
    have g_nb12 : n0 ≤ nb12 := Nat.le_trans (Nat.le_trans (Nat.le_trans (Nat.le_trans (Nat.le_trans (Nat.le_trans Z0 Ex1.1) Ex3.1) (Nat.le_of_eq W4.size.symm)) (Nat.le_of_eq W5.size.symm)) Kq11.1) (Nat.le_of_eq g12.symm)
    have ne_ed_nb12 : ed ≠ nb12 := Nat.ne_of_lt (Nat.lt_of_lt_of_le V_13.lt (Nat.le_of_eq g12.symm))
    have ne_nb1_nb12 : nb1 ≠ nb12 := Nat.ne_of_lt (Nat.lt_of_lt_of_le Cq11.lt (Nat.le_of_eq g12.symm))
    have hk := Nat.le_trans hk Ex12.1
    have hC := hC.trans (CHr.ext Ex12 hC.1)
    have F12_coder : Fld Z h12 nb12 "java/lang/String" "coder" "B" (.int (0 : Int32)) := D12 (Or.inr (hw _ (List.mem_of_getElem? (i := 28) rfl))) (ty := .byte) (by decide)
    have F12_value : Fld Z h12 nb12 "java/lang/String" "value" "[B" .null := D12 (Or.inr (hw _ (List.mem_of_getElem? (i := 30) rfl))) (ty := (.array .byte)) (by decide)
    refine own_via (g' := (mkF m 36 #[.val (.int p1), .val (.int p2), .val (.int p3), .val (.int ((p1 &&& (2147483647 : Int32)) % (3 : Int32))), .val (.ref nb1), .unset, .unset, .unset, .unset, .unset, .unset, .unset, .unset, .unset] [(.ref nb12)])) st12 ?_
    refine own_step (g' := (mkF m 37 #[.val (.int p1), .val (.int p2), .val (.int p3), .val (.int ((p1 &&& (2147483647 : Int32)) % (3 : Int32))), .val (.ref nb1), .unset, .unset, .unset, .unset, .unset, .unset, .unset, .unset, .unset] [(.ref nb12), (.ref nb12)])) (fun _ k => XS.dup X12.here hx rfl (hb hby at_36) rfl rfl k) ?_
    refine own_step (g' := (mkF m 38 #[.val (.int p1), .val (.int p2), .val (.int p3), .val (.int ((p1 &&& (2147483647 : Int32)) % (3 : Int32))), .val (.ref nb1), .unset, .unset, .unset, .unset, .unset, .unset, .unset, .unset, .unset] [(.int (2 : Int32)), (.ref nb12), (.ref nb12)])) (fun _ k => XS.iconst X12.here hx rfl (hb hby at_37) k) ?_
    have V_14 : Arv Z h12 ed kd (.object "java/lang/Object") (0 : Int32) [] .null := (V_13.ext Ex12)
    have C_15 : Exa Z h12 nb1 "java/lang/String" := (Exa.ext Ex12 Cq11)
    obtain ⟨T16, h16, k16, X16, e16, Ex16, A16, st16⟩ := newP X12 hx hZ (hw _ (List.mem_of_getElem? (i := 4) rfl)) e12 (g := (mkF m 38 #[.val (.int p1), .val (.int p2), .val (.int p3), .val (.int ((p1 &&& (2147483647 : Int32)) % (3 : Int32))), .val (.ref nb1), .unset, .unset, .unset, .unset, .unset, .unset, .unset, .unset, .unset] [(.int (2 : Int32)), (.ref nb12), (.ref nb12)])) rfl (hb hby at_38) rfl (by decide) (cap := 2) (by decide) (by decide) (by decide) (by decide)
    obtain ⟨nb16, g16⟩ : ∃ z, z = h12.size := ⟨_, rfl⟩
    rw [← g16] at A16 st16
    have V16 : Arv Z h16 nb16 k16 .char (2 : Int32) [(.int (0 : Int32)), (.int (0 : Int32))] (.int (0 : Int32)) := (Arv.new A16 (by decide)).pad (pad_rep [] (.int (0 : Int32)) 2)
    have g_nb16 : n0 ≤ nb16 := Nat.le_trans (Nat.le_trans (Nat.le_trans (Nat.le_trans (Nat.le_trans (Nat.le_trans (Nat.le_trans Z0 Ex1.1) Ex3.1) (Nat.le_of_eq W4.size.symm)) (Nat.le_of_eq W5.size.symm)) Kq11.1) Ex12.1) (Nat.le_of_eq g16.symm)
    have ne_ed_nb16 : ed ≠ nb16 := Nat.ne_of_lt (Nat.lt_of_lt_of_le V_14.lt (Nat.le_of_eq g16.symm))
    have ne_nb1_nb16 : nb1 ≠ nb16 := Nat.ne_of_lt (Nat.lt_of_lt_of_le C_15.lt (Nat.le_of_eq g16.symm))
    have ne_nb12_nb16 : nb12 ≠ nb16 := Nat.ne_of_lt (Nat.lt_of_lt_of_le A12.lt (Nat.le_of_eq g16.symm))
    have hk := Nat.le_trans hk Ex16.1
    have hC := hC.trans (CHr.ext Ex16 hC.1)
    refine own_via (g' := (mkF m 40 #[.val (.int p1), .val (.int p2), .val (.int p3), .val (.int ((p1 &&& (2147483647 : Int32)) % (3 : Int32))), .val (.ref nb1), .unset, .unset, .unset, .unset, .unset, .unset, .unset, .unset, .unset] [(.ref nb16), (.ref nb12), (.ref nb12)])) st16 ?_
    refine own_step (g' := (mkF m 41 #[.val (.int p1), .val (.int p2), .val (.int p3), .val (.int ((p1 &&& (2147483647 : Int32)) % (3 : Int32))), .val (.ref nb1), .unset, .unset, .unset, .unset, .unset, .unset, .unset, .unset, .unset] [(.ref nb16), (.ref nb16), (.ref nb12), (.ref nb12)])) (fun _ k => XS.dup X16.here hx rfl (hb hby at_40) rfl rfl k) ?_
    refine own_step (g' := (mkF m 42 #[.val (.int p1), .val (.int p2), .val (.int p3), .val (.int ((p1 &&& (2147483647 : Int32)) % (3 : Int32))), .val (.ref nb1), .unset, .unset, .unset, .unset, .unset, .unset, .unset, .unset, .unset] [(.int (0 : Int32)), (.ref nb16), (.ref nb16), (.ref nb12), (.ref nb12)])) (fun _ k => XS.iconst X16.here hx rfl (hb hby at_41) k) ?_
    refine own_step (g' := (mkF m 44 #[.val (.int p1), .val (.int p2), .val (.int p3), .val (.int ((p1 &&& (2147483647 : Int32)) % (3 : Int32))), .val (.ref nb1), .unset, .unset, .unset, .unset, .unset, .unset, .unset, .unset, .unset] [(.int (45 : Int32)), (.int (0 : Int32)), (.ref nb16), (.ref nb16), (.ref nb12), (.ref nb12)])) (fun _ k => XS.bipush X16.here hx rfl (hb hby at_42) k) ?_
    obtain ⟨cl17, Ar17, q17, S17, M17, H17, G17⟩ := id V16
    obtain ⟨T17, h17, X17, e17, W17, st17⟩ := stC X16 hx hZ e16 Ar17 (j := (0 : Int32)) (inb_of S17 ⟨by decide, by decide⟩)  (g := (mkF m 44 #[.val (.int p1), .val (.int p2), .val (.int p3), .val (.int ((p1 &&& (2147483647 : Int32)) % (3 : Int32))), .val (.ref nb1), .unset, .unset, .unset, .unset, .unset, .unset, .unset, .unset, .unset] [(.int (45 : Int32)), (.int (0 : Int32)), (.ref nb16), (.ref nb16), (.ref nb12), (.ref nb12)])) rfl rfl (hb hby at_44)
    have V17 : Arv Z h17 nb16 k16 .char (2 : Int32) [(.int (nar .char (45 : Int32))), (.int (0 : Int32))] (.int (0 : Int32)) := Arv.set Ar17 q17 S17 M17 H17 G17 (fits_nar_char _) W17 0 rfl (Nat.le_of_ble_eq_true rfl)
    have N17 := Fr.snoc X17 N11 g_nb16
    have hk := Nat.le_trans hk (Nat.le_of_eq W17.size.symm)
    have hC := hC.trans (CHr.wr W17 own_safe_nil hC.1)
    refine own_via (g' := (mkF m 45 #[.val (.int p1), .val (.int p2), .val (.int p3), .val (.int ((p1 &&& (2147483647 : Int32)) % (3 : Int32))), .val (.ref nb1), .unset, .unset, .unset, .unset, .unset, .unset, .unset, .unset, .unset] [(.ref nb16), (.ref nb12), (.ref nb12)])) st17 ?_
    refine own_step (g' := (mkF m 46 #[.val (.int p1), .val (.int p2), .val (.int p3), .val (.int ((p1 &&& (2147483647 : Int32)) % (3 : Int32))), .val (.ref nb1), .unset, .unset, .unset, .unset, .unset, .unset, .unset, .unset, .unset] [(.ref nb16), (.ref nb16), (.ref nb12), (.ref nb12)])) (fun _ k => XS.dup X17.here hx rfl (hb hby at_45) rfl rfl k) ?_
    refine own_step (g' := (mkF m 47 #[.val (.int p1), .val (.int p2), .val (.int p3), .val (.int ((p1 &&& (2147483647 : Int32)) % (3 : Int32))), .val (.ref nb1), .unset, .unset, .unset, .unset, .unset, .unset, .unset, .unset, .unset] [(.int (1 : Int32)), (.ref nb16), (.ref nb16), (.ref nb12), (.ref nb12)])) (fun _ k => XS.iconst X17.here hx rfl (hb hby at_46) k) ?_
    refine own_step (g' := (mkF m 48 #[.val (.int p1), .val (.int p2), .val (.int p3), .val (.int ((p1 &&& (2147483647 : Int32)) % (3 : Int32))), .val (.ref nb1), .unset, .unset, .unset, .unset, .unset, .unset, .unset, .unset, .unset] [(.int p2), (.int (1 : Int32)), (.ref nb16), (.ref nb16), (.ref nb12), (.ref nb12)])) (fun _ k => XS.iloadN X17.here hx rfl (hb hby at_47) rfl k) ?_
    refine own_step (g' := (mkF m 50 #[.val (.int p1), .val (.int p2), .val (.int p3), .val (.int ((p1 &&& (2147483647 : Int32)) % (3 : Int32))), .val (.ref nb1), .unset, .unset, .unset, .unset, .unset, .unset, .unset, .unset, .unset] [(.int (8 : Int32)), (.int p2), (.int (1 : Int32)), (.ref nb16), (.ref nb16), (.ref nb12), (.ref nb12)])) (fun _ k => XS.bipush X17.here hx rfl (hb hby at_48) k) ?_
    refine own_step (g' := (mkF m 51 #[.val (.int p1), .val (.int p2), .val (.int p3), .val (.int ((p1 &&& (2147483647 : Int32)) % (3 : Int32))), .val (.ref nb1), .unset, .unset, .unset, .unset, .unset, .unset, .unset, .unset, .unset] [(.int ((p2.toUInt32 >>> ((8 : Int32) &&& 31).toUInt32).toInt32)), (.int (1 : Int32)), (.ref nb16), (.ref nb16), (.ref nb12), (.ref nb12)])) (fun _ k => XS.iushr X17.here hx rfl (hb hby at_50) rfl k) ?_
    refine own_step (g' := (mkF m 54 #[.val (.int p1), .val (.int p2), .val (.int p3), .val (.int ((p1 &&& (2147483647 : Int32)) % (3 : Int32))), .val (.ref nb1), .unset, .unset, .unset, .unset, .unset, .unset, .unset, .unset, .unset] [(.int (255 : Int32)), (.int ((p2.toUInt32 >>> ((8 : Int32) &&& 31).toUInt32).toInt32)), (.int (1 : Int32)), (.ref nb16), (.ref nb16), (.ref nb12), (.ref nb12)])) (fun _ k => XS.sipush X17.here hx rfl (hb hby at_51) k) ?_
    refine own_step (g' := (mkF m 55 #[.val (.int p1), .val (.int p2), .val (.int p3), .val (.int ((p1 &&& (2147483647 : Int32)) % (3 : Int32))), .val (.ref nb1), .unset, .unset, .unset, .unset, .unset, .unset, .unset, .unset, .unset] [(.int (((p2.toUInt32 >>> ((8 : Int32) &&& 31).toUInt32).toInt32) &&& (255 : Int32))), (.int (1 : Int32)), (.ref nb16), (.ref nb16), (.ref nb12), (.ref nb12)])) (fun _ k => XS.iand X17.here hx rfl (hb hby at_54) rfl k) ?_
    refine own_step (g' := (mkF m 56 #[.val (.int p1), .val (.int p2), .val (.int p3), .val (.int ((p1 &&& (2147483647 : Int32)) % (3 : Int32))), .val (.ref nb1), .unset, .unset, .unset, .unset, .unset, .unset, .unset, .unset, .unset] [(.int ((((p2.toUInt32 >>> ((8 : Int32) &&& 31).toUInt32).toInt32) &&& (255 : Int32)).toUInt32.toUInt16.toUInt32.toInt32)), (.int (1 : Int32)), (.ref nb16), (.ref nb16), (.ref nb12), (.ref nb12)])) (fun _ k => XS.i2c X17.here hx rfl (hb hby at_55) rfl k) ?_
    obtain ⟨cl18, Ar18, q18, S18, M18, H18, G18⟩ := id V17
    obtain ⟨T18, h18, X18, e18, W18, st18⟩ := stC X17 hx hZ e17 Ar18 (j := (1 : Int32)) (inb_of S18 ⟨by decide, by decide⟩)  (g := (mkF m 56 #[.val (.int p1), .val (.int p2), .val (.int p3), .val (.int ((p1 &&& (2147483647 : Int32)) % (3 : Int32))), .val (.ref nb1), .unset, .unset, .unset, .unset, .unset, .unset, .unset, .unset, .unset] [(.int ((((p2.toUInt32 >>> ((8 : Int32) &&& 31).toUInt32).toInt32) &&& (255 : Int32)).toUInt32.toUInt16.toUInt32.toInt32)), (.int (1 : Int32)), (.ref nb16), (.ref nb16), (.ref nb12), (.ref nb12)])) rfl rfl (hb hby at_56)
    have V18 : Arv Z h18 nb16 k16 .char (2 : Int32) [(.int (nar .char (45 : Int32))), (.int (nar .char ((((p2.toUInt32 >>> ((8 : Int32) &&& 31).toUInt32).toInt32) &&& (255 : Int32)).toUInt32.toUInt16.toUInt32.toInt32)))] (.int (0 : Int32)) := Arv.set Ar18 q18 S18 M18 H18 G18 (fits_nar_char _) W18 1 rfl (Nat.le_of_ble_eq_true rfl)
    have N18 := Fr.snoc X18 N17 g_nb16
    have hk := Nat.le_trans hk (Nat.le_of_eq W18.size.symm)
    have hC := hC.trans (CHr.wr W18 own_safe_nil hC.1)
    refine own_via (g' := (mkF m 57 #[.val (.int p1), .val (.int p2), .val (.int p3), .val (.int ((p1 &&& (2147483647 : Int32)) % (3 : Int32))), .val (.ref nb1), .unset, .unset, .unset, .unset, .unset, .unset, .unset, .unset, .unset] [(.ref nb16), (.ref nb12), (.ref nb12)])) st18 ?_
    have hlat19 : ∀ c ∈ [(nar .char (45 : Int32)), (nar .char ((((p2.toUInt32 >>> ((8 : Int32) &&& 31).toUInt32).toInt32) &&& (255 : Int32)).toUInt32.toUInt16.toUInt32.toInt32))], ¬ c < (0 : Int32) ∧ ¬ (255 : Int32) < c := by
      intro c hc
      simp only [List.mem_cons, List.not_mem_nil, or_false] at hc
      rcases hc with rfl | rfl
      · decide
      · exact own_latN _
    have C_20 : Exa Z h18 nb12 "java/lang/String" := (Exa.wr W18 (Exa.wr W17 (Exa.ext Ex16 A12)))
    have F_21 : Fld Z h18 nb12 "java/lang/String" "value" "[B" .null := (Fld.other W18 (Fld.other W17 (Fld.ext Ex16 F12_value) (Or.inl ne_nb12_nb16)) (Or.inl ne_nb12_nb16))
    have F_22 : Fld Z h18 nb12 "java/lang/String" "coder" "B" (.int (0 : Int32)) := (Fld.other W18 (Fld.other W17 (Fld.ext Ex16 F12_coder) (Or.inl ne_nb12_nb16)) (Or.inl ne_nb12_nb16))
    have S_23 : Sta Z h18 "java/lang/String" "COMPACT_STRINGS" "Z" (.int z) := (Sta.wr W18 (Sta.wr W17 (Sta.ext Ex16 (Sta.ext Ex12 (own_sta_keep S_10 Kq11 (allS (own_nsE C_7) all0))))))
    refine own_initB X18 hx hZ (W := 1) hown e18 (StrChars.Road.backV (W := 1) hZ hws (kI := 4) (hw _ (List.mem_of_getElem? (i := 2) rfl)) (cs := [(nar .char (45 : Int32)), (nar .char ((((p2.toUInt32 >>> ((8 : Int32) &&& 31).toUInt32).toInt32) &&& (255 : Int32)).toUInt32.toUInt16.toUInt32.toInt32))]) (bs := [((nar .char (45 : Int32))).toInt8.toInt32, ((nar .char ((((p2.toUInt32 >>> ((8 : Int32) &&& 31).toUInt32).toInt32) &&& (255 : Int32)).toUInt32.toUInt16.toUInt32.toInt32))).toInt8.toInt32]) (n := 2) g_nb12 (Nat.le_trans (Nat.le_trans (Nat.le_trans (Nat.le_trans (Nat.le_trans (Nat.le_trans (Nat.le_trans (Nat.le_trans (Nat.le_trans Z0 Ex1.1) Ex3.1) (Nat.le_of_eq W4.size.symm)) (Nat.le_of_eq W5.size.symm)) Kq11.1) Ex12.1) Ex16.1) (Nat.le_of_eq W17.size.symm)) (Nat.le_of_eq W18.size.symm)) C_20 F_21 F_22 V18 S_23 hz rfl rfl (by decide) (by decide) hlat19 rfl (by decide) (by decide)) rfl (hw _ (List.mem_of_getElem? (i := 5) rfl)) (hw _ (List.mem_of_getElem? (i := 6) rfl)) (hw _ (List.mem_of_getElem? (i := 7) rfl)) (by decide) (g := (mkF m 57 #[.val (.int p1), .val (.int p2), .val (.int p3), .val (.int ((p1 &&& (2147483647 : Int32)) % (3 : Int32))), .val (.ref nb1), .unset, .unset, .unset, .unset, .unset, .unset, .unset, .unset, .unset] [(.ref nb16), (.ref nb12), (.ref nb12)])) rfl (by rw [hml]; rfl) (argsL := [(.ref nb16)]) (rest := [(.ref nb12)]) rfl (lenOf pd_8 rfl) rfl (by show 2 * 0 + _ ≤ _; exact Nat.le_of_eq rfl) (hb hby at_57) (by decide) (by decide) ?_
    intro v24 T24 L24 X24 hQ24
    obtain ⟨rfl, Nq24, Kq24, Cq24, -⟩ := hQ24
    have N24 := Fr.app N18 Nq24
    have hk := Nat.le_trans hk Kq24.1
    have hC := hC.trans (CHr.keep Kq24 (sfS own_safe_nil sf0) hC.1)
    show OGo p e below _ T24 (mkF m 60 #[.val (.int p1), .val (.int p2), .val (.int p3), .val (.int ((p1 &&& (2147483647 : Int32)) % (3 : Int32))), .val (.ref nb1), .unset, .unset, .unset, .unset, .unset, .unset, .unset, .unset, .unset] [(.ref nb12)])
    refine own_step (g' := (mkF m 62 #[.val (.int p1), .val (.int p2), .val (.int p3), .val (.int ((p1 &&& (2147483647 : Int32)) % (3 : Int32))), .val (.ref nb1), .val (.ref nb12), .unset, .unset, .unset, .unset, .unset, .unset, .unset, .unset] [])) (fun _ k => XS.astore X24.here hx rfl (hb hby at_60) rfl rfl (l' := #[.val (.int p1), .val (.int p2), .val (.int p3), .val (.int ((p1 &&& (2147483647 : Int32)) % (3 : Int32))), .val (.ref nb1), .val (.ref nb12), .unset, .unset, .unset, .unset, .unset, .unset, .unset, .unset]) rfl k) ?_
    have V_26 : Arv Z T24.heap ed kd (.object "java/lang/Object") (0 : Int32) [] .null := ((((V_14.ext Ex16).other W17 ne_ed_nb16).other W18 ne_ed_nb16).keep Kq24 (ninS ne_ed_nb12 nin0))
    have C_27 : Exa Z T24.heap nb1 "java/lang/String" := ((Exa.wr W18 (Exa.wr W17 (Exa.ext Ex16 C_15))).keep Kq24)
    obtain ⟨T25, h25, X25, e25, Ex25, A25, D25, -, st25⟩ := newO X24 hx hZ hown (hw _ (List.mem_of_getElem? (i := 31) rfl)) (hw _ (List.mem_of_getElem? (i := 32) rfl)) (hw _ (List.mem_of_getElem? (i := 33) rfl)) rfl (g := (mkF m 62 #[.val (.int p1), .val (.int p2), .val (.int p3), .val (.int ((p1 &&& (2147483647 : Int32)) % (3 : Int32))), .val (.ref nb1), .val (.ref nb12), .unset, .unset, .unset, .unset, .unset, .unset, .unset, .unset] [])) rfl (hb hby at_62) (by decide) (by decide)
    obtain ⟨nb25, g25⟩ : ∃ z, z = T24.heap.size := ⟨_, rfl⟩
    rw [← g25] at A25 D25 st25
    have g_nb25 : n0 ≤ nb25 := Nat.le_trans (Nat.le_trans (Nat.le_trans (Nat.le_trans (Nat.le_trans (Nat.le_trans (Nat.le_trans (Nat.le_trans (Nat.le_trans (Nat.le_trans (Nat.le_trans Z0 Ex1.1) Ex3.1) (Nat.le_of_eq W4.size.symm)) (Nat.le_of_eq W5.size.symm)) Kq11.1) Ex12.1) Ex16.1) (Nat.le_of_eq W17.size.symm)) (Nat.le_of_eq W18.size.symm)) Kq24.1) (Nat.le_of_eq g25.symm)
    have ne_ed_nb25 : ed ≠ nb25 := Nat.ne_of_lt (Nat.lt_of_lt_of_le V_26.lt (Nat.le_of_eq g25.symm))
    have ne_nb1_nb25 : nb1 ≠ nb25 := Nat.ne_of_lt (Nat.lt_of_lt_of_le C_27.lt (Nat.le_of_eq g25.symm))
    have ne_nb12_nb25 : nb12 ≠ nb25 := Nat.ne_of_lt (Nat.lt_of_lt_of_le Cq24.lt (Nat.le_of_eq g25.symm))
    have hk := Nat.le_trans hk Ex25.1
    have hC := hC.trans (CHr.ext Ex25 hC.1)
    have F25_name : Fld Z h25 nb25 "com/example/handl/handl/cli/Arguments$Option" "name" "Ljava/lang/String;" .null := D25 (Or.inr (hw _ (List.mem_of_getElem? (i := 47) rfl))) (ty := (.object "java/lang/String")) (by decide)
    have F25_value : Fld Z h25 nb25 "com/example/handl/handl/cli/Arguments$Option" "value" "Ljava/lang/String;" .null := D25 (Or.inr (hw _ (List.mem_of_getElem? (i := 49) rfl))) (ty := (.object "java/lang/String")) (by decide)
    have F25_repeatable : Fld Z h25 nb25 "com/example/handl/handl/cli/Arguments$Option" "repeatable" "Z" (.int (0 : Int32)) := D25 (Or.inr (hw _ (List.mem_of_getElem? (i := 51) rfl))) (ty := .boolean) (by decide)
    have F25_joinable : Fld Z h25 nb25 "com/example/handl/handl/cli/Arguments$Option" "joinable" "Z" (.int (0 : Int32)) := D25 (Or.inr (hw _ (List.mem_of_getElem? (i := 53) rfl))) (ty := .boolean) (by decide)
    refine own_via (g' := (mkF m 65 #[.val (.int p1), .val (.int p2), .val (.int p3), .val (.int ((p1 &&& (2147483647 : Int32)) % (3 : Int32))), .val (.ref nb1), .val (.ref nb12), .unset, .unset, .unset, .unset, .unset, .unset, .unset, .unset] [(.ref nb25)])) st25 ?_
    refine own_step (g' := (mkF m 66 #[.val (.int p1), .val (.int p2), .val (.int p3), .val (.int ((p1 &&& (2147483647 : Int32)) % (3 : Int32))), .val (.ref nb1), .val (.ref nb12), .unset, .unset, .unset, .unset, .unset, .unset, .unset, .unset] [(.ref nb25), (.ref nb25)])) (fun _ k => XS.dup X25.here hx rfl (hb hby at_65) rfl rfl k) ?_
    refine own_step (g' := (mkF m 68 #[.val (.int p1), .val (.int p2), .val (.int p3), .val (.int ((p1 &&& (2147483647 : Int32)) % (3 : Int32))), .val (.ref nb1), .val (.ref nb12), .unset, .unset, .unset, .unset, .unset, .unset, .unset, .unset] [(.ref nb1), (.ref nb25), (.ref nb25)])) (fun _ k => XS.aload X25.here hx rfl (hb hby at_66) rfl rfl k) ?_
    obtain ⟨nb28, T28, h28, kk28, X28, e28, Ex28, hS, hk, hZ, hown, hC28, -, st28⟩ := ldcOH (vm0 := _) X25 hx hZ hown (hw _ (List.mem_of_getElem? (i := 34) rfl)) hwS e25 hS hk hEL hC.1 (g := (mkF m 68 #[.val (.int p1), .val (.int p2), .val (.int p3), .val (.int ((p1 &&& (2147483647 : Int32)) % (3 : Int32))), .val (.ref nb1), .val (.ref nb12), .unset, .unset, .unset, .unset, .unset, .unset, .unset, .unset] [(.ref nb1), (.ref nb25), (.ref nb25)])) rfl (hb hby at_68) (n := 28) (by decide) (by decide) (by decide) (by decide)
    have hC := hC.trans hC28
    refine own_via (g' := (mkF m 70 #[.val (.int p1), .val (.int p2), .val (.int p3), .val (.int ((p1 &&& (2147483647 : Int32)) % (3 : Int32))), .val (.ref nb1), .val (.ref nb12), .unset, .unset, .unset, .unset, .unset, .unset, .unset, .unset] [(.ref nb28), (.ref nb1), (.ref nb25), (.ref nb25)])) st28 ?_
    refine own_step (g' := (mkF m 71 #[.val (.int p1), .val (.int p2), .val (.int p3), .val (.int ((p1 &&& (2147483647 : Int32)) % (3 : Int32))), .val (.ref nb1), .val (.ref nb12), .unset, .unset, .unset, .unset, .unset, .unset, .unset, .unset] [(.int p3), (.ref nb28), (.ref nb1), (.ref nb25), (.ref nb25)])) (fun _ k => XS.iloadN X28.here hx rfl (hb hby at_70) rfl k) ?_
    refine own_step (g' := (mkF m 72 #[.val (.int p1), .val (.int p2), .val (.int p3), .val (.int ((p1 &&& (2147483647 : Int32)) % (3 : Int32))), .val (.ref nb1), .val (.ref nb12), .unset, .unset, .unset, .unset, .unset, .unset, .unset, .unset] [(.int (1 : Int32)), (.int p3), (.ref nb28), (.ref nb1), (.ref nb25), (.ref nb25)])) (fun _ k => XS.iconst X28.here hx rfl (hb hby at_71) k) ?_
    refine own_step (g' := (mkF m 73 #[.val (.int p1), .val (.int p2), .val (.int p3), .val (.int ((p1 &&& (2147483647 : Int32)) % (3 : Int32))), .val (.ref nb1), .val (.ref nb12), .unset, .unset, .unset, .unset, .unset, .unset, .unset, .unset] [(.int (p3 &&& (1 : Int32))), (.ref nb28), (.ref nb1), (.ref nb25), (.ref nb25)])) (fun _ k => XS.iand X28.here hx rfl (hb hby at_72) rfl k) ?_
    have Jb29 : ∀ b29 : Int32, (b29 = (0 : Int32) ∨ b29 = (1 : Int32)) → OGo p e below (OEndW Z ([]) s (Q0 n0) room_1.cells room_1.slots) T28 (mkF m 81 #[.val (.int p1), .val (.int p2), .val (.int p3), .val (.int ((p1 &&& (2147483647 : Int32)) % (3 : Int32))), .val (.ref nb1), .val (.ref nb12), .unset, .unset, .unset, .unset, .unset, .unset, .unset, .unset] [(.int b29), (.ref nb28), (.ref nb1), (.ref nb25), (.ref nb25)]) := by
      intro b29 hb29
      refine own_step (g' := (mkF m 82 #[.val (.int p1), .val (.int p2), .val (.int p3), .val (.int ((p1 &&& (2147483647 : Int32)) % (3 : Int32))), .val (.ref nb1), .val (.ref nb12), .unset, .unset, .unset, .unset, .unset, .unset, .unset, .unset] [(.int p3), (.int b29), (.ref nb28), (.ref nb1), (.ref nb25), (.ref nb25)])) (fun _ k => XS.iloadN X28.here hx rfl (hb hby at_81) rfl k) ?_
      refine own_step (g' := (mkF m 83 #[.val (.int p1), .val (.int p2), .val (.int p3), .val (.int ((p1 &&& (2147483647 : Int32)) % (3 : Int32))), .val (.ref nb1), .val (.ref nb12), .unset, .unset, .unset, .unset, .unset, .unset, .unset, .unset] [(.int (2 : Int32)), (.int p3), (.int b29), (.ref nb28), (.ref nb1), (.ref nb25), (.ref nb25)])) (fun _ k => XS.iconst X28.here hx rfl (hb hby at_82) k) ?_
      refine own_step (g' := (mkF m 84 #[.val (.int p1), .val (.int p2), .val (.int p3), .val (.int ((p1 &&& (2147483647 : Int32)) % (3 : Int32))), .val (.ref nb1), .val (.ref nb12), .unset, .unset, .unset, .unset, .unset, .unset, .unset, .unset] [(.int (p3 &&& (2 : Int32))), (.int b29), (.ref nb28), (.ref nb1), (.ref nb25), (.ref nb25)])) (fun _ k => XS.iand X28.here hx rfl (hb hby at_83) rfl k) ?_
      have Jb30 : ∀ b30 : Int32, (b30 = (0 : Int32) ∨ b30 = (1 : Int32)) → OGo p e below (OEndW Z ([]) s (Q0 n0) room_1.cells room_1.slots) T28 (mkF m 92 #[.val (.int p1), .val (.int p2), .val (.int p3), .val (.int ((p1 &&& (2147483647 : Int32)) % (3 : Int32))), .val (.ref nb1), .val (.ref nb12), .unset, .unset, .unset, .unset, .unset, .unset, .unset, .unset] [(.int b30), (.int b29), (.ref nb28), (.ref nb1), (.ref nb25), (.ref nb25)]) := by
        intro b30 hb30
        have C_32 : Exa Z h28 nb25 "com/example/handl/handl/cli/Arguments$Option" := (Exa.ext Ex28 A25)
        have F_33 : Fld Z h28 nb25 "com/example/handl/handl/cli/Arguments$Option" "name" "Ljava/lang/String;" .null := (Fld.ext Ex28 F25_name)
        have F_34 : Fld Z h28 nb25 "com/example/handl/handl/cli/Arguments$Option" "value" "Ljava/lang/String;" .null := (Fld.ext Ex28 F25_value)
        have F_35 : Fld Z h28 nb25 "com/example/handl/handl/cli/Arguments$Option" "repeatable" "Z" (.int (0 : Int32)) := (Fld.ext Ex28 F25_repeatable)
        have F_36 : Fld Z h28 nb25 "com/example/handl/handl/cli/Arguments$Option" "joinable" "Z" (.int (0 : Int32)) := (Fld.ext Ex28 F25_joinable)
        refine own_init X28 hx hZ (W := 1) hown e28 (rmOp l Z a0 hw [] nb25 nb1 nb28 b29 b30 h28 n0 (Nat.le_trans (Nat.le_trans (Nat.le_trans (Nat.le_trans (Nat.le_trans (Nat.le_trans (Nat.le_trans (Nat.le_trans (Nat.le_trans (Nat.le_trans (Nat.le_trans (Nat.le_trans Z0 Ex1.1) Ex3.1) (Nat.le_of_eq W4.size.symm)) (Nat.le_of_eq W5.size.symm)) Kq11.1) Ex12.1) Ex16.1) (Nat.le_of_eq W17.size.symm)) (Nat.le_of_eq W18.size.symm)) Kq24.1) Ex25.1) Ex28.1) g_nb25 C_32 F_33 F_34 F_35 F_36 hb29 hb30) rfl (hw _ (List.mem_of_getElem? (i := 37) rfl)) (hw _ (List.mem_of_getElem? (i := 38) rfl)) (hw _ (List.mem_of_getElem? (i := 39) rfl)) (hw _ (List.mem_of_getElem? (i := 33) rfl)) (by decide) (by decide) (by decide) (g := (mkF m 92 #[.val (.int p1), .val (.int p2), .val (.int p3), .val (.int ((p1 &&& (2147483647 : Int32)) % (3 : Int32))), .val (.ref nb1), .val (.ref nb12), .unset, .unset, .unset, .unset, .unset, .unset, .unset, .unset] [(.int b30), (.int b29), (.ref nb28), (.ref nb1), (.ref nb25), (.ref nb25)])) rfl (by rw [hml]; rfl) (argsL := [(.ref nb1), (.ref nb28), (.int b29), (.int b30)]) (rest := [(.ref nb25)]) rfl (lenOf pd_9 rfl) rfl (by show 2 * 0 + _ ≤ _; exact Nat.le_of_eq rfl) (hb hby at_92) (by decide) (by decide) ?_
        intro v37 T37 L37 X37 hQ37
        obtain ⟨rfl, Nq37, Kq37, Co31⟩ := hQ37
        have N37 := Fr.app N24 Nq37
        have hk := Nat.le_trans hk Kq37.1
        have hC := hC.trans (CHr.keep Kq37 (sfS own_safe_nil sf0) hC.1)
        show OGo p e below _ T37 (mkF m 95 #[.val (.int p1), .val (.int p2), .val (.int p3), .val (.int ((p1 &&& (2147483647 : Int32)) % (3 : Int32))), .val (.ref nb1), .val (.ref nb12), .unset, .unset, .unset, .unset, .unset, .unset, .unset, .unset] [(.ref nb25)])
        refine own_step (g' := (mkF m 97 #[.val (.int p1), .val (.int p2), .val (.int p3), .val (.int ((p1 &&& (2147483647 : Int32)) % (3 : Int32))), .val (.ref nb1), .val (.ref nb12), .val (.ref nb25), .unset, .unset, .unset, .unset, .unset, .unset, .unset] [])) (fun _ k => XS.astore X37.here hx rfl (hb hby at_95) rfl rfl (l' := #[.val (.int p1), .val (.int p2), .val (.int p3), .val (.int ((p1 &&& (2147483647 : Int32)) % (3 : Int32))), .val (.ref nb1), .val (.ref nb12), .val (.ref nb25), .unset, .unset, .unset, .unset, .unset, .unset, .unset]) rfl k) ?_
        have V_39 : Arv Z T37.heap ed kd (.object "java/lang/Object") (0 : Int32) [] .null := (((V_26.ext Ex25).ext Ex28).keep Kq37 (ninS ne_ed_nb25 nin0))
        have C_40 : Exa Z T37.heap nb1 "java/lang/String" := ((Exa.ext Ex28 (Exa.ext Ex25 C_27)).keep Kq37)
        have C_41 : Exa Z T37.heap nb12 "java/lang/String" := ((Exa.ext Ex28 (Exa.ext Ex25 Cq24)).keep Kq37)
        obtain ⟨T38, h38, X38, e38, Ex38, A38, D38, -, st38⟩ := newO X37 hx hZ hown (hw _ (List.mem_of_getElem? (i := 31) rfl)) (hw _ (List.mem_of_getElem? (i := 32) rfl)) (hw _ (List.mem_of_getElem? (i := 33) rfl)) rfl (g := (mkF m 97 #[.val (.int p1), .val (.int p2), .val (.int p3), .val (.int ((p1 &&& (2147483647 : Int32)) % (3 : Int32))), .val (.ref nb1), .val (.ref nb12), .val (.ref nb25), .unset, .unset, .unset, .unset, .unset, .unset, .unset] [])) rfl (hb hby at_97) (by decide) (by decide)
        obtain ⟨nb38, g38⟩ : ∃ z, z = T37.heap.size := ⟨_, rfl⟩
        rw [← g38] at A38 D38 st38
        have g_nb38 : n0 ≤ nb38 := Nat.le_trans (Nat.le_trans (Nat.le_trans (Nat.le_trans (Nat.le_trans (Nat.le_trans (Nat.le_trans (Nat.le_trans (Nat.le_trans (Nat.le_trans (Nat.le_trans (Nat.le_trans (Nat.le_trans (Nat.le_trans Z0 Ex1.1) Ex3.1) (Nat.le_of_eq W4.size.symm)) (Nat.le_of_eq W5.size.symm)) Kq11.1) Ex12.1) Ex16.1) (Nat.le_of_eq W17.size.symm)) (Nat.le_of_eq W18.size.symm)) Kq24.1) Ex25.1) Ex28.1) Kq37.1) (Nat.le_of_eq g38.symm)
        have ne_ed_nb38 : ed ≠ nb38 := Nat.ne_of_lt (Nat.lt_of_lt_of_le V_39.lt (Nat.le_of_eq g38.symm))
        have ne_nb1_nb38 : nb1 ≠ nb38 := Nat.ne_of_lt (Nat.lt_of_lt_of_le C_40.lt (Nat.le_of_eq g38.symm))
        have ne_nb12_nb38 : nb12 ≠ nb38 := Nat.ne_of_lt (Nat.lt_of_lt_of_le C_41.lt (Nat.le_of_eq g38.symm))
        have ne_nb25_nb38 : nb25 ≠ nb38 := Nat.ne_of_lt (Nat.lt_of_lt_of_le Co31.lt (Nat.le_of_eq g38.symm))
        have hk := Nat.le_trans hk Ex38.1
        have hC := hC.trans (CHr.ext Ex38 hC.1)
        have F38_name : Fld Z h38 nb38 "com/example/handl/handl/cli/Arguments$Option" "name" "Ljava/lang/String;" .null := D38 (Or.inr (hw _ (List.mem_of_getElem? (i := 47) rfl))) (ty := (.object "java/lang/String")) (by decide)
        have F38_value : Fld Z h38 nb38 "com/example/handl/handl/cli/Arguments$Option" "value" "Ljava/lang/String;" .null := D38 (Or.inr (hw _ (List.mem_of_getElem? (i := 49) rfl))) (ty := (.object "java/lang/String")) (by decide)
        have F38_repeatable : Fld Z h38 nb38 "com/example/handl/handl/cli/Arguments$Option" "repeatable" "Z" (.int (0 : Int32)) := D38 (Or.inr (hw _ (List.mem_of_getElem? (i := 51) rfl))) (ty := .boolean) (by decide)
        have F38_joinable : Fld Z h38 nb38 "com/example/handl/handl/cli/Arguments$Option" "joinable" "Z" (.int (0 : Int32)) := D38 (Or.inr (hw _ (List.mem_of_getElem? (i := 53) rfl))) (ty := .boolean) (by decide)
        refine own_via (g' := (mkF m 100 #[.val (.int p1), .val (.int p2), .val (.int p3), .val (.int ((p1 &&& (2147483647 : Int32)) % (3 : Int32))), .val (.ref nb1), .val (.ref nb12), .val (.ref nb25), .unset, .unset, .unset, .unset, .unset, .unset, .unset] [(.ref nb38)])) st38 ?_
        refine own_step (g' := (mkF m 101 #[.val (.int p1), .val (.int p2), .val (.int p3), .val (.int ((p1 &&& (2147483647 : Int32)) % (3 : Int32))), .val (.ref nb1), .val (.ref nb12), .val (.ref nb25), .unset, .unset, .unset, .unset, .unset, .unset, .unset] [(.ref nb38), (.ref nb38)])) (fun _ k => XS.dup X38.here hx rfl (hb hby at_100) rfl rfl k) ?_
        refine own_step (g' := (mkF m 103 #[.val (.int p1), .val (.int p2), .val (.int p3), .val (.int ((p1 &&& (2147483647 : Int32)) % (3 : Int32))), .val (.ref nb1), .val (.ref nb12), .val (.ref nb25), .unset, .unset, .unset, .unset, .unset, .unset, .unset] [(.ref nb12), (.ref nb38), (.ref nb38)])) (fun _ k => XS.aload X38.here hx rfl (hb hby at_101) rfl rfl k) ?_
        obtain ⟨nb42, T42, h42, kk42, X42, e42, Ex42, hS, hk, hZ, hown, hC42, -, st42⟩ := ldcOH (vm0 := _) X38 hx hZ hown (hw _ (List.mem_of_getElem? (i := 54) rfl)) hwS e38 hS hk hEL hC.1 (g := (mkF m 103 #[.val (.int p1), .val (.int p2), .val (.int p3), .val (.int ((p1 &&& (2147483647 : Int32)) % (3 : Int32))), .val (.ref nb1), .val (.ref nb12), .val (.ref nb25), .unset, .unset, .unset, .unset, .unset, .unset, .unset] [(.ref nb12), (.ref nb38), (.ref nb38)])) rfl (hb hby at_103) (n := 32) (by decide) (by decide) (by decide) (by decide)
        have hC := hC.trans hC42
        refine own_via (g' := (mkF m 105 #[.val (.int p1), .val (.int p2), .val (.int p3), .val (.int ((p1 &&& (2147483647 : Int32)) % (3 : Int32))), .val (.ref nb1), .val (.ref nb12), .val (.ref nb25), .unset, .unset, .unset, .unset, .unset, .unset, .unset] [(.ref nb42), (.ref nb12), (.ref nb38), (.ref nb38)])) st42 ?_
        refine own_step (g' := (mkF m 106 #[.val (.int p1), .val (.int p2), .val (.int p3), .val (.int ((p1 &&& (2147483647 : Int32)) % (3 : Int32))), .val (.ref nb1), .val (.ref nb12), .val (.ref nb25), .unset, .unset, .unset, .unset, .unset, .unset, .unset] [(.int p3), (.ref nb42), (.ref nb12), (.ref nb38), (.ref nb38)])) (fun _ k => XS.iloadN X42.here hx rfl (hb hby at_105) rfl k) ?_
        refine own_step (g' := (mkF m 107 #[.val (.int p1), .val (.int p2), .val (.int p3), .val (.int ((p1 &&& (2147483647 : Int32)) % (3 : Int32))), .val (.ref nb1), .val (.ref nb12), .val (.ref nb25), .unset, .unset, .unset, .unset, .unset, .unset, .unset] [(.int (4 : Int32)), (.int p3), (.ref nb42), (.ref nb12), (.ref nb38), (.ref nb38)])) (fun _ k => XS.iconst X42.here hx rfl (hb hby at_106) k) ?_
        refine own_step (g' := (mkF m 108 #[.val (.int p1), .val (.int p2), .val (.int p3), .val (.int ((p1 &&& (2147483647 : Int32)) % (3 : Int32))), .val (.ref nb1), .val (.ref nb12), .val (.ref nb25), .unset, .unset, .unset, .unset, .unset, .unset, .unset] [(.int (p3 &&& (4 : Int32))), (.ref nb42), (.ref nb12), (.ref nb38), (.ref nb38)])) (fun _ k => XS.iand X42.here hx rfl (hb hby at_107) rfl k) ?_
        have Jb43 : ∀ b43 : Int32, (b43 = (0 : Int32) ∨ b43 = (1 : Int32)) → OGo p e below (OEndW Z ([]) s (Q0 n0) room_1.cells room_1.slots) T42 (mkF m 116 #[.val (.int p1), .val (.int p2), .val (.int p3), .val (.int ((p1 &&& (2147483647 : Int32)) % (3 : Int32))), .val (.ref nb1), .val (.ref nb12), .val (.ref nb25), .unset, .unset, .unset, .unset, .unset, .unset, .unset] [(.int b43), (.ref nb42), (.ref nb12), (.ref nb38), (.ref nb38)]) := by
          intro b43 hb43
          refine own_step (g' := (mkF m 117 #[.val (.int p1), .val (.int p2), .val (.int p3), .val (.int ((p1 &&& (2147483647 : Int32)) % (3 : Int32))), .val (.ref nb1), .val (.ref nb12), .val (.ref nb25), .unset, .unset, .unset, .unset, .unset, .unset, .unset] [(.int p3), (.int b43), (.ref nb42), (.ref nb12), (.ref nb38), (.ref nb38)])) (fun _ k => XS.iloadN X42.here hx rfl (hb hby at_116) rfl k) ?_
          refine own_step (g' := (mkF m 119 #[.val (.int p1), .val (.int p2), .val (.int p3), .val (.int ((p1 &&& (2147483647 : Int32)) % (3 : Int32))), .val (.ref nb1), .val (.ref nb12), .val (.ref nb25), .unset, .unset, .unset, .unset, .unset, .unset, .unset] [(.int (8 : Int32)), (.int p3), (.int b43), (.ref nb42), (.ref nb12), (.ref nb38), (.ref nb38)])) (fun _ k => XS.bipush X42.here hx rfl (hb hby at_117) k) ?_
          refine own_step (g' := (mkF m 120 #[.val (.int p1), .val (.int p2), .val (.int p3), .val (.int ((p1 &&& (2147483647 : Int32)) % (3 : Int32))), .val (.ref nb1), .val (.ref nb12), .val (.ref nb25), .unset, .unset, .unset, .unset, .unset, .unset, .unset] [(.int (p3 &&& (8 : Int32))), (.int b43), (.ref nb42), (.ref nb12), (.ref nb38), (.ref nb38)])) (fun _ k => XS.iand X42.here hx rfl (hb hby at_119) rfl k) ?_
          have Jb44 : ∀ b44 : Int32, (b44 = (0 : Int32) ∨ b44 = (1 : Int32)) → OGo p e below (OEndW Z ([]) s (Q0 n0) room_1.cells room_1.slots) T42 (mkF m 128 #[.val (.int p1), .val (.int p2), .val (.int p3), .val (.int ((p1 &&& (2147483647 : Int32)) % (3 : Int32))), .val (.ref nb1), .val (.ref nb12), .val (.ref nb25), .unset, .unset, .unset, .unset, .unset, .unset, .unset] [(.int b44), (.int b43), (.ref nb42), (.ref nb12), (.ref nb38), (.ref nb38)]) := by
            intro b44 hb44
            have C_46 : Exa Z h42 nb38 "com/example/handl/handl/cli/Arguments$Option" := (Exa.ext Ex42 A38)
            have F_47 : Fld Z h42 nb38 "com/example/handl/handl/cli/Arguments$Option" "name" "Ljava/lang/String;" .null := (Fld.ext Ex42 F38_name)
            have F_48 : Fld Z h42 nb38 "com/example/handl/handl/cli/Arguments$Option" "value" "Ljava/lang/String;" .null := (Fld.ext Ex42 F38_value)
            have F_49 : Fld Z h42 nb38 "com/example/handl/handl/cli/Arguments$Option" "repeatable" "Z" (.int (0 : Int32)) := (Fld.ext Ex42 F38_repeatable)
            have F_50 : Fld Z h42 nb38 "com/example/handl/handl/cli/Arguments$Option" "joinable" "Z" (.int (0 : Int32)) := (Fld.ext Ex42 F38_joinable)
            refine own_init X42 hx hZ (W := 1) hown e42 (rmOp l Z a0 hw [] nb38 nb12 nb42 b43 b44 h42 n0 (Nat.le_trans (Nat.le_trans (Nat.le_trans (Nat.le_trans (Nat.le_trans (Nat.le_trans (Nat.le_trans (Nat.le_trans (Nat.le_trans (Nat.le_trans (Nat.le_trans (Nat.le_trans (Nat.le_trans (Nat.le_trans (Nat.le_trans Z0 Ex1.1) Ex3.1) (Nat.le_of_eq W4.size.symm)) (Nat.le_of_eq W5.size.symm)) Kq11.1) Ex12.1) Ex16.1) (Nat.le_of_eq W17.size.symm)) (Nat.le_of_eq W18.size.symm)) Kq24.1) Ex25.1) Ex28.1) Kq37.1) Ex38.1) Ex42.1) g_nb38 C_46 F_47 F_48 F_49 F_50 hb43 hb44) rfl (hw _ (List.mem_of_getElem? (i := 37) rfl)) (hw _ (List.mem_of_getElem? (i := 38) rfl)) (hw _ (List.mem_of_getElem? (i := 39) rfl)) (hw _ (List.mem_of_getElem? (i := 33) rfl)) (by decide) (by decide) (by decide) (g := (mkF m 128 #[.val (.int p1), .val (.int p2), .val (.int p3), .val (.int ((p1 &&& (2147483647 : Int32)) % (3 : Int32))), .val (.ref nb1), .val (.ref nb12), .val (.ref nb25), .unset, .unset, .unset, .unset, .unset, .unset, .unset] [(.int b44), (.int b43), (.ref nb42), (.ref nb12), (.ref nb38), (.ref nb38)])) rfl (by rw [hml]; rfl) (argsL := [(.ref nb12), (.ref nb42), (.int b43), (.int b44)]) (rest := [(.ref nb38)]) rfl (lenOf pd_9 rfl) rfl (by show 2 * 0 + _ ≤ _; exact Nat.le_of_eq rfl) (hb hby at_128) (by decide) (by decide) ?_
            intro v51 T51 L51 X51 hQ51
            obtain ⟨rfl, Nq51, Kq51, Co45⟩ := hQ51
            have N51 := Fr.app N37 Nq51
            have hk := Nat.le_trans hk Kq51.1
            have hC := hC.trans (CHr.keep Kq51 (sfS own_safe_nil sf0) hC.1)
            show OGo p e below _ T51 (mkF m 131 #[.val (.int p1), .val (.int p2), .val (.int p3), .val (.int ((p1 &&& (2147483647 : Int32)) % (3 : Int32))), .val (.ref nb1), .val (.ref nb12), .val (.ref nb25), .unset, .unset, .unset, .unset, .unset, .unset, .unset] [(.ref nb38)])
            refine own_step (g' := (mkF m 133 #[.val (.int p1), .val (.int p2), .val (.int p3), .val (.int ((p1 &&& (2147483647 : Int32)) % (3 : Int32))), .val (.ref nb1), .val (.ref nb12), .val (.ref nb25), .val (.ref nb38), .unset, .unset, .unset, .unset, .unset, .unset] [])) (fun _ k => XS.astore X51.here hx rfl (hb hby at_131) rfl rfl (l' := #[.val (.int p1), .val (.int p2), .val (.int p3), .val (.int ((p1 &&& (2147483647 : Int32)) % (3 : Int32))), .val (.ref nb1), .val (.ref nb12), .val (.ref nb25), .val (.ref nb38), .unset, .unset, .unset, .unset, .unset, .unset]) rfl k) ?_
            have V_53 : Arv Z T51.heap ed kd (.object "java/lang/Object") (0 : Int32) [] .null := (((V_39.ext Ex38).ext Ex42).keep Kq51 (ninS ne_ed_nb38 nin0))
            have C_54 : Exa Z T51.heap nb1 "java/lang/String" := ((Exa.ext Ex42 (Exa.ext Ex38 C_40)).keep Kq51)
            have C_55 : Exa Z T51.heap nb12 "java/lang/String" := ((Exa.ext Ex42 (Exa.ext Ex38 C_41)).keep Kq51)
            have C_56 : Exa Z T51.heap nb25 "com/example/handl/handl/cli/Arguments$Option" := ((Exa.ext Ex42 (Exa.ext Ex38 Co31)).keep Kq51)
            obtain ⟨T52, h52, X52, e52, Ex52, A52, D52, -, st52⟩ := newO X51 hx hZ hown (hw _ (List.mem_of_getElem? (i := 55) rfl)) (hw _ (List.mem_of_getElem? (i := 56) rfl)) (hw _ (List.mem_of_getElem? (i := 57) rfl)) rfl (g := (mkF m 133 #[.val (.int p1), .val (.int p2), .val (.int p3), .val (.int ((p1 &&& (2147483647 : Int32)) % (3 : Int32))), .val (.ref nb1), .val (.ref nb12), .val (.ref nb25), .val (.ref nb38), .unset, .unset, .unset, .unset, .unset, .unset] [])) rfl (hb hby at_133) (by decide) (by decide)
            obtain ⟨nb52, g52⟩ : ∃ z, z = T51.heap.size := ⟨_, rfl⟩
            rw [← g52] at A52 D52 st52
            have g_nb52 : n0 ≤ nb52 := Nat.le_trans (Nat.le_trans (Nat.le_trans (Nat.le_trans (Nat.le_trans (Nat.le_trans (Nat.le_trans (Nat.le_trans (Nat.le_trans (Nat.le_trans (Nat.le_trans (Nat.le_trans (Nat.le_trans (Nat.le_trans (Nat.le_trans (Nat.le_trans (Nat.le_trans Z0 Ex1.1) Ex3.1) (Nat.le_of_eq W4.size.symm)) (Nat.le_of_eq W5.size.symm)) Kq11.1) Ex12.1) Ex16.1) (Nat.le_of_eq W17.size.symm)) (Nat.le_of_eq W18.size.symm)) Kq24.1) Ex25.1) Ex28.1) Kq37.1) Ex38.1) Ex42.1) Kq51.1) (Nat.le_of_eq g52.symm)
            have ne_ed_nb52 : ed ≠ nb52 := Nat.ne_of_lt (Nat.lt_of_lt_of_le V_53.lt (Nat.le_of_eq g52.symm))
            have ne_nb1_nb52 : nb1 ≠ nb52 := Nat.ne_of_lt (Nat.lt_of_lt_of_le C_54.lt (Nat.le_of_eq g52.symm))
            have ne_nb12_nb52 : nb12 ≠ nb52 := Nat.ne_of_lt (Nat.lt_of_lt_of_le C_55.lt (Nat.le_of_eq g52.symm))
            have ne_nb25_nb52 : nb25 ≠ nb52 := Nat.ne_of_lt (Nat.lt_of_lt_of_le C_56.lt (Nat.le_of_eq g52.symm))
            have ne_nb38_nb52 : nb38 ≠ nb52 := Nat.ne_of_lt (Nat.lt_of_lt_of_le Co45.lt (Nat.le_of_eq g52.symm))
            have hk := Nat.le_trans hk Ex52.1
            have hC := hC.trans (CHr.ext Ex52 hC.1)
            have F52_modCount : Fld Z h52 nb52 "java/util/AbstractList" "modCount" "I" (.int (0 : Int32)) := D52 (Or.inl (hw _ (List.mem_of_getElem? (i := 75) rfl))) (ty := .int) (by decide)
            have F52_elementData : Fld Z h52 nb52 "java/util/ArrayList" "elementData" "[Ljava/lang/Object;" .null := D52 (Or.inl (hw _ (List.mem_of_getElem? (i := 78) rfl))) (ty := (.array (.object "java/lang/Object"))) (by decide)
            have F52_size : Fld Z h52 nb52 "java/util/ArrayList" "size" "I" (.int (0 : Int32)) := D52 (Or.inl (hw _ (List.mem_of_getElem? (i := 117) rfl))) (ty := .int) (by decide)
            refine own_via (g' := (mkF m 136 #[.val (.int p1), .val (.int p2), .val (.int p3), .val (.int ((p1 &&& (2147483647 : Int32)) % (3 : Int32))), .val (.ref nb1), .val (.ref nb12), .val (.ref nb25), .val (.ref nb38), .unset, .unset, .unset, .unset, .unset, .unset] [(.ref nb52)])) st52 ?_
            refine own_step (g' := (mkF m 137 #[.val (.int p1), .val (.int p2), .val (.int p3), .val (.int ((p1 &&& (2147483647 : Int32)) % (3 : Int32))), .val (.ref nb1), .val (.ref nb12), .val (.ref nb25), .val (.ref nb38), .unset, .unset, .unset, .unset, .unset, .unset] [(.ref nb52), (.ref nb52)])) (fun _ k => XS.dup X52.here hx rfl (hb hby at_136) rfl rfl k) ?_
            have S_58 : Sta Z h52 "java/util/ArrayList" "DEFAULTCAPACITY_EMPTY_ELEMENTDATA" "[Ljava/lang/Object;" (.ref ed) := (Sta.ext Ex52 (own_sta_keep (Sta.ext Ex42 (Sta.ext Ex38 (own_sta_keep (Sta.ext Ex28 (Sta.ext Ex25 (own_sta_keep (Sta.wr W18 (Sta.wr W17 (Sta.ext Ex16 (Sta.ext Ex12 (own_sta_keep (Sta.wr W5 (Sta.wr W4 (Sta.ext Ex3 (Sta.ext Ex1 S_DC)))) Kq11 (allS (own_nsE C_7) all0)))))) Kq24 (allS (own_nsE C_20) all0)))) Kq37 (allS (own_nsE C_32) all0)))) Kq51 (allS (own_nsE C_46) all0)))
            refine own_init X52 hx hZ (W := 1) hown e52 (rmAL l Z a0 hw [] nb52 ed h52 n0 (Nat.le_trans (Nat.le_trans (Nat.le_trans (Nat.le_trans (Nat.le_trans (Nat.le_trans (Nat.le_trans (Nat.le_trans (Nat.le_trans (Nat.le_trans (Nat.le_trans (Nat.le_trans (Nat.le_trans (Nat.le_trans (Nat.le_trans (Nat.le_trans (Nat.le_trans Z0 Ex1.1) Ex3.1) (Nat.le_of_eq W4.size.symm)) (Nat.le_of_eq W5.size.symm)) Kq11.1) Ex12.1) Ex16.1) (Nat.le_of_eq W17.size.symm)) (Nat.le_of_eq W18.size.symm)) Kq24.1) Ex25.1) Ex28.1) Kq37.1) Ex38.1) Ex42.1) Kq51.1) Ex52.1) S_58 g_nb52 A52 F52_modCount F52_elementData F52_size) rfl (hw _ (List.mem_of_getElem? (i := 58) rfl)) (hw _ (List.mem_of_getElem? (i := 59) rfl)) (hw _ (List.mem_of_getElem? (i := 60) rfl)) (hw _ (List.mem_of_getElem? (i := 57) rfl)) (by decide) (by decide) (by decide) (g := (mkF m 137 #[.val (.int p1), .val (.int p2), .val (.int p3), .val (.int ((p1 &&& (2147483647 : Int32)) % (3 : Int32))), .val (.ref nb1), .val (.ref nb12), .val (.ref nb25), .val (.ref nb38), .unset, .unset, .unset, .unset, .unset, .unset] [(.ref nb52), (.ref nb52)])) rfl (by rw [hml]; rfl) (argsL := []) (rest := [(.ref nb52)]) rfl (lenOf pd_0 rfl) rfl (by show 2 * 0 + _ ≤ _; exact Nat.le_of_eq rfl) (hb hby at_137) (by decide) (by decide) ?_
            intro v59 T59 L59 X59 hQ59
            obtain ⟨rfl, Nq59, Kq59, Cl57, F1l57, F2l57, F3l57⟩ := hQ59
            have N59 := Fr.app N51 Nq59
            have hk := Nat.le_trans hk Kq59.1
            have hC := hC.trans (CHr.keep Kq59 (sfS own_safe_nil sf0) hC.1)
            show OGo p e below _ T59 (mkF m 140 #[.val (.int p1), .val (.int p2), .val (.int p3), .val (.int ((p1 &&& (2147483647 : Int32)) % (3 : Int32))), .val (.ref nb1), .val (.ref nb12), .val (.ref nb25), .val (.ref nb38), .unset, .unset, .unset, .unset, .unset, .unset] [(.ref nb52)])
            refine own_step (g' := (mkF m 142 #[.val (.int p1), .val (.int p2), .val (.int p3), .val (.int ((p1 &&& (2147483647 : Int32)) % (3 : Int32))), .val (.ref nb1), .val (.ref nb12), .val (.ref nb25), .val (.ref nb38), .val (.ref nb52), .unset, .unset, .unset, .unset, .unset] [])) (fun _ k => XS.astore X59.here hx rfl (hb hby at_140) rfl rfl (l' := #[.val (.int p1), .val (.int p2), .val (.int p3), .val (.int ((p1 &&& (2147483647 : Int32)) % (3 : Int32))), .val (.ref nb1), .val (.ref nb12), .val (.ref nb25), .val (.ref nb38), .val (.ref nb52), .unset, .unset, .unset, .unset, .unset]) rfl k) ?_
            refine own_step (g' := (mkF m 143 #[.val (.int p1), .val (.int p2), .val (.int p3), .val (.int ((p1 &&& (2147483647 : Int32)) % (3 : Int32))), .val (.ref nb1), .val (.ref nb12), .val (.ref nb25), .val (.ref nb38), .val (.ref nb52), .unset, .unset, .unset, .unset, .unset] [(.int ((p1 &&& (2147483647 : Int32)) % (3 : Int32)))])) (fun _ k => XS.iloadN X59.here hx rfl (hb hby at_142) rfl k) ?_
            refine own_step (g' := (mkF m 144 #[.val (.int p1), .val (.int p2), .val (.int p3), .val (.int ((p1 &&& (2147483647 : Int32)) % (3 : Int32))), .val (.ref nb1), .val (.ref nb12), .val (.ref nb25), .val (.ref nb38), .val (.ref nb52), .unset, .unset, .unset, .unset, .unset] [(.int (1 : Int32)), (.int ((p1 &&& (2147483647 : Int32)) % (3 : Int32)))])) (fun _ k => XS.iconst X59.here hx rfl (hb hby at_143) k) ?_
            refine own_step (g' := (mkF m 157 #[.val (.int p1), .val (.int p2), .val (.int p3), .val (.int ((p1 &&& (2147483647 : Int32)) % (3 : Int32))), .val (.ref nb1), .val (.ref nb12), .val (.ref nb25), .val (.ref nb38), .val (.ref nb52), .unset, .unset, .unset, .unset, .unset] [])) (fun _ k => XS.icmpYes X59.here hx rfl (pc0 := 144) (pc' := 157) rfl (hb hby at_144) rfl (tlt (by rw [hq] <;> decide : ((p1 &&& (2147483647 : Int32)) % (3 : Int32)) < (1 : Int32))).1 (by decide) (by decide) k) ?_
            refine own_step (g' := (mkF m 158 #[.val (.int p1), .val (.int p2), .val (.int p3), .val (.int ((p1 &&& (2147483647 : Int32)) % (3 : Int32))), .val (.ref nb1), .val (.ref nb12), .val (.ref nb25), .val (.ref nb38), .val (.ref nb52), .unset, .unset, .unset, .unset, .unset] [(.int ((p1 &&& (2147483647 : Int32)) % (3 : Int32)))])) (fun _ k => XS.iloadN X59.here hx rfl (hb hby at_157) rfl k) ?_
            refine own_step (g' := (mkF m 159 #[.val (.int p1), .val (.int p2), .val (.int p3), .val (.int ((p1 &&& (2147483647 : Int32)) % (3 : Int32))), .val (.ref nb1), .val (.ref nb12), .val (.ref nb25), .val (.ref nb38), .val (.ref nb52), .unset, .unset, .unset, .unset, .unset] [(.int (2 : Int32)), (.int ((p1 &&& (2147483647 : Int32)) % (3 : Int32)))])) (fun _ k => XS.iconst X59.here hx rfl (hb hby at_158) k) ?_
            refine own_step (g' := (mkF m 172 #[.val (.int p1), .val (.int p2), .val (.int p3), .val (.int ((p1 &&& (2147483647 : Int32)) % (3 : Int32))), .val (.ref nb1), .val (.ref nb12), .val (.ref nb25), .val (.ref nb38), .val (.ref nb52), .unset, .unset, .unset, .unset, .unset] [])) (fun _ k => XS.icmpYes X59.here hx rfl (pc0 := 159) (pc' := 172) rfl (hb hby at_159) rfl (tlt (by rw [hq] <;> decide : ((p1 &&& (2147483647 : Int32)) % (3 : Int32)) < (2 : Int32))).1 (by decide) (by decide) k) ?_
            refine own_step (g' := (mkF m 173 #[.val (.int p1), .val (.int p2), .val (.int p3), .val (.int ((p1 &&& (2147483647 : Int32)) % (3 : Int32))), .val (.ref nb1), .val (.ref nb12), .val (.ref nb25), .val (.ref nb38), .val (.ref nb52), .unset, .unset, .unset, .unset, .unset] [(.int p3)])) (fun _ k => XS.iloadN X59.here hx rfl (hb hby at_172) rfl k) ?_
            refine own_step (g' := (mkF m 175 #[.val (.int p1), .val (.int p2), .val (.int p3), .val (.int ((p1 &&& (2147483647 : Int32)) % (3 : Int32))), .val (.ref nb1), .val (.ref nb12), .val (.ref nb25), .val (.ref nb38), .val (.ref nb52), .unset, .unset, .unset, .unset, .unset] [(.int (16 : Int32)), (.int p3)])) (fun _ k => XS.bipush X59.here hx rfl (hb hby at_173) k) ?_
            refine own_step (g' := (mkF m 176 #[.val (.int p1), .val (.int p2), .val (.int p3), .val (.int ((p1 &&& (2147483647 : Int32)) % (3 : Int32))), .val (.ref nb1), .val (.ref nb12), .val (.ref nb25), .val (.ref nb38), .val (.ref nb52), .unset, .unset, .unset, .unset, .unset] [(.int (p3 &&& (16 : Int32)))])) (fun _ k => XS.iand X59.here hx rfl (hb hby at_175) rfl k) ?_
            have Jb60 : ∀ b60 : Int32, (b60 = (0 : Int32) ∨ b60 = (1 : Int32)) → OGo p e below (OEndW Z ([]) s (Q0 n0) room_1.cells room_1.slots) T59 (mkF m 184 #[.val (.int p1), .val (.int p2), .val (.int p3), .val (.int ((p1 &&& (2147483647 : Int32)) % (3 : Int32))), .val (.ref nb1), .val (.ref nb12), .val (.ref nb25), .val (.ref nb38), .val (.ref nb52), .unset, .unset, .unset, .unset, .unset] [(.int b60)]) := by
              intro b60 hb60
              refine own_step (g' := (mkF m 186 #[.val (.int p1), .val (.int p2), .val (.int p3), .val (.int ((p1 &&& (2147483647 : Int32)) % (3 : Int32))), .val (.ref nb1), .val (.ref nb12), .val (.ref nb25), .val (.ref nb38), .val (.ref nb52), .val (.int b60), .unset, .unset, .unset, .unset] [])) (fun _ k => XS.istore X59.here hx rfl (hb hby at_184) rfl (l' := #[.val (.int p1), .val (.int p2), .val (.int p3), .val (.int ((p1 &&& (2147483647 : Int32)) % (3 : Int32))), .val (.ref nb1), .val (.ref nb12), .val (.ref nb25), .val (.ref nb38), .val (.ref nb52), .val (.int b60), .unset, .unset, .unset, .unset]) rfl k) ?_
              have V_62 : Arv Z T59.heap ed kd (.object "java/lang/Object") (0 : Int32) [] .null := ((V_53.ext Ex52).keep Kq59 (ninS ne_ed_nb52 nin0))
              have C_63 : Exa Z T59.heap nb1 "java/lang/String" := ((Exa.ext Ex52 C_54).keep Kq59)
              have C_64 : Exa Z T59.heap nb12 "java/lang/String" := ((Exa.ext Ex52 C_55).keep Kq59)
              have C_65 : Exa Z T59.heap nb25 "com/example/handl/handl/cli/Arguments$Option" := ((Exa.ext Ex52 C_56).keep Kq59)
              have C_66 : Exa Z T59.heap nb38 "com/example/handl/handl/cli/Arguments$Option" := ((Exa.ext Ex52 Co45).keep Kq59)
              obtain ⟨T61, h61, X61, e61, Ex61, A61, D61, -, st61⟩ := newO X59 hx hZ hown (hw _ (List.mem_of_getElem? (i := 79) rfl)) (hw _ (List.mem_of_getElem? (i := 80) rfl)) (hw _ (List.mem_of_getElem? (i := 81) rfl)) rfl (g := (mkF m 186 #[.val (.int p1), .val (.int p2), .val (.int p3), .val (.int ((p1 &&& (2147483647 : Int32)) % (3 : Int32))), .val (.ref nb1), .val (.ref nb12), .val (.ref nb25), .val (.ref nb38), .val (.ref nb52), .val (.int b60), .unset, .unset, .unset, .unset] [])) rfl (hb hby at_186) (by decide) (by decide)
              obtain ⟨nb61, g61⟩ : ∃ z, z = T59.heap.size := ⟨_, rfl⟩
              rw [← g61] at A61 D61 st61
              have g_nb61 : n0 ≤ nb61 := Nat.le_trans (Nat.le_trans (Nat.le_trans (Nat.le_trans (Nat.le_trans (Nat.le_trans (Nat.le_trans (Nat.le_trans (Nat.le_trans (Nat.le_trans (Nat.le_trans (Nat.le_trans (Nat.le_trans (Nat.le_trans (Nat.le_trans (Nat.le_trans (Nat.le_trans (Nat.le_trans (Nat.le_trans Z0 Ex1.1) Ex3.1) (Nat.le_of_eq W4.size.symm)) (Nat.le_of_eq W5.size.symm)) Kq11.1) Ex12.1) Ex16.1) (Nat.le_of_eq W17.size.symm)) (Nat.le_of_eq W18.size.symm)) Kq24.1) Ex25.1) Ex28.1) Kq37.1) Ex38.1) Ex42.1) Kq51.1) Ex52.1) Kq59.1) (Nat.le_of_eq g61.symm)
              have ne_ed_nb61 : ed ≠ nb61 := Nat.ne_of_lt (Nat.lt_of_lt_of_le V_62.lt (Nat.le_of_eq g61.symm))
              have ne_nb1_nb61 : nb1 ≠ nb61 := Nat.ne_of_lt (Nat.lt_of_lt_of_le C_63.lt (Nat.le_of_eq g61.symm))
              have ne_nb12_nb61 : nb12 ≠ nb61 := Nat.ne_of_lt (Nat.lt_of_lt_of_le C_64.lt (Nat.le_of_eq g61.symm))
              have ne_nb25_nb61 : nb25 ≠ nb61 := Nat.ne_of_lt (Nat.lt_of_lt_of_le C_65.lt (Nat.le_of_eq g61.symm))
              have ne_nb38_nb61 : nb38 ≠ nb61 := Nat.ne_of_lt (Nat.lt_of_lt_of_le C_66.lt (Nat.le_of_eq g61.symm))
              have ne_nb52_nb61 : nb52 ≠ nb61 := Nat.ne_of_lt (Nat.lt_of_lt_of_le Cl57.lt (Nat.le_of_eq g61.symm))
              have hk := Nat.le_trans hk Ex61.1
              have hC := hC.trans (CHr.ext Ex61 hC.1)
              have F61_options : Fld Z h61 nb61 "com/example/handl/handl/cli/Arguments$Syntax" "options" "Ljava/util/List;" .null := D61 (Or.inr (hw _ (List.mem_of_getElem? (i := 87) rfl))) (ty := (.object "java/util/List")) (by decide)
              have F61_operands : Fld Z h61 nb61 "com/example/handl/handl/cli/Arguments$Syntax" "operands" "Z" (.int (0 : Int32)) := D61 (Or.inr (hw _ (List.mem_of_getElem? (i := 89) rfl))) (ty := .boolean) (by decide)
              refine own_via (g' := (mkF m 189 #[.val (.int p1), .val (.int p2), .val (.int p3), .val (.int ((p1 &&& (2147483647 : Int32)) % (3 : Int32))), .val (.ref nb1), .val (.ref nb12), .val (.ref nb25), .val (.ref nb38), .val (.ref nb52), .val (.int b60), .unset, .unset, .unset, .unset] [(.ref nb61)])) st61 ?_
              refine own_step (g' := (mkF m 190 #[.val (.int p1), .val (.int p2), .val (.int p3), .val (.int ((p1 &&& (2147483647 : Int32)) % (3 : Int32))), .val (.ref nb1), .val (.ref nb12), .val (.ref nb25), .val (.ref nb38), .val (.ref nb52), .val (.int b60), .unset, .unset, .unset, .unset] [(.ref nb61), (.ref nb61)])) (fun _ k => XS.dup X61.here hx rfl (hb hby at_189) rfl rfl k) ?_
              refine own_step (g' := (mkF m 192 #[.val (.int p1), .val (.int p2), .val (.int p3), .val (.int ((p1 &&& (2147483647 : Int32)) % (3 : Int32))), .val (.ref nb1), .val (.ref nb12), .val (.ref nb25), .val (.ref nb38), .val (.ref nb52), .val (.int b60), .unset, .unset, .unset, .unset] [(.ref nb52), (.ref nb61), (.ref nb61)])) (fun _ k => XS.aload X61.here hx rfl (hb hby at_190) rfl rfl k) ?_
              refine own_step (g' := (mkF m 194 #[.val (.int p1), .val (.int p2), .val (.int p3), .val (.int ((p1 &&& (2147483647 : Int32)) % (3 : Int32))), .val (.ref nb1), .val (.ref nb12), .val (.ref nb25), .val (.ref nb38), .val (.ref nb52), .val (.int b60), .unset, .unset, .unset, .unset] [(.int b60), (.ref nb52), (.ref nb61), (.ref nb61)])) (fun _ k => XS.iload X61.here hx rfl (hb hby at_192) rfl k) ?_
              refine own_init X61 hx hZ (W := 1) hown e61 (rmSy l Z a0 hw [] nb61 nb52 b60 h61 n0 (Nat.le_trans (Nat.le_trans (Nat.le_trans (Nat.le_trans (Nat.le_trans (Nat.le_trans (Nat.le_trans (Nat.le_trans (Nat.le_trans (Nat.le_trans (Nat.le_trans (Nat.le_trans (Nat.le_trans (Nat.le_trans (Nat.le_trans (Nat.le_trans (Nat.le_trans (Nat.le_trans (Nat.le_trans Z0 Ex1.1) Ex3.1) (Nat.le_of_eq W4.size.symm)) (Nat.le_of_eq W5.size.symm)) Kq11.1) Ex12.1) Ex16.1) (Nat.le_of_eq W17.size.symm)) (Nat.le_of_eq W18.size.symm)) Kq24.1) Ex25.1) Ex28.1) Kq37.1) Ex38.1) Ex42.1) Kq51.1) Ex52.1) Kq59.1) Ex61.1) g_nb61 A61 F61_options F61_operands hb60) rfl (hw _ (List.mem_of_getElem? (i := 82) rfl)) (hw _ (List.mem_of_getElem? (i := 83) rfl)) (hw _ (List.mem_of_getElem? (i := 84) rfl)) (hw _ (List.mem_of_getElem? (i := 81) rfl)) (by decide) (by decide) (by decide) (g := (mkF m 194 #[.val (.int p1), .val (.int p2), .val (.int p3), .val (.int ((p1 &&& (2147483647 : Int32)) % (3 : Int32))), .val (.ref nb1), .val (.ref nb12), .val (.ref nb25), .val (.ref nb38), .val (.ref nb52), .val (.int b60), .unset, .unset, .unset, .unset] [(.int b60), (.ref nb52), (.ref nb61), (.ref nb61)])) rfl (by rw [hml]; rfl) (argsL := [(.ref nb52), (.int b60)]) (rest := [(.ref nb61)]) rfl (lenOf pd_1 rfl) rfl (by show 2 * 0 + _ ≤ _; exact Nat.le_of_eq rfl) (hb hby at_194) (by decide) (by decide) ?_
              intro v68 T68 L68 X68 hQ68
              obtain ⟨rfl, Nq68, Kq68, Cs67, F1s67, F2s67⟩ := hQ68
              have N68 := Fr.app N59 Nq68
              have hk := Nat.le_trans hk Kq68.1
              have hC := hC.trans (CHr.keep Kq68 (sfS own_safe_nil sf0) hC.1)
              show OGo p e below _ T68 (mkF m 197 #[.val (.int p1), .val (.int p2), .val (.int p3), .val (.int ((p1 &&& (2147483647 : Int32)) % (3 : Int32))), .val (.ref nb1), .val (.ref nb12), .val (.ref nb25), .val (.ref nb38), .val (.ref nb52), .val (.int b60), .unset, .unset, .unset, .unset] [(.ref nb61)])
              refine own_step (g' := (mkF m 199 #[.val (.int p1), .val (.int p2), .val (.int p3), .val (.int ((p1 &&& (2147483647 : Int32)) % (3 : Int32))), .val (.ref nb1), .val (.ref nb12), .val (.ref nb25), .val (.ref nb38), .val (.ref nb52), .val (.int b60), .val (.ref nb61), .unset, .unset, .unset] [])) (fun _ k => XS.astore X68.here hx rfl (hb hby at_197) rfl rfl (l' := #[.val (.int p1), .val (.int p2), .val (.int p3), .val (.int ((p1 &&& (2147483647 : Int32)) % (3 : Int32))), .val (.ref nb1), .val (.ref nb12), .val (.ref nb25), .val (.ref nb38), .val (.ref nb52), .val (.int b60), .val (.ref nb61), .unset, .unset, .unset]) rfl k) ?_
              refine own_step (g' := (mkF m 201 #[.val (.int p1), .val (.int p2), .val (.int p3), .val (.int ((p1 &&& (2147483647 : Int32)) % (3 : Int32))), .val (.ref nb1), .val (.ref nb12), .val (.ref nb25), .val (.ref nb38), .val (.ref nb52), .val (.int b60), .val (.ref nb61), .unset, .unset, .unset] [(.ref nb61)])) (fun _ k => XS.aload X68.here hx rfl (hb hby at_199) rfl rfl k) ?_
              refine own_callV X68 hx hZ (W := 0) hown rfl (rmWith l Z a0 hw [] nb61 nb52 T68.heap n0 (Nat.le_trans (Nat.le_trans (Nat.le_trans (Nat.le_trans (Nat.le_trans (Nat.le_trans (Nat.le_trans (Nat.le_trans (Nat.le_trans (Nat.le_trans (Nat.le_trans (Nat.le_trans (Nat.le_trans (Nat.le_trans (Nat.le_trans (Nat.le_trans (Nat.le_trans (Nat.le_trans (Nat.le_trans (Nat.le_trans Z0 Ex1.1) Ex3.1) (Nat.le_of_eq W4.size.symm)) (Nat.le_of_eq W5.size.symm)) Kq11.1) Ex12.1) Ex16.1) (Nat.le_of_eq W17.size.symm)) (Nat.le_of_eq W18.size.symm)) Kq24.1) Ex25.1) Ex28.1) Kq37.1) Ex38.1) Ex42.1) Kq51.1) Ex52.1) Kq59.1) Ex61.1) Kq68.1) Cs67 F1s67) Cs67 (hw _ (List.mem_of_getElem? (i := 90) rfl)) (hw _ (List.mem_of_getElem? (i := 91) rfl)) (notFace_of_selects (args := #[]) (mvT hZ (hw _ (List.mem_of_getElem? (i := 93) rfl)))) (hw _ (List.mem_of_getElem? (i := 93) rfl)) (hw _ (List.mem_of_getElem? (i := 92) rfl)) (hw _ (List.mem_of_getElem? (i := 94) rfl)) (hw _ (List.mem_of_getElem? (i := 81) rfl)) (by decide) (by decide) (by decide) (g := (mkF m 201 #[.val (.int p1), .val (.int p2), .val (.int p3), .val (.int ((p1 &&& (2147483647 : Int32)) % (3 : Int32))), .val (.ref nb1), .val (.ref nb12), .val (.ref nb25), .val (.ref nb38), .val (.ref nb52), .val (.int b60), .val (.ref nb61), .unset, .unset, .unset] [(.ref nb61)])) rfl (by rw [hml]; rfl) (argsL := []) (rest := []) rfl (lenOf pd_10 rfl) rfl (by show 2 * 0 + _ ≤ _; exact Nat.le_of_eq rfl) (hb hby at_201) (by decide) (by decide) ?_
              intro v69 T69 L69 X69 hQ69
              obtain ⟨⟨tb, rfl, szt, Ct, Ft1, Ft2⟩, Nq69, Kq69⟩ := hQ69
              have N69 := Fr.app N68 Nq69
              have hk := Nat.le_trans hk Kq69.1
              have hC := hC.trans (CHr.keep Kq69 sf0 hC.1)
              show OGo p e below _ T69 (mkF m 204 #[.val (.int p1), .val (.int p2), .val (.int p3), .val (.int ((p1 &&& (2147483647 : Int32)) % (3 : Int32))), .val (.ref nb1), .val (.ref nb12), .val (.ref nb25), .val (.ref nb38), .val (.ref nb52), .val (.int b60), .val (.ref nb61), .unset, .unset, .unset] [(.ref tb)])
              refine own_step (g' := (mkF m 206 #[.val (.int p1), .val (.int p2), .val (.int p3), .val (.int ((p1 &&& (2147483647 : Int32)) % (3 : Int32))), .val (.ref nb1), .val (.ref nb12), .val (.ref nb25), .val (.ref nb38), .val (.ref nb52), .val (.int b60), .val (.ref nb61), .val (.ref tb), .unset, .unset] [])) (fun _ k => XS.astore X69.here hx rfl (hb hby at_204) rfl rfl (l' := #[.val (.int p1), .val (.int p2), .val (.int p3), .val (.int ((p1 &&& (2147483647 : Int32)) % (3 : Int32))), .val (.ref nb1), .val (.ref nb12), .val (.ref nb25), .val (.ref nb38), .val (.ref nb52), .val (.int b60), .val (.ref nb61), .val (.ref tb), .unset, .unset]) rfl k) ?_
              refine own_step (g' := (mkF m 208 #[.val (.int p1), .val (.int p2), .val (.int p3), .val (.int ((p1 &&& (2147483647 : Int32)) % (3 : Int32))), .val (.ref nb1), .val (.ref nb12), .val (.ref nb25), .val (.ref nb38), .val (.ref nb52), .val (.int b60), .val (.ref nb61), .val (.ref tb), .unset, .unset] [(.ref tb)])) (fun _ k => XS.aload X69.here hx rfl (hb hby at_206) rfl rfl k) ?_
              refine own_callV X69 hx hZ (W := 0) hown rfl (rmGopt l Z a0 hw [] tb nb52 T69.heap n0 (Nat.le_trans (Nat.le_trans (Nat.le_trans (Nat.le_trans (Nat.le_trans (Nat.le_trans (Nat.le_trans (Nat.le_trans (Nat.le_trans (Nat.le_trans (Nat.le_trans (Nat.le_trans (Nat.le_trans (Nat.le_trans (Nat.le_trans (Nat.le_trans (Nat.le_trans (Nat.le_trans (Nat.le_trans (Nat.le_trans (Nat.le_trans Z0 Ex1.1) Ex3.1) (Nat.le_of_eq W4.size.symm)) (Nat.le_of_eq W5.size.symm)) Kq11.1) Ex12.1) Ex16.1) (Nat.le_of_eq W17.size.symm)) (Nat.le_of_eq W18.size.symm)) Kq24.1) Ex25.1) Ex28.1) Kq37.1) Ex38.1) Ex42.1) Kq51.1) Ex52.1) Kq59.1) Ex61.1) Kq68.1) Kq69.1) Ft1) Ct (hw _ (List.mem_of_getElem? (i := 97) rfl)) (hw _ (List.mem_of_getElem? (i := 98) rfl)) (notFace_of_selects (args := #[]) (mvT hZ (hw _ (List.mem_of_getElem? (i := 100) rfl)))) (hw _ (List.mem_of_getElem? (i := 100) rfl)) (hw _ (List.mem_of_getElem? (i := 99) rfl)) (hw _ (List.mem_of_getElem? (i := 101) rfl)) (hw _ (List.mem_of_getElem? (i := 81) rfl)) (by decide) (by decide) (by decide) (g := (mkF m 208 #[.val (.int p1), .val (.int p2), .val (.int p3), .val (.int ((p1 &&& (2147483647 : Int32)) % (3 : Int32))), .val (.ref nb1), .val (.ref nb12), .val (.ref nb25), .val (.ref nb38), .val (.ref nb52), .val (.int b60), .val (.ref nb61), .val (.ref tb), .unset, .unset] [(.ref tb)])) rfl (by rw [hml]; rfl) (argsL := []) (rest := []) rfl (lenOf pd_11 rfl) rfl (by show 2 * 0 + _ ≤ _; exact Nat.le_of_eq rfl) (hb hby at_208) (by decide) (by decide) ?_
              intro v70 T70 L70 X70 hQ70
              obtain ⟨rfl, rfl, e70⟩ := hQ70
              replace X70 := own_pureX X70
              show OGo p e below _ T70 (mkF m 211 #[.val (.int p1), .val (.int p2), .val (.int p3), .val (.int ((p1 &&& (2147483647 : Int32)) % (3 : Int32))), .val (.ref nb1), .val (.ref nb12), .val (.ref nb25), .val (.ref nb38), .val (.ref nb52), .val (.int b60), .val (.ref nb61), .val (.ref tb), .unset, .unset] [(.ref nb52)])
              refine own_step (g' := (mkF m 213 #[.val (.int p1), .val (.int p2), .val (.int p3), .val (.int ((p1 &&& (2147483647 : Int32)) % (3 : Int32))), .val (.ref nb1), .val (.ref nb12), .val (.ref nb25), .val (.ref nb38), .val (.ref nb52), .val (.int b60), .val (.ref nb61), .val (.ref tb), .val (.ref nb52), .unset] [])) (fun _ k => XS.astore X70.here hx rfl (hb hby at_211) rfl rfl (l' := #[.val (.int p1), .val (.int p2), .val (.int p3), .val (.int ((p1 &&& (2147483647 : Int32)) % (3 : Int32))), .val (.ref nb1), .val (.ref nb12), .val (.ref nb25), .val (.ref nb38), .val (.ref nb52), .val (.int b60), .val (.ref nb61), .val (.ref tb), .val (.ref nb52), .unset]) rfl k) ?_
              refine own_step (g' := (mkF m 215 #[.val (.int p1), .val (.int p2), .val (.int p3), .val (.int ((p1 &&& (2147483647 : Int32)) % (3 : Int32))), .val (.ref nb1), .val (.ref nb12), .val (.ref nb25), .val (.ref nb38), .val (.ref nb52), .val (.int b60), .val (.ref nb61), .val (.ref tb), .val (.ref nb52), .unset] [(.ref tb)])) (fun _ k => XS.aload X70.here hx rfl (hb hby at_213) rfl rfl k) ?_
              refine own_callV X70 hx hZ (W := 0) hown e70 (rmGopd l Z a0 hw [] tb (1 : Int32) T69.heap n0 (Nat.le_trans (Nat.le_trans (Nat.le_trans (Nat.le_trans (Nat.le_trans (Nat.le_trans (Nat.le_trans (Nat.le_trans (Nat.le_trans (Nat.le_trans (Nat.le_trans (Nat.le_trans (Nat.le_trans (Nat.le_trans (Nat.le_trans (Nat.le_trans (Nat.le_trans (Nat.le_trans (Nat.le_trans (Nat.le_trans (Nat.le_trans Z0 Ex1.1) Ex3.1) (Nat.le_of_eq W4.size.symm)) (Nat.le_of_eq W5.size.symm)) Kq11.1) Ex12.1) Ex16.1) (Nat.le_of_eq W17.size.symm)) (Nat.le_of_eq W18.size.symm)) Kq24.1) Ex25.1) Ex28.1) Kq37.1) Ex38.1) Ex42.1) Kq51.1) Ex52.1) Kq59.1) Ex61.1) Kq68.1) Kq69.1) Ft2 (Or.inr rfl)) Ct (hw _ (List.mem_of_getElem? (i := 102) rfl)) (hw _ (List.mem_of_getElem? (i := 103) rfl)) (notFace_of_selects (args := #[]) (mvT hZ (hw _ (List.mem_of_getElem? (i := 105) rfl)))) (hw _ (List.mem_of_getElem? (i := 105) rfl)) (hw _ (List.mem_of_getElem? (i := 104) rfl)) (hw _ (List.mem_of_getElem? (i := 106) rfl)) (hw _ (List.mem_of_getElem? (i := 81) rfl)) (by decide) (by decide) (by decide) (g := (mkF m 215 #[.val (.int p1), .val (.int p2), .val (.int p3), .val (.int ((p1 &&& (2147483647 : Int32)) % (3 : Int32))), .val (.ref nb1), .val (.ref nb12), .val (.ref nb25), .val (.ref nb38), .val (.ref nb52), .val (.int b60), .val (.ref nb61), .val (.ref tb), .val (.ref nb52), .unset] [(.ref tb)])) rfl (by rw [hml]; rfl) (argsL := []) (rest := []) rfl (lenOf pd_12 rfl) rfl (by show 2 * 0 + _ ≤ _; exact Nat.le_of_eq rfl) (hb hby at_215) (by decide) (by decide) ?_
              intro v71 T71 L71 X71 hQ71
              obtain ⟨rfl, rfl, e71⟩ := hQ71
              replace X71 := own_pureX X71
              show OGo p e below _ T71 (mkF m 218 #[.val (.int p1), .val (.int p2), .val (.int p3), .val (.int ((p1 &&& (2147483647 : Int32)) % (3 : Int32))), .val (.ref nb1), .val (.ref nb12), .val (.ref nb25), .val (.ref nb38), .val (.ref nb52), .val (.int b60), .val (.ref nb61), .val (.ref tb), .val (.ref nb52), .unset] [(.int (1 : Int32))])
              refine own_step (g' := (mkF m 221 #[.val (.int p1), .val (.int p2), .val (.int p3), .val (.int ((p1 &&& (2147483647 : Int32)) % (3 : Int32))), .val (.ref nb1), .val (.ref nb12), .val (.ref nb25), .val (.ref nb38), .val (.ref nb52), .val (.int b60), .val (.ref nb61), .val (.ref tb), .val (.ref nb52), .unset] [])) (fun _ k => XS.ifNo X71.here hx rfl (hb hby at_218) rfl ((if0 _ _).trans (feq (by decide : ¬ ((1 : Int32) = (0 : Int32)))).1) k) ?_
              refine own_step (g' := (mkF m 223 #[.val (.int p1), .val (.int p2), .val (.int p3), .val (.int ((p1 &&& (2147483647 : Int32)) % (3 : Int32))), .val (.ref nb1), .val (.ref nb12), .val (.ref nb25), .val (.ref nb38), .val (.ref nb52), .val (.int b60), .val (.ref nb61), .val (.ref tb), .val (.ref nb52), .unset] [(.ref nb61)])) (fun _ k => XS.aload X71.here hx rfl (hb hby at_221) rfl rfl k) ?_
              have F_72 : Fld Z T69.heap nb61 "com/example/handl/handl/cli/Arguments$Syntax" "operands" "Z" (.int b60) := (F2s67.keep Kq69 nin0)
              have C_74 : Exa Z T69.heap nb61 "com/example/handl/handl/cli/Arguments$Syntax" := (Cs67.keep Kq69)
              refine own_callV X71 hx hZ (W := 0) hown e71 (rmGopd l Z a0 hw [] nb61 b60 T69.heap n0 (Nat.le_trans (Nat.le_trans (Nat.le_trans (Nat.le_trans (Nat.le_trans (Nat.le_trans (Nat.le_trans (Nat.le_trans (Nat.le_trans (Nat.le_trans (Nat.le_trans (Nat.le_trans (Nat.le_trans (Nat.le_trans (Nat.le_trans (Nat.le_trans (Nat.le_trans (Nat.le_trans (Nat.le_trans (Nat.le_trans (Nat.le_trans Z0 Ex1.1) Ex3.1) (Nat.le_of_eq W4.size.symm)) (Nat.le_of_eq W5.size.symm)) Kq11.1) Ex12.1) Ex16.1) (Nat.le_of_eq W17.size.symm)) (Nat.le_of_eq W18.size.symm)) Kq24.1) Ex25.1) Ex28.1) Kq37.1) Ex38.1) Ex42.1) Kq51.1) Ex52.1) Kq59.1) Ex61.1) Kq68.1) Kq69.1) F_72 hb60) C_74 (hw _ (List.mem_of_getElem? (i := 102) rfl)) (hw _ (List.mem_of_getElem? (i := 103) rfl)) (notFace_of_selects (args := #[]) (mvT hZ (hw _ (List.mem_of_getElem? (i := 105) rfl)))) (hw _ (List.mem_of_getElem? (i := 105) rfl)) (hw _ (List.mem_of_getElem? (i := 104) rfl)) (hw _ (List.mem_of_getElem? (i := 106) rfl)) (hw _ (List.mem_of_getElem? (i := 81) rfl)) (by decide) (by decide) (by decide) (g := (mkF m 223 #[.val (.int p1), .val (.int p2), .val (.int p3), .val (.int ((p1 &&& (2147483647 : Int32)) % (3 : Int32))), .val (.ref nb1), .val (.ref nb12), .val (.ref nb25), .val (.ref nb38), .val (.ref nb52), .val (.int b60), .val (.ref nb61), .val (.ref tb), .val (.ref nb52), .unset] [(.ref nb61)])) rfl (by rw [hml]; rfl) (argsL := []) (rest := []) rfl (lenOf pd_12 rfl) rfl (by show 2 * 0 + _ ≤ _; exact Nat.le_of_eq rfl) (hb hby at_223) (by decide) (by decide) ?_
              intro v73 T73 L73 X73 hQ73
              obtain ⟨rfl, rfl, e73⟩ := hQ73
              replace X73 := own_pureX X73
              show OGo p e below _ T73 (mkF m 226 #[.val (.int p1), .val (.int p2), .val (.int p3), .val (.int ((p1 &&& (2147483647 : Int32)) % (3 : Int32))), .val (.ref nb1), .val (.ref nb12), .val (.ref nb25), .val (.ref nb38), .val (.ref nb52), .val (.int b60), .val (.ref nb61), .val (.ref tb), .val (.ref nb52), .unset] [(.int b60)])
              refine own_step (g' := (mkF m 228 #[.val (.int p1), .val (.int p2), .val (.int p3), .val (.int ((p1 &&& (2147483647 : Int32)) % (3 : Int32))), .val (.ref nb1), .val (.ref nb12), .val (.ref nb25), .val (.ref nb38), .val (.ref nb52), .val (.int b60), .val (.ref nb61), .val (.ref tb), .val (.ref nb52), .unset] [(.int b60), (.int b60)])) (fun _ k => XS.iload X73.here hx rfl (hb hby at_226) rfl k) ?_
              refine own_step (g' := (mkF m 231 #[.val (.int p1), .val (.int p2), .val (.int p3), .val (.int ((p1 &&& (2147483647 : Int32)) % (3 : Int32))), .val (.ref nb1), .val (.ref nb12), .val (.ref nb25), .val (.ref nb38), .val (.ref nb52), .val (.int b60), .val (.ref nb61), .val (.ref tb), .val (.ref nb52), .unset] [])) (fun _ k => XS.icmpNo X73.here hx rfl (hb hby at_228) rfl (teq (rfl : b60 = b60)).2 k) ?_
              refine own_step (g' := (mkF m 233 #[.val (.int p1), .val (.int p2), .val (.int p3), .val (.int ((p1 &&& (2147483647 : Int32)) % (3 : Int32))), .val (.ref nb1), .val (.ref nb12), .val (.ref nb25), .val (.ref nb38), .val (.ref nb52), .val (.int b60), .val (.ref nb61), .val (.ref tb), .val (.ref nb52), .unset] [(.ref nb61)])) (fun _ k => XS.aload X73.here hx rfl (hb hby at_231) rfl rfl k) ?_
              have F_75 : Fld Z T69.heap nb61 "com/example/handl/handl/cli/Arguments$Syntax" "options" "Ljava/util/List;" (.ref nb52) := (F1s67.keep Kq69 nin0)
              refine own_callV X73 hx hZ (W := 0) hown e73 (rmGopt l Z a0 hw [] nb61 nb52 T69.heap n0 (Nat.le_trans (Nat.le_trans (Nat.le_trans (Nat.le_trans (Nat.le_trans (Nat.le_trans (Nat.le_trans (Nat.le_trans (Nat.le_trans (Nat.le_trans (Nat.le_trans (Nat.le_trans (Nat.le_trans (Nat.le_trans (Nat.le_trans (Nat.le_trans (Nat.le_trans (Nat.le_trans (Nat.le_trans (Nat.le_trans (Nat.le_trans Z0 Ex1.1) Ex3.1) (Nat.le_of_eq W4.size.symm)) (Nat.le_of_eq W5.size.symm)) Kq11.1) Ex12.1) Ex16.1) (Nat.le_of_eq W17.size.symm)) (Nat.le_of_eq W18.size.symm)) Kq24.1) Ex25.1) Ex28.1) Kq37.1) Ex38.1) Ex42.1) Kq51.1) Ex52.1) Kq59.1) Ex61.1) Kq68.1) Kq69.1) F_75) C_74 (hw _ (List.mem_of_getElem? (i := 97) rfl)) (hw _ (List.mem_of_getElem? (i := 98) rfl)) (notFace_of_selects (args := #[]) (mvT hZ (hw _ (List.mem_of_getElem? (i := 100) rfl)))) (hw _ (List.mem_of_getElem? (i := 100) rfl)) (hw _ (List.mem_of_getElem? (i := 99) rfl)) (hw _ (List.mem_of_getElem? (i := 101) rfl)) (hw _ (List.mem_of_getElem? (i := 81) rfl)) (by decide) (by decide) (by decide) (g := (mkF m 233 #[.val (.int p1), .val (.int p2), .val (.int p3), .val (.int ((p1 &&& (2147483647 : Int32)) % (3 : Int32))), .val (.ref nb1), .val (.ref nb12), .val (.ref nb25), .val (.ref nb38), .val (.ref nb52), .val (.int b60), .val (.ref nb61), .val (.ref tb), .val (.ref nb52), .unset] [(.ref nb61)])) rfl (by rw [hml]; rfl) (argsL := []) (rest := []) rfl (lenOf pd_11 rfl) rfl (by show 2 * 0 + _ ≤ _; exact Nat.le_of_eq rfl) (hb hby at_233) (by decide) (by decide) ?_
              intro v76 T76 L76 X76 hQ76
              obtain ⟨rfl, rfl, e76⟩ := hQ76
              replace X76 := own_pureX X76
              show OGo p e below _ T76 (mkF m 236 #[.val (.int p1), .val (.int p2), .val (.int p3), .val (.int ((p1 &&& (2147483647 : Int32)) % (3 : Int32))), .val (.ref nb1), .val (.ref nb12), .val (.ref nb25), .val (.ref nb38), .val (.ref nb52), .val (.int b60), .val (.ref nb61), .val (.ref tb), .val (.ref nb52), .unset] [(.ref nb52)])
              refine own_step (g' := (mkF m 238 #[.val (.int p1), .val (.int p2), .val (.int p3), .val (.int ((p1 &&& (2147483647 : Int32)) % (3 : Int32))), .val (.ref nb1), .val (.ref nb12), .val (.ref nb25), .val (.ref nb38), .val (.ref nb52), .val (.int b60), .val (.ref nb61), .val (.ref tb), .val (.ref nb52), .unset] [(.ref nb52), (.ref nb52)])) (fun _ k => XS.aload X76.here hx rfl (hb hby at_236) rfl rfl k) ?_
              refine own_step (g' := (mkF m 241 #[.val (.int p1), .val (.int p2), .val (.int p3), .val (.int ((p1 &&& (2147483647 : Int32)) % (3 : Int32))), .val (.ref nb1), .val (.ref nb12), .val (.ref nb25), .val (.ref nb38), .val (.ref nb52), .val (.int b60), .val (.ref nb61), .val (.ref tb), .val (.ref nb52), .unset] [])) (fun _ k => Jvm.RoadKit.acmp (g := (mkF m 238 #[.val (.int p1), .val (.int p2), .val (.int p3), .val (.int ((p1 &&& (2147483647 : Int32)) % (3 : Int32))), .val (.ref nb1), .val (.ref nb12), .val (.ref nb25), .val (.ref nb38), .val (.ref nb52), .val (.int b60), .val (.ref nb61), .val (.ref tb), .val (.ref nb52), .unset] [(.ref nb52), (.ref nb52)])) X76 hx rfl rfl rfl (pc0 := 238) (pc' := 241) (same := true) rfl (hb hby at_238) rfl (decide_eq_true rfl) (by decide) (by decide) k) ?_
              refine own_step (g' := (mkF m 243 #[.val (.int p1), .val (.int p2), .val (.int p3), .val (.int ((p1 &&& (2147483647 : Int32)) % (3 : Int32))), .val (.ref nb1), .val (.ref nb12), .val (.ref nb25), .val (.ref nb38), .val (.ref nb52), .val (.int b60), .val (.ref nb61), .val (.ref tb), .val (.ref nb52), .unset] [(.ref nb52)])) (fun _ k => XS.aload X76.here hx rfl (hb hby at_241) rfl rfl k) ?_
              have F_77 : Fld Z T69.heap nb52 "java/util/ArrayList" "size" "I" (.int (0 : Int32)) := (((Fld.ext Ex61 F3l57).keep Kq68 (ninS ne_nb52_nb61 nin0)).keep Kq69 nin0)
              have C_79 : Exa Z T69.heap nb52 "java/util/ArrayList" := (((Exa.ext Ex61 Cl57).keep Kq68).keep Kq69)
              refine own_callI X76 hx hZ (W := 0) hown e76 (rmSize l Z a0 hw [] nb52 (0 : Int32) T69.heap n0 (Nat.le_trans (Nat.le_trans (Nat.le_trans (Nat.le_trans (Nat.le_trans (Nat.le_trans (Nat.le_trans (Nat.le_trans (Nat.le_trans (Nat.le_trans (Nat.le_trans (Nat.le_trans (Nat.le_trans (Nat.le_trans (Nat.le_trans (Nat.le_trans (Nat.le_trans (Nat.le_trans (Nat.le_trans (Nat.le_trans (Nat.le_trans Z0 Ex1.1) Ex3.1) (Nat.le_of_eq W4.size.symm)) (Nat.le_of_eq W5.size.symm)) Kq11.1) Ex12.1) Ex16.1) (Nat.le_of_eq W17.size.symm)) (Nat.le_of_eq W18.size.symm)) Kq24.1) Ex25.1) Ex28.1) Kq37.1) Ex38.1) Ex42.1) Kq51.1) Ex52.1) Kq59.1) Ex61.1) Kq68.1) Kq69.1) F_77) C_79 (hw _ (List.mem_of_getElem? (i := 107) rfl)) (hw _ (List.mem_of_getElem? (i := 108) rfl)) (mvT hZ (hw _ (List.mem_of_getElem? (i := 109) rfl))) (hw _ (List.mem_of_getElem? (i := 110) rfl)) (hw _ (List.mem_of_getElem? (i := 111) rfl)) (hw _ (List.mem_of_getElem? (i := 112) rfl)) (hw _ (List.mem_of_getElem? (i := 113) rfl)) (hw _ (List.mem_of_getElem? (i := 114) rfl)) (hw _ (List.mem_of_getElem? (i := 115) rfl)) (hw _ (List.mem_of_getElem? (i := 57) rfl)) (by decide) (by decide) (by decide) (g := (mkF m 243 #[.val (.int p1), .val (.int p2), .val (.int p3), .val (.int ((p1 &&& (2147483647 : Int32)) % (3 : Int32))), .val (.ref nb1), .val (.ref nb12), .val (.ref nb25), .val (.ref nb38), .val (.ref nb52), .val (.int b60), .val (.ref nb61), .val (.ref tb), .val (.ref nb52), .unset] [(.ref nb52)])) rfl (by rw [hml]; rfl) (argsL := []) (rest := []) rfl (lenOf pd_13 rfl) rfl (by show 2 * 0 + _ ≤ _; exact Nat.le_of_eq rfl) (hb hby at_243) (by decide) (by decide) ?_
              intro v78 T78 L78 X78 hQ78
              obtain ⟨rfl, rfl, e78⟩ := hQ78
              replace X78 := own_pureX X78
              show OGo p e below _ T78 (mkF m 248 #[.val (.int p1), .val (.int p2), .val (.int p3), .val (.int ((p1 &&& (2147483647 : Int32)) % (3 : Int32))), .val (.ref nb1), .val (.ref nb12), .val (.ref nb25), .val (.ref nb38), .val (.ref nb52), .val (.int b60), .val (.ref nb61), .val (.ref tb), .val (.ref nb52), .unset] [(.int (0 : Int32))])
              refine own_step (g' := (mkF m 249 #[.val (.int p1), .val (.int p2), .val (.int p3), .val (.int ((p1 &&& (2147483647 : Int32)) % (3 : Int32))), .val (.ref nb1), .val (.ref nb12), .val (.ref nb25), .val (.ref nb38), .val (.ref nb52), .val (.int b60), .val (.ref nb61), .val (.ref tb), .val (.ref nb52), .unset] [(.int ((p1 &&& (2147483647 : Int32)) % (3 : Int32))), (.int (0 : Int32))])) (fun _ k => XS.iloadN X78.here hx rfl (hb hby at_248) rfl k) ?_
              refine own_step (g' := (mkF m 252 #[.val (.int p1), .val (.int p2), .val (.int p3), .val (.int ((p1 &&& (2147483647 : Int32)) % (3 : Int32))), .val (.ref nb1), .val (.ref nb12), .val (.ref nb25), .val (.ref nb38), .val (.ref nb52), .val (.int b60), .val (.ref nb61), .val (.ref tb), .val (.ref nb52), .unset] [])) (fun _ k => XS.icmpNo X78.here hx rfl (hb hby at_249) rfl (teq (by rw [hq] <;> decide : (0 : Int32) = ((p1 &&& (2147483647 : Int32)) % (3 : Int32)))).2 k) ?_
              refine own_step (g' := (mkF m 253 #[.val (.int p1), .val (.int p2), .val (.int p3), .val (.int ((p1 &&& (2147483647 : Int32)) % (3 : Int32))), .val (.ref nb1), .val (.ref nb12), .val (.ref nb25), .val (.ref nb38), .val (.ref nb52), .val (.int b60), .val (.ref nb61), .val (.ref tb), .val (.ref nb52), .unset] [(.int (1 : Int32))])) (fun _ k => XS.iconst X78.here hx rfl (hb hby at_252) k) ?_
              refine own_step (g' := (mkF m 257 #[.val (.int p1), .val (.int p2), .val (.int p3), .val (.int ((p1 &&& (2147483647 : Int32)) % (3 : Int32))), .val (.ref nb1), .val (.ref nb12), .val (.ref nb25), .val (.ref nb38), .val (.ref nb52), .val (.int b60), .val (.ref nb61), .val (.ref tb), .val (.ref nb52), .unset] [(.int (1 : Int32))])) (fun _ k => XS.goto X78.here hx rfl (pc0 := 253) (pc' := 257) rfl (hb hby at_253) (by decide) (by decide) k) ?_
              refine own_step (g' := (mkF m 259 #[.val (.int p1), .val (.int p2), .val (.int p3), .val (.int ((p1 &&& (2147483647 : Int32)) % (3 : Int32))), .val (.ref nb1), .val (.ref nb12), .val (.ref nb25), .val (.ref nb38), .val (.ref nb52), .val (.int b60), .val (.ref nb61), .val (.ref tb), .val (.ref nb52), .val (.int (1 : Int32))] [])) (fun _ k => XS.istore X78.here hx rfl (hb hby at_257) rfl (l' := #[.val (.int p1), .val (.int p2), .val (.int p3), .val (.int ((p1 &&& (2147483647 : Int32)) % (3 : Int32))), .val (.ref nb1), .val (.ref nb12), .val (.ref nb25), .val (.ref nb38), .val (.ref nb52), .val (.int b60), .val (.ref nb61), .val (.ref tb), .val (.ref nb52), .val (.int (1 : Int32))]) rfl k) ?_
              refine own_step (g' := (mkF m 261 #[.val (.int p1), .val (.int p2), .val (.int p3), .val (.int ((p1 &&& (2147483647 : Int32)) % (3 : Int32))), .val (.ref nb1), .val (.ref nb12), .val (.ref nb25), .val (.ref nb38), .val (.ref nb52), .val (.int b60), .val (.ref nb61), .val (.ref tb), .val (.ref nb52), .val (.int (1 : Int32))] [(.int (1 : Int32))])) (fun _ k => XS.iload X78.here hx rfl (hb hby at_259) rfl k) ?_
              refine own_step (g' := (mkF m 264 #[.val (.int p1), .val (.int p2), .val (.int p3), .val (.int ((p1 &&& (2147483647 : Int32)) % (3 : Int32))), .val (.ref nb1), .val (.ref nb12), .val (.ref nb25), .val (.ref nb38), .val (.ref nb52), .val (.int b60), .val (.ref nb61), .val (.ref tb), .val (.ref nb52), .val (.int (1 : Int32))] [])) (fun _ k => XS.ifNo X78.here hx rfl (hb hby at_261) rfl ((if0 _ _).trans (feq (by decide : ¬ ((1 : Int32) = (0 : Int32)))).1) k) ?_
              refine own_step (g' := (mkF m 265 #[.val (.int p1), .val (.int p2), .val (.int p3), .val (.int ((p1 &&& (2147483647 : Int32)) % (3 : Int32))), .val (.ref nb1), .val (.ref nb12), .val (.ref nb25), .val (.ref nb38), .val (.ref nb52), .val (.int b60), .val (.ref nb61), .val (.ref tb), .val (.ref nb52), .val (.int (1 : Int32))] [(.int ((p1 &&& (2147483647 : Int32)) % (3 : Int32)))])) (fun _ k => XS.iloadN X78.here hx rfl (hb hby at_264) rfl k) ?_
              refine own_step (g' := (mkF m 266 #[.val (.int p1), .val (.int p2), .val (.int p3), .val (.int ((p1 &&& (2147483647 : Int32)) % (3 : Int32))), .val (.ref nb1), .val (.ref nb12), .val (.ref nb25), .val (.ref nb38), .val (.ref nb52), .val (.int b60), .val (.ref nb61), .val (.ref tb), .val (.ref nb52), .val (.int (1 : Int32))] [(.int (1 : Int32)), (.int ((p1 &&& (2147483647 : Int32)) % (3 : Int32)))])) (fun _ k => XS.iconst X78.here hx rfl (hb hby at_265) k) ?_
              refine own_step (g' := (mkF m 289 #[.val (.int p1), .val (.int p2), .val (.int p3), .val (.int ((p1 &&& (2147483647 : Int32)) % (3 : Int32))), .val (.ref nb1), .val (.ref nb12), .val (.ref nb25), .val (.ref nb38), .val (.ref nb52), .val (.int b60), .val (.ref nb61), .val (.ref tb), .val (.ref nb52), .val (.int (1 : Int32))] [])) (fun _ k => XS.icmpYes X78.here hx rfl (pc0 := 266) (pc' := 289) rfl (hb hby at_266) rfl (tlt (by rw [hq] <;> decide : ((p1 &&& (2147483647 : Int32)) % (3 : Int32)) < (1 : Int32))).1 (by decide) (by decide) k) ?_
              refine own_step (g' := (mkF m 291 #[.val (.int p1), .val (.int p2), .val (.int p3), .val (.int ((p1 &&& (2147483647 : Int32)) % (3 : Int32))), .val (.ref nb1), .val (.ref nb12), .val (.ref nb25), .val (.ref nb38), .val (.ref nb52), .val (.int b60), .val (.ref nb61), .val (.ref tb), .val (.ref nb52), .val (.int (1 : Int32))] [(.int (1 : Int32))])) (fun _ k => XS.iload X78.here hx rfl (hb hby at_289) rfl k) ?_
              refine own_step (g' := (mkF m 294 #[.val (.int p1), .val (.int p2), .val (.int p3), .val (.int ((p1 &&& (2147483647 : Int32)) % (3 : Int32))), .val (.ref nb1), .val (.ref nb12), .val (.ref nb25), .val (.ref nb38), .val (.ref nb52), .val (.int b60), .val (.ref nb61), .val (.ref tb), .val (.ref nb52), .val (.int (1 : Int32))] [])) (fun _ k => XS.ifNo X78.here hx rfl (hb hby at_291) rfl ((if0 _ _).trans (feq (by decide : ¬ ((1 : Int32) = (0 : Int32)))).1) k) ?_
              refine own_step (g' := (mkF m 295 #[.val (.int p1), .val (.int p2), .val (.int p3), .val (.int ((p1 &&& (2147483647 : Int32)) % (3 : Int32))), .val (.ref nb1), .val (.ref nb12), .val (.ref nb25), .val (.ref nb38), .val (.ref nb52), .val (.int b60), .val (.ref nb61), .val (.ref tb), .val (.ref nb52), .val (.int (1 : Int32))] [(.int ((p1 &&& (2147483647 : Int32)) % (3 : Int32)))])) (fun _ k => XS.iloadN X78.here hx rfl (hb hby at_294) rfl k) ?_
              refine own_step (g' := (mkF m 296 #[.val (.int p1), .val (.int p2), .val (.int p3), .val (.int ((p1 &&& (2147483647 : Int32)) % (3 : Int32))), .val (.ref nb1), .val (.ref nb12), .val (.ref nb25), .val (.ref nb38), .val (.ref nb52), .val (.int b60), .val (.ref nb61), .val (.ref tb), .val (.ref nb52), .val (.int (1 : Int32))] [(.int (2 : Int32)), (.int ((p1 &&& (2147483647 : Int32)) % (3 : Int32)))])) (fun _ k => XS.iconst X78.here hx rfl (hb hby at_295) k) ?_
              refine own_step (g' := (mkF m 319 #[.val (.int p1), .val (.int p2), .val (.int p3), .val (.int ((p1 &&& (2147483647 : Int32)) % (3 : Int32))), .val (.ref nb1), .val (.ref nb12), .val (.ref nb25), .val (.ref nb38), .val (.ref nb52), .val (.int b60), .val (.ref nb61), .val (.ref tb), .val (.ref nb52), .val (.int (1 : Int32))] [])) (fun _ k => XS.icmpYes X78.here hx rfl (pc0 := 296) (pc' := 319) rfl (hb hby at_296) rfl (tlt (by rw [hq] <;> decide : ((p1 &&& (2147483647 : Int32)) % (3 : Int32)) < (2 : Int32))).1 (by decide) (by decide) k) ?_
              refine own_step (g' := (mkF m 321 #[.val (.int p1), .val (.int p2), .val (.int p3), .val (.int ((p1 &&& (2147483647 : Int32)) % (3 : Int32))), .val (.ref nb1), .val (.ref nb12), .val (.ref nb25), .val (.ref nb38), .val (.ref nb52), .val (.int b60), .val (.ref nb61), .val (.ref tb), .val (.ref nb52), .val (.int (1 : Int32))] [(.int (1 : Int32))])) (fun _ k => XS.iload X78.here hx rfl (hb hby at_319) rfl k) ?_
              exact own_retNW X78 hx hZ hEL hS hk hC (t := .boolean) hret (by simp) hlk (hb hby at_321) e78 (by exact ⟨rfl, N69⟩) (by decide) (by decide)
            by_cases hc80 : (p3 &&& (16 : Int32)) = (0 : Int32)
            · refine own_step (g' := (mkF m 183 #[.val (.int p1), .val (.int p2), .val (.int p3), .val (.int ((p1 &&& (2147483647 : Int32)) % (3 : Int32))), .val (.ref nb1), .val (.ref nb12), .val (.ref nb25), .val (.ref nb38), .val (.ref nb52), .unset, .unset, .unset, .unset, .unset] [])) (fun _ k => XS.ifYes X59.here hx rfl (pc0 := 176) (pc' := 183) rfl (hb hby at_176) rfl ((if0 _ _).trans (teq hc80).1) (by decide) (by decide) k) ?_
              refine own_step (g' := (mkF m 184 #[.val (.int p1), .val (.int p2), .val (.int p3), .val (.int ((p1 &&& (2147483647 : Int32)) % (3 : Int32))), .val (.ref nb1), .val (.ref nb12), .val (.ref nb25), .val (.ref nb38), .val (.ref nb52), .unset, .unset, .unset, .unset, .unset] [(.int (0 : Int32))])) (fun _ k => XS.iconst X59.here hx rfl (hb hby at_183) k) ?_
              exact Jb60 _ (Or.inl rfl)
            · refine own_step (g' := (mkF m 179 #[.val (.int p1), .val (.int p2), .val (.int p3), .val (.int ((p1 &&& (2147483647 : Int32)) % (3 : Int32))), .val (.ref nb1), .val (.ref nb12), .val (.ref nb25), .val (.ref nb38), .val (.ref nb52), .unset, .unset, .unset, .unset, .unset] [])) (fun _ k => XS.ifNo X59.here hx rfl (hb hby at_176) rfl ((if0 _ _).trans (feq hc80).1) k) ?_
              refine own_step (g' := (mkF m 180 #[.val (.int p1), .val (.int p2), .val (.int p3), .val (.int ((p1 &&& (2147483647 : Int32)) % (3 : Int32))), .val (.ref nb1), .val (.ref nb12), .val (.ref nb25), .val (.ref nb38), .val (.ref nb52), .unset, .unset, .unset, .unset, .unset] [(.int (1 : Int32))])) (fun _ k => XS.iconst X59.here hx rfl (hb hby at_179) k) ?_
              refine own_step (g' := (mkF m 184 #[.val (.int p1), .val (.int p2), .val (.int p3), .val (.int ((p1 &&& (2147483647 : Int32)) % (3 : Int32))), .val (.ref nb1), .val (.ref nb12), .val (.ref nb25), .val (.ref nb38), .val (.ref nb52), .unset, .unset, .unset, .unset, .unset] [(.int (1 : Int32))])) (fun _ k => XS.goto X59.here hx rfl (pc0 := 180) (pc' := 184) rfl (hb hby at_180) (by decide) (by decide) k) ?_
              exact Jb60 _ (Or.inr rfl)
          by_cases hc81 : (p3 &&& (8 : Int32)) = (0 : Int32)
          · refine own_step (g' := (mkF m 127 #[.val (.int p1), .val (.int p2), .val (.int p3), .val (.int ((p1 &&& (2147483647 : Int32)) % (3 : Int32))), .val (.ref nb1), .val (.ref nb12), .val (.ref nb25), .unset, .unset, .unset, .unset, .unset, .unset, .unset] [(.int b43), (.ref nb42), (.ref nb12), (.ref nb38), (.ref nb38)])) (fun _ k => XS.ifYes X42.here hx rfl (pc0 := 120) (pc' := 127) rfl (hb hby at_120) rfl ((if0 _ _).trans (teq hc81).1) (by decide) (by decide) k) ?_
            refine own_step (g' := (mkF m 128 #[.val (.int p1), .val (.int p2), .val (.int p3), .val (.int ((p1 &&& (2147483647 : Int32)) % (3 : Int32))), .val (.ref nb1), .val (.ref nb12), .val (.ref nb25), .unset, .unset, .unset, .unset, .unset, .unset, .unset] [(.int (0 : Int32)), (.int b43), (.ref nb42), (.ref nb12), (.ref nb38), (.ref nb38)])) (fun _ k => XS.iconst X42.here hx rfl (hb hby at_127) k) ?_
            exact Jb44 _ (Or.inl rfl)
          · refine own_step (g' := (mkF m 123 #[.val (.int p1), .val (.int p2), .val (.int p3), .val (.int ((p1 &&& (2147483647 : Int32)) % (3 : Int32))), .val (.ref nb1), .val (.ref nb12), .val (.ref nb25), .unset, .unset, .unset, .unset, .unset, .unset, .unset] [(.int b43), (.ref nb42), (.ref nb12), (.ref nb38), (.ref nb38)])) (fun _ k => XS.ifNo X42.here hx rfl (hb hby at_120) rfl ((if0 _ _).trans (feq hc81).1) k) ?_
            refine own_step (g' := (mkF m 124 #[.val (.int p1), .val (.int p2), .val (.int p3), .val (.int ((p1 &&& (2147483647 : Int32)) % (3 : Int32))), .val (.ref nb1), .val (.ref nb12), .val (.ref nb25), .unset, .unset, .unset, .unset, .unset, .unset, .unset] [(.int (1 : Int32)), (.int b43), (.ref nb42), (.ref nb12), (.ref nb38), (.ref nb38)])) (fun _ k => XS.iconst X42.here hx rfl (hb hby at_123) k) ?_
            refine own_step (g' := (mkF m 128 #[.val (.int p1), .val (.int p2), .val (.int p3), .val (.int ((p1 &&& (2147483647 : Int32)) % (3 : Int32))), .val (.ref nb1), .val (.ref nb12), .val (.ref nb25), .unset, .unset, .unset, .unset, .unset, .unset, .unset] [(.int (1 : Int32)), (.int b43), (.ref nb42), (.ref nb12), (.ref nb38), (.ref nb38)])) (fun _ k => XS.goto X42.here hx rfl (pc0 := 124) (pc' := 128) rfl (hb hby at_124) (by decide) (by decide) k) ?_
            exact Jb44 _ (Or.inr rfl)
        by_cases hc82 : (p3 &&& (4 : Int32)) = (0 : Int32)
        · refine own_step (g' := (mkF m 115 #[.val (.int p1), .val (.int p2), .val (.int p3), .val (.int ((p1 &&& (2147483647 : Int32)) % (3 : Int32))), .val (.ref nb1), .val (.ref nb12), .val (.ref nb25), .unset, .unset, .unset, .unset, .unset, .unset, .unset] [(.ref nb42), (.ref nb12), (.ref nb38), (.ref nb38)])) (fun _ k => XS.ifYes X42.here hx rfl (pc0 := 108) (pc' := 115) rfl (hb hby at_108) rfl ((if0 _ _).trans (teq hc82).1) (by decide) (by decide) k) ?_
          refine own_step (g' := (mkF m 116 #[.val (.int p1), .val (.int p2), .val (.int p3), .val (.int ((p1 &&& (2147483647 : Int32)) % (3 : Int32))), .val (.ref nb1), .val (.ref nb12), .val (.ref nb25), .unset, .unset, .unset, .unset, .unset, .unset, .unset] [(.int (0 : Int32)), (.ref nb42), (.ref nb12), (.ref nb38), (.ref nb38)])) (fun _ k => XS.iconst X42.here hx rfl (hb hby at_115) k) ?_
          exact Jb43 _ (Or.inl rfl)
        · refine own_step (g' := (mkF m 111 #[.val (.int p1), .val (.int p2), .val (.int p3), .val (.int ((p1 &&& (2147483647 : Int32)) % (3 : Int32))), .val (.ref nb1), .val (.ref nb12), .val (.ref nb25), .unset, .unset, .unset, .unset, .unset, .unset, .unset] [(.ref nb42), (.ref nb12), (.ref nb38), (.ref nb38)])) (fun _ k => XS.ifNo X42.here hx rfl (hb hby at_108) rfl ((if0 _ _).trans (feq hc82).1) k) ?_
          refine own_step (g' := (mkF m 112 #[.val (.int p1), .val (.int p2), .val (.int p3), .val (.int ((p1 &&& (2147483647 : Int32)) % (3 : Int32))), .val (.ref nb1), .val (.ref nb12), .val (.ref nb25), .unset, .unset, .unset, .unset, .unset, .unset, .unset] [(.int (1 : Int32)), (.ref nb42), (.ref nb12), (.ref nb38), (.ref nb38)])) (fun _ k => XS.iconst X42.here hx rfl (hb hby at_111) k) ?_
          refine own_step (g' := (mkF m 116 #[.val (.int p1), .val (.int p2), .val (.int p3), .val (.int ((p1 &&& (2147483647 : Int32)) % (3 : Int32))), .val (.ref nb1), .val (.ref nb12), .val (.ref nb25), .unset, .unset, .unset, .unset, .unset, .unset, .unset] [(.int (1 : Int32)), (.ref nb42), (.ref nb12), (.ref nb38), (.ref nb38)])) (fun _ k => XS.goto X42.here hx rfl (pc0 := 112) (pc' := 116) rfl (hb hby at_112) (by decide) (by decide) k) ?_
          exact Jb43 _ (Or.inr rfl)
      by_cases hc83 : (p3 &&& (2 : Int32)) = (0 : Int32)
      · refine own_step (g' := (mkF m 91 #[.val (.int p1), .val (.int p2), .val (.int p3), .val (.int ((p1 &&& (2147483647 : Int32)) % (3 : Int32))), .val (.ref nb1), .val (.ref nb12), .unset, .unset, .unset, .unset, .unset, .unset, .unset, .unset] [(.int b29), (.ref nb28), (.ref nb1), (.ref nb25), (.ref nb25)])) (fun _ k => XS.ifYes X28.here hx rfl (pc0 := 84) (pc' := 91) rfl (hb hby at_84) rfl ((if0 _ _).trans (teq hc83).1) (by decide) (by decide) k) ?_
        refine own_step (g' := (mkF m 92 #[.val (.int p1), .val (.int p2), .val (.int p3), .val (.int ((p1 &&& (2147483647 : Int32)) % (3 : Int32))), .val (.ref nb1), .val (.ref nb12), .unset, .unset, .unset, .unset, .unset, .unset, .unset, .unset] [(.int (0 : Int32)), (.int b29), (.ref nb28), (.ref nb1), (.ref nb25), (.ref nb25)])) (fun _ k => XS.iconst X28.here hx rfl (hb hby at_91) k) ?_
        exact Jb30 _ (Or.inl rfl)
      · refine own_step (g' := (mkF m 87 #[.val (.int p1), .val (.int p2), .val (.int p3), .val (.int ((p1 &&& (2147483647 : Int32)) % (3 : Int32))), .val (.ref nb1), .val (.ref nb12), .unset, .unset, .unset, .unset, .unset, .unset, .unset, .unset] [(.int b29), (.ref nb28), (.ref nb1), (.ref nb25), (.ref nb25)])) (fun _ k => XS.ifNo X28.here hx rfl (hb hby at_84) rfl ((if0 _ _).trans (feq hc83).1) k) ?_
        refine own_step (g' := (mkF m 88 #[.val (.int p1), .val (.int p2), .val (.int p3), .val (.int ((p1 &&& (2147483647 : Int32)) % (3 : Int32))), .val (.ref nb1), .val (.ref nb12), .unset, .unset, .unset, .unset, .unset, .unset, .unset, .unset] [(.int (1 : Int32)), (.int b29), (.ref nb28), (.ref nb1), (.ref nb25), (.ref nb25)])) (fun _ k => XS.iconst X28.here hx rfl (hb hby at_87) k) ?_
        refine own_step (g' := (mkF m 92 #[.val (.int p1), .val (.int p2), .val (.int p3), .val (.int ((p1 &&& (2147483647 : Int32)) % (3 : Int32))), .val (.ref nb1), .val (.ref nb12), .unset, .unset, .unset, .unset, .unset, .unset, .unset, .unset] [(.int (1 : Int32)), (.int b29), (.ref nb28), (.ref nb1), (.ref nb25), (.ref nb25)])) (fun _ k => XS.goto X28.here hx rfl (pc0 := 88) (pc' := 92) rfl (hb hby at_88) (by decide) (by decide) k) ?_
        exact Jb30 _ (Or.inr rfl)
    by_cases hc84 : (p3 &&& (1 : Int32)) = (0 : Int32)
    · refine own_step (g' := (mkF m 80 #[.val (.int p1), .val (.int p2), .val (.int p3), .val (.int ((p1 &&& (2147483647 : Int32)) % (3 : Int32))), .val (.ref nb1), .val (.ref nb12), .unset, .unset, .unset, .unset, .unset, .unset, .unset, .unset] [(.ref nb28), (.ref nb1), (.ref nb25), (.ref nb25)])) (fun _ k => XS.ifYes X28.here hx rfl (pc0 := 73) (pc' := 80) rfl (hb hby at_73) rfl ((if0 _ _).trans (teq hc84).1) (by decide) (by decide) k) ?_
      refine own_step (g' := (mkF m 81 #[.val (.int p1), .val (.int p2), .val (.int p3), .val (.int ((p1 &&& (2147483647 : Int32)) % (3 : Int32))), .val (.ref nb1), .val (.ref nb12), .unset, .unset, .unset, .unset, .unset, .unset, .unset, .unset] [(.int (0 : Int32)), (.ref nb28), (.ref nb1), (.ref nb25), (.ref nb25)])) (fun _ k => XS.iconst X28.here hx rfl (hb hby at_80) k) ?_
      exact Jb29 _ (Or.inl rfl)
    · refine own_step (g' := (mkF m 76 #[.val (.int p1), .val (.int p2), .val (.int p3), .val (.int ((p1 &&& (2147483647 : Int32)) % (3 : Int32))), .val (.ref nb1), .val (.ref nb12), .unset, .unset, .unset, .unset, .unset, .unset, .unset, .unset] [(.ref nb28), (.ref nb1), (.ref nb25), (.ref nb25)])) (fun _ k => XS.ifNo X28.here hx rfl (hb hby at_73) rfl ((if0 _ _).trans (feq hc84).1) k) ?_
      refine own_step (g' := (mkF m 77 #[.val (.int p1), .val (.int p2), .val (.int p3), .val (.int ((p1 &&& (2147483647 : Int32)) % (3 : Int32))), .val (.ref nb1), .val (.ref nb12), .unset, .unset, .unset, .unset, .unset, .unset, .unset, .unset] [(.int (1 : Int32)), (.ref nb28), (.ref nb1), (.ref nb25), (.ref nb25)])) (fun _ k => XS.iconst X28.here hx rfl (hb hby at_76) k) ?_
      refine own_step (g' := (mkF m 81 #[.val (.int p1), .val (.int p2), .val (.int p3), .val (.int ((p1 &&& (2147483647 : Int32)) % (3 : Int32))), .val (.ref nb1), .val (.ref nb12), .unset, .unset, .unset, .unset, .unset, .unset, .unset, .unset] [(.int (1 : Int32)), (.ref nb28), (.ref nb1), (.ref nb25), (.ref nb25)])) (fun _ k => XS.goto X28.here hx rfl (pc0 := 77) (pc' := 81) rfl (hb hby at_77) (by decide) (by decide) k) ?_
      exact Jb29 _ (Or.inr rfl)
  · refine own_step (g' := (mkF m 1 #[.val (.int p1), .val (.int p2), .val (.int p3), .unset, .unset, .unset, .unset, .unset, .unset, .unset, .unset, .unset, .unset, .unset] [(.int p1)])) (fun _ k => XS.iloadN X0.here hx rfl (hb hby at_0) rfl k) ?_
    refine own_step (g' := (mkF m 3 #[.val (.int p1), .val (.int p2), .val (.int p3), .unset, .unset, .unset, .unset, .unset, .unset, .unset, .unset, .unset, .unset, .unset] [(.int (2147483647 : Int32)), (.int p1)])) (X0.ldcInt hx hown (mvT hZ (hw _ (List.mem_of_getElem? (i := 0) rfl))) (g := (mkF m 1 #[.val (.int p1), .val (.int p2), .val (.int p3), .unset, .unset, .unset, .unset, .unset, .unset, .unset, .unset, .unset, .unset, .unset] [(.int p1)])) rfl (hb hby at_1)) ?_
    refine own_step (g' := (mkF m 4 #[.val (.int p1), .val (.int p2), .val (.int p3), .unset, .unset, .unset, .unset, .unset, .unset, .unset, .unset, .unset, .unset, .unset] [(.int (p1 &&& (2147483647 : Int32)))])) (fun _ k => XS.iand X0.here hx rfl (hb hby at_3) rfl k) ?_
    refine own_step (g' := (mkF m 5 #[.val (.int p1), .val (.int p2), .val (.int p3), .unset, .unset, .unset, .unset, .unset, .unset, .unset, .unset, .unset, .unset, .unset] [(.int (3 : Int32)), (.int (p1 &&& (2147483647 : Int32)))])) (fun _ k => XS.iconst X0.here hx rfl (hb hby at_4) k) ?_
    refine own_step (g' := (mkF m 6 #[.val (.int p1), .val (.int p2), .val (.int p3), .unset, .unset, .unset, .unset, .unset, .unset, .unset, .unset, .unset, .unset, .unset] [(.int ((p1 &&& (2147483647 : Int32)) % (3 : Int32)))])) (fun _ k => own_irem X0.here hx rfl (hb hby at_5) rfl (by decide) k) ?_
    refine own_step (g' := (mkF m 7 #[.val (.int p1), .val (.int p2), .val (.int p3), .val (.int ((p1 &&& (2147483647 : Int32)) % (3 : Int32))), .unset, .unset, .unset, .unset, .unset, .unset, .unset, .unset, .unset, .unset] [])) (fun _ k => XS.istoreN X0.here hx rfl (hb hby at_6) rfl (l' := #[.val (.int p1), .val (.int p2), .val (.int p3), .val (.int ((p1 &&& (2147483647 : Int32)) % (3 : Int32))), .unset, .unset, .unset, .unset, .unset, .unset, .unset, .unset, .unset, .unset]) rfl k) ?_
    obtain ⟨T85, h85, X85, e85, Ex85, A85, D85, -, st85⟩ := newO X0 hx hZ hown (hw _ (List.mem_of_getElem? (i := 1) rfl)) (hw _ (List.mem_of_getElem? (i := 2) rfl)) (hw _ (List.mem_of_getElem? (i := 3) rfl)) e0 (g := (mkF m 7 #[.val (.int p1), .val (.int p2), .val (.int p3), .val (.int ((p1 &&& (2147483647 : Int32)) % (3 : Int32))), .unset, .unset, .unset, .unset, .unset, .unset, .unset, .unset, .unset, .unset] [])) rfl (hb hby at_7) (by decide) (by decide)
    obtain ⟨nb85, g85⟩ : ∃ z, z = h0.size := ⟨_, rfl⟩
    rw [← g85] at A85 D85 st85
    have g_nb85 : n0 ≤ nb85 := Nat.le_trans Z0 (Nat.le_of_eq g85.symm)
    have ne_ed_nb85 : ed ≠ nb85 := Nat.ne_of_lt (Nat.lt_of_lt_of_le Vd.lt (Nat.le_of_eq g85.symm))
    have hk := Nat.le_trans hk Ex85.1
    have hC := hC.trans (CHr.ext Ex85 hC.1)
    have F85_coder : Fld Z h85 nb85 "java/lang/String" "coder" "B" (.int (0 : Int32)) := D85 (Or.inr (hw _ (List.mem_of_getElem? (i := 28) rfl))) (ty := .byte) (by decide)
    have F85_value : Fld Z h85 nb85 "java/lang/String" "value" "[B" .null := D85 (Or.inr (hw _ (List.mem_of_getElem? (i := 30) rfl))) (ty := (.array .byte)) (by decide)
    refine own_via (g' := (mkF m 10 #[.val (.int p1), .val (.int p2), .val (.int p3), .val (.int ((p1 &&& (2147483647 : Int32)) % (3 : Int32))), .unset, .unset, .unset, .unset, .unset, .unset, .unset, .unset, .unset, .unset] [(.ref nb85)])) st85 ?_
    refine own_step (g' := (mkF m 11 #[.val (.int p1), .val (.int p2), .val (.int p3), .val (.int ((p1 &&& (2147483647 : Int32)) % (3 : Int32))), .unset, .unset, .unset, .unset, .unset, .unset, .unset, .unset, .unset, .unset] [(.ref nb85), (.ref nb85)])) (fun _ k => XS.dup X85.here hx rfl (hb hby at_10) rfl rfl k) ?_
    refine own_step (g' := (mkF m 12 #[.val (.int p1), .val (.int p2), .val (.int p3), .val (.int ((p1 &&& (2147483647 : Int32)) % (3 : Int32))), .unset, .unset, .unset, .unset, .unset, .unset, .unset, .unset, .unset, .unset] [(.int (2 : Int32)), (.ref nb85), (.ref nb85)])) (fun _ k => XS.iconst X85.here hx rfl (hb hby at_11) k) ?_
    have V_86 : Arv Z h85 ed kd (.object "java/lang/Object") (0 : Int32) [] .null := (Vd.ext Ex85)
    obtain ⟨T87, h87, k87, X87, e87, Ex87, A87, st87⟩ := newP X85 hx hZ (hw _ (List.mem_of_getElem? (i := 4) rfl)) e85 (g := (mkF m 12 #[.val (.int p1), .val (.int p2), .val (.int p3), .val (.int ((p1 &&& (2147483647 : Int32)) % (3 : Int32))), .unset, .unset, .unset, .unset, .unset, .unset, .unset, .unset, .unset, .unset] [(.int (2 : Int32)), (.ref nb85), (.ref nb85)])) rfl (hb hby at_12) rfl (by decide) (cap := 2) (by decide) (by decide) (by decide) (by decide)
    obtain ⟨nb87, g87⟩ : ∃ z, z = h85.size := ⟨_, rfl⟩
    rw [← g87] at A87 st87
    have V87 : Arv Z h87 nb87 k87 .char (2 : Int32) [(.int (0 : Int32)), (.int (0 : Int32))] (.int (0 : Int32)) := (Arv.new A87 (by decide)).pad (pad_rep [] (.int (0 : Int32)) 2)
    have g_nb87 : n0 ≤ nb87 := Nat.le_trans (Nat.le_trans Z0 Ex85.1) (Nat.le_of_eq g87.symm)
    have ne_ed_nb87 : ed ≠ nb87 := Nat.ne_of_lt (Nat.lt_of_lt_of_le V_86.lt (Nat.le_of_eq g87.symm))
    have ne_nb85_nb87 : nb85 ≠ nb87 := Nat.ne_of_lt (Nat.lt_of_lt_of_le A85.lt (Nat.le_of_eq g87.symm))
    have hk := Nat.le_trans hk Ex87.1
    have hC := hC.trans (CHr.ext Ex87 hC.1)
    refine own_via (g' := (mkF m 14 #[.val (.int p1), .val (.int p2), .val (.int p3), .val (.int ((p1 &&& (2147483647 : Int32)) % (3 : Int32))), .unset, .unset, .unset, .unset, .unset, .unset, .unset, .unset, .unset, .unset] [(.ref nb87), (.ref nb85), (.ref nb85)])) st87 ?_
    refine own_step (g' := (mkF m 15 #[.val (.int p1), .val (.int p2), .val (.int p3), .val (.int ((p1 &&& (2147483647 : Int32)) % (3 : Int32))), .unset, .unset, .unset, .unset, .unset, .unset, .unset, .unset, .unset, .unset] [(.ref nb87), (.ref nb87), (.ref nb85), (.ref nb85)])) (fun _ k => XS.dup X87.here hx rfl (hb hby at_14) rfl rfl k) ?_
    refine own_step (g' := (mkF m 16 #[.val (.int p1), .val (.int p2), .val (.int p3), .val (.int ((p1 &&& (2147483647 : Int32)) % (3 : Int32))), .unset, .unset, .unset, .unset, .unset, .unset, .unset, .unset, .unset, .unset] [(.int (0 : Int32)), (.ref nb87), (.ref nb87), (.ref nb85), (.ref nb85)])) (fun _ k => XS.iconst X87.here hx rfl (hb hby at_15) k) ?_
    refine own_step (g' := (mkF m 18 #[.val (.int p1), .val (.int p2), .val (.int p3), .val (.int ((p1 &&& (2147483647 : Int32)) % (3 : Int32))), .unset, .unset, .unset, .unset, .unset, .unset, .unset, .unset, .unset, .unset] [(.int (45 : Int32)), (.int (0 : Int32)), (.ref nb87), (.ref nb87), (.ref nb85), (.ref nb85)])) (fun _ k => XS.bipush X87.here hx rfl (hb hby at_16) k) ?_
    obtain ⟨cl88, Ar88, q88, S88, M88, H88, G88⟩ := id V87
    obtain ⟨T88, h88, X88, e88, W88, st88⟩ := stC X87 hx hZ e87 Ar88 (j := (0 : Int32)) (inb_of S88 ⟨by decide, by decide⟩)  (g := (mkF m 18 #[.val (.int p1), .val (.int p2), .val (.int p3), .val (.int ((p1 &&& (2147483647 : Int32)) % (3 : Int32))), .unset, .unset, .unset, .unset, .unset, .unset, .unset, .unset, .unset, .unset] [(.int (45 : Int32)), (.int (0 : Int32)), (.ref nb87), (.ref nb87), (.ref nb85), (.ref nb85)])) rfl rfl (hb hby at_18)
    have V88 : Arv Z h88 nb87 k87 .char (2 : Int32) [(.int (nar .char (45 : Int32))), (.int (0 : Int32))] (.int (0 : Int32)) := Arv.set Ar88 q88 S88 M88 H88 G88 (fits_nar_char _) W88 0 rfl (Nat.le_of_ble_eq_true rfl)
    have N88 := Fr.snoc X88 N0 g_nb87
    have hk := Nat.le_trans hk (Nat.le_of_eq W88.size.symm)
    have hC := hC.trans (CHr.wr W88 own_safe_nil hC.1)
    refine own_via (g' := (mkF m 19 #[.val (.int p1), .val (.int p2), .val (.int p3), .val (.int ((p1 &&& (2147483647 : Int32)) % (3 : Int32))), .unset, .unset, .unset, .unset, .unset, .unset, .unset, .unset, .unset, .unset] [(.ref nb87), (.ref nb85), (.ref nb85)])) st88 ?_
    refine own_step (g' := (mkF m 20 #[.val (.int p1), .val (.int p2), .val (.int p3), .val (.int ((p1 &&& (2147483647 : Int32)) % (3 : Int32))), .unset, .unset, .unset, .unset, .unset, .unset, .unset, .unset, .unset, .unset] [(.ref nb87), (.ref nb87), (.ref nb85), (.ref nb85)])) (fun _ k => XS.dup X88.here hx rfl (hb hby at_19) rfl rfl k) ?_
    refine own_step (g' := (mkF m 21 #[.val (.int p1), .val (.int p2), .val (.int p3), .val (.int ((p1 &&& (2147483647 : Int32)) % (3 : Int32))), .unset, .unset, .unset, .unset, .unset, .unset, .unset, .unset, .unset, .unset] [(.int (1 : Int32)), (.ref nb87), (.ref nb87), (.ref nb85), (.ref nb85)])) (fun _ k => XS.iconst X88.here hx rfl (hb hby at_20) k) ?_
    refine own_step (g' := (mkF m 22 #[.val (.int p1), .val (.int p2), .val (.int p3), .val (.int ((p1 &&& (2147483647 : Int32)) % (3 : Int32))), .unset, .unset, .unset, .unset, .unset, .unset, .unset, .unset, .unset, .unset] [(.int p2), (.int (1 : Int32)), (.ref nb87), (.ref nb87), (.ref nb85), (.ref nb85)])) (fun _ k => XS.iloadN X88.here hx rfl (hb hby at_21) rfl k) ?_
    refine own_step (g' := (mkF m 25 #[.val (.int p1), .val (.int p2), .val (.int p3), .val (.int ((p1 &&& (2147483647 : Int32)) % (3 : Int32))), .unset, .unset, .unset, .unset, .unset, .unset, .unset, .unset, .unset, .unset] [(.int (255 : Int32)), (.int p2), (.int (1 : Int32)), (.ref nb87), (.ref nb87), (.ref nb85), (.ref nb85)])) (fun _ k => XS.sipush X88.here hx rfl (hb hby at_22) k) ?_
    refine own_step (g' := (mkF m 26 #[.val (.int p1), .val (.int p2), .val (.int p3), .val (.int ((p1 &&& (2147483647 : Int32)) % (3 : Int32))), .unset, .unset, .unset, .unset, .unset, .unset, .unset, .unset, .unset, .unset] [(.int (p2 &&& (255 : Int32))), (.int (1 : Int32)), (.ref nb87), (.ref nb87), (.ref nb85), (.ref nb85)])) (fun _ k => XS.iand X88.here hx rfl (hb hby at_25) rfl k) ?_
    refine own_step (g' := (mkF m 27 #[.val (.int p1), .val (.int p2), .val (.int p3), .val (.int ((p1 &&& (2147483647 : Int32)) % (3 : Int32))), .unset, .unset, .unset, .unset, .unset, .unset, .unset, .unset, .unset, .unset] [(.int ((p2 &&& (255 : Int32)).toUInt32.toUInt16.toUInt32.toInt32)), (.int (1 : Int32)), (.ref nb87), (.ref nb87), (.ref nb85), (.ref nb85)])) (fun _ k => XS.i2c X88.here hx rfl (hb hby at_26) rfl k) ?_
    obtain ⟨cl89, Ar89, q89, S89, M89, H89, G89⟩ := id V88
    obtain ⟨T89, h89, X89, e89, W89, st89⟩ := stC X88 hx hZ e88 Ar89 (j := (1 : Int32)) (inb_of S89 ⟨by decide, by decide⟩)  (g := (mkF m 27 #[.val (.int p1), .val (.int p2), .val (.int p3), .val (.int ((p1 &&& (2147483647 : Int32)) % (3 : Int32))), .unset, .unset, .unset, .unset, .unset, .unset, .unset, .unset, .unset, .unset] [(.int ((p2 &&& (255 : Int32)).toUInt32.toUInt16.toUInt32.toInt32)), (.int (1 : Int32)), (.ref nb87), (.ref nb87), (.ref nb85), (.ref nb85)])) rfl rfl (hb hby at_27)
    have V89 : Arv Z h89 nb87 k87 .char (2 : Int32) [(.int (nar .char (45 : Int32))), (.int (nar .char ((p2 &&& (255 : Int32)).toUInt32.toUInt16.toUInt32.toInt32)))] (.int (0 : Int32)) := Arv.set Ar89 q89 S89 M89 H89 G89 (fits_nar_char _) W89 1 rfl (Nat.le_of_ble_eq_true rfl)
    have N89 := Fr.snoc X89 N88 g_nb87
    have hk := Nat.le_trans hk (Nat.le_of_eq W89.size.symm)
    have hC := hC.trans (CHr.wr W89 own_safe_nil hC.1)
    refine own_via (g' := (mkF m 28 #[.val (.int p1), .val (.int p2), .val (.int p3), .val (.int ((p1 &&& (2147483647 : Int32)) % (3 : Int32))), .unset, .unset, .unset, .unset, .unset, .unset, .unset, .unset, .unset, .unset] [(.ref nb87), (.ref nb85), (.ref nb85)])) st89 ?_
    have hlat90 : ∀ c ∈ [(nar .char (45 : Int32)), (nar .char ((p2 &&& (255 : Int32)).toUInt32.toUInt16.toUInt32.toInt32))], ¬ c < (0 : Int32) ∧ ¬ (255 : Int32) < c := by
      intro c hc
      simp only [List.mem_cons, List.not_mem_nil, or_false] at hc
      rcases hc with rfl | rfl
      · decide
      · exact own_latN _
    have C_91 : Exa Z h89 nb85 "java/lang/String" := (Exa.wr W89 (Exa.wr W88 (Exa.ext Ex87 A85)))
    have F_92 : Fld Z h89 nb85 "java/lang/String" "value" "[B" .null := (Fld.other W89 (Fld.other W88 (Fld.ext Ex87 F85_value) (Or.inl ne_nb85_nb87)) (Or.inl ne_nb85_nb87))
    have F_93 : Fld Z h89 nb85 "java/lang/String" "coder" "B" (.int (0 : Int32)) := (Fld.other W89 (Fld.other W88 (Fld.ext Ex87 F85_coder) (Or.inl ne_nb85_nb87)) (Or.inl ne_nb85_nb87))
    have S_94 : Sta Z h89 "java/lang/String" "COMPACT_STRINGS" "Z" (.int z) := (Sta.wr W89 (Sta.wr W88 (Sta.ext Ex87 (Sta.ext Ex85 S_CS))))
    refine own_initB X89 hx hZ (W := 1) hown e89 (StrChars.Road.backV (W := 1) hZ hws (kI := 4) (hw _ (List.mem_of_getElem? (i := 2) rfl)) (cs := [(nar .char (45 : Int32)), (nar .char ((p2 &&& (255 : Int32)).toUInt32.toUInt16.toUInt32.toInt32))]) (bs := [((nar .char (45 : Int32))).toInt8.toInt32, ((nar .char ((p2 &&& (255 : Int32)).toUInt32.toUInt16.toUInt32.toInt32))).toInt8.toInt32]) (n := 2) g_nb85 (Nat.le_trans (Nat.le_trans (Nat.le_trans (Nat.le_trans Z0 Ex85.1) Ex87.1) (Nat.le_of_eq W88.size.symm)) (Nat.le_of_eq W89.size.symm)) C_91 F_92 F_93 V89 S_94 hz rfl rfl (by decide) (by decide) hlat90 rfl (by decide) (by decide)) rfl (hw _ (List.mem_of_getElem? (i := 5) rfl)) (hw _ (List.mem_of_getElem? (i := 6) rfl)) (hw _ (List.mem_of_getElem? (i := 7) rfl)) (by decide) (g := (mkF m 28 #[.val (.int p1), .val (.int p2), .val (.int p3), .val (.int ((p1 &&& (2147483647 : Int32)) % (3 : Int32))), .unset, .unset, .unset, .unset, .unset, .unset, .unset, .unset, .unset, .unset] [(.ref nb87), (.ref nb85), (.ref nb85)])) rfl (by rw [hml]; rfl) (argsL := [(.ref nb87)]) (rest := [(.ref nb85)]) rfl (lenOf pd_8 rfl) rfl (by show 2 * 0 + _ ≤ _; exact Nat.le_of_eq rfl) (hb hby at_28) (by decide) (by decide) ?_
    intro v95 T95 L95 X95 hQ95
    obtain ⟨rfl, Nq95, Kq95, Cq95, -⟩ := hQ95
    have N95 := Fr.app N89 Nq95
    have hk := Nat.le_trans hk Kq95.1
    have hC := hC.trans (CHr.keep Kq95 (sfS own_safe_nil sf0) hC.1)
    show OGo p e below _ T95 (mkF m 31 #[.val (.int p1), .val (.int p2), .val (.int p3), .val (.int ((p1 &&& (2147483647 : Int32)) % (3 : Int32))), .unset, .unset, .unset, .unset, .unset, .unset, .unset, .unset, .unset, .unset] [(.ref nb85)])
    refine own_step (g' := (mkF m 33 #[.val (.int p1), .val (.int p2), .val (.int p3), .val (.int ((p1 &&& (2147483647 : Int32)) % (3 : Int32))), .val (.ref nb85), .unset, .unset, .unset, .unset, .unset, .unset, .unset, .unset, .unset] [])) (fun _ k => XS.astore X95.here hx rfl (hb hby at_31) rfl rfl (l' := #[.val (.int p1), .val (.int p2), .val (.int p3), .val (.int ((p1 &&& (2147483647 : Int32)) % (3 : Int32))), .val (.ref nb85), .unset, .unset, .unset, .unset, .unset, .unset, .unset, .unset, .unset]) rfl k) ?_
    have V_97 : Arv Z T95.heap ed kd (.object "java/lang/Object") (0 : Int32) [] .null := ((((V_86.ext Ex87).other W88 ne_ed_nb87).other W89 ne_ed_nb87).keep Kq95 (ninS ne_ed_nb85 nin0))
    obtain ⟨T96, h96, X96, e96, Ex96, A96, D96, -, st96⟩ := newO X95 hx hZ hown (hw _ (List.mem_of_getElem? (i := 1) rfl)) (hw _ (List.mem_of_getElem? (i := 2) rfl)) (hw _ (List.mem_of_getElem? (i := 3) rfl)) rfl (g := (mkF m 33 #[.val (.int p1), .val (.int p2), .val (.int p3), .val (.int ((p1 &&& (2147483647 : Int32)) % (3 : Int32))), .val (.ref nb85), .unset, .unset, .unset, .unset, .unset, .unset, .unset, .unset, .unset] [])) rfl (hb hby at_33) (by decide) (by decide)
    obtain ⟨nb96, g96⟩ : ∃ z, z = T95.heap.size := ⟨_, rfl⟩
    rw [← g96] at A96 D96 st96
    have g_nb96 : n0 ≤ nb96 := Nat.le_trans (Nat.le_trans (Nat.le_trans (Nat.le_trans (Nat.le_trans (Nat.le_trans Z0 Ex85.1) Ex87.1) (Nat.le_of_eq W88.size.symm)) (Nat.le_of_eq W89.size.symm)) Kq95.1) (Nat.le_of_eq g96.symm)
    have ne_ed_nb96 : ed ≠ nb96 := Nat.ne_of_lt (Nat.lt_of_lt_of_le V_97.lt (Nat.le_of_eq g96.symm))
    have ne_nb85_nb96 : nb85 ≠ nb96 := Nat.ne_of_lt (Nat.lt_of_lt_of_le Cq95.lt (Nat.le_of_eq g96.symm))
    have hk := Nat.le_trans hk Ex96.1
    have hC := hC.trans (CHr.ext Ex96 hC.1)
    have F96_coder : Fld Z h96 nb96 "java/lang/String" "coder" "B" (.int (0 : Int32)) := D96 (Or.inr (hw _ (List.mem_of_getElem? (i := 28) rfl))) (ty := .byte) (by decide)
    have F96_value : Fld Z h96 nb96 "java/lang/String" "value" "[B" .null := D96 (Or.inr (hw _ (List.mem_of_getElem? (i := 30) rfl))) (ty := (.array .byte)) (by decide)
    refine own_via (g' := (mkF m 36 #[.val (.int p1), .val (.int p2), .val (.int p3), .val (.int ((p1 &&& (2147483647 : Int32)) % (3 : Int32))), .val (.ref nb85), .unset, .unset, .unset, .unset, .unset, .unset, .unset, .unset, .unset] [(.ref nb96)])) st96 ?_
    refine own_step (g' := (mkF m 37 #[.val (.int p1), .val (.int p2), .val (.int p3), .val (.int ((p1 &&& (2147483647 : Int32)) % (3 : Int32))), .val (.ref nb85), .unset, .unset, .unset, .unset, .unset, .unset, .unset, .unset, .unset] [(.ref nb96), (.ref nb96)])) (fun _ k => XS.dup X96.here hx rfl (hb hby at_36) rfl rfl k) ?_
    refine own_step (g' := (mkF m 38 #[.val (.int p1), .val (.int p2), .val (.int p3), .val (.int ((p1 &&& (2147483647 : Int32)) % (3 : Int32))), .val (.ref nb85), .unset, .unset, .unset, .unset, .unset, .unset, .unset, .unset, .unset] [(.int (2 : Int32)), (.ref nb96), (.ref nb96)])) (fun _ k => XS.iconst X96.here hx rfl (hb hby at_37) k) ?_
    have V_98 : Arv Z h96 ed kd (.object "java/lang/Object") (0 : Int32) [] .null := (V_97.ext Ex96)
    have C_99 : Exa Z h96 nb85 "java/lang/String" := (Exa.ext Ex96 Cq95)
    obtain ⟨T100, h100, k100, X100, e100, Ex100, A100, st100⟩ := newP X96 hx hZ (hw _ (List.mem_of_getElem? (i := 4) rfl)) e96 (g := (mkF m 38 #[.val (.int p1), .val (.int p2), .val (.int p3), .val (.int ((p1 &&& (2147483647 : Int32)) % (3 : Int32))), .val (.ref nb85), .unset, .unset, .unset, .unset, .unset, .unset, .unset, .unset, .unset] [(.int (2 : Int32)), (.ref nb96), (.ref nb96)])) rfl (hb hby at_38) rfl (by decide) (cap := 2) (by decide) (by decide) (by decide) (by decide)
    obtain ⟨nb100, g100⟩ : ∃ z, z = h96.size := ⟨_, rfl⟩
    rw [← g100] at A100 st100
    have V100 : Arv Z h100 nb100 k100 .char (2 : Int32) [(.int (0 : Int32)), (.int (0 : Int32))] (.int (0 : Int32)) := (Arv.new A100 (by decide)).pad (pad_rep [] (.int (0 : Int32)) 2)
    have g_nb100 : n0 ≤ nb100 := Nat.le_trans (Nat.le_trans (Nat.le_trans (Nat.le_trans (Nat.le_trans (Nat.le_trans (Nat.le_trans Z0 Ex85.1) Ex87.1) (Nat.le_of_eq W88.size.symm)) (Nat.le_of_eq W89.size.symm)) Kq95.1) Ex96.1) (Nat.le_of_eq g100.symm)
    have ne_ed_nb100 : ed ≠ nb100 := Nat.ne_of_lt (Nat.lt_of_lt_of_le V_98.lt (Nat.le_of_eq g100.symm))
    have ne_nb85_nb100 : nb85 ≠ nb100 := Nat.ne_of_lt (Nat.lt_of_lt_of_le C_99.lt (Nat.le_of_eq g100.symm))
    have ne_nb96_nb100 : nb96 ≠ nb100 := Nat.ne_of_lt (Nat.lt_of_lt_of_le A96.lt (Nat.le_of_eq g100.symm))
    have hk := Nat.le_trans hk Ex100.1
    have hC := hC.trans (CHr.ext Ex100 hC.1)
    refine own_via (g' := (mkF m 40 #[.val (.int p1), .val (.int p2), .val (.int p3), .val (.int ((p1 &&& (2147483647 : Int32)) % (3 : Int32))), .val (.ref nb85), .unset, .unset, .unset, .unset, .unset, .unset, .unset, .unset, .unset] [(.ref nb100), (.ref nb96), (.ref nb96)])) st100 ?_
    refine own_step (g' := (mkF m 41 #[.val (.int p1), .val (.int p2), .val (.int p3), .val (.int ((p1 &&& (2147483647 : Int32)) % (3 : Int32))), .val (.ref nb85), .unset, .unset, .unset, .unset, .unset, .unset, .unset, .unset, .unset] [(.ref nb100), (.ref nb100), (.ref nb96), (.ref nb96)])) (fun _ k => XS.dup X100.here hx rfl (hb hby at_40) rfl rfl k) ?_
    refine own_step (g' := (mkF m 42 #[.val (.int p1), .val (.int p2), .val (.int p3), .val (.int ((p1 &&& (2147483647 : Int32)) % (3 : Int32))), .val (.ref nb85), .unset, .unset, .unset, .unset, .unset, .unset, .unset, .unset, .unset] [(.int (0 : Int32)), (.ref nb100), (.ref nb100), (.ref nb96), (.ref nb96)])) (fun _ k => XS.iconst X100.here hx rfl (hb hby at_41) k) ?_
    refine own_step (g' := (mkF m 44 #[.val (.int p1), .val (.int p2), .val (.int p3), .val (.int ((p1 &&& (2147483647 : Int32)) % (3 : Int32))), .val (.ref nb85), .unset, .unset, .unset, .unset, .unset, .unset, .unset, .unset, .unset] [(.int (45 : Int32)), (.int (0 : Int32)), (.ref nb100), (.ref nb100), (.ref nb96), (.ref nb96)])) (fun _ k => XS.bipush X100.here hx rfl (hb hby at_42) k) ?_
    obtain ⟨cl101, Ar101, q101, S101, M101, H101, G101⟩ := id V100
    obtain ⟨T101, h101, X101, e101, W101, st101⟩ := stC X100 hx hZ e100 Ar101 (j := (0 : Int32)) (inb_of S101 ⟨by decide, by decide⟩)  (g := (mkF m 44 #[.val (.int p1), .val (.int p2), .val (.int p3), .val (.int ((p1 &&& (2147483647 : Int32)) % (3 : Int32))), .val (.ref nb85), .unset, .unset, .unset, .unset, .unset, .unset, .unset, .unset, .unset] [(.int (45 : Int32)), (.int (0 : Int32)), (.ref nb100), (.ref nb100), (.ref nb96), (.ref nb96)])) rfl rfl (hb hby at_44)
    have V101 : Arv Z h101 nb100 k100 .char (2 : Int32) [(.int (nar .char (45 : Int32))), (.int (0 : Int32))] (.int (0 : Int32)) := Arv.set Ar101 q101 S101 M101 H101 G101 (fits_nar_char _) W101 0 rfl (Nat.le_of_ble_eq_true rfl)
    have N101 := Fr.snoc X101 N95 g_nb100
    have hk := Nat.le_trans hk (Nat.le_of_eq W101.size.symm)
    have hC := hC.trans (CHr.wr W101 own_safe_nil hC.1)
    refine own_via (g' := (mkF m 45 #[.val (.int p1), .val (.int p2), .val (.int p3), .val (.int ((p1 &&& (2147483647 : Int32)) % (3 : Int32))), .val (.ref nb85), .unset, .unset, .unset, .unset, .unset, .unset, .unset, .unset, .unset] [(.ref nb100), (.ref nb96), (.ref nb96)])) st101 ?_
    refine own_step (g' := (mkF m 46 #[.val (.int p1), .val (.int p2), .val (.int p3), .val (.int ((p1 &&& (2147483647 : Int32)) % (3 : Int32))), .val (.ref nb85), .unset, .unset, .unset, .unset, .unset, .unset, .unset, .unset, .unset] [(.ref nb100), (.ref nb100), (.ref nb96), (.ref nb96)])) (fun _ k => XS.dup X101.here hx rfl (hb hby at_45) rfl rfl k) ?_
    refine own_step (g' := (mkF m 47 #[.val (.int p1), .val (.int p2), .val (.int p3), .val (.int ((p1 &&& (2147483647 : Int32)) % (3 : Int32))), .val (.ref nb85), .unset, .unset, .unset, .unset, .unset, .unset, .unset, .unset, .unset] [(.int (1 : Int32)), (.ref nb100), (.ref nb100), (.ref nb96), (.ref nb96)])) (fun _ k => XS.iconst X101.here hx rfl (hb hby at_46) k) ?_
    refine own_step (g' := (mkF m 48 #[.val (.int p1), .val (.int p2), .val (.int p3), .val (.int ((p1 &&& (2147483647 : Int32)) % (3 : Int32))), .val (.ref nb85), .unset, .unset, .unset, .unset, .unset, .unset, .unset, .unset, .unset] [(.int p2), (.int (1 : Int32)), (.ref nb100), (.ref nb100), (.ref nb96), (.ref nb96)])) (fun _ k => XS.iloadN X101.here hx rfl (hb hby at_47) rfl k) ?_
    refine own_step (g' := (mkF m 50 #[.val (.int p1), .val (.int p2), .val (.int p3), .val (.int ((p1 &&& (2147483647 : Int32)) % (3 : Int32))), .val (.ref nb85), .unset, .unset, .unset, .unset, .unset, .unset, .unset, .unset, .unset] [(.int (8 : Int32)), (.int p2), (.int (1 : Int32)), (.ref nb100), (.ref nb100), (.ref nb96), (.ref nb96)])) (fun _ k => XS.bipush X101.here hx rfl (hb hby at_48) k) ?_
    refine own_step (g' := (mkF m 51 #[.val (.int p1), .val (.int p2), .val (.int p3), .val (.int ((p1 &&& (2147483647 : Int32)) % (3 : Int32))), .val (.ref nb85), .unset, .unset, .unset, .unset, .unset, .unset, .unset, .unset, .unset] [(.int ((p2.toUInt32 >>> ((8 : Int32) &&& 31).toUInt32).toInt32)), (.int (1 : Int32)), (.ref nb100), (.ref nb100), (.ref nb96), (.ref nb96)])) (fun _ k => XS.iushr X101.here hx rfl (hb hby at_50) rfl k) ?_
    refine own_step (g' := (mkF m 54 #[.val (.int p1), .val (.int p2), .val (.int p3), .val (.int ((p1 &&& (2147483647 : Int32)) % (3 : Int32))), .val (.ref nb85), .unset, .unset, .unset, .unset, .unset, .unset, .unset, .unset, .unset] [(.int (255 : Int32)), (.int ((p2.toUInt32 >>> ((8 : Int32) &&& 31).toUInt32).toInt32)), (.int (1 : Int32)), (.ref nb100), (.ref nb100), (.ref nb96), (.ref nb96)])) (fun _ k => XS.sipush X101.here hx rfl (hb hby at_51) k) ?_
    refine own_step (g' := (mkF m 55 #[.val (.int p1), .val (.int p2), .val (.int p3), .val (.int ((p1 &&& (2147483647 : Int32)) % (3 : Int32))), .val (.ref nb85), .unset, .unset, .unset, .unset, .unset, .unset, .unset, .unset, .unset] [(.int (((p2.toUInt32 >>> ((8 : Int32) &&& 31).toUInt32).toInt32) &&& (255 : Int32))), (.int (1 : Int32)), (.ref nb100), (.ref nb100), (.ref nb96), (.ref nb96)])) (fun _ k => XS.iand X101.here hx rfl (hb hby at_54) rfl k) ?_
    refine own_step (g' := (mkF m 56 #[.val (.int p1), .val (.int p2), .val (.int p3), .val (.int ((p1 &&& (2147483647 : Int32)) % (3 : Int32))), .val (.ref nb85), .unset, .unset, .unset, .unset, .unset, .unset, .unset, .unset, .unset] [(.int ((((p2.toUInt32 >>> ((8 : Int32) &&& 31).toUInt32).toInt32) &&& (255 : Int32)).toUInt32.toUInt16.toUInt32.toInt32)), (.int (1 : Int32)), (.ref nb100), (.ref nb100), (.ref nb96), (.ref nb96)])) (fun _ k => XS.i2c X101.here hx rfl (hb hby at_55) rfl k) ?_
    obtain ⟨cl102, Ar102, q102, S102, M102, H102, G102⟩ := id V101
    obtain ⟨T102, h102, X102, e102, W102, st102⟩ := stC X101 hx hZ e101 Ar102 (j := (1 : Int32)) (inb_of S102 ⟨by decide, by decide⟩)  (g := (mkF m 56 #[.val (.int p1), .val (.int p2), .val (.int p3), .val (.int ((p1 &&& (2147483647 : Int32)) % (3 : Int32))), .val (.ref nb85), .unset, .unset, .unset, .unset, .unset, .unset, .unset, .unset, .unset] [(.int ((((p2.toUInt32 >>> ((8 : Int32) &&& 31).toUInt32).toInt32) &&& (255 : Int32)).toUInt32.toUInt16.toUInt32.toInt32)), (.int (1 : Int32)), (.ref nb100), (.ref nb100), (.ref nb96), (.ref nb96)])) rfl rfl (hb hby at_56)
    have V102 : Arv Z h102 nb100 k100 .char (2 : Int32) [(.int (nar .char (45 : Int32))), (.int (nar .char ((((p2.toUInt32 >>> ((8 : Int32) &&& 31).toUInt32).toInt32) &&& (255 : Int32)).toUInt32.toUInt16.toUInt32.toInt32)))] (.int (0 : Int32)) := Arv.set Ar102 q102 S102 M102 H102 G102 (fits_nar_char _) W102 1 rfl (Nat.le_of_ble_eq_true rfl)
    have N102 := Fr.snoc X102 N101 g_nb100
    have hk := Nat.le_trans hk (Nat.le_of_eq W102.size.symm)
    have hC := hC.trans (CHr.wr W102 own_safe_nil hC.1)
    refine own_via (g' := (mkF m 57 #[.val (.int p1), .val (.int p2), .val (.int p3), .val (.int ((p1 &&& (2147483647 : Int32)) % (3 : Int32))), .val (.ref nb85), .unset, .unset, .unset, .unset, .unset, .unset, .unset, .unset, .unset] [(.ref nb100), (.ref nb96), (.ref nb96)])) st102 ?_
    have hlat103 : ∀ c ∈ [(nar .char (45 : Int32)), (nar .char ((((p2.toUInt32 >>> ((8 : Int32) &&& 31).toUInt32).toInt32) &&& (255 : Int32)).toUInt32.toUInt16.toUInt32.toInt32))], ¬ c < (0 : Int32) ∧ ¬ (255 : Int32) < c := by
      intro c hc
      simp only [List.mem_cons, List.not_mem_nil, or_false] at hc
      rcases hc with rfl | rfl
      · decide
      · exact own_latN _
    have C_104 : Exa Z h102 nb96 "java/lang/String" := (Exa.wr W102 (Exa.wr W101 (Exa.ext Ex100 A96)))
    have F_105 : Fld Z h102 nb96 "java/lang/String" "value" "[B" .null := (Fld.other W102 (Fld.other W101 (Fld.ext Ex100 F96_value) (Or.inl ne_nb96_nb100)) (Or.inl ne_nb96_nb100))
    have F_106 : Fld Z h102 nb96 "java/lang/String" "coder" "B" (.int (0 : Int32)) := (Fld.other W102 (Fld.other W101 (Fld.ext Ex100 F96_coder) (Or.inl ne_nb96_nb100)) (Or.inl ne_nb96_nb100))
    have S_107 : Sta Z h102 "java/lang/String" "COMPACT_STRINGS" "Z" (.int z) := (Sta.wr W102 (Sta.wr W101 (Sta.ext Ex100 (Sta.ext Ex96 (own_sta_keep S_94 Kq95 (allS (own_nsE C_91) all0))))))
    refine own_initB X102 hx hZ (W := 1) hown e102 (StrChars.Road.backV (W := 1) hZ hws (kI := 4) (hw _ (List.mem_of_getElem? (i := 2) rfl)) (cs := [(nar .char (45 : Int32)), (nar .char ((((p2.toUInt32 >>> ((8 : Int32) &&& 31).toUInt32).toInt32) &&& (255 : Int32)).toUInt32.toUInt16.toUInt32.toInt32))]) (bs := [((nar .char (45 : Int32))).toInt8.toInt32, ((nar .char ((((p2.toUInt32 >>> ((8 : Int32) &&& 31).toUInt32).toInt32) &&& (255 : Int32)).toUInt32.toUInt16.toUInt32.toInt32))).toInt8.toInt32]) (n := 2) g_nb96 (Nat.le_trans (Nat.le_trans (Nat.le_trans (Nat.le_trans (Nat.le_trans (Nat.le_trans (Nat.le_trans (Nat.le_trans (Nat.le_trans Z0 Ex85.1) Ex87.1) (Nat.le_of_eq W88.size.symm)) (Nat.le_of_eq W89.size.symm)) Kq95.1) Ex96.1) Ex100.1) (Nat.le_of_eq W101.size.symm)) (Nat.le_of_eq W102.size.symm)) C_104 F_105 F_106 V102 S_107 hz rfl rfl (by decide) (by decide) hlat103 rfl (by decide) (by decide)) rfl (hw _ (List.mem_of_getElem? (i := 5) rfl)) (hw _ (List.mem_of_getElem? (i := 6) rfl)) (hw _ (List.mem_of_getElem? (i := 7) rfl)) (by decide) (g := (mkF m 57 #[.val (.int p1), .val (.int p2), .val (.int p3), .val (.int ((p1 &&& (2147483647 : Int32)) % (3 : Int32))), .val (.ref nb85), .unset, .unset, .unset, .unset, .unset, .unset, .unset, .unset, .unset] [(.ref nb100), (.ref nb96), (.ref nb96)])) rfl (by rw [hml]; rfl) (argsL := [(.ref nb100)]) (rest := [(.ref nb96)]) rfl (lenOf pd_8 rfl) rfl (by show 2 * 0 + _ ≤ _; exact Nat.le_of_eq rfl) (hb hby at_57) (by decide) (by decide) ?_
    intro v108 T108 L108 X108 hQ108
    obtain ⟨rfl, Nq108, Kq108, Cq108, -⟩ := hQ108
    have N108 := Fr.app N102 Nq108
    have hk := Nat.le_trans hk Kq108.1
    have hC := hC.trans (CHr.keep Kq108 (sfS own_safe_nil sf0) hC.1)
    show OGo p e below _ T108 (mkF m 60 #[.val (.int p1), .val (.int p2), .val (.int p3), .val (.int ((p1 &&& (2147483647 : Int32)) % (3 : Int32))), .val (.ref nb85), .unset, .unset, .unset, .unset, .unset, .unset, .unset, .unset, .unset] [(.ref nb96)])
    refine own_step (g' := (mkF m 62 #[.val (.int p1), .val (.int p2), .val (.int p3), .val (.int ((p1 &&& (2147483647 : Int32)) % (3 : Int32))), .val (.ref nb85), .val (.ref nb96), .unset, .unset, .unset, .unset, .unset, .unset, .unset, .unset] [])) (fun _ k => XS.astore X108.here hx rfl (hb hby at_60) rfl rfl (l' := #[.val (.int p1), .val (.int p2), .val (.int p3), .val (.int ((p1 &&& (2147483647 : Int32)) % (3 : Int32))), .val (.ref nb85), .val (.ref nb96), .unset, .unset, .unset, .unset, .unset, .unset, .unset, .unset]) rfl k) ?_
    have V_110 : Arv Z T108.heap ed kd (.object "java/lang/Object") (0 : Int32) [] .null := ((((V_98.ext Ex100).other W101 ne_ed_nb100).other W102 ne_ed_nb100).keep Kq108 (ninS ne_ed_nb96 nin0))
    have C_111 : Exa Z T108.heap nb85 "java/lang/String" := ((Exa.wr W102 (Exa.wr W101 (Exa.ext Ex100 C_99))).keep Kq108)
    obtain ⟨T109, h109, X109, e109, Ex109, A109, D109, -, st109⟩ := newO X108 hx hZ hown (hw _ (List.mem_of_getElem? (i := 31) rfl)) (hw _ (List.mem_of_getElem? (i := 32) rfl)) (hw _ (List.mem_of_getElem? (i := 33) rfl)) rfl (g := (mkF m 62 #[.val (.int p1), .val (.int p2), .val (.int p3), .val (.int ((p1 &&& (2147483647 : Int32)) % (3 : Int32))), .val (.ref nb85), .val (.ref nb96), .unset, .unset, .unset, .unset, .unset, .unset, .unset, .unset] [])) rfl (hb hby at_62) (by decide) (by decide)
    obtain ⟨nb109, g109⟩ : ∃ z, z = T108.heap.size := ⟨_, rfl⟩
    rw [← g109] at A109 D109 st109
    have g_nb109 : n0 ≤ nb109 := Nat.le_trans (Nat.le_trans (Nat.le_trans (Nat.le_trans (Nat.le_trans (Nat.le_trans (Nat.le_trans (Nat.le_trans (Nat.le_trans (Nat.le_trans (Nat.le_trans Z0 Ex85.1) Ex87.1) (Nat.le_of_eq W88.size.symm)) (Nat.le_of_eq W89.size.symm)) Kq95.1) Ex96.1) Ex100.1) (Nat.le_of_eq W101.size.symm)) (Nat.le_of_eq W102.size.symm)) Kq108.1) (Nat.le_of_eq g109.symm)
    have ne_ed_nb109 : ed ≠ nb109 := Nat.ne_of_lt (Nat.lt_of_lt_of_le V_110.lt (Nat.le_of_eq g109.symm))
    have ne_nb85_nb109 : nb85 ≠ nb109 := Nat.ne_of_lt (Nat.lt_of_lt_of_le C_111.lt (Nat.le_of_eq g109.symm))
    have ne_nb96_nb109 : nb96 ≠ nb109 := Nat.ne_of_lt (Nat.lt_of_lt_of_le Cq108.lt (Nat.le_of_eq g109.symm))
    have hk := Nat.le_trans hk Ex109.1
    have hC := hC.trans (CHr.ext Ex109 hC.1)
    have F109_name : Fld Z h109 nb109 "com/example/handl/handl/cli/Arguments$Option" "name" "Ljava/lang/String;" .null := D109 (Or.inr (hw _ (List.mem_of_getElem? (i := 47) rfl))) (ty := (.object "java/lang/String")) (by decide)
    have F109_value : Fld Z h109 nb109 "com/example/handl/handl/cli/Arguments$Option" "value" "Ljava/lang/String;" .null := D109 (Or.inr (hw _ (List.mem_of_getElem? (i := 49) rfl))) (ty := (.object "java/lang/String")) (by decide)
    have F109_repeatable : Fld Z h109 nb109 "com/example/handl/handl/cli/Arguments$Option" "repeatable" "Z" (.int (0 : Int32)) := D109 (Or.inr (hw _ (List.mem_of_getElem? (i := 51) rfl))) (ty := .boolean) (by decide)
    have F109_joinable : Fld Z h109 nb109 "com/example/handl/handl/cli/Arguments$Option" "joinable" "Z" (.int (0 : Int32)) := D109 (Or.inr (hw _ (List.mem_of_getElem? (i := 53) rfl))) (ty := .boolean) (by decide)
    refine own_via (g' := (mkF m 65 #[.val (.int p1), .val (.int p2), .val (.int p3), .val (.int ((p1 &&& (2147483647 : Int32)) % (3 : Int32))), .val (.ref nb85), .val (.ref nb96), .unset, .unset, .unset, .unset, .unset, .unset, .unset, .unset] [(.ref nb109)])) st109 ?_
    refine own_step (g' := (mkF m 66 #[.val (.int p1), .val (.int p2), .val (.int p3), .val (.int ((p1 &&& (2147483647 : Int32)) % (3 : Int32))), .val (.ref nb85), .val (.ref nb96), .unset, .unset, .unset, .unset, .unset, .unset, .unset, .unset] [(.ref nb109), (.ref nb109)])) (fun _ k => XS.dup X109.here hx rfl (hb hby at_65) rfl rfl k) ?_
    refine own_step (g' := (mkF m 68 #[.val (.int p1), .val (.int p2), .val (.int p3), .val (.int ((p1 &&& (2147483647 : Int32)) % (3 : Int32))), .val (.ref nb85), .val (.ref nb96), .unset, .unset, .unset, .unset, .unset, .unset, .unset, .unset] [(.ref nb85), (.ref nb109), (.ref nb109)])) (fun _ k => XS.aload X109.here hx rfl (hb hby at_66) rfl rfl k) ?_
    obtain ⟨nb112, T112, h112, kk112, X112, e112, Ex112, hS, hk, hZ, hown, hC112, -, st112⟩ := ldcOH (vm0 := _) X109 hx hZ hown (hw _ (List.mem_of_getElem? (i := 34) rfl)) hwS e109 hS hk hEL hC.1 (g := (mkF m 68 #[.val (.int p1), .val (.int p2), .val (.int p3), .val (.int ((p1 &&& (2147483647 : Int32)) % (3 : Int32))), .val (.ref nb85), .val (.ref nb96), .unset, .unset, .unset, .unset, .unset, .unset, .unset, .unset] [(.ref nb85), (.ref nb109), (.ref nb109)])) rfl (hb hby at_68) (n := 28) (by decide) (by decide) (by decide) (by decide)
    have hC := hC.trans hC112
    refine own_via (g' := (mkF m 70 #[.val (.int p1), .val (.int p2), .val (.int p3), .val (.int ((p1 &&& (2147483647 : Int32)) % (3 : Int32))), .val (.ref nb85), .val (.ref nb96), .unset, .unset, .unset, .unset, .unset, .unset, .unset, .unset] [(.ref nb112), (.ref nb85), (.ref nb109), (.ref nb109)])) st112 ?_
    refine own_step (g' := (mkF m 71 #[.val (.int p1), .val (.int p2), .val (.int p3), .val (.int ((p1 &&& (2147483647 : Int32)) % (3 : Int32))), .val (.ref nb85), .val (.ref nb96), .unset, .unset, .unset, .unset, .unset, .unset, .unset, .unset] [(.int p3), (.ref nb112), (.ref nb85), (.ref nb109), (.ref nb109)])) (fun _ k => XS.iloadN X112.here hx rfl (hb hby at_70) rfl k) ?_
    refine own_step (g' := (mkF m 72 #[.val (.int p1), .val (.int p2), .val (.int p3), .val (.int ((p1 &&& (2147483647 : Int32)) % (3 : Int32))), .val (.ref nb85), .val (.ref nb96), .unset, .unset, .unset, .unset, .unset, .unset, .unset, .unset] [(.int (1 : Int32)), (.int p3), (.ref nb112), (.ref nb85), (.ref nb109), (.ref nb109)])) (fun _ k => XS.iconst X112.here hx rfl (hb hby at_71) k) ?_
    refine own_step (g' := (mkF m 73 #[.val (.int p1), .val (.int p2), .val (.int p3), .val (.int ((p1 &&& (2147483647 : Int32)) % (3 : Int32))), .val (.ref nb85), .val (.ref nb96), .unset, .unset, .unset, .unset, .unset, .unset, .unset, .unset] [(.int (p3 &&& (1 : Int32))), (.ref nb112), (.ref nb85), (.ref nb109), (.ref nb109)])) (fun _ k => XS.iand X112.here hx rfl (hb hby at_72) rfl k) ?_
    have Jb113 : ∀ b113 : Int32, (b113 = (0 : Int32) ∨ b113 = (1 : Int32)) → OGo p e below (OEndW Z ([]) s (Q0 n0) room_1.cells room_1.slots) T112 (mkF m 81 #[.val (.int p1), .val (.int p2), .val (.int p3), .val (.int ((p1 &&& (2147483647 : Int32)) % (3 : Int32))), .val (.ref nb85), .val (.ref nb96), .unset, .unset, .unset, .unset, .unset, .unset, .unset, .unset] [(.int b113), (.ref nb112), (.ref nb85), (.ref nb109), (.ref nb109)]) := by
      intro b113 hb113
      refine own_step (g' := (mkF m 82 #[.val (.int p1), .val (.int p2), .val (.int p3), .val (.int ((p1 &&& (2147483647 : Int32)) % (3 : Int32))), .val (.ref nb85), .val (.ref nb96), .unset, .unset, .unset, .unset, .unset, .unset, .unset, .unset] [(.int p3), (.int b113), (.ref nb112), (.ref nb85), (.ref nb109), (.ref nb109)])) (fun _ k => XS.iloadN X112.here hx rfl (hb hby at_81) rfl k) ?_
      refine own_step (g' := (mkF m 83 #[.val (.int p1), .val (.int p2), .val (.int p3), .val (.int ((p1 &&& (2147483647 : Int32)) % (3 : Int32))), .val (.ref nb85), .val (.ref nb96), .unset, .unset, .unset, .unset, .unset, .unset, .unset, .unset] [(.int (2 : Int32)), (.int p3), (.int b113), (.ref nb112), (.ref nb85), (.ref nb109), (.ref nb109)])) (fun _ k => XS.iconst X112.here hx rfl (hb hby at_82) k) ?_
      refine own_step (g' := (mkF m 84 #[.val (.int p1), .val (.int p2), .val (.int p3), .val (.int ((p1 &&& (2147483647 : Int32)) % (3 : Int32))), .val (.ref nb85), .val (.ref nb96), .unset, .unset, .unset, .unset, .unset, .unset, .unset, .unset] [(.int (p3 &&& (2 : Int32))), (.int b113), (.ref nb112), (.ref nb85), (.ref nb109), (.ref nb109)])) (fun _ k => XS.iand X112.here hx rfl (hb hby at_83) rfl k) ?_
      have Jb114 : ∀ b114 : Int32, (b114 = (0 : Int32) ∨ b114 = (1 : Int32)) → OGo p e below (OEndW Z ([]) s (Q0 n0) room_1.cells room_1.slots) T112 (mkF m 92 #[.val (.int p1), .val (.int p2), .val (.int p3), .val (.int ((p1 &&& (2147483647 : Int32)) % (3 : Int32))), .val (.ref nb85), .val (.ref nb96), .unset, .unset, .unset, .unset, .unset, .unset, .unset, .unset] [(.int b114), (.int b113), (.ref nb112), (.ref nb85), (.ref nb109), (.ref nb109)]) := by
        intro b114 hb114
        have C_116 : Exa Z h112 nb109 "com/example/handl/handl/cli/Arguments$Option" := (Exa.ext Ex112 A109)
        have F_117 : Fld Z h112 nb109 "com/example/handl/handl/cli/Arguments$Option" "name" "Ljava/lang/String;" .null := (Fld.ext Ex112 F109_name)
        have F_118 : Fld Z h112 nb109 "com/example/handl/handl/cli/Arguments$Option" "value" "Ljava/lang/String;" .null := (Fld.ext Ex112 F109_value)
        have F_119 : Fld Z h112 nb109 "com/example/handl/handl/cli/Arguments$Option" "repeatable" "Z" (.int (0 : Int32)) := (Fld.ext Ex112 F109_repeatable)
        have F_120 : Fld Z h112 nb109 "com/example/handl/handl/cli/Arguments$Option" "joinable" "Z" (.int (0 : Int32)) := (Fld.ext Ex112 F109_joinable)
        refine own_init X112 hx hZ (W := 1) hown e112 (rmOp l Z a0 hw [] nb109 nb85 nb112 b113 b114 h112 n0 (Nat.le_trans (Nat.le_trans (Nat.le_trans (Nat.le_trans (Nat.le_trans (Nat.le_trans (Nat.le_trans (Nat.le_trans (Nat.le_trans (Nat.le_trans (Nat.le_trans (Nat.le_trans Z0 Ex85.1) Ex87.1) (Nat.le_of_eq W88.size.symm)) (Nat.le_of_eq W89.size.symm)) Kq95.1) Ex96.1) Ex100.1) (Nat.le_of_eq W101.size.symm)) (Nat.le_of_eq W102.size.symm)) Kq108.1) Ex109.1) Ex112.1) g_nb109 C_116 F_117 F_118 F_119 F_120 hb113 hb114) rfl (hw _ (List.mem_of_getElem? (i := 37) rfl)) (hw _ (List.mem_of_getElem? (i := 38) rfl)) (hw _ (List.mem_of_getElem? (i := 39) rfl)) (hw _ (List.mem_of_getElem? (i := 33) rfl)) (by decide) (by decide) (by decide) (g := (mkF m 92 #[.val (.int p1), .val (.int p2), .val (.int p3), .val (.int ((p1 &&& (2147483647 : Int32)) % (3 : Int32))), .val (.ref nb85), .val (.ref nb96), .unset, .unset, .unset, .unset, .unset, .unset, .unset, .unset] [(.int b114), (.int b113), (.ref nb112), (.ref nb85), (.ref nb109), (.ref nb109)])) rfl (by rw [hml]; rfl) (argsL := [(.ref nb85), (.ref nb112), (.int b113), (.int b114)]) (rest := [(.ref nb109)]) rfl (lenOf pd_9 rfl) rfl (by show 2 * 0 + _ ≤ _; exact Nat.le_of_eq rfl) (hb hby at_92) (by decide) (by decide) ?_
        intro v121 T121 L121 X121 hQ121
        obtain ⟨rfl, Nq121, Kq121, Co115⟩ := hQ121
        have N121 := Fr.app N108 Nq121
        have hk := Nat.le_trans hk Kq121.1
        have hC := hC.trans (CHr.keep Kq121 (sfS own_safe_nil sf0) hC.1)
        show OGo p e below _ T121 (mkF m 95 #[.val (.int p1), .val (.int p2), .val (.int p3), .val (.int ((p1 &&& (2147483647 : Int32)) % (3 : Int32))), .val (.ref nb85), .val (.ref nb96), .unset, .unset, .unset, .unset, .unset, .unset, .unset, .unset] [(.ref nb109)])
        refine own_step (g' := (mkF m 97 #[.val (.int p1), .val (.int p2), .val (.int p3), .val (.int ((p1 &&& (2147483647 : Int32)) % (3 : Int32))), .val (.ref nb85), .val (.ref nb96), .val (.ref nb109), .unset, .unset, .unset, .unset, .unset, .unset, .unset] [])) (fun _ k => XS.astore X121.here hx rfl (hb hby at_95) rfl rfl (l' := #[.val (.int p1), .val (.int p2), .val (.int p3), .val (.int ((p1 &&& (2147483647 : Int32)) % (3 : Int32))), .val (.ref nb85), .val (.ref nb96), .val (.ref nb109), .unset, .unset, .unset, .unset, .unset, .unset, .unset]) rfl k) ?_
        have V_123 : Arv Z T121.heap ed kd (.object "java/lang/Object") (0 : Int32) [] .null := (((V_110.ext Ex109).ext Ex112).keep Kq121 (ninS ne_ed_nb109 nin0))
        have C_124 : Exa Z T121.heap nb85 "java/lang/String" := ((Exa.ext Ex112 (Exa.ext Ex109 C_111)).keep Kq121)
        have C_125 : Exa Z T121.heap nb96 "java/lang/String" := ((Exa.ext Ex112 (Exa.ext Ex109 Cq108)).keep Kq121)
        obtain ⟨T122, h122, X122, e122, Ex122, A122, D122, -, st122⟩ := newO X121 hx hZ hown (hw _ (List.mem_of_getElem? (i := 31) rfl)) (hw _ (List.mem_of_getElem? (i := 32) rfl)) (hw _ (List.mem_of_getElem? (i := 33) rfl)) rfl (g := (mkF m 97 #[.val (.int p1), .val (.int p2), .val (.int p3), .val (.int ((p1 &&& (2147483647 : Int32)) % (3 : Int32))), .val (.ref nb85), .val (.ref nb96), .val (.ref nb109), .unset, .unset, .unset, .unset, .unset, .unset, .unset] [])) rfl (hb hby at_97) (by decide) (by decide)
        obtain ⟨nb122, g122⟩ : ∃ z, z = T121.heap.size := ⟨_, rfl⟩
        rw [← g122] at A122 D122 st122
        have g_nb122 : n0 ≤ nb122 := Nat.le_trans (Nat.le_trans (Nat.le_trans (Nat.le_trans (Nat.le_trans (Nat.le_trans (Nat.le_trans (Nat.le_trans (Nat.le_trans (Nat.le_trans (Nat.le_trans (Nat.le_trans (Nat.le_trans (Nat.le_trans Z0 Ex85.1) Ex87.1) (Nat.le_of_eq W88.size.symm)) (Nat.le_of_eq W89.size.symm)) Kq95.1) Ex96.1) Ex100.1) (Nat.le_of_eq W101.size.symm)) (Nat.le_of_eq W102.size.symm)) Kq108.1) Ex109.1) Ex112.1) Kq121.1) (Nat.le_of_eq g122.symm)
        have ne_ed_nb122 : ed ≠ nb122 := Nat.ne_of_lt (Nat.lt_of_lt_of_le V_123.lt (Nat.le_of_eq g122.symm))
        have ne_nb85_nb122 : nb85 ≠ nb122 := Nat.ne_of_lt (Nat.lt_of_lt_of_le C_124.lt (Nat.le_of_eq g122.symm))
        have ne_nb96_nb122 : nb96 ≠ nb122 := Nat.ne_of_lt (Nat.lt_of_lt_of_le C_125.lt (Nat.le_of_eq g122.symm))
        have ne_nb109_nb122 : nb109 ≠ nb122 := Nat.ne_of_lt (Nat.lt_of_lt_of_le Co115.lt (Nat.le_of_eq g122.symm))
        have hk := Nat.le_trans hk Ex122.1
        have hC := hC.trans (CHr.ext Ex122 hC.1)
        have F122_name : Fld Z h122 nb122 "com/example/handl/handl/cli/Arguments$Option" "name" "Ljava/lang/String;" .null := D122 (Or.inr (hw _ (List.mem_of_getElem? (i := 47) rfl))) (ty := (.object "java/lang/String")) (by decide)
        have F122_value : Fld Z h122 nb122 "com/example/handl/handl/cli/Arguments$Option" "value" "Ljava/lang/String;" .null := D122 (Or.inr (hw _ (List.mem_of_getElem? (i := 49) rfl))) (ty := (.object "java/lang/String")) (by decide)
        have F122_repeatable : Fld Z h122 nb122 "com/example/handl/handl/cli/Arguments$Option" "repeatable" "Z" (.int (0 : Int32)) := D122 (Or.inr (hw _ (List.mem_of_getElem? (i := 51) rfl))) (ty := .boolean) (by decide)
        have F122_joinable : Fld Z h122 nb122 "com/example/handl/handl/cli/Arguments$Option" "joinable" "Z" (.int (0 : Int32)) := D122 (Or.inr (hw _ (List.mem_of_getElem? (i := 53) rfl))) (ty := .boolean) (by decide)
        refine own_via (g' := (mkF m 100 #[.val (.int p1), .val (.int p2), .val (.int p3), .val (.int ((p1 &&& (2147483647 : Int32)) % (3 : Int32))), .val (.ref nb85), .val (.ref nb96), .val (.ref nb109), .unset, .unset, .unset, .unset, .unset, .unset, .unset] [(.ref nb122)])) st122 ?_
        refine own_step (g' := (mkF m 101 #[.val (.int p1), .val (.int p2), .val (.int p3), .val (.int ((p1 &&& (2147483647 : Int32)) % (3 : Int32))), .val (.ref nb85), .val (.ref nb96), .val (.ref nb109), .unset, .unset, .unset, .unset, .unset, .unset, .unset] [(.ref nb122), (.ref nb122)])) (fun _ k => XS.dup X122.here hx rfl (hb hby at_100) rfl rfl k) ?_
        refine own_step (g' := (mkF m 103 #[.val (.int p1), .val (.int p2), .val (.int p3), .val (.int ((p1 &&& (2147483647 : Int32)) % (3 : Int32))), .val (.ref nb85), .val (.ref nb96), .val (.ref nb109), .unset, .unset, .unset, .unset, .unset, .unset, .unset] [(.ref nb96), (.ref nb122), (.ref nb122)])) (fun _ k => XS.aload X122.here hx rfl (hb hby at_101) rfl rfl k) ?_
        obtain ⟨nb126, T126, h126, kk126, X126, e126, Ex126, hS, hk, hZ, hown, hC126, -, st126⟩ := ldcOH (vm0 := _) X122 hx hZ hown (hw _ (List.mem_of_getElem? (i := 54) rfl)) hwS e122 hS hk hEL hC.1 (g := (mkF m 103 #[.val (.int p1), .val (.int p2), .val (.int p3), .val (.int ((p1 &&& (2147483647 : Int32)) % (3 : Int32))), .val (.ref nb85), .val (.ref nb96), .val (.ref nb109), .unset, .unset, .unset, .unset, .unset, .unset, .unset] [(.ref nb96), (.ref nb122), (.ref nb122)])) rfl (hb hby at_103) (n := 32) (by decide) (by decide) (by decide) (by decide)
        have hC := hC.trans hC126
        refine own_via (g' := (mkF m 105 #[.val (.int p1), .val (.int p2), .val (.int p3), .val (.int ((p1 &&& (2147483647 : Int32)) % (3 : Int32))), .val (.ref nb85), .val (.ref nb96), .val (.ref nb109), .unset, .unset, .unset, .unset, .unset, .unset, .unset] [(.ref nb126), (.ref nb96), (.ref nb122), (.ref nb122)])) st126 ?_
        refine own_step (g' := (mkF m 106 #[.val (.int p1), .val (.int p2), .val (.int p3), .val (.int ((p1 &&& (2147483647 : Int32)) % (3 : Int32))), .val (.ref nb85), .val (.ref nb96), .val (.ref nb109), .unset, .unset, .unset, .unset, .unset, .unset, .unset] [(.int p3), (.ref nb126), (.ref nb96), (.ref nb122), (.ref nb122)])) (fun _ k => XS.iloadN X126.here hx rfl (hb hby at_105) rfl k) ?_
        refine own_step (g' := (mkF m 107 #[.val (.int p1), .val (.int p2), .val (.int p3), .val (.int ((p1 &&& (2147483647 : Int32)) % (3 : Int32))), .val (.ref nb85), .val (.ref nb96), .val (.ref nb109), .unset, .unset, .unset, .unset, .unset, .unset, .unset] [(.int (4 : Int32)), (.int p3), (.ref nb126), (.ref nb96), (.ref nb122), (.ref nb122)])) (fun _ k => XS.iconst X126.here hx rfl (hb hby at_106) k) ?_
        refine own_step (g' := (mkF m 108 #[.val (.int p1), .val (.int p2), .val (.int p3), .val (.int ((p1 &&& (2147483647 : Int32)) % (3 : Int32))), .val (.ref nb85), .val (.ref nb96), .val (.ref nb109), .unset, .unset, .unset, .unset, .unset, .unset, .unset] [(.int (p3 &&& (4 : Int32))), (.ref nb126), (.ref nb96), (.ref nb122), (.ref nb122)])) (fun _ k => XS.iand X126.here hx rfl (hb hby at_107) rfl k) ?_
        have Jb127 : ∀ b127 : Int32, (b127 = (0 : Int32) ∨ b127 = (1 : Int32)) → OGo p e below (OEndW Z ([]) s (Q0 n0) room_1.cells room_1.slots) T126 (mkF m 116 #[.val (.int p1), .val (.int p2), .val (.int p3), .val (.int ((p1 &&& (2147483647 : Int32)) % (3 : Int32))), .val (.ref nb85), .val (.ref nb96), .val (.ref nb109), .unset, .unset, .unset, .unset, .unset, .unset, .unset] [(.int b127), (.ref nb126), (.ref nb96), (.ref nb122), (.ref nb122)]) := by
          intro b127 hb127
          refine own_step (g' := (mkF m 117 #[.val (.int p1), .val (.int p2), .val (.int p3), .val (.int ((p1 &&& (2147483647 : Int32)) % (3 : Int32))), .val (.ref nb85), .val (.ref nb96), .val (.ref nb109), .unset, .unset, .unset, .unset, .unset, .unset, .unset] [(.int p3), (.int b127), (.ref nb126), (.ref nb96), (.ref nb122), (.ref nb122)])) (fun _ k => XS.iloadN X126.here hx rfl (hb hby at_116) rfl k) ?_
          refine own_step (g' := (mkF m 119 #[.val (.int p1), .val (.int p2), .val (.int p3), .val (.int ((p1 &&& (2147483647 : Int32)) % (3 : Int32))), .val (.ref nb85), .val (.ref nb96), .val (.ref nb109), .unset, .unset, .unset, .unset, .unset, .unset, .unset] [(.int (8 : Int32)), (.int p3), (.int b127), (.ref nb126), (.ref nb96), (.ref nb122), (.ref nb122)])) (fun _ k => XS.bipush X126.here hx rfl (hb hby at_117) k) ?_
          refine own_step (g' := (mkF m 120 #[.val (.int p1), .val (.int p2), .val (.int p3), .val (.int ((p1 &&& (2147483647 : Int32)) % (3 : Int32))), .val (.ref nb85), .val (.ref nb96), .val (.ref nb109), .unset, .unset, .unset, .unset, .unset, .unset, .unset] [(.int (p3 &&& (8 : Int32))), (.int b127), (.ref nb126), (.ref nb96), (.ref nb122), (.ref nb122)])) (fun _ k => XS.iand X126.here hx rfl (hb hby at_119) rfl k) ?_
          have Jb128 : ∀ b128 : Int32, (b128 = (0 : Int32) ∨ b128 = (1 : Int32)) → OGo p e below (OEndW Z ([]) s (Q0 n0) room_1.cells room_1.slots) T126 (mkF m 128 #[.val (.int p1), .val (.int p2), .val (.int p3), .val (.int ((p1 &&& (2147483647 : Int32)) % (3 : Int32))), .val (.ref nb85), .val (.ref nb96), .val (.ref nb109), .unset, .unset, .unset, .unset, .unset, .unset, .unset] [(.int b128), (.int b127), (.ref nb126), (.ref nb96), (.ref nb122), (.ref nb122)]) := by
            intro b128 hb128
            have C_130 : Exa Z h126 nb122 "com/example/handl/handl/cli/Arguments$Option" := (Exa.ext Ex126 A122)
            have F_131 : Fld Z h126 nb122 "com/example/handl/handl/cli/Arguments$Option" "name" "Ljava/lang/String;" .null := (Fld.ext Ex126 F122_name)
            have F_132 : Fld Z h126 nb122 "com/example/handl/handl/cli/Arguments$Option" "value" "Ljava/lang/String;" .null := (Fld.ext Ex126 F122_value)
            have F_133 : Fld Z h126 nb122 "com/example/handl/handl/cli/Arguments$Option" "repeatable" "Z" (.int (0 : Int32)) := (Fld.ext Ex126 F122_repeatable)
            have F_134 : Fld Z h126 nb122 "com/example/handl/handl/cli/Arguments$Option" "joinable" "Z" (.int (0 : Int32)) := (Fld.ext Ex126 F122_joinable)
            refine own_init X126 hx hZ (W := 1) hown e126 (rmOp l Z a0 hw [] nb122 nb96 nb126 b127 b128 h126 n0 (Nat.le_trans (Nat.le_trans (Nat.le_trans (Nat.le_trans (Nat.le_trans (Nat.le_trans (Nat.le_trans (Nat.le_trans (Nat.le_trans (Nat.le_trans (Nat.le_trans (Nat.le_trans (Nat.le_trans (Nat.le_trans (Nat.le_trans Z0 Ex85.1) Ex87.1) (Nat.le_of_eq W88.size.symm)) (Nat.le_of_eq W89.size.symm)) Kq95.1) Ex96.1) Ex100.1) (Nat.le_of_eq W101.size.symm)) (Nat.le_of_eq W102.size.symm)) Kq108.1) Ex109.1) Ex112.1) Kq121.1) Ex122.1) Ex126.1) g_nb122 C_130 F_131 F_132 F_133 F_134 hb127 hb128) rfl (hw _ (List.mem_of_getElem? (i := 37) rfl)) (hw _ (List.mem_of_getElem? (i := 38) rfl)) (hw _ (List.mem_of_getElem? (i := 39) rfl)) (hw _ (List.mem_of_getElem? (i := 33) rfl)) (by decide) (by decide) (by decide) (g := (mkF m 128 #[.val (.int p1), .val (.int p2), .val (.int p3), .val (.int ((p1 &&& (2147483647 : Int32)) % (3 : Int32))), .val (.ref nb85), .val (.ref nb96), .val (.ref nb109), .unset, .unset, .unset, .unset, .unset, .unset, .unset] [(.int b128), (.int b127), (.ref nb126), (.ref nb96), (.ref nb122), (.ref nb122)])) rfl (by rw [hml]; rfl) (argsL := [(.ref nb96), (.ref nb126), (.int b127), (.int b128)]) (rest := [(.ref nb122)]) rfl (lenOf pd_9 rfl) rfl (by show 2 * 0 + _ ≤ _; exact Nat.le_of_eq rfl) (hb hby at_128) (by decide) (by decide) ?_
            intro v135 T135 L135 X135 hQ135
            obtain ⟨rfl, Nq135, Kq135, Co129⟩ := hQ135
            have N135 := Fr.app N121 Nq135
            have hk := Nat.le_trans hk Kq135.1
            have hC := hC.trans (CHr.keep Kq135 (sfS own_safe_nil sf0) hC.1)
            show OGo p e below _ T135 (mkF m 131 #[.val (.int p1), .val (.int p2), .val (.int p3), .val (.int ((p1 &&& (2147483647 : Int32)) % (3 : Int32))), .val (.ref nb85), .val (.ref nb96), .val (.ref nb109), .unset, .unset, .unset, .unset, .unset, .unset, .unset] [(.ref nb122)])
            refine own_step (g' := (mkF m 133 #[.val (.int p1), .val (.int p2), .val (.int p3), .val (.int ((p1 &&& (2147483647 : Int32)) % (3 : Int32))), .val (.ref nb85), .val (.ref nb96), .val (.ref nb109), .val (.ref nb122), .unset, .unset, .unset, .unset, .unset, .unset] [])) (fun _ k => XS.astore X135.here hx rfl (hb hby at_131) rfl rfl (l' := #[.val (.int p1), .val (.int p2), .val (.int p3), .val (.int ((p1 &&& (2147483647 : Int32)) % (3 : Int32))), .val (.ref nb85), .val (.ref nb96), .val (.ref nb109), .val (.ref nb122), .unset, .unset, .unset, .unset, .unset, .unset]) rfl k) ?_
            have V_137 : Arv Z T135.heap ed kd (.object "java/lang/Object") (0 : Int32) [] .null := (((V_123.ext Ex122).ext Ex126).keep Kq135 (ninS ne_ed_nb122 nin0))
            have C_138 : Exa Z T135.heap nb85 "java/lang/String" := ((Exa.ext Ex126 (Exa.ext Ex122 C_124)).keep Kq135)
            have C_139 : Exa Z T135.heap nb96 "java/lang/String" := ((Exa.ext Ex126 (Exa.ext Ex122 C_125)).keep Kq135)
            have C_140 : Exa Z T135.heap nb109 "com/example/handl/handl/cli/Arguments$Option" := ((Exa.ext Ex126 (Exa.ext Ex122 Co115)).keep Kq135)
            obtain ⟨T136, h136, X136, e136, Ex136, A136, D136, -, st136⟩ := newO X135 hx hZ hown (hw _ (List.mem_of_getElem? (i := 55) rfl)) (hw _ (List.mem_of_getElem? (i := 56) rfl)) (hw _ (List.mem_of_getElem? (i := 57) rfl)) rfl (g := (mkF m 133 #[.val (.int p1), .val (.int p2), .val (.int p3), .val (.int ((p1 &&& (2147483647 : Int32)) % (3 : Int32))), .val (.ref nb85), .val (.ref nb96), .val (.ref nb109), .val (.ref nb122), .unset, .unset, .unset, .unset, .unset, .unset] [])) rfl (hb hby at_133) (by decide) (by decide)
            obtain ⟨nb136, g136⟩ : ∃ z, z = T135.heap.size := ⟨_, rfl⟩
            rw [← g136] at A136 D136 st136
            have g_nb136 : n0 ≤ nb136 := Nat.le_trans (Nat.le_trans (Nat.le_trans (Nat.le_trans (Nat.le_trans (Nat.le_trans (Nat.le_trans (Nat.le_trans (Nat.le_trans (Nat.le_trans (Nat.le_trans (Nat.le_trans (Nat.le_trans (Nat.le_trans (Nat.le_trans (Nat.le_trans (Nat.le_trans Z0 Ex85.1) Ex87.1) (Nat.le_of_eq W88.size.symm)) (Nat.le_of_eq W89.size.symm)) Kq95.1) Ex96.1) Ex100.1) (Nat.le_of_eq W101.size.symm)) (Nat.le_of_eq W102.size.symm)) Kq108.1) Ex109.1) Ex112.1) Kq121.1) Ex122.1) Ex126.1) Kq135.1) (Nat.le_of_eq g136.symm)
            have ne_ed_nb136 : ed ≠ nb136 := Nat.ne_of_lt (Nat.lt_of_lt_of_le V_137.lt (Nat.le_of_eq g136.symm))
            have ne_nb85_nb136 : nb85 ≠ nb136 := Nat.ne_of_lt (Nat.lt_of_lt_of_le C_138.lt (Nat.le_of_eq g136.symm))
            have ne_nb96_nb136 : nb96 ≠ nb136 := Nat.ne_of_lt (Nat.lt_of_lt_of_le C_139.lt (Nat.le_of_eq g136.symm))
            have ne_nb109_nb136 : nb109 ≠ nb136 := Nat.ne_of_lt (Nat.lt_of_lt_of_le C_140.lt (Nat.le_of_eq g136.symm))
            have ne_nb122_nb136 : nb122 ≠ nb136 := Nat.ne_of_lt (Nat.lt_of_lt_of_le Co129.lt (Nat.le_of_eq g136.symm))
            have hk := Nat.le_trans hk Ex136.1
            have hC := hC.trans (CHr.ext Ex136 hC.1)
            have F136_modCount : Fld Z h136 nb136 "java/util/AbstractList" "modCount" "I" (.int (0 : Int32)) := D136 (Or.inl (hw _ (List.mem_of_getElem? (i := 75) rfl))) (ty := .int) (by decide)
            have F136_elementData : Fld Z h136 nb136 "java/util/ArrayList" "elementData" "[Ljava/lang/Object;" .null := D136 (Or.inl (hw _ (List.mem_of_getElem? (i := 78) rfl))) (ty := (.array (.object "java/lang/Object"))) (by decide)
            have F136_size : Fld Z h136 nb136 "java/util/ArrayList" "size" "I" (.int (0 : Int32)) := D136 (Or.inl (hw _ (List.mem_of_getElem? (i := 117) rfl))) (ty := .int) (by decide)
            refine own_via (g' := (mkF m 136 #[.val (.int p1), .val (.int p2), .val (.int p3), .val (.int ((p1 &&& (2147483647 : Int32)) % (3 : Int32))), .val (.ref nb85), .val (.ref nb96), .val (.ref nb109), .val (.ref nb122), .unset, .unset, .unset, .unset, .unset, .unset] [(.ref nb136)])) st136 ?_
            refine own_step (g' := (mkF m 137 #[.val (.int p1), .val (.int p2), .val (.int p3), .val (.int ((p1 &&& (2147483647 : Int32)) % (3 : Int32))), .val (.ref nb85), .val (.ref nb96), .val (.ref nb109), .val (.ref nb122), .unset, .unset, .unset, .unset, .unset, .unset] [(.ref nb136), (.ref nb136)])) (fun _ k => XS.dup X136.here hx rfl (hb hby at_136) rfl rfl k) ?_
            have S_142 : Sta Z h136 "java/util/ArrayList" "DEFAULTCAPACITY_EMPTY_ELEMENTDATA" "[Ljava/lang/Object;" (.ref ed) := (Sta.ext Ex136 (own_sta_keep (Sta.ext Ex126 (Sta.ext Ex122 (own_sta_keep (Sta.ext Ex112 (Sta.ext Ex109 (own_sta_keep (Sta.wr W102 (Sta.wr W101 (Sta.ext Ex100 (Sta.ext Ex96 (own_sta_keep (Sta.wr W89 (Sta.wr W88 (Sta.ext Ex87 (Sta.ext Ex85 S_DC)))) Kq95 (allS (own_nsE C_91) all0)))))) Kq108 (allS (own_nsE C_104) all0)))) Kq121 (allS (own_nsE C_116) all0)))) Kq135 (allS (own_nsE C_130) all0)))
            refine own_init X136 hx hZ (W := 1) hown e136 (rmAL l Z a0 hw [] nb136 ed h136 n0 (Nat.le_trans (Nat.le_trans (Nat.le_trans (Nat.le_trans (Nat.le_trans (Nat.le_trans (Nat.le_trans (Nat.le_trans (Nat.le_trans (Nat.le_trans (Nat.le_trans (Nat.le_trans (Nat.le_trans (Nat.le_trans (Nat.le_trans (Nat.le_trans (Nat.le_trans Z0 Ex85.1) Ex87.1) (Nat.le_of_eq W88.size.symm)) (Nat.le_of_eq W89.size.symm)) Kq95.1) Ex96.1) Ex100.1) (Nat.le_of_eq W101.size.symm)) (Nat.le_of_eq W102.size.symm)) Kq108.1) Ex109.1) Ex112.1) Kq121.1) Ex122.1) Ex126.1) Kq135.1) Ex136.1) S_142 g_nb136 A136 F136_modCount F136_elementData F136_size) rfl (hw _ (List.mem_of_getElem? (i := 58) rfl)) (hw _ (List.mem_of_getElem? (i := 59) rfl)) (hw _ (List.mem_of_getElem? (i := 60) rfl)) (hw _ (List.mem_of_getElem? (i := 57) rfl)) (by decide) (by decide) (by decide) (g := (mkF m 137 #[.val (.int p1), .val (.int p2), .val (.int p3), .val (.int ((p1 &&& (2147483647 : Int32)) % (3 : Int32))), .val (.ref nb85), .val (.ref nb96), .val (.ref nb109), .val (.ref nb122), .unset, .unset, .unset, .unset, .unset, .unset] [(.ref nb136), (.ref nb136)])) rfl (by rw [hml]; rfl) (argsL := []) (rest := [(.ref nb136)]) rfl (lenOf pd_0 rfl) rfl (by show 2 * 0 + _ ≤ _; exact Nat.le_of_eq rfl) (hb hby at_137) (by decide) (by decide) ?_
            intro v143 T143 L143 X143 hQ143
            obtain ⟨rfl, Nq143, Kq143, Cl141, F1l141, F2l141, F3l141⟩ := hQ143
            have N143 := Fr.app N135 Nq143
            have hk := Nat.le_trans hk Kq143.1
            have hC := hC.trans (CHr.keep Kq143 (sfS own_safe_nil sf0) hC.1)
            show OGo p e below _ T143 (mkF m 140 #[.val (.int p1), .val (.int p2), .val (.int p3), .val (.int ((p1 &&& (2147483647 : Int32)) % (3 : Int32))), .val (.ref nb85), .val (.ref nb96), .val (.ref nb109), .val (.ref nb122), .unset, .unset, .unset, .unset, .unset, .unset] [(.ref nb136)])
            refine own_step (g' := (mkF m 142 #[.val (.int p1), .val (.int p2), .val (.int p3), .val (.int ((p1 &&& (2147483647 : Int32)) % (3 : Int32))), .val (.ref nb85), .val (.ref nb96), .val (.ref nb109), .val (.ref nb122), .val (.ref nb136), .unset, .unset, .unset, .unset, .unset] [])) (fun _ k => XS.astore X143.here hx rfl (hb hby at_140) rfl rfl (l' := #[.val (.int p1), .val (.int p2), .val (.int p3), .val (.int ((p1 &&& (2147483647 : Int32)) % (3 : Int32))), .val (.ref nb85), .val (.ref nb96), .val (.ref nb109), .val (.ref nb122), .val (.ref nb136), .unset, .unset, .unset, .unset, .unset]) rfl k) ?_
            refine own_step (g' := (mkF m 143 #[.val (.int p1), .val (.int p2), .val (.int p3), .val (.int ((p1 &&& (2147483647 : Int32)) % (3 : Int32))), .val (.ref nb85), .val (.ref nb96), .val (.ref nb109), .val (.ref nb122), .val (.ref nb136), .unset, .unset, .unset, .unset, .unset] [(.int ((p1 &&& (2147483647 : Int32)) % (3 : Int32)))])) (fun _ k => XS.iloadN X143.here hx rfl (hb hby at_142) rfl k) ?_
            refine own_step (g' := (mkF m 144 #[.val (.int p1), .val (.int p2), .val (.int p3), .val (.int ((p1 &&& (2147483647 : Int32)) % (3 : Int32))), .val (.ref nb85), .val (.ref nb96), .val (.ref nb109), .val (.ref nb122), .val (.ref nb136), .unset, .unset, .unset, .unset, .unset] [(.int (1 : Int32)), (.int ((p1 &&& (2147483647 : Int32)) % (3 : Int32)))])) (fun _ k => XS.iconst X143.here hx rfl (hb hby at_143) k) ?_
            refine own_step (g' := (mkF m 147 #[.val (.int p1), .val (.int p2), .val (.int p3), .val (.int ((p1 &&& (2147483647 : Int32)) % (3 : Int32))), .val (.ref nb85), .val (.ref nb96), .val (.ref nb109), .val (.ref nb122), .val (.ref nb136), .unset, .unset, .unset, .unset, .unset] [])) (fun _ k => XS.icmpNo X143.here hx rfl (hb hby at_144) rfl (flt (by rw [hq] <;> decide : ¬ (((p1 &&& (2147483647 : Int32)) % (3 : Int32)) < (1 : Int32)))).1 k) ?_
            refine own_step (g' := (mkF m 149 #[.val (.int p1), .val (.int p2), .val (.int p3), .val (.int ((p1 &&& (2147483647 : Int32)) % (3 : Int32))), .val (.ref nb85), .val (.ref nb96), .val (.ref nb109), .val (.ref nb122), .val (.ref nb136), .unset, .unset, .unset, .unset, .unset] [(.ref nb136)])) (fun _ k => XS.aload X143.here hx rfl (hb hby at_147) rfl rfl k) ?_
            refine own_step (g' := (mkF m 151 #[.val (.int p1), .val (.int p2), .val (.int p3), .val (.int ((p1 &&& (2147483647 : Int32)) % (3 : Int32))), .val (.ref nb85), .val (.ref nb96), .val (.ref nb109), .val (.ref nb122), .val (.ref nb136), .unset, .unset, .unset, .unset, .unset] [(.ref nb109), (.ref nb136)])) (fun _ k => XS.aload X143.here hx rfl (hb hby at_149) rfl rfl k) ?_
            have V_145 : Arv Z T143.heap ed kd (.object "java/lang/Object") (0 : Int32) [] .null := ((V_137.ext Ex136).keep Kq143 (ninS ne_ed_nb136 nin0))
            have C_146 : Exa Z T143.heap nb85 "java/lang/String" := ((Exa.ext Ex136 C_138).keep Kq143)
            have C_147 : Exa Z T143.heap nb96 "java/lang/String" := ((Exa.ext Ex136 C_139).keep Kq143)
            have C_148 : Exa Z T143.heap nb109 "com/example/handl/handl/cli/Arguments$Option" := ((Exa.ext Ex136 C_140).keep Kq143)
            have C_149 : Exa Z T143.heap nb122 "com/example/handl/handl/cli/Arguments$Option" := ((Exa.ext Ex136 Co129).keep Kq143)
            have S_150 : Sta Z T143.heap "java/util/ArrayList" "DEFAULTCAPACITY_EMPTY_ELEMENTDATA" "[Ljava/lang/Object;" (.ref ed) := (own_sta_keep S_142 Kq143 (allS (own_nsE A136) all0))
            refine own_callI X143 hx hZ (W := 0) hown rfl (rmAdd0 l Z a0 hw [] nb136 nb109 ed kd (0 : Int32) T143.heap n0 (Nat.le_trans (Nat.le_trans (Nat.le_trans (Nat.le_trans (Nat.le_trans (Nat.le_trans (Nat.le_trans (Nat.le_trans (Nat.le_trans (Nat.le_trans (Nat.le_trans (Nat.le_trans (Nat.le_trans (Nat.le_trans (Nat.le_trans (Nat.le_trans (Nat.le_trans (Nat.le_trans Z0 Ex85.1) Ex87.1) (Nat.le_of_eq W88.size.symm)) (Nat.le_of_eq W89.size.symm)) Kq95.1) Ex96.1) Ex100.1) (Nat.le_of_eq W101.size.symm)) (Nat.le_of_eq W102.size.symm)) Kq108.1) Ex109.1) Ex112.1) Kq121.1) Ex122.1) Ex126.1) Kq135.1) Ex136.1) Kq143.1) S_150 V_145 g_nb136 Cl141 F1l141 F2l141 F3l141 C_148) Cl141 (hw _ (List.mem_of_getElem? (i := 118) rfl)) (hw _ (List.mem_of_getElem? (i := 119) rfl)) (mvT hZ (hw _ (List.mem_of_getElem? (i := 120) rfl))) (hw _ (List.mem_of_getElem? (i := 121) rfl)) (hw _ (List.mem_of_getElem? (i := 122) rfl)) (hw _ (List.mem_of_getElem? (i := 123) rfl)) (hw _ (List.mem_of_getElem? (i := 124) rfl)) (hw _ (List.mem_of_getElem? (i := 114) rfl)) (hw _ (List.mem_of_getElem? (i := 125) rfl)) (hw _ (List.mem_of_getElem? (i := 57) rfl)) (by decide) (by decide) (by decide) (g := (mkF m 151 #[.val (.int p1), .val (.int p2), .val (.int p3), .val (.int ((p1 &&& (2147483647 : Int32)) % (3 : Int32))), .val (.ref nb85), .val (.ref nb96), .val (.ref nb109), .val (.ref nb122), .val (.ref nb136), .unset, .unset, .unset, .unset, .unset] [(.ref nb109), (.ref nb136)])) rfl (by rw [hml]; rfl) (argsL := [(.ref nb109)]) (rest := []) rfl (lenOf pd_14 rfl) rfl (by show 2 * 0 + _ ≤ _; exact Nat.le_of_eq rfl) (hb hby at_151) (by decide) (by decide) ?_
            intro v151 T151 L151 X151 hQ151
            obtain ⟨⟨ar, kq144, rfl, szar, g_ar, Oq144, Vq144, Cq144, F1q144, F2q144, F3q144⟩, Nq151, Kq151⟩ := hQ151
            have N151 := Fr.app N143 Nq151
            have hk := Nat.le_trans hk Kq151.1
            have hC := hC.trans (CHr.keep Kq151 (sfS own_safe_nil sf0) hC.1)
            show OGo p e below _ T151 (mkF m 156 #[.val (.int p1), .val (.int p2), .val (.int p3), .val (.int ((p1 &&& (2147483647 : Int32)) % (3 : Int32))), .val (.ref nb85), .val (.ref nb96), .val (.ref nb109), .val (.ref nb122), .val (.ref nb136), .unset, .unset, .unset, .unset, .unset] [(.int (1 : Int32))])
            have ne_ed_ar : ed ≠ ar := Nat.ne_of_lt (Nat.lt_of_lt_of_le V_145.lt szar)
            have ne_nb85_ar : nb85 ≠ ar := Nat.ne_of_lt (Nat.lt_of_lt_of_le C_146.lt szar)
            have ne_nb96_ar : nb96 ≠ ar := Nat.ne_of_lt (Nat.lt_of_lt_of_le C_147.lt szar)
            have ne_nb109_ar : nb109 ≠ ar := Nat.ne_of_lt (Nat.lt_of_lt_of_le C_148.lt szar)
            have ne_nb122_ar : nb122 ≠ ar := Nat.ne_of_lt (Nat.lt_of_lt_of_le C_149.lt szar)
            have ne_l_ar : nb136 ≠ ar := Exa.neArv Cq144 Vq144 (hw _ (List.mem_of_getElem? (i := 56) rfl))
            refine own_step (g' := (mkF m 157 #[.val (.int p1), .val (.int p2), .val (.int p3), .val (.int ((p1 &&& (2147483647 : Int32)) % (3 : Int32))), .val (.ref nb85), .val (.ref nb96), .val (.ref nb109), .val (.ref nb122), .val (.ref nb136), .unset, .unset, .unset, .unset, .unset] [])) (fun _ k => XS.pop X151.here hx rfl (hb hby at_156) rfl rfl k) ?_
            refine own_step (g' := (mkF m 158 #[.val (.int p1), .val (.int p2), .val (.int p3), .val (.int ((p1 &&& (2147483647 : Int32)) % (3 : Int32))), .val (.ref nb85), .val (.ref nb96), .val (.ref nb109), .val (.ref nb122), .val (.ref nb136), .unset, .unset, .unset, .unset, .unset] [(.int ((p1 &&& (2147483647 : Int32)) % (3 : Int32)))])) (fun _ k => XS.iloadN X151.here hx rfl (hb hby at_157) rfl k) ?_
            refine own_step (g' := (mkF m 159 #[.val (.int p1), .val (.int p2), .val (.int p3), .val (.int ((p1 &&& (2147483647 : Int32)) % (3 : Int32))), .val (.ref nb85), .val (.ref nb96), .val (.ref nb109), .val (.ref nb122), .val (.ref nb136), .unset, .unset, .unset, .unset, .unset] [(.int (2 : Int32)), (.int ((p1 &&& (2147483647 : Int32)) % (3 : Int32)))])) (fun _ k => XS.iconst X151.here hx rfl (hb hby at_158) k) ?_
            refine own_step (g' := (mkF m 172 #[.val (.int p1), .val (.int p2), .val (.int p3), .val (.int ((p1 &&& (2147483647 : Int32)) % (3 : Int32))), .val (.ref nb85), .val (.ref nb96), .val (.ref nb109), .val (.ref nb122), .val (.ref nb136), .unset, .unset, .unset, .unset, .unset] [])) (fun _ k => XS.icmpYes X151.here hx rfl (pc0 := 159) (pc' := 172) rfl (hb hby at_159) rfl (tlt (by rw [hq] <;> decide : ((p1 &&& (2147483647 : Int32)) % (3 : Int32)) < (2 : Int32))).1 (by decide) (by decide) k) ?_
            refine own_step (g' := (mkF m 173 #[.val (.int p1), .val (.int p2), .val (.int p3), .val (.int ((p1 &&& (2147483647 : Int32)) % (3 : Int32))), .val (.ref nb85), .val (.ref nb96), .val (.ref nb109), .val (.ref nb122), .val (.ref nb136), .unset, .unset, .unset, .unset, .unset] [(.int p3)])) (fun _ k => XS.iloadN X151.here hx rfl (hb hby at_172) rfl k) ?_
            refine own_step (g' := (mkF m 175 #[.val (.int p1), .val (.int p2), .val (.int p3), .val (.int ((p1 &&& (2147483647 : Int32)) % (3 : Int32))), .val (.ref nb85), .val (.ref nb96), .val (.ref nb109), .val (.ref nb122), .val (.ref nb136), .unset, .unset, .unset, .unset, .unset] [(.int (16 : Int32)), (.int p3)])) (fun _ k => XS.bipush X151.here hx rfl (hb hby at_173) k) ?_
            refine own_step (g' := (mkF m 176 #[.val (.int p1), .val (.int p2), .val (.int p3), .val (.int ((p1 &&& (2147483647 : Int32)) % (3 : Int32))), .val (.ref nb85), .val (.ref nb96), .val (.ref nb109), .val (.ref nb122), .val (.ref nb136), .unset, .unset, .unset, .unset, .unset] [(.int (p3 &&& (16 : Int32)))])) (fun _ k => XS.iand X151.here hx rfl (hb hby at_175) rfl k) ?_
            have Jb152 : ∀ b152 : Int32, (b152 = (0 : Int32) ∨ b152 = (1 : Int32)) → OGo p e below (OEndW Z ([]) s (Q0 n0) room_1.cells room_1.slots) T151 (mkF m 184 #[.val (.int p1), .val (.int p2), .val (.int p3), .val (.int ((p1 &&& (2147483647 : Int32)) % (3 : Int32))), .val (.ref nb85), .val (.ref nb96), .val (.ref nb109), .val (.ref nb122), .val (.ref nb136), .unset, .unset, .unset, .unset, .unset] [(.int b152)]) := by
              intro b152 hb152
              refine own_step (g' := (mkF m 186 #[.val (.int p1), .val (.int p2), .val (.int p3), .val (.int ((p1 &&& (2147483647 : Int32)) % (3 : Int32))), .val (.ref nb85), .val (.ref nb96), .val (.ref nb109), .val (.ref nb122), .val (.ref nb136), .val (.int b152), .unset, .unset, .unset, .unset] [])) (fun _ k => XS.istore X151.here hx rfl (hb hby at_184) rfl (l' := #[.val (.int p1), .val (.int p2), .val (.int p3), .val (.int ((p1 &&& (2147483647 : Int32)) % (3 : Int32))), .val (.ref nb85), .val (.ref nb96), .val (.ref nb109), .val (.ref nb122), .val (.ref nb136), .val (.int b152), .unset, .unset, .unset, .unset]) rfl k) ?_
              have V_154 : Arv Z T151.heap ed kd (.object "java/lang/Object") (0 : Int32) [] .null := (V_145.keep Kq151 (ninS ne_ed_nb136 nin0))
              have C_155 : Exa Z T151.heap nb85 "java/lang/String" := (C_146.keep Kq151)
              have C_156 : Exa Z T151.heap nb96 "java/lang/String" := (C_147.keep Kq151)
              have C_157 : Exa Z T151.heap nb109 "com/example/handl/handl/cli/Arguments$Option" := (C_148.keep Kq151)
              have C_158 : Exa Z T151.heap nb122 "com/example/handl/handl/cli/Arguments$Option" := (C_149.keep Kq151)
              obtain ⟨T153, h153, X153, e153, Ex153, A153, D153, -, st153⟩ := newO X151 hx hZ hown (hw _ (List.mem_of_getElem? (i := 79) rfl)) (hw _ (List.mem_of_getElem? (i := 80) rfl)) (hw _ (List.mem_of_getElem? (i := 81) rfl)) rfl (g := (mkF m 186 #[.val (.int p1), .val (.int p2), .val (.int p3), .val (.int ((p1 &&& (2147483647 : Int32)) % (3 : Int32))), .val (.ref nb85), .val (.ref nb96), .val (.ref nb109), .val (.ref nb122), .val (.ref nb136), .val (.int b152), .unset, .unset, .unset, .unset] [])) rfl (hb hby at_186) (by decide) (by decide)
              obtain ⟨nb153, g153⟩ : ∃ z, z = T151.heap.size := ⟨_, rfl⟩
              rw [← g153] at A153 D153 st153
              have g_nb153 : n0 ≤ nb153 := Nat.le_trans (Nat.le_trans (Nat.le_trans (Nat.le_trans (Nat.le_trans (Nat.le_trans (Nat.le_trans (Nat.le_trans (Nat.le_trans (Nat.le_trans (Nat.le_trans (Nat.le_trans (Nat.le_trans (Nat.le_trans (Nat.le_trans (Nat.le_trans (Nat.le_trans (Nat.le_trans (Nat.le_trans (Nat.le_trans Z0 Ex85.1) Ex87.1) (Nat.le_of_eq W88.size.symm)) (Nat.le_of_eq W89.size.symm)) Kq95.1) Ex96.1) Ex100.1) (Nat.le_of_eq W101.size.symm)) (Nat.le_of_eq W102.size.symm)) Kq108.1) Ex109.1) Ex112.1) Kq121.1) Ex122.1) Ex126.1) Kq135.1) Ex136.1) Kq143.1) Kq151.1) (Nat.le_of_eq g153.symm)
              have ne_ed_nb153 : ed ≠ nb153 := Nat.ne_of_lt (Nat.lt_of_lt_of_le V_154.lt (Nat.le_of_eq g153.symm))
              have ne_nb85_nb153 : nb85 ≠ nb153 := Nat.ne_of_lt (Nat.lt_of_lt_of_le C_155.lt (Nat.le_of_eq g153.symm))
              have ne_nb96_nb153 : nb96 ≠ nb153 := Nat.ne_of_lt (Nat.lt_of_lt_of_le C_156.lt (Nat.le_of_eq g153.symm))
              have ne_nb109_nb153 : nb109 ≠ nb153 := Nat.ne_of_lt (Nat.lt_of_lt_of_le C_157.lt (Nat.le_of_eq g153.symm))
              have ne_nb122_nb153 : nb122 ≠ nb153 := Nat.ne_of_lt (Nat.lt_of_lt_of_le C_158.lt (Nat.le_of_eq g153.symm))
              have ne_nb136_nb153 : nb136 ≠ nb153 := Nat.ne_of_lt (Nat.lt_of_lt_of_le Cq144.lt (Nat.le_of_eq g153.symm))
              have ne_ar_nb153 : ar ≠ nb153 := Nat.ne_of_lt (Nat.lt_of_lt_of_le Vq144.lt (Nat.le_of_eq g153.symm))
              have hk := Nat.le_trans hk Ex153.1
              have hC := hC.trans (CHr.ext Ex153 hC.1)
              have F153_options : Fld Z h153 nb153 "com/example/handl/handl/cli/Arguments$Syntax" "options" "Ljava/util/List;" .null := D153 (Or.inr (hw _ (List.mem_of_getElem? (i := 87) rfl))) (ty := (.object "java/util/List")) (by decide)
              have F153_operands : Fld Z h153 nb153 "com/example/handl/handl/cli/Arguments$Syntax" "operands" "Z" (.int (0 : Int32)) := D153 (Or.inr (hw _ (List.mem_of_getElem? (i := 89) rfl))) (ty := .boolean) (by decide)
              refine own_via (g' := (mkF m 189 #[.val (.int p1), .val (.int p2), .val (.int p3), .val (.int ((p1 &&& (2147483647 : Int32)) % (3 : Int32))), .val (.ref nb85), .val (.ref nb96), .val (.ref nb109), .val (.ref nb122), .val (.ref nb136), .val (.int b152), .unset, .unset, .unset, .unset] [(.ref nb153)])) st153 ?_
              refine own_step (g' := (mkF m 190 #[.val (.int p1), .val (.int p2), .val (.int p3), .val (.int ((p1 &&& (2147483647 : Int32)) % (3 : Int32))), .val (.ref nb85), .val (.ref nb96), .val (.ref nb109), .val (.ref nb122), .val (.ref nb136), .val (.int b152), .unset, .unset, .unset, .unset] [(.ref nb153), (.ref nb153)])) (fun _ k => XS.dup X153.here hx rfl (hb hby at_189) rfl rfl k) ?_
              refine own_step (g' := (mkF m 192 #[.val (.int p1), .val (.int p2), .val (.int p3), .val (.int ((p1 &&& (2147483647 : Int32)) % (3 : Int32))), .val (.ref nb85), .val (.ref nb96), .val (.ref nb109), .val (.ref nb122), .val (.ref nb136), .val (.int b152), .unset, .unset, .unset, .unset] [(.ref nb136), (.ref nb153), (.ref nb153)])) (fun _ k => XS.aload X153.here hx rfl (hb hby at_190) rfl rfl k) ?_
              refine own_step (g' := (mkF m 194 #[.val (.int p1), .val (.int p2), .val (.int p3), .val (.int ((p1 &&& (2147483647 : Int32)) % (3 : Int32))), .val (.ref nb85), .val (.ref nb96), .val (.ref nb109), .val (.ref nb122), .val (.ref nb136), .val (.int b152), .unset, .unset, .unset, .unset] [(.int b152), (.ref nb136), (.ref nb153), (.ref nb153)])) (fun _ k => XS.iload X153.here hx rfl (hb hby at_192) rfl k) ?_
              refine own_init X153 hx hZ (W := 1) hown e153 (rmSy l Z a0 hw [] nb153 nb136 b152 h153 n0 (Nat.le_trans (Nat.le_trans (Nat.le_trans (Nat.le_trans (Nat.le_trans (Nat.le_trans (Nat.le_trans (Nat.le_trans (Nat.le_trans (Nat.le_trans (Nat.le_trans (Nat.le_trans (Nat.le_trans (Nat.le_trans (Nat.le_trans (Nat.le_trans (Nat.le_trans (Nat.le_trans (Nat.le_trans (Nat.le_trans Z0 Ex85.1) Ex87.1) (Nat.le_of_eq W88.size.symm)) (Nat.le_of_eq W89.size.symm)) Kq95.1) Ex96.1) Ex100.1) (Nat.le_of_eq W101.size.symm)) (Nat.le_of_eq W102.size.symm)) Kq108.1) Ex109.1) Ex112.1) Kq121.1) Ex122.1) Ex126.1) Kq135.1) Ex136.1) Kq143.1) Kq151.1) Ex153.1) g_nb153 A153 F153_options F153_operands hb152) rfl (hw _ (List.mem_of_getElem? (i := 82) rfl)) (hw _ (List.mem_of_getElem? (i := 83) rfl)) (hw _ (List.mem_of_getElem? (i := 84) rfl)) (hw _ (List.mem_of_getElem? (i := 81) rfl)) (by decide) (by decide) (by decide) (g := (mkF m 194 #[.val (.int p1), .val (.int p2), .val (.int p3), .val (.int ((p1 &&& (2147483647 : Int32)) % (3 : Int32))), .val (.ref nb85), .val (.ref nb96), .val (.ref nb109), .val (.ref nb122), .val (.ref nb136), .val (.int b152), .unset, .unset, .unset, .unset] [(.int b152), (.ref nb136), (.ref nb153), (.ref nb153)])) rfl (by rw [hml]; rfl) (argsL := [(.ref nb136), (.int b152)]) (rest := [(.ref nb153)]) rfl (lenOf pd_1 rfl) rfl (by show 2 * 0 + _ ≤ _; exact Nat.le_of_eq rfl) (hb hby at_194) (by decide) (by decide) ?_
              intro v160 T160 L160 X160 hQ160
              obtain ⟨rfl, Nq160, Kq160, Cs159, F1s159, F2s159⟩ := hQ160
              have N160 := Fr.app N151 Nq160
              have hk := Nat.le_trans hk Kq160.1
              have hC := hC.trans (CHr.keep Kq160 (sfS own_safe_nil sf0) hC.1)
              show OGo p e below _ T160 (mkF m 197 #[.val (.int p1), .val (.int p2), .val (.int p3), .val (.int ((p1 &&& (2147483647 : Int32)) % (3 : Int32))), .val (.ref nb85), .val (.ref nb96), .val (.ref nb109), .val (.ref nb122), .val (.ref nb136), .val (.int b152), .unset, .unset, .unset, .unset] [(.ref nb153)])
              refine own_step (g' := (mkF m 199 #[.val (.int p1), .val (.int p2), .val (.int p3), .val (.int ((p1 &&& (2147483647 : Int32)) % (3 : Int32))), .val (.ref nb85), .val (.ref nb96), .val (.ref nb109), .val (.ref nb122), .val (.ref nb136), .val (.int b152), .val (.ref nb153), .unset, .unset, .unset] [])) (fun _ k => XS.astore X160.here hx rfl (hb hby at_197) rfl rfl (l' := #[.val (.int p1), .val (.int p2), .val (.int p3), .val (.int ((p1 &&& (2147483647 : Int32)) % (3 : Int32))), .val (.ref nb85), .val (.ref nb96), .val (.ref nb109), .val (.ref nb122), .val (.ref nb136), .val (.int b152), .val (.ref nb153), .unset, .unset, .unset]) rfl k) ?_
              refine own_step (g' := (mkF m 201 #[.val (.int p1), .val (.int p2), .val (.int p3), .val (.int ((p1 &&& (2147483647 : Int32)) % (3 : Int32))), .val (.ref nb85), .val (.ref nb96), .val (.ref nb109), .val (.ref nb122), .val (.ref nb136), .val (.int b152), .val (.ref nb153), .unset, .unset, .unset] [(.ref nb153)])) (fun _ k => XS.aload X160.here hx rfl (hb hby at_199) rfl rfl k) ?_
              refine own_callV X160 hx hZ (W := 0) hown rfl (rmWith l Z a0 hw [] nb153 nb136 T160.heap n0 (Nat.le_trans (Nat.le_trans (Nat.le_trans (Nat.le_trans (Nat.le_trans (Nat.le_trans (Nat.le_trans (Nat.le_trans (Nat.le_trans (Nat.le_trans (Nat.le_trans (Nat.le_trans (Nat.le_trans (Nat.le_trans (Nat.le_trans (Nat.le_trans (Nat.le_trans (Nat.le_trans (Nat.le_trans (Nat.le_trans (Nat.le_trans Z0 Ex85.1) Ex87.1) (Nat.le_of_eq W88.size.symm)) (Nat.le_of_eq W89.size.symm)) Kq95.1) Ex96.1) Ex100.1) (Nat.le_of_eq W101.size.symm)) (Nat.le_of_eq W102.size.symm)) Kq108.1) Ex109.1) Ex112.1) Kq121.1) Ex122.1) Ex126.1) Kq135.1) Ex136.1) Kq143.1) Kq151.1) Ex153.1) Kq160.1) Cs159 F1s159) Cs159 (hw _ (List.mem_of_getElem? (i := 90) rfl)) (hw _ (List.mem_of_getElem? (i := 91) rfl)) (notFace_of_selects (args := #[]) (mvT hZ (hw _ (List.mem_of_getElem? (i := 93) rfl)))) (hw _ (List.mem_of_getElem? (i := 93) rfl)) (hw _ (List.mem_of_getElem? (i := 92) rfl)) (hw _ (List.mem_of_getElem? (i := 94) rfl)) (hw _ (List.mem_of_getElem? (i := 81) rfl)) (by decide) (by decide) (by decide) (g := (mkF m 201 #[.val (.int p1), .val (.int p2), .val (.int p3), .val (.int ((p1 &&& (2147483647 : Int32)) % (3 : Int32))), .val (.ref nb85), .val (.ref nb96), .val (.ref nb109), .val (.ref nb122), .val (.ref nb136), .val (.int b152), .val (.ref nb153), .unset, .unset, .unset] [(.ref nb153)])) rfl (by rw [hml]; rfl) (argsL := []) (rest := []) rfl (lenOf pd_10 rfl) rfl (by show 2 * 0 + _ ≤ _; exact Nat.le_of_eq rfl) (hb hby at_201) (by decide) (by decide) ?_
              intro v161 T161 L161 X161 hQ161
              obtain ⟨⟨tb, rfl, szt, Ct, Ft1, Ft2⟩, Nq161, Kq161⟩ := hQ161
              have N161 := Fr.app N160 Nq161
              have hk := Nat.le_trans hk Kq161.1
              have hC := hC.trans (CHr.keep Kq161 sf0 hC.1)
              show OGo p e below _ T161 (mkF m 204 #[.val (.int p1), .val (.int p2), .val (.int p3), .val (.int ((p1 &&& (2147483647 : Int32)) % (3 : Int32))), .val (.ref nb85), .val (.ref nb96), .val (.ref nb109), .val (.ref nb122), .val (.ref nb136), .val (.int b152), .val (.ref nb153), .unset, .unset, .unset] [(.ref tb)])
              refine own_step (g' := (mkF m 206 #[.val (.int p1), .val (.int p2), .val (.int p3), .val (.int ((p1 &&& (2147483647 : Int32)) % (3 : Int32))), .val (.ref nb85), .val (.ref nb96), .val (.ref nb109), .val (.ref nb122), .val (.ref nb136), .val (.int b152), .val (.ref nb153), .val (.ref tb), .unset, .unset] [])) (fun _ k => XS.astore X161.here hx rfl (hb hby at_204) rfl rfl (l' := #[.val (.int p1), .val (.int p2), .val (.int p3), .val (.int ((p1 &&& (2147483647 : Int32)) % (3 : Int32))), .val (.ref nb85), .val (.ref nb96), .val (.ref nb109), .val (.ref nb122), .val (.ref nb136), .val (.int b152), .val (.ref nb153), .val (.ref tb), .unset, .unset]) rfl k) ?_
              refine own_step (g' := (mkF m 208 #[.val (.int p1), .val (.int p2), .val (.int p3), .val (.int ((p1 &&& (2147483647 : Int32)) % (3 : Int32))), .val (.ref nb85), .val (.ref nb96), .val (.ref nb109), .val (.ref nb122), .val (.ref nb136), .val (.int b152), .val (.ref nb153), .val (.ref tb), .unset, .unset] [(.ref tb)])) (fun _ k => XS.aload X161.here hx rfl (hb hby at_206) rfl rfl k) ?_
              refine own_callV X161 hx hZ (W := 0) hown rfl (rmGopt l Z a0 hw [] tb nb136 T161.heap n0 (Nat.le_trans (Nat.le_trans (Nat.le_trans (Nat.le_trans (Nat.le_trans (Nat.le_trans (Nat.le_trans (Nat.le_trans (Nat.le_trans (Nat.le_trans (Nat.le_trans (Nat.le_trans (Nat.le_trans (Nat.le_trans (Nat.le_trans (Nat.le_trans (Nat.le_trans (Nat.le_trans (Nat.le_trans (Nat.le_trans (Nat.le_trans (Nat.le_trans Z0 Ex85.1) Ex87.1) (Nat.le_of_eq W88.size.symm)) (Nat.le_of_eq W89.size.symm)) Kq95.1) Ex96.1) Ex100.1) (Nat.le_of_eq W101.size.symm)) (Nat.le_of_eq W102.size.symm)) Kq108.1) Ex109.1) Ex112.1) Kq121.1) Ex122.1) Ex126.1) Kq135.1) Ex136.1) Kq143.1) Kq151.1) Ex153.1) Kq160.1) Kq161.1) Ft1) Ct (hw _ (List.mem_of_getElem? (i := 97) rfl)) (hw _ (List.mem_of_getElem? (i := 98) rfl)) (notFace_of_selects (args := #[]) (mvT hZ (hw _ (List.mem_of_getElem? (i := 100) rfl)))) (hw _ (List.mem_of_getElem? (i := 100) rfl)) (hw _ (List.mem_of_getElem? (i := 99) rfl)) (hw _ (List.mem_of_getElem? (i := 101) rfl)) (hw _ (List.mem_of_getElem? (i := 81) rfl)) (by decide) (by decide) (by decide) (g := (mkF m 208 #[.val (.int p1), .val (.int p2), .val (.int p3), .val (.int ((p1 &&& (2147483647 : Int32)) % (3 : Int32))), .val (.ref nb85), .val (.ref nb96), .val (.ref nb109), .val (.ref nb122), .val (.ref nb136), .val (.int b152), .val (.ref nb153), .val (.ref tb), .unset, .unset] [(.ref tb)])) rfl (by rw [hml]; rfl) (argsL := []) (rest := []) rfl (lenOf pd_11 rfl) rfl (by show 2 * 0 + _ ≤ _; exact Nat.le_of_eq rfl) (hb hby at_208) (by decide) (by decide) ?_
              intro v162 T162 L162 X162 hQ162
              obtain ⟨rfl, rfl, e162⟩ := hQ162
              replace X162 := own_pureX X162
              show OGo p e below _ T162 (mkF m 211 #[.val (.int p1), .val (.int p2), .val (.int p3), .val (.int ((p1 &&& (2147483647 : Int32)) % (3 : Int32))), .val (.ref nb85), .val (.ref nb96), .val (.ref nb109), .val (.ref nb122), .val (.ref nb136), .val (.int b152), .val (.ref nb153), .val (.ref tb), .unset, .unset] [(.ref nb136)])
              refine own_step (g' := (mkF m 213 #[.val (.int p1), .val (.int p2), .val (.int p3), .val (.int ((p1 &&& (2147483647 : Int32)) % (3 : Int32))), .val (.ref nb85), .val (.ref nb96), .val (.ref nb109), .val (.ref nb122), .val (.ref nb136), .val (.int b152), .val (.ref nb153), .val (.ref tb), .val (.ref nb136), .unset] [])) (fun _ k => XS.astore X162.here hx rfl (hb hby at_211) rfl rfl (l' := #[.val (.int p1), .val (.int p2), .val (.int p3), .val (.int ((p1 &&& (2147483647 : Int32)) % (3 : Int32))), .val (.ref nb85), .val (.ref nb96), .val (.ref nb109), .val (.ref nb122), .val (.ref nb136), .val (.int b152), .val (.ref nb153), .val (.ref tb), .val (.ref nb136), .unset]) rfl k) ?_
              refine own_step (g' := (mkF m 215 #[.val (.int p1), .val (.int p2), .val (.int p3), .val (.int ((p1 &&& (2147483647 : Int32)) % (3 : Int32))), .val (.ref nb85), .val (.ref nb96), .val (.ref nb109), .val (.ref nb122), .val (.ref nb136), .val (.int b152), .val (.ref nb153), .val (.ref tb), .val (.ref nb136), .unset] [(.ref tb)])) (fun _ k => XS.aload X162.here hx rfl (hb hby at_213) rfl rfl k) ?_
              refine own_callV X162 hx hZ (W := 0) hown e162 (rmGopd l Z a0 hw [] tb (1 : Int32) T161.heap n0 (Nat.le_trans (Nat.le_trans (Nat.le_trans (Nat.le_trans (Nat.le_trans (Nat.le_trans (Nat.le_trans (Nat.le_trans (Nat.le_trans (Nat.le_trans (Nat.le_trans (Nat.le_trans (Nat.le_trans (Nat.le_trans (Nat.le_trans (Nat.le_trans (Nat.le_trans (Nat.le_trans (Nat.le_trans (Nat.le_trans (Nat.le_trans (Nat.le_trans Z0 Ex85.1) Ex87.1) (Nat.le_of_eq W88.size.symm)) (Nat.le_of_eq W89.size.symm)) Kq95.1) Ex96.1) Ex100.1) (Nat.le_of_eq W101.size.symm)) (Nat.le_of_eq W102.size.symm)) Kq108.1) Ex109.1) Ex112.1) Kq121.1) Ex122.1) Ex126.1) Kq135.1) Ex136.1) Kq143.1) Kq151.1) Ex153.1) Kq160.1) Kq161.1) Ft2 (Or.inr rfl)) Ct (hw _ (List.mem_of_getElem? (i := 102) rfl)) (hw _ (List.mem_of_getElem? (i := 103) rfl)) (notFace_of_selects (args := #[]) (mvT hZ (hw _ (List.mem_of_getElem? (i := 105) rfl)))) (hw _ (List.mem_of_getElem? (i := 105) rfl)) (hw _ (List.mem_of_getElem? (i := 104) rfl)) (hw _ (List.mem_of_getElem? (i := 106) rfl)) (hw _ (List.mem_of_getElem? (i := 81) rfl)) (by decide) (by decide) (by decide) (g := (mkF m 215 #[.val (.int p1), .val (.int p2), .val (.int p3), .val (.int ((p1 &&& (2147483647 : Int32)) % (3 : Int32))), .val (.ref nb85), .val (.ref nb96), .val (.ref nb109), .val (.ref nb122), .val (.ref nb136), .val (.int b152), .val (.ref nb153), .val (.ref tb), .val (.ref nb136), .unset] [(.ref tb)])) rfl (by rw [hml]; rfl) (argsL := []) (rest := []) rfl (lenOf pd_12 rfl) rfl (by show 2 * 0 + _ ≤ _; exact Nat.le_of_eq rfl) (hb hby at_215) (by decide) (by decide) ?_
              intro v163 T163 L163 X163 hQ163
              obtain ⟨rfl, rfl, e163⟩ := hQ163
              replace X163 := own_pureX X163
              show OGo p e below _ T163 (mkF m 218 #[.val (.int p1), .val (.int p2), .val (.int p3), .val (.int ((p1 &&& (2147483647 : Int32)) % (3 : Int32))), .val (.ref nb85), .val (.ref nb96), .val (.ref nb109), .val (.ref nb122), .val (.ref nb136), .val (.int b152), .val (.ref nb153), .val (.ref tb), .val (.ref nb136), .unset] [(.int (1 : Int32))])
              refine own_step (g' := (mkF m 221 #[.val (.int p1), .val (.int p2), .val (.int p3), .val (.int ((p1 &&& (2147483647 : Int32)) % (3 : Int32))), .val (.ref nb85), .val (.ref nb96), .val (.ref nb109), .val (.ref nb122), .val (.ref nb136), .val (.int b152), .val (.ref nb153), .val (.ref tb), .val (.ref nb136), .unset] [])) (fun _ k => XS.ifNo X163.here hx rfl (hb hby at_218) rfl ((if0 _ _).trans (feq (by decide : ¬ ((1 : Int32) = (0 : Int32)))).1) k) ?_
              refine own_step (g' := (mkF m 223 #[.val (.int p1), .val (.int p2), .val (.int p3), .val (.int ((p1 &&& (2147483647 : Int32)) % (3 : Int32))), .val (.ref nb85), .val (.ref nb96), .val (.ref nb109), .val (.ref nb122), .val (.ref nb136), .val (.int b152), .val (.ref nb153), .val (.ref tb), .val (.ref nb136), .unset] [(.ref nb153)])) (fun _ k => XS.aload X163.here hx rfl (hb hby at_221) rfl rfl k) ?_
              have F_164 : Fld Z T161.heap nb153 "com/example/handl/handl/cli/Arguments$Syntax" "operands" "Z" (.int b152) := (F2s159.keep Kq161 nin0)
              have C_166 : Exa Z T161.heap nb153 "com/example/handl/handl/cli/Arguments$Syntax" := (Cs159.keep Kq161)
              refine own_callV X163 hx hZ (W := 0) hown e163 (rmGopd l Z a0 hw [] nb153 b152 T161.heap n0 (Nat.le_trans (Nat.le_trans (Nat.le_trans (Nat.le_trans (Nat.le_trans (Nat.le_trans (Nat.le_trans (Nat.le_trans (Nat.le_trans (Nat.le_trans (Nat.le_trans (Nat.le_trans (Nat.le_trans (Nat.le_trans (Nat.le_trans (Nat.le_trans (Nat.le_trans (Nat.le_trans (Nat.le_trans (Nat.le_trans (Nat.le_trans (Nat.le_trans Z0 Ex85.1) Ex87.1) (Nat.le_of_eq W88.size.symm)) (Nat.le_of_eq W89.size.symm)) Kq95.1) Ex96.1) Ex100.1) (Nat.le_of_eq W101.size.symm)) (Nat.le_of_eq W102.size.symm)) Kq108.1) Ex109.1) Ex112.1) Kq121.1) Ex122.1) Ex126.1) Kq135.1) Ex136.1) Kq143.1) Kq151.1) Ex153.1) Kq160.1) Kq161.1) F_164 hb152) C_166 (hw _ (List.mem_of_getElem? (i := 102) rfl)) (hw _ (List.mem_of_getElem? (i := 103) rfl)) (notFace_of_selects (args := #[]) (mvT hZ (hw _ (List.mem_of_getElem? (i := 105) rfl)))) (hw _ (List.mem_of_getElem? (i := 105) rfl)) (hw _ (List.mem_of_getElem? (i := 104) rfl)) (hw _ (List.mem_of_getElem? (i := 106) rfl)) (hw _ (List.mem_of_getElem? (i := 81) rfl)) (by decide) (by decide) (by decide) (g := (mkF m 223 #[.val (.int p1), .val (.int p2), .val (.int p3), .val (.int ((p1 &&& (2147483647 : Int32)) % (3 : Int32))), .val (.ref nb85), .val (.ref nb96), .val (.ref nb109), .val (.ref nb122), .val (.ref nb136), .val (.int b152), .val (.ref nb153), .val (.ref tb), .val (.ref nb136), .unset] [(.ref nb153)])) rfl (by rw [hml]; rfl) (argsL := []) (rest := []) rfl (lenOf pd_12 rfl) rfl (by show 2 * 0 + _ ≤ _; exact Nat.le_of_eq rfl) (hb hby at_223) (by decide) (by decide) ?_
              intro v165 T165 L165 X165 hQ165
              obtain ⟨rfl, rfl, e165⟩ := hQ165
              replace X165 := own_pureX X165
              show OGo p e below _ T165 (mkF m 226 #[.val (.int p1), .val (.int p2), .val (.int p3), .val (.int ((p1 &&& (2147483647 : Int32)) % (3 : Int32))), .val (.ref nb85), .val (.ref nb96), .val (.ref nb109), .val (.ref nb122), .val (.ref nb136), .val (.int b152), .val (.ref nb153), .val (.ref tb), .val (.ref nb136), .unset] [(.int b152)])
              refine own_step (g' := (mkF m 228 #[.val (.int p1), .val (.int p2), .val (.int p3), .val (.int ((p1 &&& (2147483647 : Int32)) % (3 : Int32))), .val (.ref nb85), .val (.ref nb96), .val (.ref nb109), .val (.ref nb122), .val (.ref nb136), .val (.int b152), .val (.ref nb153), .val (.ref tb), .val (.ref nb136), .unset] [(.int b152), (.int b152)])) (fun _ k => XS.iload X165.here hx rfl (hb hby at_226) rfl k) ?_
              refine own_step (g' := (mkF m 231 #[.val (.int p1), .val (.int p2), .val (.int p3), .val (.int ((p1 &&& (2147483647 : Int32)) % (3 : Int32))), .val (.ref nb85), .val (.ref nb96), .val (.ref nb109), .val (.ref nb122), .val (.ref nb136), .val (.int b152), .val (.ref nb153), .val (.ref tb), .val (.ref nb136), .unset] [])) (fun _ k => XS.icmpNo X165.here hx rfl (hb hby at_228) rfl (teq (rfl : b152 = b152)).2 k) ?_
              refine own_step (g' := (mkF m 233 #[.val (.int p1), .val (.int p2), .val (.int p3), .val (.int ((p1 &&& (2147483647 : Int32)) % (3 : Int32))), .val (.ref nb85), .val (.ref nb96), .val (.ref nb109), .val (.ref nb122), .val (.ref nb136), .val (.int b152), .val (.ref nb153), .val (.ref tb), .val (.ref nb136), .unset] [(.ref nb153)])) (fun _ k => XS.aload X165.here hx rfl (hb hby at_231) rfl rfl k) ?_
              have F_167 : Fld Z T161.heap nb153 "com/example/handl/handl/cli/Arguments$Syntax" "options" "Ljava/util/List;" (.ref nb136) := (F1s159.keep Kq161 nin0)
              refine own_callV X165 hx hZ (W := 0) hown e165 (rmGopt l Z a0 hw [] nb153 nb136 T161.heap n0 (Nat.le_trans (Nat.le_trans (Nat.le_trans (Nat.le_trans (Nat.le_trans (Nat.le_trans (Nat.le_trans (Nat.le_trans (Nat.le_trans (Nat.le_trans (Nat.le_trans (Nat.le_trans (Nat.le_trans (Nat.le_trans (Nat.le_trans (Nat.le_trans (Nat.le_trans (Nat.le_trans (Nat.le_trans (Nat.le_trans (Nat.le_trans (Nat.le_trans Z0 Ex85.1) Ex87.1) (Nat.le_of_eq W88.size.symm)) (Nat.le_of_eq W89.size.symm)) Kq95.1) Ex96.1) Ex100.1) (Nat.le_of_eq W101.size.symm)) (Nat.le_of_eq W102.size.symm)) Kq108.1) Ex109.1) Ex112.1) Kq121.1) Ex122.1) Ex126.1) Kq135.1) Ex136.1) Kq143.1) Kq151.1) Ex153.1) Kq160.1) Kq161.1) F_167) C_166 (hw _ (List.mem_of_getElem? (i := 97) rfl)) (hw _ (List.mem_of_getElem? (i := 98) rfl)) (notFace_of_selects (args := #[]) (mvT hZ (hw _ (List.mem_of_getElem? (i := 100) rfl)))) (hw _ (List.mem_of_getElem? (i := 100) rfl)) (hw _ (List.mem_of_getElem? (i := 99) rfl)) (hw _ (List.mem_of_getElem? (i := 101) rfl)) (hw _ (List.mem_of_getElem? (i := 81) rfl)) (by decide) (by decide) (by decide) (g := (mkF m 233 #[.val (.int p1), .val (.int p2), .val (.int p3), .val (.int ((p1 &&& (2147483647 : Int32)) % (3 : Int32))), .val (.ref nb85), .val (.ref nb96), .val (.ref nb109), .val (.ref nb122), .val (.ref nb136), .val (.int b152), .val (.ref nb153), .val (.ref tb), .val (.ref nb136), .unset] [(.ref nb153)])) rfl (by rw [hml]; rfl) (argsL := []) (rest := []) rfl (lenOf pd_11 rfl) rfl (by show 2 * 0 + _ ≤ _; exact Nat.le_of_eq rfl) (hb hby at_233) (by decide) (by decide) ?_
              intro v168 T168 L168 X168 hQ168
              obtain ⟨rfl, rfl, e168⟩ := hQ168
              replace X168 := own_pureX X168
              show OGo p e below _ T168 (mkF m 236 #[.val (.int p1), .val (.int p2), .val (.int p3), .val (.int ((p1 &&& (2147483647 : Int32)) % (3 : Int32))), .val (.ref nb85), .val (.ref nb96), .val (.ref nb109), .val (.ref nb122), .val (.ref nb136), .val (.int b152), .val (.ref nb153), .val (.ref tb), .val (.ref nb136), .unset] [(.ref nb136)])
              refine own_step (g' := (mkF m 238 #[.val (.int p1), .val (.int p2), .val (.int p3), .val (.int ((p1 &&& (2147483647 : Int32)) % (3 : Int32))), .val (.ref nb85), .val (.ref nb96), .val (.ref nb109), .val (.ref nb122), .val (.ref nb136), .val (.int b152), .val (.ref nb153), .val (.ref tb), .val (.ref nb136), .unset] [(.ref nb136), (.ref nb136)])) (fun _ k => XS.aload X168.here hx rfl (hb hby at_236) rfl rfl k) ?_
              refine own_step (g' := (mkF m 241 #[.val (.int p1), .val (.int p2), .val (.int p3), .val (.int ((p1 &&& (2147483647 : Int32)) % (3 : Int32))), .val (.ref nb85), .val (.ref nb96), .val (.ref nb109), .val (.ref nb122), .val (.ref nb136), .val (.int b152), .val (.ref nb153), .val (.ref tb), .val (.ref nb136), .unset] [])) (fun _ k => Jvm.RoadKit.acmp (g := (mkF m 238 #[.val (.int p1), .val (.int p2), .val (.int p3), .val (.int ((p1 &&& (2147483647 : Int32)) % (3 : Int32))), .val (.ref nb85), .val (.ref nb96), .val (.ref nb109), .val (.ref nb122), .val (.ref nb136), .val (.int b152), .val (.ref nb153), .val (.ref tb), .val (.ref nb136), .unset] [(.ref nb136), (.ref nb136)])) X168 hx rfl rfl rfl (pc0 := 238) (pc' := 241) (same := true) rfl (hb hby at_238) rfl (decide_eq_true rfl) (by decide) (by decide) k) ?_
              refine own_step (g' := (mkF m 243 #[.val (.int p1), .val (.int p2), .val (.int p3), .val (.int ((p1 &&& (2147483647 : Int32)) % (3 : Int32))), .val (.ref nb85), .val (.ref nb96), .val (.ref nb109), .val (.ref nb122), .val (.ref nb136), .val (.int b152), .val (.ref nb153), .val (.ref tb), .val (.ref nb136), .unset] [(.ref nb136)])) (fun _ k => XS.aload X168.here hx rfl (hb hby at_241) rfl rfl k) ?_
              have F_169 : Fld Z T161.heap nb136 "java/util/ArrayList" "size" "I" (.int (1 : Int32)) := (((Fld.ext Ex153 F3q144).keep Kq160 (ninS ne_nb136_nb153 nin0)).keep Kq161 nin0)
              have C_171 : Exa Z T161.heap nb136 "java/util/ArrayList" := (((Exa.ext Ex153 Cq144).keep Kq160).keep Kq161)
              refine own_callI X168 hx hZ (W := 0) hown e168 (rmSize l Z a0 hw [] nb136 (1 : Int32) T161.heap n0 (Nat.le_trans (Nat.le_trans (Nat.le_trans (Nat.le_trans (Nat.le_trans (Nat.le_trans (Nat.le_trans (Nat.le_trans (Nat.le_trans (Nat.le_trans (Nat.le_trans (Nat.le_trans (Nat.le_trans (Nat.le_trans (Nat.le_trans (Nat.le_trans (Nat.le_trans (Nat.le_trans (Nat.le_trans (Nat.le_trans (Nat.le_trans (Nat.le_trans Z0 Ex85.1) Ex87.1) (Nat.le_of_eq W88.size.symm)) (Nat.le_of_eq W89.size.symm)) Kq95.1) Ex96.1) Ex100.1) (Nat.le_of_eq W101.size.symm)) (Nat.le_of_eq W102.size.symm)) Kq108.1) Ex109.1) Ex112.1) Kq121.1) Ex122.1) Ex126.1) Kq135.1) Ex136.1) Kq143.1) Kq151.1) Ex153.1) Kq160.1) Kq161.1) F_169) C_171 (hw _ (List.mem_of_getElem? (i := 107) rfl)) (hw _ (List.mem_of_getElem? (i := 108) rfl)) (mvT hZ (hw _ (List.mem_of_getElem? (i := 109) rfl))) (hw _ (List.mem_of_getElem? (i := 110) rfl)) (hw _ (List.mem_of_getElem? (i := 111) rfl)) (hw _ (List.mem_of_getElem? (i := 112) rfl)) (hw _ (List.mem_of_getElem? (i := 113) rfl)) (hw _ (List.mem_of_getElem? (i := 114) rfl)) (hw _ (List.mem_of_getElem? (i := 115) rfl)) (hw _ (List.mem_of_getElem? (i := 57) rfl)) (by decide) (by decide) (by decide) (g := (mkF m 243 #[.val (.int p1), .val (.int p2), .val (.int p3), .val (.int ((p1 &&& (2147483647 : Int32)) % (3 : Int32))), .val (.ref nb85), .val (.ref nb96), .val (.ref nb109), .val (.ref nb122), .val (.ref nb136), .val (.int b152), .val (.ref nb153), .val (.ref tb), .val (.ref nb136), .unset] [(.ref nb136)])) rfl (by rw [hml]; rfl) (argsL := []) (rest := []) rfl (lenOf pd_13 rfl) rfl (by show 2 * 0 + _ ≤ _; exact Nat.le_of_eq rfl) (hb hby at_243) (by decide) (by decide) ?_
              intro v170 T170 L170 X170 hQ170
              obtain ⟨rfl, rfl, e170⟩ := hQ170
              replace X170 := own_pureX X170
              show OGo p e below _ T170 (mkF m 248 #[.val (.int p1), .val (.int p2), .val (.int p3), .val (.int ((p1 &&& (2147483647 : Int32)) % (3 : Int32))), .val (.ref nb85), .val (.ref nb96), .val (.ref nb109), .val (.ref nb122), .val (.ref nb136), .val (.int b152), .val (.ref nb153), .val (.ref tb), .val (.ref nb136), .unset] [(.int (1 : Int32))])
              refine own_step (g' := (mkF m 249 #[.val (.int p1), .val (.int p2), .val (.int p3), .val (.int ((p1 &&& (2147483647 : Int32)) % (3 : Int32))), .val (.ref nb85), .val (.ref nb96), .val (.ref nb109), .val (.ref nb122), .val (.ref nb136), .val (.int b152), .val (.ref nb153), .val (.ref tb), .val (.ref nb136), .unset] [(.int ((p1 &&& (2147483647 : Int32)) % (3 : Int32))), (.int (1 : Int32))])) (fun _ k => XS.iloadN X170.here hx rfl (hb hby at_248) rfl k) ?_
              refine own_step (g' := (mkF m 252 #[.val (.int p1), .val (.int p2), .val (.int p3), .val (.int ((p1 &&& (2147483647 : Int32)) % (3 : Int32))), .val (.ref nb85), .val (.ref nb96), .val (.ref nb109), .val (.ref nb122), .val (.ref nb136), .val (.int b152), .val (.ref nb153), .val (.ref tb), .val (.ref nb136), .unset] [])) (fun _ k => XS.icmpNo X170.here hx rfl (hb hby at_249) rfl (teq (by rw [hq] <;> decide : (1 : Int32) = ((p1 &&& (2147483647 : Int32)) % (3 : Int32)))).2 k) ?_
              refine own_step (g' := (mkF m 253 #[.val (.int p1), .val (.int p2), .val (.int p3), .val (.int ((p1 &&& (2147483647 : Int32)) % (3 : Int32))), .val (.ref nb85), .val (.ref nb96), .val (.ref nb109), .val (.ref nb122), .val (.ref nb136), .val (.int b152), .val (.ref nb153), .val (.ref tb), .val (.ref nb136), .unset] [(.int (1 : Int32))])) (fun _ k => XS.iconst X170.here hx rfl (hb hby at_252) k) ?_
              refine own_step (g' := (mkF m 257 #[.val (.int p1), .val (.int p2), .val (.int p3), .val (.int ((p1 &&& (2147483647 : Int32)) % (3 : Int32))), .val (.ref nb85), .val (.ref nb96), .val (.ref nb109), .val (.ref nb122), .val (.ref nb136), .val (.int b152), .val (.ref nb153), .val (.ref tb), .val (.ref nb136), .unset] [(.int (1 : Int32))])) (fun _ k => XS.goto X170.here hx rfl (pc0 := 253) (pc' := 257) rfl (hb hby at_253) (by decide) (by decide) k) ?_
              refine own_step (g' := (mkF m 259 #[.val (.int p1), .val (.int p2), .val (.int p3), .val (.int ((p1 &&& (2147483647 : Int32)) % (3 : Int32))), .val (.ref nb85), .val (.ref nb96), .val (.ref nb109), .val (.ref nb122), .val (.ref nb136), .val (.int b152), .val (.ref nb153), .val (.ref tb), .val (.ref nb136), .val (.int (1 : Int32))] [])) (fun _ k => XS.istore X170.here hx rfl (hb hby at_257) rfl (l' := #[.val (.int p1), .val (.int p2), .val (.int p3), .val (.int ((p1 &&& (2147483647 : Int32)) % (3 : Int32))), .val (.ref nb85), .val (.ref nb96), .val (.ref nb109), .val (.ref nb122), .val (.ref nb136), .val (.int b152), .val (.ref nb153), .val (.ref tb), .val (.ref nb136), .val (.int (1 : Int32))]) rfl k) ?_
              refine own_step (g' := (mkF m 261 #[.val (.int p1), .val (.int p2), .val (.int p3), .val (.int ((p1 &&& (2147483647 : Int32)) % (3 : Int32))), .val (.ref nb85), .val (.ref nb96), .val (.ref nb109), .val (.ref nb122), .val (.ref nb136), .val (.int b152), .val (.ref nb153), .val (.ref tb), .val (.ref nb136), .val (.int (1 : Int32))] [(.int (1 : Int32))])) (fun _ k => XS.iload X170.here hx rfl (hb hby at_259) rfl k) ?_
              refine own_step (g' := (mkF m 264 #[.val (.int p1), .val (.int p2), .val (.int p3), .val (.int ((p1 &&& (2147483647 : Int32)) % (3 : Int32))), .val (.ref nb85), .val (.ref nb96), .val (.ref nb109), .val (.ref nb122), .val (.ref nb136), .val (.int b152), .val (.ref nb153), .val (.ref tb), .val (.ref nb136), .val (.int (1 : Int32))] [])) (fun _ k => XS.ifNo X170.here hx rfl (hb hby at_261) rfl ((if0 _ _).trans (feq (by decide : ¬ ((1 : Int32) = (0 : Int32)))).1) k) ?_
              refine own_step (g' := (mkF m 265 #[.val (.int p1), .val (.int p2), .val (.int p3), .val (.int ((p1 &&& (2147483647 : Int32)) % (3 : Int32))), .val (.ref nb85), .val (.ref nb96), .val (.ref nb109), .val (.ref nb122), .val (.ref nb136), .val (.int b152), .val (.ref nb153), .val (.ref tb), .val (.ref nb136), .val (.int (1 : Int32))] [(.int ((p1 &&& (2147483647 : Int32)) % (3 : Int32)))])) (fun _ k => XS.iloadN X170.here hx rfl (hb hby at_264) rfl k) ?_
              refine own_step (g' := (mkF m 266 #[.val (.int p1), .val (.int p2), .val (.int p3), .val (.int ((p1 &&& (2147483647 : Int32)) % (3 : Int32))), .val (.ref nb85), .val (.ref nb96), .val (.ref nb109), .val (.ref nb122), .val (.ref nb136), .val (.int b152), .val (.ref nb153), .val (.ref tb), .val (.ref nb136), .val (.int (1 : Int32))] [(.int (1 : Int32)), (.int ((p1 &&& (2147483647 : Int32)) % (3 : Int32)))])) (fun _ k => XS.iconst X170.here hx rfl (hb hby at_265) k) ?_
              refine own_step (g' := (mkF m 269 #[.val (.int p1), .val (.int p2), .val (.int p3), .val (.int ((p1 &&& (2147483647 : Int32)) % (3 : Int32))), .val (.ref nb85), .val (.ref nb96), .val (.ref nb109), .val (.ref nb122), .val (.ref nb136), .val (.int b152), .val (.ref nb153), .val (.ref tb), .val (.ref nb136), .val (.int (1 : Int32))] [])) (fun _ k => XS.icmpNo X170.here hx rfl (hb hby at_266) rfl (flt (by rw [hq] <;> decide : ¬ (((p1 &&& (2147483647 : Int32)) % (3 : Int32)) < (1 : Int32)))).1 k) ?_
              refine own_step (g' := (mkF m 271 #[.val (.int p1), .val (.int p2), .val (.int p3), .val (.int ((p1 &&& (2147483647 : Int32)) % (3 : Int32))), .val (.ref nb85), .val (.ref nb96), .val (.ref nb109), .val (.ref nb122), .val (.ref nb136), .val (.int b152), .val (.ref nb153), .val (.ref tb), .val (.ref nb136), .val (.int (1 : Int32))] [(.ref nb136)])) (fun _ k => XS.aload X170.here hx rfl (hb hby at_269) rfl rfl k) ?_
              refine own_step (g' := (mkF m 272 #[.val (.int p1), .val (.int p2), .val (.int p3), .val (.int ((p1 &&& (2147483647 : Int32)) % (3 : Int32))), .val (.ref nb85), .val (.ref nb96), .val (.ref nb109), .val (.ref nb122), .val (.ref nb136), .val (.int b152), .val (.ref nb153), .val (.ref tb), .val (.ref nb136), .val (.int (1 : Int32))] [(.int (0 : Int32)), (.ref nb136)])) (fun _ k => XS.iconst X170.here hx rfl (hb hby at_271) k) ?_
              have F_172 : Fld Z T161.heap nb136 "java/util/ArrayList" "elementData" "[Ljava/lang/Object;" (.ref ar) := (((Fld.ext Ex153 F2q144).keep Kq160 (ninS ne_nb136_nb153 nin0)).keep Kq161 nin0)
              have V_173 : Arv Z T161.heap ar kq144 (.object "java/lang/Object") (10 : Int32) [(.ref nb109), .null, .null, .null, .null, .null, .null, .null, .null, .null] .null := (((Vq144.ext Ex153).keep Kq160 (ninS ne_ar_nb153 nin0)).keep Kq161 nin0)
              refine own_callI X170 hx hZ (W := 0) hown e170 (rmGet1_0 l Z a0 hw [] nb136 ar nb109 kq144 T161.heap n0 (Nat.le_trans (Nat.le_trans (Nat.le_trans (Nat.le_trans (Nat.le_trans (Nat.le_trans (Nat.le_trans (Nat.le_trans (Nat.le_trans (Nat.le_trans (Nat.le_trans (Nat.le_trans (Nat.le_trans (Nat.le_trans (Nat.le_trans (Nat.le_trans (Nat.le_trans (Nat.le_trans (Nat.le_trans (Nat.le_trans (Nat.le_trans (Nat.le_trans Z0 Ex85.1) Ex87.1) (Nat.le_of_eq W88.size.symm)) (Nat.le_of_eq W89.size.symm)) Kq95.1) Ex96.1) Ex100.1) (Nat.le_of_eq W101.size.symm)) (Nat.le_of_eq W102.size.symm)) Kq108.1) Ex109.1) Ex112.1) Kq121.1) Ex122.1) Ex126.1) Kq135.1) Ex136.1) Kq143.1) Kq151.1) Ex153.1) Kq160.1) Kq161.1) C_171 F_172 V_173 F_169) C_171 (hw _ (List.mem_of_getElem? (i := 150) rfl)) (hw _ (List.mem_of_getElem? (i := 151) rfl)) (mvT hZ (hw _ (List.mem_of_getElem? (i := 152) rfl))) (hw _ (List.mem_of_getElem? (i := 153) rfl)) (hw _ (List.mem_of_getElem? (i := 154) rfl)) (hw _ (List.mem_of_getElem? (i := 155) rfl)) (hw _ (List.mem_of_getElem? (i := 156) rfl)) (hw _ (List.mem_of_getElem? (i := 114) rfl)) (hw _ (List.mem_of_getElem? (i := 157) rfl)) (hw _ (List.mem_of_getElem? (i := 57) rfl)) (by decide) (by decide) (by decide) (g := (mkF m 272 #[.val (.int p1), .val (.int p2), .val (.int p3), .val (.int ((p1 &&& (2147483647 : Int32)) % (3 : Int32))), .val (.ref nb85), .val (.ref nb96), .val (.ref nb109), .val (.ref nb122), .val (.ref nb136), .val (.int b152), .val (.ref nb153), .val (.ref tb), .val (.ref nb136), .val (.int (1 : Int32))] [(.int (0 : Int32)), (.ref nb136)])) rfl (by rw [hml]; rfl) (argsL := [(.int (0 : Int32))]) (rest := []) rfl (lenOf pd_7 rfl) rfl (by show 2 * 0 + _ ≤ _; exact Nat.le_of_eq rfl) (hb hby at_272) (by decide) (by decide) ?_
              intro v174 T174 L174 X174 hQ174
              obtain ⟨rfl, rfl, e174⟩ := hQ174
              replace X174 := own_pureX X174
              show OGo p e below _ T174 (mkF m 277 #[.val (.int p1), .val (.int p2), .val (.int p3), .val (.int ((p1 &&& (2147483647 : Int32)) % (3 : Int32))), .val (.ref nb85), .val (.ref nb96), .val (.ref nb109), .val (.ref nb122), .val (.ref nb136), .val (.int b152), .val (.ref nb153), .val (.ref tb), .val (.ref nb136), .val (.int (1 : Int32))] [(.ref nb109)])
              refine own_step (g' := (mkF m 279 #[.val (.int p1), .val (.int p2), .val (.int p3), .val (.int ((p1 &&& (2147483647 : Int32)) % (3 : Int32))), .val (.ref nb85), .val (.ref nb96), .val (.ref nb109), .val (.ref nb122), .val (.ref nb136), .val (.int b152), .val (.ref nb153), .val (.ref tb), .val (.ref nb136), .val (.int (1 : Int32))] [(.ref nb109), (.ref nb109)])) (fun _ k => XS.aload X174.here hx rfl (hb hby at_277) rfl rfl k) ?_
              refine own_step (g' := (mkF m 282 #[.val (.int p1), .val (.int p2), .val (.int p3), .val (.int ((p1 &&& (2147483647 : Int32)) % (3 : Int32))), .val (.ref nb85), .val (.ref nb96), .val (.ref nb109), .val (.ref nb122), .val (.ref nb136), .val (.int b152), .val (.ref nb153), .val (.ref tb), .val (.ref nb136), .val (.int (1 : Int32))] [])) (fun _ k => Jvm.RoadKit.acmp (g := (mkF m 279 #[.val (.int p1), .val (.int p2), .val (.int p3), .val (.int ((p1 &&& (2147483647 : Int32)) % (3 : Int32))), .val (.ref nb85), .val (.ref nb96), .val (.ref nb109), .val (.ref nb122), .val (.ref nb136), .val (.int b152), .val (.ref nb153), .val (.ref tb), .val (.ref nb136), .val (.int (1 : Int32))] [(.ref nb109), (.ref nb109)])) X174 hx rfl rfl rfl (pc0 := 279) (pc' := 282) (same := true) rfl (hb hby at_279) rfl (decide_eq_true rfl) (by decide) (by decide) k) ?_
              refine own_step (g' := (mkF m 283 #[.val (.int p1), .val (.int p2), .val (.int p3), .val (.int ((p1 &&& (2147483647 : Int32)) % (3 : Int32))), .val (.ref nb85), .val (.ref nb96), .val (.ref nb109), .val (.ref nb122), .val (.ref nb136), .val (.int b152), .val (.ref nb153), .val (.ref tb), .val (.ref nb136), .val (.int (1 : Int32))] [(.int (1 : Int32))])) (fun _ k => XS.iconst X174.here hx rfl (hb hby at_282) k) ?_
              refine own_step (g' := (mkF m 287 #[.val (.int p1), .val (.int p2), .val (.int p3), .val (.int ((p1 &&& (2147483647 : Int32)) % (3 : Int32))), .val (.ref nb85), .val (.ref nb96), .val (.ref nb109), .val (.ref nb122), .val (.ref nb136), .val (.int b152), .val (.ref nb153), .val (.ref tb), .val (.ref nb136), .val (.int (1 : Int32))] [(.int (1 : Int32))])) (fun _ k => XS.goto X174.here hx rfl (pc0 := 283) (pc' := 287) rfl (hb hby at_283) (by decide) (by decide) k) ?_
              refine own_step (g' := (mkF m 289 #[.val (.int p1), .val (.int p2), .val (.int p3), .val (.int ((p1 &&& (2147483647 : Int32)) % (3 : Int32))), .val (.ref nb85), .val (.ref nb96), .val (.ref nb109), .val (.ref nb122), .val (.ref nb136), .val (.int b152), .val (.ref nb153), .val (.ref tb), .val (.ref nb136), .val (.int (1 : Int32))] [])) (fun _ k => XS.istore X174.here hx rfl (hb hby at_287) rfl (l' := #[.val (.int p1), .val (.int p2), .val (.int p3), .val (.int ((p1 &&& (2147483647 : Int32)) % (3 : Int32))), .val (.ref nb85), .val (.ref nb96), .val (.ref nb109), .val (.ref nb122), .val (.ref nb136), .val (.int b152), .val (.ref nb153), .val (.ref tb), .val (.ref nb136), .val (.int (1 : Int32))]) rfl k) ?_
              refine own_step (g' := (mkF m 291 #[.val (.int p1), .val (.int p2), .val (.int p3), .val (.int ((p1 &&& (2147483647 : Int32)) % (3 : Int32))), .val (.ref nb85), .val (.ref nb96), .val (.ref nb109), .val (.ref nb122), .val (.ref nb136), .val (.int b152), .val (.ref nb153), .val (.ref tb), .val (.ref nb136), .val (.int (1 : Int32))] [(.int (1 : Int32))])) (fun _ k => XS.iload X174.here hx rfl (hb hby at_289) rfl k) ?_
              refine own_step (g' := (mkF m 294 #[.val (.int p1), .val (.int p2), .val (.int p3), .val (.int ((p1 &&& (2147483647 : Int32)) % (3 : Int32))), .val (.ref nb85), .val (.ref nb96), .val (.ref nb109), .val (.ref nb122), .val (.ref nb136), .val (.int b152), .val (.ref nb153), .val (.ref tb), .val (.ref nb136), .val (.int (1 : Int32))] [])) (fun _ k => XS.ifNo X174.here hx rfl (hb hby at_291) rfl ((if0 _ _).trans (feq (by decide : ¬ ((1 : Int32) = (0 : Int32)))).1) k) ?_
              refine own_step (g' := (mkF m 295 #[.val (.int p1), .val (.int p2), .val (.int p3), .val (.int ((p1 &&& (2147483647 : Int32)) % (3 : Int32))), .val (.ref nb85), .val (.ref nb96), .val (.ref nb109), .val (.ref nb122), .val (.ref nb136), .val (.int b152), .val (.ref nb153), .val (.ref tb), .val (.ref nb136), .val (.int (1 : Int32))] [(.int ((p1 &&& (2147483647 : Int32)) % (3 : Int32)))])) (fun _ k => XS.iloadN X174.here hx rfl (hb hby at_294) rfl k) ?_
              refine own_step (g' := (mkF m 296 #[.val (.int p1), .val (.int p2), .val (.int p3), .val (.int ((p1 &&& (2147483647 : Int32)) % (3 : Int32))), .val (.ref nb85), .val (.ref nb96), .val (.ref nb109), .val (.ref nb122), .val (.ref nb136), .val (.int b152), .val (.ref nb153), .val (.ref tb), .val (.ref nb136), .val (.int (1 : Int32))] [(.int (2 : Int32)), (.int ((p1 &&& (2147483647 : Int32)) % (3 : Int32)))])) (fun _ k => XS.iconst X174.here hx rfl (hb hby at_295) k) ?_
              refine own_step (g' := (mkF m 319 #[.val (.int p1), .val (.int p2), .val (.int p3), .val (.int ((p1 &&& (2147483647 : Int32)) % (3 : Int32))), .val (.ref nb85), .val (.ref nb96), .val (.ref nb109), .val (.ref nb122), .val (.ref nb136), .val (.int b152), .val (.ref nb153), .val (.ref tb), .val (.ref nb136), .val (.int (1 : Int32))] [])) (fun _ k => XS.icmpYes X174.here hx rfl (pc0 := 296) (pc' := 319) rfl (hb hby at_296) rfl (tlt (by rw [hq] <;> decide : ((p1 &&& (2147483647 : Int32)) % (3 : Int32)) < (2 : Int32))).1 (by decide) (by decide) k) ?_
              refine own_step (g' := (mkF m 321 #[.val (.int p1), .val (.int p2), .val (.int p3), .val (.int ((p1 &&& (2147483647 : Int32)) % (3 : Int32))), .val (.ref nb85), .val (.ref nb96), .val (.ref nb109), .val (.ref nb122), .val (.ref nb136), .val (.int b152), .val (.ref nb153), .val (.ref tb), .val (.ref nb136), .val (.int (1 : Int32))] [(.int (1 : Int32))])) (fun _ k => XS.iload X174.here hx rfl (hb hby at_319) rfl k) ?_
              exact own_retNW X174 hx hZ hEL hS hk hC (t := .boolean) hret (by simp) hlk (hb hby at_321) e174 (by exact ⟨rfl, N161⟩) (by decide) (by decide)
            by_cases hc175 : (p3 &&& (16 : Int32)) = (0 : Int32)
            · refine own_step (g' := (mkF m 183 #[.val (.int p1), .val (.int p2), .val (.int p3), .val (.int ((p1 &&& (2147483647 : Int32)) % (3 : Int32))), .val (.ref nb85), .val (.ref nb96), .val (.ref nb109), .val (.ref nb122), .val (.ref nb136), .unset, .unset, .unset, .unset, .unset] [])) (fun _ k => XS.ifYes X151.here hx rfl (pc0 := 176) (pc' := 183) rfl (hb hby at_176) rfl ((if0 _ _).trans (teq hc175).1) (by decide) (by decide) k) ?_
              refine own_step (g' := (mkF m 184 #[.val (.int p1), .val (.int p2), .val (.int p3), .val (.int ((p1 &&& (2147483647 : Int32)) % (3 : Int32))), .val (.ref nb85), .val (.ref nb96), .val (.ref nb109), .val (.ref nb122), .val (.ref nb136), .unset, .unset, .unset, .unset, .unset] [(.int (0 : Int32))])) (fun _ k => XS.iconst X151.here hx rfl (hb hby at_183) k) ?_
              exact Jb152 _ (Or.inl rfl)
            · refine own_step (g' := (mkF m 179 #[.val (.int p1), .val (.int p2), .val (.int p3), .val (.int ((p1 &&& (2147483647 : Int32)) % (3 : Int32))), .val (.ref nb85), .val (.ref nb96), .val (.ref nb109), .val (.ref nb122), .val (.ref nb136), .unset, .unset, .unset, .unset, .unset] [])) (fun _ k => XS.ifNo X151.here hx rfl (hb hby at_176) rfl ((if0 _ _).trans (feq hc175).1) k) ?_
              refine own_step (g' := (mkF m 180 #[.val (.int p1), .val (.int p2), .val (.int p3), .val (.int ((p1 &&& (2147483647 : Int32)) % (3 : Int32))), .val (.ref nb85), .val (.ref nb96), .val (.ref nb109), .val (.ref nb122), .val (.ref nb136), .unset, .unset, .unset, .unset, .unset] [(.int (1 : Int32))])) (fun _ k => XS.iconst X151.here hx rfl (hb hby at_179) k) ?_
              refine own_step (g' := (mkF m 184 #[.val (.int p1), .val (.int p2), .val (.int p3), .val (.int ((p1 &&& (2147483647 : Int32)) % (3 : Int32))), .val (.ref nb85), .val (.ref nb96), .val (.ref nb109), .val (.ref nb122), .val (.ref nb136), .unset, .unset, .unset, .unset, .unset] [(.int (1 : Int32))])) (fun _ k => XS.goto X151.here hx rfl (pc0 := 180) (pc' := 184) rfl (hb hby at_180) (by decide) (by decide) k) ?_
              exact Jb152 _ (Or.inr rfl)
          by_cases hc176 : (p3 &&& (8 : Int32)) = (0 : Int32)
          · refine own_step (g' := (mkF m 127 #[.val (.int p1), .val (.int p2), .val (.int p3), .val (.int ((p1 &&& (2147483647 : Int32)) % (3 : Int32))), .val (.ref nb85), .val (.ref nb96), .val (.ref nb109), .unset, .unset, .unset, .unset, .unset, .unset, .unset] [(.int b127), (.ref nb126), (.ref nb96), (.ref nb122), (.ref nb122)])) (fun _ k => XS.ifYes X126.here hx rfl (pc0 := 120) (pc' := 127) rfl (hb hby at_120) rfl ((if0 _ _).trans (teq hc176).1) (by decide) (by decide) k) ?_
            refine own_step (g' := (mkF m 128 #[.val (.int p1), .val (.int p2), .val (.int p3), .val (.int ((p1 &&& (2147483647 : Int32)) % (3 : Int32))), .val (.ref nb85), .val (.ref nb96), .val (.ref nb109), .unset, .unset, .unset, .unset, .unset, .unset, .unset] [(.int (0 : Int32)), (.int b127), (.ref nb126), (.ref nb96), (.ref nb122), (.ref nb122)])) (fun _ k => XS.iconst X126.here hx rfl (hb hby at_127) k) ?_
            exact Jb128 _ (Or.inl rfl)
          · refine own_step (g' := (mkF m 123 #[.val (.int p1), .val (.int p2), .val (.int p3), .val (.int ((p1 &&& (2147483647 : Int32)) % (3 : Int32))), .val (.ref nb85), .val (.ref nb96), .val (.ref nb109), .unset, .unset, .unset, .unset, .unset, .unset, .unset] [(.int b127), (.ref nb126), (.ref nb96), (.ref nb122), (.ref nb122)])) (fun _ k => XS.ifNo X126.here hx rfl (hb hby at_120) rfl ((if0 _ _).trans (feq hc176).1) k) ?_
            refine own_step (g' := (mkF m 124 #[.val (.int p1), .val (.int p2), .val (.int p3), .val (.int ((p1 &&& (2147483647 : Int32)) % (3 : Int32))), .val (.ref nb85), .val (.ref nb96), .val (.ref nb109), .unset, .unset, .unset, .unset, .unset, .unset, .unset] [(.int (1 : Int32)), (.int b127), (.ref nb126), (.ref nb96), (.ref nb122), (.ref nb122)])) (fun _ k => XS.iconst X126.here hx rfl (hb hby at_123) k) ?_
            refine own_step (g' := (mkF m 128 #[.val (.int p1), .val (.int p2), .val (.int p3), .val (.int ((p1 &&& (2147483647 : Int32)) % (3 : Int32))), .val (.ref nb85), .val (.ref nb96), .val (.ref nb109), .unset, .unset, .unset, .unset, .unset, .unset, .unset] [(.int (1 : Int32)), (.int b127), (.ref nb126), (.ref nb96), (.ref nb122), (.ref nb122)])) (fun _ k => XS.goto X126.here hx rfl (pc0 := 124) (pc' := 128) rfl (hb hby at_124) (by decide) (by decide) k) ?_
            exact Jb128 _ (Or.inr rfl)
        by_cases hc177 : (p3 &&& (4 : Int32)) = (0 : Int32)
        · refine own_step (g' := (mkF m 115 #[.val (.int p1), .val (.int p2), .val (.int p3), .val (.int ((p1 &&& (2147483647 : Int32)) % (3 : Int32))), .val (.ref nb85), .val (.ref nb96), .val (.ref nb109), .unset, .unset, .unset, .unset, .unset, .unset, .unset] [(.ref nb126), (.ref nb96), (.ref nb122), (.ref nb122)])) (fun _ k => XS.ifYes X126.here hx rfl (pc0 := 108) (pc' := 115) rfl (hb hby at_108) rfl ((if0 _ _).trans (teq hc177).1) (by decide) (by decide) k) ?_
          refine own_step (g' := (mkF m 116 #[.val (.int p1), .val (.int p2), .val (.int p3), .val (.int ((p1 &&& (2147483647 : Int32)) % (3 : Int32))), .val (.ref nb85), .val (.ref nb96), .val (.ref nb109), .unset, .unset, .unset, .unset, .unset, .unset, .unset] [(.int (0 : Int32)), (.ref nb126), (.ref nb96), (.ref nb122), (.ref nb122)])) (fun _ k => XS.iconst X126.here hx rfl (hb hby at_115) k) ?_
          exact Jb127 _ (Or.inl rfl)
        · refine own_step (g' := (mkF m 111 #[.val (.int p1), .val (.int p2), .val (.int p3), .val (.int ((p1 &&& (2147483647 : Int32)) % (3 : Int32))), .val (.ref nb85), .val (.ref nb96), .val (.ref nb109), .unset, .unset, .unset, .unset, .unset, .unset, .unset] [(.ref nb126), (.ref nb96), (.ref nb122), (.ref nb122)])) (fun _ k => XS.ifNo X126.here hx rfl (hb hby at_108) rfl ((if0 _ _).trans (feq hc177).1) k) ?_
          refine own_step (g' := (mkF m 112 #[.val (.int p1), .val (.int p2), .val (.int p3), .val (.int ((p1 &&& (2147483647 : Int32)) % (3 : Int32))), .val (.ref nb85), .val (.ref nb96), .val (.ref nb109), .unset, .unset, .unset, .unset, .unset, .unset, .unset] [(.int (1 : Int32)), (.ref nb126), (.ref nb96), (.ref nb122), (.ref nb122)])) (fun _ k => XS.iconst X126.here hx rfl (hb hby at_111) k) ?_
          refine own_step (g' := (mkF m 116 #[.val (.int p1), .val (.int p2), .val (.int p3), .val (.int ((p1 &&& (2147483647 : Int32)) % (3 : Int32))), .val (.ref nb85), .val (.ref nb96), .val (.ref nb109), .unset, .unset, .unset, .unset, .unset, .unset, .unset] [(.int (1 : Int32)), (.ref nb126), (.ref nb96), (.ref nb122), (.ref nb122)])) (fun _ k => XS.goto X126.here hx rfl (pc0 := 112) (pc' := 116) rfl (hb hby at_112) (by decide) (by decide) k) ?_
          exact Jb127 _ (Or.inr rfl)
      by_cases hc178 : (p3 &&& (2 : Int32)) = (0 : Int32)
      · refine own_step (g' := (mkF m 91 #[.val (.int p1), .val (.int p2), .val (.int p3), .val (.int ((p1 &&& (2147483647 : Int32)) % (3 : Int32))), .val (.ref nb85), .val (.ref nb96), .unset, .unset, .unset, .unset, .unset, .unset, .unset, .unset] [(.int b113), (.ref nb112), (.ref nb85), (.ref nb109), (.ref nb109)])) (fun _ k => XS.ifYes X112.here hx rfl (pc0 := 84) (pc' := 91) rfl (hb hby at_84) rfl ((if0 _ _).trans (teq hc178).1) (by decide) (by decide) k) ?_
        refine own_step (g' := (mkF m 92 #[.val (.int p1), .val (.int p2), .val (.int p3), .val (.int ((p1 &&& (2147483647 : Int32)) % (3 : Int32))), .val (.ref nb85), .val (.ref nb96), .unset, .unset, .unset, .unset, .unset, .unset, .unset, .unset] [(.int (0 : Int32)), (.int b113), (.ref nb112), (.ref nb85), (.ref nb109), (.ref nb109)])) (fun _ k => XS.iconst X112.here hx rfl (hb hby at_91) k) ?_
        exact Jb114 _ (Or.inl rfl)
      · refine own_step (g' := (mkF m 87 #[.val (.int p1), .val (.int p2), .val (.int p3), .val (.int ((p1 &&& (2147483647 : Int32)) % (3 : Int32))), .val (.ref nb85), .val (.ref nb96), .unset, .unset, .unset, .unset, .unset, .unset, .unset, .unset] [(.int b113), (.ref nb112), (.ref nb85), (.ref nb109), (.ref nb109)])) (fun _ k => XS.ifNo X112.here hx rfl (hb hby at_84) rfl ((if0 _ _).trans (feq hc178).1) k) ?_
        refine own_step (g' := (mkF m 88 #[.val (.int p1), .val (.int p2), .val (.int p3), .val (.int ((p1 &&& (2147483647 : Int32)) % (3 : Int32))), .val (.ref nb85), .val (.ref nb96), .unset, .unset, .unset, .unset, .unset, .unset, .unset, .unset] [(.int (1 : Int32)), (.int b113), (.ref nb112), (.ref nb85), (.ref nb109), (.ref nb109)])) (fun _ k => XS.iconst X112.here hx rfl (hb hby at_87) k) ?_
        refine own_step (g' := (mkF m 92 #[.val (.int p1), .val (.int p2), .val (.int p3), .val (.int ((p1 &&& (2147483647 : Int32)) % (3 : Int32))), .val (.ref nb85), .val (.ref nb96), .unset, .unset, .unset, .unset, .unset, .unset, .unset, .unset] [(.int (1 : Int32)), (.int b113), (.ref nb112), (.ref nb85), (.ref nb109), (.ref nb109)])) (fun _ k => XS.goto X112.here hx rfl (pc0 := 88) (pc' := 92) rfl (hb hby at_88) (by decide) (by decide) k) ?_
        exact Jb114 _ (Or.inr rfl)
    by_cases hc179 : (p3 &&& (1 : Int32)) = (0 : Int32)
    · refine own_step (g' := (mkF m 80 #[.val (.int p1), .val (.int p2), .val (.int p3), .val (.int ((p1 &&& (2147483647 : Int32)) % (3 : Int32))), .val (.ref nb85), .val (.ref nb96), .unset, .unset, .unset, .unset, .unset, .unset, .unset, .unset] [(.ref nb112), (.ref nb85), (.ref nb109), (.ref nb109)])) (fun _ k => XS.ifYes X112.here hx rfl (pc0 := 73) (pc' := 80) rfl (hb hby at_73) rfl ((if0 _ _).trans (teq hc179).1) (by decide) (by decide) k) ?_
      refine own_step (g' := (mkF m 81 #[.val (.int p1), .val (.int p2), .val (.int p3), .val (.int ((p1 &&& (2147483647 : Int32)) % (3 : Int32))), .val (.ref nb85), .val (.ref nb96), .unset, .unset, .unset, .unset, .unset, .unset, .unset, .unset] [(.int (0 : Int32)), (.ref nb112), (.ref nb85), (.ref nb109), (.ref nb109)])) (fun _ k => XS.iconst X112.here hx rfl (hb hby at_80) k) ?_
      exact Jb113 _ (Or.inl rfl)
    · refine own_step (g' := (mkF m 76 #[.val (.int p1), .val (.int p2), .val (.int p3), .val (.int ((p1 &&& (2147483647 : Int32)) % (3 : Int32))), .val (.ref nb85), .val (.ref nb96), .unset, .unset, .unset, .unset, .unset, .unset, .unset, .unset] [(.ref nb112), (.ref nb85), (.ref nb109), (.ref nb109)])) (fun _ k => XS.ifNo X112.here hx rfl (hb hby at_73) rfl ((if0 _ _).trans (feq hc179).1) k) ?_
      refine own_step (g' := (mkF m 77 #[.val (.int p1), .val (.int p2), .val (.int p3), .val (.int ((p1 &&& (2147483647 : Int32)) % (3 : Int32))), .val (.ref nb85), .val (.ref nb96), .unset, .unset, .unset, .unset, .unset, .unset, .unset, .unset] [(.int (1 : Int32)), (.ref nb112), (.ref nb85), (.ref nb109), (.ref nb109)])) (fun _ k => XS.iconst X112.here hx rfl (hb hby at_76) k) ?_
      refine own_step (g' := (mkF m 81 #[.val (.int p1), .val (.int p2), .val (.int p3), .val (.int ((p1 &&& (2147483647 : Int32)) % (3 : Int32))), .val (.ref nb85), .val (.ref nb96), .unset, .unset, .unset, .unset, .unset, .unset, .unset, .unset] [(.int (1 : Int32)), (.ref nb112), (.ref nb85), (.ref nb109), (.ref nb109)])) (fun _ k => XS.goto X112.here hx rfl (pc0 := 77) (pc' := 81) rfl (hb hby at_77) (by decide) (by decide) k) ?_
      exact Jb113 _ (Or.inr rfl)
  · refine own_step (g' := (mkF m 1 #[.val (.int p1), .val (.int p2), .val (.int p3), .unset, .unset, .unset, .unset, .unset, .unset, .unset, .unset, .unset, .unset, .unset] [(.int p1)])) (fun _ k => XS.iloadN X0.here hx rfl (hb hby at_0) rfl k) ?_
    refine own_step (g' := (mkF m 3 #[.val (.int p1), .val (.int p2), .val (.int p3), .unset, .unset, .unset, .unset, .unset, .unset, .unset, .unset, .unset, .unset, .unset] [(.int (2147483647 : Int32)), (.int p1)])) (X0.ldcInt hx hown (mvT hZ (hw _ (List.mem_of_getElem? (i := 0) rfl))) (g := (mkF m 1 #[.val (.int p1), .val (.int p2), .val (.int p3), .unset, .unset, .unset, .unset, .unset, .unset, .unset, .unset, .unset, .unset, .unset] [(.int p1)])) rfl (hb hby at_1)) ?_
    refine own_step (g' := (mkF m 4 #[.val (.int p1), .val (.int p2), .val (.int p3), .unset, .unset, .unset, .unset, .unset, .unset, .unset, .unset, .unset, .unset, .unset] [(.int (p1 &&& (2147483647 : Int32)))])) (fun _ k => XS.iand X0.here hx rfl (hb hby at_3) rfl k) ?_
    refine own_step (g' := (mkF m 5 #[.val (.int p1), .val (.int p2), .val (.int p3), .unset, .unset, .unset, .unset, .unset, .unset, .unset, .unset, .unset, .unset, .unset] [(.int (3 : Int32)), (.int (p1 &&& (2147483647 : Int32)))])) (fun _ k => XS.iconst X0.here hx rfl (hb hby at_4) k) ?_
    refine own_step (g' := (mkF m 6 #[.val (.int p1), .val (.int p2), .val (.int p3), .unset, .unset, .unset, .unset, .unset, .unset, .unset, .unset, .unset, .unset, .unset] [(.int ((p1 &&& (2147483647 : Int32)) % (3 : Int32)))])) (fun _ k => own_irem X0.here hx rfl (hb hby at_5) rfl (by decide) k) ?_
    refine own_step (g' := (mkF m 7 #[.val (.int p1), .val (.int p2), .val (.int p3), .val (.int ((p1 &&& (2147483647 : Int32)) % (3 : Int32))), .unset, .unset, .unset, .unset, .unset, .unset, .unset, .unset, .unset, .unset] [])) (fun _ k => XS.istoreN X0.here hx rfl (hb hby at_6) rfl (l' := #[.val (.int p1), .val (.int p2), .val (.int p3), .val (.int ((p1 &&& (2147483647 : Int32)) % (3 : Int32))), .unset, .unset, .unset, .unset, .unset, .unset, .unset, .unset, .unset, .unset]) rfl k) ?_
    obtain ⟨T180, h180, X180, e180, Ex180, A180, D180, -, st180⟩ := newO X0 hx hZ hown (hw _ (List.mem_of_getElem? (i := 1) rfl)) (hw _ (List.mem_of_getElem? (i := 2) rfl)) (hw _ (List.mem_of_getElem? (i := 3) rfl)) e0 (g := (mkF m 7 #[.val (.int p1), .val (.int p2), .val (.int p3), .val (.int ((p1 &&& (2147483647 : Int32)) % (3 : Int32))), .unset, .unset, .unset, .unset, .unset, .unset, .unset, .unset, .unset, .unset] [])) rfl (hb hby at_7) (by decide) (by decide)
    obtain ⟨nb180, g180⟩ : ∃ z, z = h0.size := ⟨_, rfl⟩
    rw [← g180] at A180 D180 st180
    have g_nb180 : n0 ≤ nb180 := Nat.le_trans Z0 (Nat.le_of_eq g180.symm)
    have ne_ed_nb180 : ed ≠ nb180 := Nat.ne_of_lt (Nat.lt_of_lt_of_le Vd.lt (Nat.le_of_eq g180.symm))
    have hk := Nat.le_trans hk Ex180.1
    have hC := hC.trans (CHr.ext Ex180 hC.1)
    have F180_coder : Fld Z h180 nb180 "java/lang/String" "coder" "B" (.int (0 : Int32)) := D180 (Or.inr (hw _ (List.mem_of_getElem? (i := 28) rfl))) (ty := .byte) (by decide)
    have F180_value : Fld Z h180 nb180 "java/lang/String" "value" "[B" .null := D180 (Or.inr (hw _ (List.mem_of_getElem? (i := 30) rfl))) (ty := (.array .byte)) (by decide)
    refine own_via (g' := (mkF m 10 #[.val (.int p1), .val (.int p2), .val (.int p3), .val (.int ((p1 &&& (2147483647 : Int32)) % (3 : Int32))), .unset, .unset, .unset, .unset, .unset, .unset, .unset, .unset, .unset, .unset] [(.ref nb180)])) st180 ?_
    refine own_step (g' := (mkF m 11 #[.val (.int p1), .val (.int p2), .val (.int p3), .val (.int ((p1 &&& (2147483647 : Int32)) % (3 : Int32))), .unset, .unset, .unset, .unset, .unset, .unset, .unset, .unset, .unset, .unset] [(.ref nb180), (.ref nb180)])) (fun _ k => XS.dup X180.here hx rfl (hb hby at_10) rfl rfl k) ?_
    refine own_step (g' := (mkF m 12 #[.val (.int p1), .val (.int p2), .val (.int p3), .val (.int ((p1 &&& (2147483647 : Int32)) % (3 : Int32))), .unset, .unset, .unset, .unset, .unset, .unset, .unset, .unset, .unset, .unset] [(.int (2 : Int32)), (.ref nb180), (.ref nb180)])) (fun _ k => XS.iconst X180.here hx rfl (hb hby at_11) k) ?_
    have V_181 : Arv Z h180 ed kd (.object "java/lang/Object") (0 : Int32) [] .null := (Vd.ext Ex180)
    obtain ⟨T182, h182, k182, X182, e182, Ex182, A182, st182⟩ := newP X180 hx hZ (hw _ (List.mem_of_getElem? (i := 4) rfl)) e180 (g := (mkF m 12 #[.val (.int p1), .val (.int p2), .val (.int p3), .val (.int ((p1 &&& (2147483647 : Int32)) % (3 : Int32))), .unset, .unset, .unset, .unset, .unset, .unset, .unset, .unset, .unset, .unset] [(.int (2 : Int32)), (.ref nb180), (.ref nb180)])) rfl (hb hby at_12) rfl (by decide) (cap := 2) (by decide) (by decide) (by decide) (by decide)
    obtain ⟨nb182, g182⟩ : ∃ z, z = h180.size := ⟨_, rfl⟩
    rw [← g182] at A182 st182
    have V182 : Arv Z h182 nb182 k182 .char (2 : Int32) [(.int (0 : Int32)), (.int (0 : Int32))] (.int (0 : Int32)) := (Arv.new A182 (by decide)).pad (pad_rep [] (.int (0 : Int32)) 2)
    have g_nb182 : n0 ≤ nb182 := Nat.le_trans (Nat.le_trans Z0 Ex180.1) (Nat.le_of_eq g182.symm)
    have ne_ed_nb182 : ed ≠ nb182 := Nat.ne_of_lt (Nat.lt_of_lt_of_le V_181.lt (Nat.le_of_eq g182.symm))
    have ne_nb180_nb182 : nb180 ≠ nb182 := Nat.ne_of_lt (Nat.lt_of_lt_of_le A180.lt (Nat.le_of_eq g182.symm))
    have hk := Nat.le_trans hk Ex182.1
    have hC := hC.trans (CHr.ext Ex182 hC.1)
    refine own_via (g' := (mkF m 14 #[.val (.int p1), .val (.int p2), .val (.int p3), .val (.int ((p1 &&& (2147483647 : Int32)) % (3 : Int32))), .unset, .unset, .unset, .unset, .unset, .unset, .unset, .unset, .unset, .unset] [(.ref nb182), (.ref nb180), (.ref nb180)])) st182 ?_
    refine own_step (g' := (mkF m 15 #[.val (.int p1), .val (.int p2), .val (.int p3), .val (.int ((p1 &&& (2147483647 : Int32)) % (3 : Int32))), .unset, .unset, .unset, .unset, .unset, .unset, .unset, .unset, .unset, .unset] [(.ref nb182), (.ref nb182), (.ref nb180), (.ref nb180)])) (fun _ k => XS.dup X182.here hx rfl (hb hby at_14) rfl rfl k) ?_
    refine own_step (g' := (mkF m 16 #[.val (.int p1), .val (.int p2), .val (.int p3), .val (.int ((p1 &&& (2147483647 : Int32)) % (3 : Int32))), .unset, .unset, .unset, .unset, .unset, .unset, .unset, .unset, .unset, .unset] [(.int (0 : Int32)), (.ref nb182), (.ref nb182), (.ref nb180), (.ref nb180)])) (fun _ k => XS.iconst X182.here hx rfl (hb hby at_15) k) ?_
    refine own_step (g' := (mkF m 18 #[.val (.int p1), .val (.int p2), .val (.int p3), .val (.int ((p1 &&& (2147483647 : Int32)) % (3 : Int32))), .unset, .unset, .unset, .unset, .unset, .unset, .unset, .unset, .unset, .unset] [(.int (45 : Int32)), (.int (0 : Int32)), (.ref nb182), (.ref nb182), (.ref nb180), (.ref nb180)])) (fun _ k => XS.bipush X182.here hx rfl (hb hby at_16) k) ?_
    obtain ⟨cl183, Ar183, q183, S183, M183, H183, G183⟩ := id V182
    obtain ⟨T183, h183, X183, e183, W183, st183⟩ := stC X182 hx hZ e182 Ar183 (j := (0 : Int32)) (inb_of S183 ⟨by decide, by decide⟩)  (g := (mkF m 18 #[.val (.int p1), .val (.int p2), .val (.int p3), .val (.int ((p1 &&& (2147483647 : Int32)) % (3 : Int32))), .unset, .unset, .unset, .unset, .unset, .unset, .unset, .unset, .unset, .unset] [(.int (45 : Int32)), (.int (0 : Int32)), (.ref nb182), (.ref nb182), (.ref nb180), (.ref nb180)])) rfl rfl (hb hby at_18)
    have V183 : Arv Z h183 nb182 k182 .char (2 : Int32) [(.int (nar .char (45 : Int32))), (.int (0 : Int32))] (.int (0 : Int32)) := Arv.set Ar183 q183 S183 M183 H183 G183 (fits_nar_char _) W183 0 rfl (Nat.le_of_ble_eq_true rfl)
    have N183 := Fr.snoc X183 N0 g_nb182
    have hk := Nat.le_trans hk (Nat.le_of_eq W183.size.symm)
    have hC := hC.trans (CHr.wr W183 own_safe_nil hC.1)
    refine own_via (g' := (mkF m 19 #[.val (.int p1), .val (.int p2), .val (.int p3), .val (.int ((p1 &&& (2147483647 : Int32)) % (3 : Int32))), .unset, .unset, .unset, .unset, .unset, .unset, .unset, .unset, .unset, .unset] [(.ref nb182), (.ref nb180), (.ref nb180)])) st183 ?_
    refine own_step (g' := (mkF m 20 #[.val (.int p1), .val (.int p2), .val (.int p3), .val (.int ((p1 &&& (2147483647 : Int32)) % (3 : Int32))), .unset, .unset, .unset, .unset, .unset, .unset, .unset, .unset, .unset, .unset] [(.ref nb182), (.ref nb182), (.ref nb180), (.ref nb180)])) (fun _ k => XS.dup X183.here hx rfl (hb hby at_19) rfl rfl k) ?_
    refine own_step (g' := (mkF m 21 #[.val (.int p1), .val (.int p2), .val (.int p3), .val (.int ((p1 &&& (2147483647 : Int32)) % (3 : Int32))), .unset, .unset, .unset, .unset, .unset, .unset, .unset, .unset, .unset, .unset] [(.int (1 : Int32)), (.ref nb182), (.ref nb182), (.ref nb180), (.ref nb180)])) (fun _ k => XS.iconst X183.here hx rfl (hb hby at_20) k) ?_
    refine own_step (g' := (mkF m 22 #[.val (.int p1), .val (.int p2), .val (.int p3), .val (.int ((p1 &&& (2147483647 : Int32)) % (3 : Int32))), .unset, .unset, .unset, .unset, .unset, .unset, .unset, .unset, .unset, .unset] [(.int p2), (.int (1 : Int32)), (.ref nb182), (.ref nb182), (.ref nb180), (.ref nb180)])) (fun _ k => XS.iloadN X183.here hx rfl (hb hby at_21) rfl k) ?_
    refine own_step (g' := (mkF m 25 #[.val (.int p1), .val (.int p2), .val (.int p3), .val (.int ((p1 &&& (2147483647 : Int32)) % (3 : Int32))), .unset, .unset, .unset, .unset, .unset, .unset, .unset, .unset, .unset, .unset] [(.int (255 : Int32)), (.int p2), (.int (1 : Int32)), (.ref nb182), (.ref nb182), (.ref nb180), (.ref nb180)])) (fun _ k => XS.sipush X183.here hx rfl (hb hby at_22) k) ?_
    refine own_step (g' := (mkF m 26 #[.val (.int p1), .val (.int p2), .val (.int p3), .val (.int ((p1 &&& (2147483647 : Int32)) % (3 : Int32))), .unset, .unset, .unset, .unset, .unset, .unset, .unset, .unset, .unset, .unset] [(.int (p2 &&& (255 : Int32))), (.int (1 : Int32)), (.ref nb182), (.ref nb182), (.ref nb180), (.ref nb180)])) (fun _ k => XS.iand X183.here hx rfl (hb hby at_25) rfl k) ?_
    refine own_step (g' := (mkF m 27 #[.val (.int p1), .val (.int p2), .val (.int p3), .val (.int ((p1 &&& (2147483647 : Int32)) % (3 : Int32))), .unset, .unset, .unset, .unset, .unset, .unset, .unset, .unset, .unset, .unset] [(.int ((p2 &&& (255 : Int32)).toUInt32.toUInt16.toUInt32.toInt32)), (.int (1 : Int32)), (.ref nb182), (.ref nb182), (.ref nb180), (.ref nb180)])) (fun _ k => XS.i2c X183.here hx rfl (hb hby at_26) rfl k) ?_
    obtain ⟨cl184, Ar184, q184, S184, M184, H184, G184⟩ := id V183
    obtain ⟨T184, h184, X184, e184, W184, st184⟩ := stC X183 hx hZ e183 Ar184 (j := (1 : Int32)) (inb_of S184 ⟨by decide, by decide⟩)  (g := (mkF m 27 #[.val (.int p1), .val (.int p2), .val (.int p3), .val (.int ((p1 &&& (2147483647 : Int32)) % (3 : Int32))), .unset, .unset, .unset, .unset, .unset, .unset, .unset, .unset, .unset, .unset] [(.int ((p2 &&& (255 : Int32)).toUInt32.toUInt16.toUInt32.toInt32)), (.int (1 : Int32)), (.ref nb182), (.ref nb182), (.ref nb180), (.ref nb180)])) rfl rfl (hb hby at_27)
    have V184 : Arv Z h184 nb182 k182 .char (2 : Int32) [(.int (nar .char (45 : Int32))), (.int (nar .char ((p2 &&& (255 : Int32)).toUInt32.toUInt16.toUInt32.toInt32)))] (.int (0 : Int32)) := Arv.set Ar184 q184 S184 M184 H184 G184 (fits_nar_char _) W184 1 rfl (Nat.le_of_ble_eq_true rfl)
    have N184 := Fr.snoc X184 N183 g_nb182
    have hk := Nat.le_trans hk (Nat.le_of_eq W184.size.symm)
    have hC := hC.trans (CHr.wr W184 own_safe_nil hC.1)
    refine own_via (g' := (mkF m 28 #[.val (.int p1), .val (.int p2), .val (.int p3), .val (.int ((p1 &&& (2147483647 : Int32)) % (3 : Int32))), .unset, .unset, .unset, .unset, .unset, .unset, .unset, .unset, .unset, .unset] [(.ref nb182), (.ref nb180), (.ref nb180)])) st184 ?_
    have hlat185 : ∀ c ∈ [(nar .char (45 : Int32)), (nar .char ((p2 &&& (255 : Int32)).toUInt32.toUInt16.toUInt32.toInt32))], ¬ c < (0 : Int32) ∧ ¬ (255 : Int32) < c := by
      intro c hc
      simp only [List.mem_cons, List.not_mem_nil, or_false] at hc
      rcases hc with rfl | rfl
      · decide
      · exact own_latN _
    have C_186 : Exa Z h184 nb180 "java/lang/String" := (Exa.wr W184 (Exa.wr W183 (Exa.ext Ex182 A180)))
    have F_187 : Fld Z h184 nb180 "java/lang/String" "value" "[B" .null := (Fld.other W184 (Fld.other W183 (Fld.ext Ex182 F180_value) (Or.inl ne_nb180_nb182)) (Or.inl ne_nb180_nb182))
    have F_188 : Fld Z h184 nb180 "java/lang/String" "coder" "B" (.int (0 : Int32)) := (Fld.other W184 (Fld.other W183 (Fld.ext Ex182 F180_coder) (Or.inl ne_nb180_nb182)) (Or.inl ne_nb180_nb182))
    have S_189 : Sta Z h184 "java/lang/String" "COMPACT_STRINGS" "Z" (.int z) := (Sta.wr W184 (Sta.wr W183 (Sta.ext Ex182 (Sta.ext Ex180 S_CS))))
    refine own_initB X184 hx hZ (W := 1) hown e184 (StrChars.Road.backV (W := 1) hZ hws (kI := 4) (hw _ (List.mem_of_getElem? (i := 2) rfl)) (cs := [(nar .char (45 : Int32)), (nar .char ((p2 &&& (255 : Int32)).toUInt32.toUInt16.toUInt32.toInt32))]) (bs := [((nar .char (45 : Int32))).toInt8.toInt32, ((nar .char ((p2 &&& (255 : Int32)).toUInt32.toUInt16.toUInt32.toInt32))).toInt8.toInt32]) (n := 2) g_nb180 (Nat.le_trans (Nat.le_trans (Nat.le_trans (Nat.le_trans Z0 Ex180.1) Ex182.1) (Nat.le_of_eq W183.size.symm)) (Nat.le_of_eq W184.size.symm)) C_186 F_187 F_188 V184 S_189 hz rfl rfl (by decide) (by decide) hlat185 rfl (by decide) (by decide)) rfl (hw _ (List.mem_of_getElem? (i := 5) rfl)) (hw _ (List.mem_of_getElem? (i := 6) rfl)) (hw _ (List.mem_of_getElem? (i := 7) rfl)) (by decide) (g := (mkF m 28 #[.val (.int p1), .val (.int p2), .val (.int p3), .val (.int ((p1 &&& (2147483647 : Int32)) % (3 : Int32))), .unset, .unset, .unset, .unset, .unset, .unset, .unset, .unset, .unset, .unset] [(.ref nb182), (.ref nb180), (.ref nb180)])) rfl (by rw [hml]; rfl) (argsL := [(.ref nb182)]) (rest := [(.ref nb180)]) rfl (lenOf pd_8 rfl) rfl (by show 2 * 0 + _ ≤ _; exact Nat.le_of_eq rfl) (hb hby at_28) (by decide) (by decide) ?_
    intro v190 T190 L190 X190 hQ190
    obtain ⟨rfl, Nq190, Kq190, Cq190, -⟩ := hQ190
    have N190 := Fr.app N184 Nq190
    have hk := Nat.le_trans hk Kq190.1
    have hC := hC.trans (CHr.keep Kq190 (sfS own_safe_nil sf0) hC.1)
    show OGo p e below _ T190 (mkF m 31 #[.val (.int p1), .val (.int p2), .val (.int p3), .val (.int ((p1 &&& (2147483647 : Int32)) % (3 : Int32))), .unset, .unset, .unset, .unset, .unset, .unset, .unset, .unset, .unset, .unset] [(.ref nb180)])
    refine own_step (g' := (mkF m 33 #[.val (.int p1), .val (.int p2), .val (.int p3), .val (.int ((p1 &&& (2147483647 : Int32)) % (3 : Int32))), .val (.ref nb180), .unset, .unset, .unset, .unset, .unset, .unset, .unset, .unset, .unset] [])) (fun _ k => XS.astore X190.here hx rfl (hb hby at_31) rfl rfl (l' := #[.val (.int p1), .val (.int p2), .val (.int p3), .val (.int ((p1 &&& (2147483647 : Int32)) % (3 : Int32))), .val (.ref nb180), .unset, .unset, .unset, .unset, .unset, .unset, .unset, .unset, .unset]) rfl k) ?_
    have V_192 : Arv Z T190.heap ed kd (.object "java/lang/Object") (0 : Int32) [] .null := ((((V_181.ext Ex182).other W183 ne_ed_nb182).other W184 ne_ed_nb182).keep Kq190 (ninS ne_ed_nb180 nin0))
    obtain ⟨T191, h191, X191, e191, Ex191, A191, D191, -, st191⟩ := newO X190 hx hZ hown (hw _ (List.mem_of_getElem? (i := 1) rfl)) (hw _ (List.mem_of_getElem? (i := 2) rfl)) (hw _ (List.mem_of_getElem? (i := 3) rfl)) rfl (g := (mkF m 33 #[.val (.int p1), .val (.int p2), .val (.int p3), .val (.int ((p1 &&& (2147483647 : Int32)) % (3 : Int32))), .val (.ref nb180), .unset, .unset, .unset, .unset, .unset, .unset, .unset, .unset, .unset] [])) rfl (hb hby at_33) (by decide) (by decide)
    obtain ⟨nb191, g191⟩ : ∃ z, z = T190.heap.size := ⟨_, rfl⟩
    rw [← g191] at A191 D191 st191
    have g_nb191 : n0 ≤ nb191 := Nat.le_trans (Nat.le_trans (Nat.le_trans (Nat.le_trans (Nat.le_trans (Nat.le_trans Z0 Ex180.1) Ex182.1) (Nat.le_of_eq W183.size.symm)) (Nat.le_of_eq W184.size.symm)) Kq190.1) (Nat.le_of_eq g191.symm)
    have ne_ed_nb191 : ed ≠ nb191 := Nat.ne_of_lt (Nat.lt_of_lt_of_le V_192.lt (Nat.le_of_eq g191.symm))
    have ne_nb180_nb191 : nb180 ≠ nb191 := Nat.ne_of_lt (Nat.lt_of_lt_of_le Cq190.lt (Nat.le_of_eq g191.symm))
    have hk := Nat.le_trans hk Ex191.1
    have hC := hC.trans (CHr.ext Ex191 hC.1)
    have F191_coder : Fld Z h191 nb191 "java/lang/String" "coder" "B" (.int (0 : Int32)) := D191 (Or.inr (hw _ (List.mem_of_getElem? (i := 28) rfl))) (ty := .byte) (by decide)
    have F191_value : Fld Z h191 nb191 "java/lang/String" "value" "[B" .null := D191 (Or.inr (hw _ (List.mem_of_getElem? (i := 30) rfl))) (ty := (.array .byte)) (by decide)
    refine own_via (g' := (mkF m 36 #[.val (.int p1), .val (.int p2), .val (.int p3), .val (.int ((p1 &&& (2147483647 : Int32)) % (3 : Int32))), .val (.ref nb180), .unset, .unset, .unset, .unset, .unset, .unset, .unset, .unset, .unset] [(.ref nb191)])) st191 ?_
    refine own_step (g' := (mkF m 37 #[.val (.int p1), .val (.int p2), .val (.int p3), .val (.int ((p1 &&& (2147483647 : Int32)) % (3 : Int32))), .val (.ref nb180), .unset, .unset, .unset, .unset, .unset, .unset, .unset, .unset, .unset] [(.ref nb191), (.ref nb191)])) (fun _ k => XS.dup X191.here hx rfl (hb hby at_36) rfl rfl k) ?_
    refine own_step (g' := (mkF m 38 #[.val (.int p1), .val (.int p2), .val (.int p3), .val (.int ((p1 &&& (2147483647 : Int32)) % (3 : Int32))), .val (.ref nb180), .unset, .unset, .unset, .unset, .unset, .unset, .unset, .unset, .unset] [(.int (2 : Int32)), (.ref nb191), (.ref nb191)])) (fun _ k => XS.iconst X191.here hx rfl (hb hby at_37) k) ?_
    have V_193 : Arv Z h191 ed kd (.object "java/lang/Object") (0 : Int32) [] .null := (V_192.ext Ex191)
    have C_194 : Exa Z h191 nb180 "java/lang/String" := (Exa.ext Ex191 Cq190)
    obtain ⟨T195, h195, k195, X195, e195, Ex195, A195, st195⟩ := newP X191 hx hZ (hw _ (List.mem_of_getElem? (i := 4) rfl)) e191 (g := (mkF m 38 #[.val (.int p1), .val (.int p2), .val (.int p3), .val (.int ((p1 &&& (2147483647 : Int32)) % (3 : Int32))), .val (.ref nb180), .unset, .unset, .unset, .unset, .unset, .unset, .unset, .unset, .unset] [(.int (2 : Int32)), (.ref nb191), (.ref nb191)])) rfl (hb hby at_38) rfl (by decide) (cap := 2) (by decide) (by decide) (by decide) (by decide)
    obtain ⟨nb195, g195⟩ : ∃ z, z = h191.size := ⟨_, rfl⟩
    rw [← g195] at A195 st195
    have V195 : Arv Z h195 nb195 k195 .char (2 : Int32) [(.int (0 : Int32)), (.int (0 : Int32))] (.int (0 : Int32)) := (Arv.new A195 (by decide)).pad (pad_rep [] (.int (0 : Int32)) 2)
    have g_nb195 : n0 ≤ nb195 := Nat.le_trans (Nat.le_trans (Nat.le_trans (Nat.le_trans (Nat.le_trans (Nat.le_trans (Nat.le_trans Z0 Ex180.1) Ex182.1) (Nat.le_of_eq W183.size.symm)) (Nat.le_of_eq W184.size.symm)) Kq190.1) Ex191.1) (Nat.le_of_eq g195.symm)
    have ne_ed_nb195 : ed ≠ nb195 := Nat.ne_of_lt (Nat.lt_of_lt_of_le V_193.lt (Nat.le_of_eq g195.symm))
    have ne_nb180_nb195 : nb180 ≠ nb195 := Nat.ne_of_lt (Nat.lt_of_lt_of_le C_194.lt (Nat.le_of_eq g195.symm))
    have ne_nb191_nb195 : nb191 ≠ nb195 := Nat.ne_of_lt (Nat.lt_of_lt_of_le A191.lt (Nat.le_of_eq g195.symm))
    have hk := Nat.le_trans hk Ex195.1
    have hC := hC.trans (CHr.ext Ex195 hC.1)
    refine own_via (g' := (mkF m 40 #[.val (.int p1), .val (.int p2), .val (.int p3), .val (.int ((p1 &&& (2147483647 : Int32)) % (3 : Int32))), .val (.ref nb180), .unset, .unset, .unset, .unset, .unset, .unset, .unset, .unset, .unset] [(.ref nb195), (.ref nb191), (.ref nb191)])) st195 ?_
    refine own_step (g' := (mkF m 41 #[.val (.int p1), .val (.int p2), .val (.int p3), .val (.int ((p1 &&& (2147483647 : Int32)) % (3 : Int32))), .val (.ref nb180), .unset, .unset, .unset, .unset, .unset, .unset, .unset, .unset, .unset] [(.ref nb195), (.ref nb195), (.ref nb191), (.ref nb191)])) (fun _ k => XS.dup X195.here hx rfl (hb hby at_40) rfl rfl k) ?_
    refine own_step (g' := (mkF m 42 #[.val (.int p1), .val (.int p2), .val (.int p3), .val (.int ((p1 &&& (2147483647 : Int32)) % (3 : Int32))), .val (.ref nb180), .unset, .unset, .unset, .unset, .unset, .unset, .unset, .unset, .unset] [(.int (0 : Int32)), (.ref nb195), (.ref nb195), (.ref nb191), (.ref nb191)])) (fun _ k => XS.iconst X195.here hx rfl (hb hby at_41) k) ?_
    refine own_step (g' := (mkF m 44 #[.val (.int p1), .val (.int p2), .val (.int p3), .val (.int ((p1 &&& (2147483647 : Int32)) % (3 : Int32))), .val (.ref nb180), .unset, .unset, .unset, .unset, .unset, .unset, .unset, .unset, .unset] [(.int (45 : Int32)), (.int (0 : Int32)), (.ref nb195), (.ref nb195), (.ref nb191), (.ref nb191)])) (fun _ k => XS.bipush X195.here hx rfl (hb hby at_42) k) ?_
    obtain ⟨cl196, Ar196, q196, S196, M196, H196, G196⟩ := id V195
    obtain ⟨T196, h196, X196, e196, W196, st196⟩ := stC X195 hx hZ e195 Ar196 (j := (0 : Int32)) (inb_of S196 ⟨by decide, by decide⟩)  (g := (mkF m 44 #[.val (.int p1), .val (.int p2), .val (.int p3), .val (.int ((p1 &&& (2147483647 : Int32)) % (3 : Int32))), .val (.ref nb180), .unset, .unset, .unset, .unset, .unset, .unset, .unset, .unset, .unset] [(.int (45 : Int32)), (.int (0 : Int32)), (.ref nb195), (.ref nb195), (.ref nb191), (.ref nb191)])) rfl rfl (hb hby at_44)
    have V196 : Arv Z h196 nb195 k195 .char (2 : Int32) [(.int (nar .char (45 : Int32))), (.int (0 : Int32))] (.int (0 : Int32)) := Arv.set Ar196 q196 S196 M196 H196 G196 (fits_nar_char _) W196 0 rfl (Nat.le_of_ble_eq_true rfl)
    have N196 := Fr.snoc X196 N190 g_nb195
    have hk := Nat.le_trans hk (Nat.le_of_eq W196.size.symm)
    have hC := hC.trans (CHr.wr W196 own_safe_nil hC.1)
    refine own_via (g' := (mkF m 45 #[.val (.int p1), .val (.int p2), .val (.int p3), .val (.int ((p1 &&& (2147483647 : Int32)) % (3 : Int32))), .val (.ref nb180), .unset, .unset, .unset, .unset, .unset, .unset, .unset, .unset, .unset] [(.ref nb195), (.ref nb191), (.ref nb191)])) st196 ?_
    refine own_step (g' := (mkF m 46 #[.val (.int p1), .val (.int p2), .val (.int p3), .val (.int ((p1 &&& (2147483647 : Int32)) % (3 : Int32))), .val (.ref nb180), .unset, .unset, .unset, .unset, .unset, .unset, .unset, .unset, .unset] [(.ref nb195), (.ref nb195), (.ref nb191), (.ref nb191)])) (fun _ k => XS.dup X196.here hx rfl (hb hby at_45) rfl rfl k) ?_
    refine own_step (g' := (mkF m 47 #[.val (.int p1), .val (.int p2), .val (.int p3), .val (.int ((p1 &&& (2147483647 : Int32)) % (3 : Int32))), .val (.ref nb180), .unset, .unset, .unset, .unset, .unset, .unset, .unset, .unset, .unset] [(.int (1 : Int32)), (.ref nb195), (.ref nb195), (.ref nb191), (.ref nb191)])) (fun _ k => XS.iconst X196.here hx rfl (hb hby at_46) k) ?_
    refine own_step (g' := (mkF m 48 #[.val (.int p1), .val (.int p2), .val (.int p3), .val (.int ((p1 &&& (2147483647 : Int32)) % (3 : Int32))), .val (.ref nb180), .unset, .unset, .unset, .unset, .unset, .unset, .unset, .unset, .unset] [(.int p2), (.int (1 : Int32)), (.ref nb195), (.ref nb195), (.ref nb191), (.ref nb191)])) (fun _ k => XS.iloadN X196.here hx rfl (hb hby at_47) rfl k) ?_
    refine own_step (g' := (mkF m 50 #[.val (.int p1), .val (.int p2), .val (.int p3), .val (.int ((p1 &&& (2147483647 : Int32)) % (3 : Int32))), .val (.ref nb180), .unset, .unset, .unset, .unset, .unset, .unset, .unset, .unset, .unset] [(.int (8 : Int32)), (.int p2), (.int (1 : Int32)), (.ref nb195), (.ref nb195), (.ref nb191), (.ref nb191)])) (fun _ k => XS.bipush X196.here hx rfl (hb hby at_48) k) ?_
    refine own_step (g' := (mkF m 51 #[.val (.int p1), .val (.int p2), .val (.int p3), .val (.int ((p1 &&& (2147483647 : Int32)) % (3 : Int32))), .val (.ref nb180), .unset, .unset, .unset, .unset, .unset, .unset, .unset, .unset, .unset] [(.int ((p2.toUInt32 >>> ((8 : Int32) &&& 31).toUInt32).toInt32)), (.int (1 : Int32)), (.ref nb195), (.ref nb195), (.ref nb191), (.ref nb191)])) (fun _ k => XS.iushr X196.here hx rfl (hb hby at_50) rfl k) ?_
    refine own_step (g' := (mkF m 54 #[.val (.int p1), .val (.int p2), .val (.int p3), .val (.int ((p1 &&& (2147483647 : Int32)) % (3 : Int32))), .val (.ref nb180), .unset, .unset, .unset, .unset, .unset, .unset, .unset, .unset, .unset] [(.int (255 : Int32)), (.int ((p2.toUInt32 >>> ((8 : Int32) &&& 31).toUInt32).toInt32)), (.int (1 : Int32)), (.ref nb195), (.ref nb195), (.ref nb191), (.ref nb191)])) (fun _ k => XS.sipush X196.here hx rfl (hb hby at_51) k) ?_
    refine own_step (g' := (mkF m 55 #[.val (.int p1), .val (.int p2), .val (.int p3), .val (.int ((p1 &&& (2147483647 : Int32)) % (3 : Int32))), .val (.ref nb180), .unset, .unset, .unset, .unset, .unset, .unset, .unset, .unset, .unset] [(.int (((p2.toUInt32 >>> ((8 : Int32) &&& 31).toUInt32).toInt32) &&& (255 : Int32))), (.int (1 : Int32)), (.ref nb195), (.ref nb195), (.ref nb191), (.ref nb191)])) (fun _ k => XS.iand X196.here hx rfl (hb hby at_54) rfl k) ?_
    refine own_step (g' := (mkF m 56 #[.val (.int p1), .val (.int p2), .val (.int p3), .val (.int ((p1 &&& (2147483647 : Int32)) % (3 : Int32))), .val (.ref nb180), .unset, .unset, .unset, .unset, .unset, .unset, .unset, .unset, .unset] [(.int ((((p2.toUInt32 >>> ((8 : Int32) &&& 31).toUInt32).toInt32) &&& (255 : Int32)).toUInt32.toUInt16.toUInt32.toInt32)), (.int (1 : Int32)), (.ref nb195), (.ref nb195), (.ref nb191), (.ref nb191)])) (fun _ k => XS.i2c X196.here hx rfl (hb hby at_55) rfl k) ?_
    obtain ⟨cl197, Ar197, q197, S197, M197, H197, G197⟩ := id V196
    obtain ⟨T197, h197, X197, e197, W197, st197⟩ := stC X196 hx hZ e196 Ar197 (j := (1 : Int32)) (inb_of S197 ⟨by decide, by decide⟩)  (g := (mkF m 56 #[.val (.int p1), .val (.int p2), .val (.int p3), .val (.int ((p1 &&& (2147483647 : Int32)) % (3 : Int32))), .val (.ref nb180), .unset, .unset, .unset, .unset, .unset, .unset, .unset, .unset, .unset] [(.int ((((p2.toUInt32 >>> ((8 : Int32) &&& 31).toUInt32).toInt32) &&& (255 : Int32)).toUInt32.toUInt16.toUInt32.toInt32)), (.int (1 : Int32)), (.ref nb195), (.ref nb195), (.ref nb191), (.ref nb191)])) rfl rfl (hb hby at_56)
    have V197 : Arv Z h197 nb195 k195 .char (2 : Int32) [(.int (nar .char (45 : Int32))), (.int (nar .char ((((p2.toUInt32 >>> ((8 : Int32) &&& 31).toUInt32).toInt32) &&& (255 : Int32)).toUInt32.toUInt16.toUInt32.toInt32)))] (.int (0 : Int32)) := Arv.set Ar197 q197 S197 M197 H197 G197 (fits_nar_char _) W197 1 rfl (Nat.le_of_ble_eq_true rfl)
    have N197 := Fr.snoc X197 N196 g_nb195
    have hk := Nat.le_trans hk (Nat.le_of_eq W197.size.symm)
    have hC := hC.trans (CHr.wr W197 own_safe_nil hC.1)
    refine own_via (g' := (mkF m 57 #[.val (.int p1), .val (.int p2), .val (.int p3), .val (.int ((p1 &&& (2147483647 : Int32)) % (3 : Int32))), .val (.ref nb180), .unset, .unset, .unset, .unset, .unset, .unset, .unset, .unset, .unset] [(.ref nb195), (.ref nb191), (.ref nb191)])) st197 ?_
    have hlat198 : ∀ c ∈ [(nar .char (45 : Int32)), (nar .char ((((p2.toUInt32 >>> ((8 : Int32) &&& 31).toUInt32).toInt32) &&& (255 : Int32)).toUInt32.toUInt16.toUInt32.toInt32))], ¬ c < (0 : Int32) ∧ ¬ (255 : Int32) < c := by
      intro c hc
      simp only [List.mem_cons, List.not_mem_nil, or_false] at hc
      rcases hc with rfl | rfl
      · decide
      · exact own_latN _
    have C_199 : Exa Z h197 nb191 "java/lang/String" := (Exa.wr W197 (Exa.wr W196 (Exa.ext Ex195 A191)))
    have F_200 : Fld Z h197 nb191 "java/lang/String" "value" "[B" .null := (Fld.other W197 (Fld.other W196 (Fld.ext Ex195 F191_value) (Or.inl ne_nb191_nb195)) (Or.inl ne_nb191_nb195))
    have F_201 : Fld Z h197 nb191 "java/lang/String" "coder" "B" (.int (0 : Int32)) := (Fld.other W197 (Fld.other W196 (Fld.ext Ex195 F191_coder) (Or.inl ne_nb191_nb195)) (Or.inl ne_nb191_nb195))
    have S_202 : Sta Z h197 "java/lang/String" "COMPACT_STRINGS" "Z" (.int z) := (Sta.wr W197 (Sta.wr W196 (Sta.ext Ex195 (Sta.ext Ex191 (own_sta_keep S_189 Kq190 (allS (own_nsE C_186) all0))))))
    refine own_initB X197 hx hZ (W := 1) hown e197 (StrChars.Road.backV (W := 1) hZ hws (kI := 4) (hw _ (List.mem_of_getElem? (i := 2) rfl)) (cs := [(nar .char (45 : Int32)), (nar .char ((((p2.toUInt32 >>> ((8 : Int32) &&& 31).toUInt32).toInt32) &&& (255 : Int32)).toUInt32.toUInt16.toUInt32.toInt32))]) (bs := [((nar .char (45 : Int32))).toInt8.toInt32, ((nar .char ((((p2.toUInt32 >>> ((8 : Int32) &&& 31).toUInt32).toInt32) &&& (255 : Int32)).toUInt32.toUInt16.toUInt32.toInt32))).toInt8.toInt32]) (n := 2) g_nb191 (Nat.le_trans (Nat.le_trans (Nat.le_trans (Nat.le_trans (Nat.le_trans (Nat.le_trans (Nat.le_trans (Nat.le_trans (Nat.le_trans Z0 Ex180.1) Ex182.1) (Nat.le_of_eq W183.size.symm)) (Nat.le_of_eq W184.size.symm)) Kq190.1) Ex191.1) Ex195.1) (Nat.le_of_eq W196.size.symm)) (Nat.le_of_eq W197.size.symm)) C_199 F_200 F_201 V197 S_202 hz rfl rfl (by decide) (by decide) hlat198 rfl (by decide) (by decide)) rfl (hw _ (List.mem_of_getElem? (i := 5) rfl)) (hw _ (List.mem_of_getElem? (i := 6) rfl)) (hw _ (List.mem_of_getElem? (i := 7) rfl)) (by decide) (g := (mkF m 57 #[.val (.int p1), .val (.int p2), .val (.int p3), .val (.int ((p1 &&& (2147483647 : Int32)) % (3 : Int32))), .val (.ref nb180), .unset, .unset, .unset, .unset, .unset, .unset, .unset, .unset, .unset] [(.ref nb195), (.ref nb191), (.ref nb191)])) rfl (by rw [hml]; rfl) (argsL := [(.ref nb195)]) (rest := [(.ref nb191)]) rfl (lenOf pd_8 rfl) rfl (by show 2 * 0 + _ ≤ _; exact Nat.le_of_eq rfl) (hb hby at_57) (by decide) (by decide) ?_
    intro v203 T203 L203 X203 hQ203
    obtain ⟨rfl, Nq203, Kq203, Cq203, -⟩ := hQ203
    have N203 := Fr.app N197 Nq203
    have hk := Nat.le_trans hk Kq203.1
    have hC := hC.trans (CHr.keep Kq203 (sfS own_safe_nil sf0) hC.1)
    show OGo p e below _ T203 (mkF m 60 #[.val (.int p1), .val (.int p2), .val (.int p3), .val (.int ((p1 &&& (2147483647 : Int32)) % (3 : Int32))), .val (.ref nb180), .unset, .unset, .unset, .unset, .unset, .unset, .unset, .unset, .unset] [(.ref nb191)])
    refine own_step (g' := (mkF m 62 #[.val (.int p1), .val (.int p2), .val (.int p3), .val (.int ((p1 &&& (2147483647 : Int32)) % (3 : Int32))), .val (.ref nb180), .val (.ref nb191), .unset, .unset, .unset, .unset, .unset, .unset, .unset, .unset] [])) (fun _ k => XS.astore X203.here hx rfl (hb hby at_60) rfl rfl (l' := #[.val (.int p1), .val (.int p2), .val (.int p3), .val (.int ((p1 &&& (2147483647 : Int32)) % (3 : Int32))), .val (.ref nb180), .val (.ref nb191), .unset, .unset, .unset, .unset, .unset, .unset, .unset, .unset]) rfl k) ?_
    have V_205 : Arv Z T203.heap ed kd (.object "java/lang/Object") (0 : Int32) [] .null := ((((V_193.ext Ex195).other W196 ne_ed_nb195).other W197 ne_ed_nb195).keep Kq203 (ninS ne_ed_nb191 nin0))
    have C_206 : Exa Z T203.heap nb180 "java/lang/String" := ((Exa.wr W197 (Exa.wr W196 (Exa.ext Ex195 C_194))).keep Kq203)
    obtain ⟨T204, h204, X204, e204, Ex204, A204, D204, -, st204⟩ := newO X203 hx hZ hown (hw _ (List.mem_of_getElem? (i := 31) rfl)) (hw _ (List.mem_of_getElem? (i := 32) rfl)) (hw _ (List.mem_of_getElem? (i := 33) rfl)) rfl (g := (mkF m 62 #[.val (.int p1), .val (.int p2), .val (.int p3), .val (.int ((p1 &&& (2147483647 : Int32)) % (3 : Int32))), .val (.ref nb180), .val (.ref nb191), .unset, .unset, .unset, .unset, .unset, .unset, .unset, .unset] [])) rfl (hb hby at_62) (by decide) (by decide)
    obtain ⟨nb204, g204⟩ : ∃ z, z = T203.heap.size := ⟨_, rfl⟩
    rw [← g204] at A204 D204 st204
    have g_nb204 : n0 ≤ nb204 := Nat.le_trans (Nat.le_trans (Nat.le_trans (Nat.le_trans (Nat.le_trans (Nat.le_trans (Nat.le_trans (Nat.le_trans (Nat.le_trans (Nat.le_trans (Nat.le_trans Z0 Ex180.1) Ex182.1) (Nat.le_of_eq W183.size.symm)) (Nat.le_of_eq W184.size.symm)) Kq190.1) Ex191.1) Ex195.1) (Nat.le_of_eq W196.size.symm)) (Nat.le_of_eq W197.size.symm)) Kq203.1) (Nat.le_of_eq g204.symm)
    have ne_ed_nb204 : ed ≠ nb204 := Nat.ne_of_lt (Nat.lt_of_lt_of_le V_205.lt (Nat.le_of_eq g204.symm))
    have ne_nb180_nb204 : nb180 ≠ nb204 := Nat.ne_of_lt (Nat.lt_of_lt_of_le C_206.lt (Nat.le_of_eq g204.symm))
    have ne_nb191_nb204 : nb191 ≠ nb204 := Nat.ne_of_lt (Nat.lt_of_lt_of_le Cq203.lt (Nat.le_of_eq g204.symm))
    have hk := Nat.le_trans hk Ex204.1
    have hC := hC.trans (CHr.ext Ex204 hC.1)
    have F204_name : Fld Z h204 nb204 "com/example/handl/handl/cli/Arguments$Option" "name" "Ljava/lang/String;" .null := D204 (Or.inr (hw _ (List.mem_of_getElem? (i := 47) rfl))) (ty := (.object "java/lang/String")) (by decide)
    have F204_value : Fld Z h204 nb204 "com/example/handl/handl/cli/Arguments$Option" "value" "Ljava/lang/String;" .null := D204 (Or.inr (hw _ (List.mem_of_getElem? (i := 49) rfl))) (ty := (.object "java/lang/String")) (by decide)
    have F204_repeatable : Fld Z h204 nb204 "com/example/handl/handl/cli/Arguments$Option" "repeatable" "Z" (.int (0 : Int32)) := D204 (Or.inr (hw _ (List.mem_of_getElem? (i := 51) rfl))) (ty := .boolean) (by decide)
    have F204_joinable : Fld Z h204 nb204 "com/example/handl/handl/cli/Arguments$Option" "joinable" "Z" (.int (0 : Int32)) := D204 (Or.inr (hw _ (List.mem_of_getElem? (i := 53) rfl))) (ty := .boolean) (by decide)
    refine own_via (g' := (mkF m 65 #[.val (.int p1), .val (.int p2), .val (.int p3), .val (.int ((p1 &&& (2147483647 : Int32)) % (3 : Int32))), .val (.ref nb180), .val (.ref nb191), .unset, .unset, .unset, .unset, .unset, .unset, .unset, .unset] [(.ref nb204)])) st204 ?_
    refine own_step (g' := (mkF m 66 #[.val (.int p1), .val (.int p2), .val (.int p3), .val (.int ((p1 &&& (2147483647 : Int32)) % (3 : Int32))), .val (.ref nb180), .val (.ref nb191), .unset, .unset, .unset, .unset, .unset, .unset, .unset, .unset] [(.ref nb204), (.ref nb204)])) (fun _ k => XS.dup X204.here hx rfl (hb hby at_65) rfl rfl k) ?_
    refine own_step (g' := (mkF m 68 #[.val (.int p1), .val (.int p2), .val (.int p3), .val (.int ((p1 &&& (2147483647 : Int32)) % (3 : Int32))), .val (.ref nb180), .val (.ref nb191), .unset, .unset, .unset, .unset, .unset, .unset, .unset, .unset] [(.ref nb180), (.ref nb204), (.ref nb204)])) (fun _ k => XS.aload X204.here hx rfl (hb hby at_66) rfl rfl k) ?_
    obtain ⟨nb207, T207, h207, kk207, X207, e207, Ex207, hS, hk, hZ, hown, hC207, -, st207⟩ := ldcOH (vm0 := _) X204 hx hZ hown (hw _ (List.mem_of_getElem? (i := 34) rfl)) hwS e204 hS hk hEL hC.1 (g := (mkF m 68 #[.val (.int p1), .val (.int p2), .val (.int p3), .val (.int ((p1 &&& (2147483647 : Int32)) % (3 : Int32))), .val (.ref nb180), .val (.ref nb191), .unset, .unset, .unset, .unset, .unset, .unset, .unset, .unset] [(.ref nb180), (.ref nb204), (.ref nb204)])) rfl (hb hby at_68) (n := 28) (by decide) (by decide) (by decide) (by decide)
    have hC := hC.trans hC207
    refine own_via (g' := (mkF m 70 #[.val (.int p1), .val (.int p2), .val (.int p3), .val (.int ((p1 &&& (2147483647 : Int32)) % (3 : Int32))), .val (.ref nb180), .val (.ref nb191), .unset, .unset, .unset, .unset, .unset, .unset, .unset, .unset] [(.ref nb207), (.ref nb180), (.ref nb204), (.ref nb204)])) st207 ?_
    refine own_step (g' := (mkF m 71 #[.val (.int p1), .val (.int p2), .val (.int p3), .val (.int ((p1 &&& (2147483647 : Int32)) % (3 : Int32))), .val (.ref nb180), .val (.ref nb191), .unset, .unset, .unset, .unset, .unset, .unset, .unset, .unset] [(.int p3), (.ref nb207), (.ref nb180), (.ref nb204), (.ref nb204)])) (fun _ k => XS.iloadN X207.here hx rfl (hb hby at_70) rfl k) ?_
    refine own_step (g' := (mkF m 72 #[.val (.int p1), .val (.int p2), .val (.int p3), .val (.int ((p1 &&& (2147483647 : Int32)) % (3 : Int32))), .val (.ref nb180), .val (.ref nb191), .unset, .unset, .unset, .unset, .unset, .unset, .unset, .unset] [(.int (1 : Int32)), (.int p3), (.ref nb207), (.ref nb180), (.ref nb204), (.ref nb204)])) (fun _ k => XS.iconst X207.here hx rfl (hb hby at_71) k) ?_
    refine own_step (g' := (mkF m 73 #[.val (.int p1), .val (.int p2), .val (.int p3), .val (.int ((p1 &&& (2147483647 : Int32)) % (3 : Int32))), .val (.ref nb180), .val (.ref nb191), .unset, .unset, .unset, .unset, .unset, .unset, .unset, .unset] [(.int (p3 &&& (1 : Int32))), (.ref nb207), (.ref nb180), (.ref nb204), (.ref nb204)])) (fun _ k => XS.iand X207.here hx rfl (hb hby at_72) rfl k) ?_
    have Jb208 : ∀ b208 : Int32, (b208 = (0 : Int32) ∨ b208 = (1 : Int32)) → OGo p e below (OEndW Z ([]) s (Q0 n0) room_1.cells room_1.slots) T207 (mkF m 81 #[.val (.int p1), .val (.int p2), .val (.int p3), .val (.int ((p1 &&& (2147483647 : Int32)) % (3 : Int32))), .val (.ref nb180), .val (.ref nb191), .unset, .unset, .unset, .unset, .unset, .unset, .unset, .unset] [(.int b208), (.ref nb207), (.ref nb180), (.ref nb204), (.ref nb204)]) := by
      intro b208 hb208
      refine own_step (g' := (mkF m 82 #[.val (.int p1), .val (.int p2), .val (.int p3), .val (.int ((p1 &&& (2147483647 : Int32)) % (3 : Int32))), .val (.ref nb180), .val (.ref nb191), .unset, .unset, .unset, .unset, .unset, .unset, .unset, .unset] [(.int p3), (.int b208), (.ref nb207), (.ref nb180), (.ref nb204), (.ref nb204)])) (fun _ k => XS.iloadN X207.here hx rfl (hb hby at_81) rfl k) ?_
      refine own_step (g' := (mkF m 83 #[.val (.int p1), .val (.int p2), .val (.int p3), .val (.int ((p1 &&& (2147483647 : Int32)) % (3 : Int32))), .val (.ref nb180), .val (.ref nb191), .unset, .unset, .unset, .unset, .unset, .unset, .unset, .unset] [(.int (2 : Int32)), (.int p3), (.int b208), (.ref nb207), (.ref nb180), (.ref nb204), (.ref nb204)])) (fun _ k => XS.iconst X207.here hx rfl (hb hby at_82) k) ?_
      refine own_step (g' := (mkF m 84 #[.val (.int p1), .val (.int p2), .val (.int p3), .val (.int ((p1 &&& (2147483647 : Int32)) % (3 : Int32))), .val (.ref nb180), .val (.ref nb191), .unset, .unset, .unset, .unset, .unset, .unset, .unset, .unset] [(.int (p3 &&& (2 : Int32))), (.int b208), (.ref nb207), (.ref nb180), (.ref nb204), (.ref nb204)])) (fun _ k => XS.iand X207.here hx rfl (hb hby at_83) rfl k) ?_
      have Jb209 : ∀ b209 : Int32, (b209 = (0 : Int32) ∨ b209 = (1 : Int32)) → OGo p e below (OEndW Z ([]) s (Q0 n0) room_1.cells room_1.slots) T207 (mkF m 92 #[.val (.int p1), .val (.int p2), .val (.int p3), .val (.int ((p1 &&& (2147483647 : Int32)) % (3 : Int32))), .val (.ref nb180), .val (.ref nb191), .unset, .unset, .unset, .unset, .unset, .unset, .unset, .unset] [(.int b209), (.int b208), (.ref nb207), (.ref nb180), (.ref nb204), (.ref nb204)]) := by
        intro b209 hb209
        have C_211 : Exa Z h207 nb204 "com/example/handl/handl/cli/Arguments$Option" := (Exa.ext Ex207 A204)
        have F_212 : Fld Z h207 nb204 "com/example/handl/handl/cli/Arguments$Option" "name" "Ljava/lang/String;" .null := (Fld.ext Ex207 F204_name)
        have F_213 : Fld Z h207 nb204 "com/example/handl/handl/cli/Arguments$Option" "value" "Ljava/lang/String;" .null := (Fld.ext Ex207 F204_value)
        have F_214 : Fld Z h207 nb204 "com/example/handl/handl/cli/Arguments$Option" "repeatable" "Z" (.int (0 : Int32)) := (Fld.ext Ex207 F204_repeatable)
        have F_215 : Fld Z h207 nb204 "com/example/handl/handl/cli/Arguments$Option" "joinable" "Z" (.int (0 : Int32)) := (Fld.ext Ex207 F204_joinable)
        refine own_init X207 hx hZ (W := 1) hown e207 (rmOp l Z a0 hw [] nb204 nb180 nb207 b208 b209 h207 n0 (Nat.le_trans (Nat.le_trans (Nat.le_trans (Nat.le_trans (Nat.le_trans (Nat.le_trans (Nat.le_trans (Nat.le_trans (Nat.le_trans (Nat.le_trans (Nat.le_trans (Nat.le_trans Z0 Ex180.1) Ex182.1) (Nat.le_of_eq W183.size.symm)) (Nat.le_of_eq W184.size.symm)) Kq190.1) Ex191.1) Ex195.1) (Nat.le_of_eq W196.size.symm)) (Nat.le_of_eq W197.size.symm)) Kq203.1) Ex204.1) Ex207.1) g_nb204 C_211 F_212 F_213 F_214 F_215 hb208 hb209) rfl (hw _ (List.mem_of_getElem? (i := 37) rfl)) (hw _ (List.mem_of_getElem? (i := 38) rfl)) (hw _ (List.mem_of_getElem? (i := 39) rfl)) (hw _ (List.mem_of_getElem? (i := 33) rfl)) (by decide) (by decide) (by decide) (g := (mkF m 92 #[.val (.int p1), .val (.int p2), .val (.int p3), .val (.int ((p1 &&& (2147483647 : Int32)) % (3 : Int32))), .val (.ref nb180), .val (.ref nb191), .unset, .unset, .unset, .unset, .unset, .unset, .unset, .unset] [(.int b209), (.int b208), (.ref nb207), (.ref nb180), (.ref nb204), (.ref nb204)])) rfl (by rw [hml]; rfl) (argsL := [(.ref nb180), (.ref nb207), (.int b208), (.int b209)]) (rest := [(.ref nb204)]) rfl (lenOf pd_9 rfl) rfl (by show 2 * 0 + _ ≤ _; exact Nat.le_of_eq rfl) (hb hby at_92) (by decide) (by decide) ?_
        intro v216 T216 L216 X216 hQ216
        obtain ⟨rfl, Nq216, Kq216, Co210⟩ := hQ216
        have N216 := Fr.app N203 Nq216
        have hk := Nat.le_trans hk Kq216.1
        have hC := hC.trans (CHr.keep Kq216 (sfS own_safe_nil sf0) hC.1)
        show OGo p e below _ T216 (mkF m 95 #[.val (.int p1), .val (.int p2), .val (.int p3), .val (.int ((p1 &&& (2147483647 : Int32)) % (3 : Int32))), .val (.ref nb180), .val (.ref nb191), .unset, .unset, .unset, .unset, .unset, .unset, .unset, .unset] [(.ref nb204)])
        refine own_step (g' := (mkF m 97 #[.val (.int p1), .val (.int p2), .val (.int p3), .val (.int ((p1 &&& (2147483647 : Int32)) % (3 : Int32))), .val (.ref nb180), .val (.ref nb191), .val (.ref nb204), .unset, .unset, .unset, .unset, .unset, .unset, .unset] [])) (fun _ k => XS.astore X216.here hx rfl (hb hby at_95) rfl rfl (l' := #[.val (.int p1), .val (.int p2), .val (.int p3), .val (.int ((p1 &&& (2147483647 : Int32)) % (3 : Int32))), .val (.ref nb180), .val (.ref nb191), .val (.ref nb204), .unset, .unset, .unset, .unset, .unset, .unset, .unset]) rfl k) ?_
        have V_218 : Arv Z T216.heap ed kd (.object "java/lang/Object") (0 : Int32) [] .null := (((V_205.ext Ex204).ext Ex207).keep Kq216 (ninS ne_ed_nb204 nin0))
        have C_219 : Exa Z T216.heap nb180 "java/lang/String" := ((Exa.ext Ex207 (Exa.ext Ex204 C_206)).keep Kq216)
        have C_220 : Exa Z T216.heap nb191 "java/lang/String" := ((Exa.ext Ex207 (Exa.ext Ex204 Cq203)).keep Kq216)
        obtain ⟨T217, h217, X217, e217, Ex217, A217, D217, -, st217⟩ := newO X216 hx hZ hown (hw _ (List.mem_of_getElem? (i := 31) rfl)) (hw _ (List.mem_of_getElem? (i := 32) rfl)) (hw _ (List.mem_of_getElem? (i := 33) rfl)) rfl (g := (mkF m 97 #[.val (.int p1), .val (.int p2), .val (.int p3), .val (.int ((p1 &&& (2147483647 : Int32)) % (3 : Int32))), .val (.ref nb180), .val (.ref nb191), .val (.ref nb204), .unset, .unset, .unset, .unset, .unset, .unset, .unset] [])) rfl (hb hby at_97) (by decide) (by decide)
        obtain ⟨nb217, g217⟩ : ∃ z, z = T216.heap.size := ⟨_, rfl⟩
        rw [← g217] at A217 D217 st217
        have g_nb217 : n0 ≤ nb217 := Nat.le_trans (Nat.le_trans (Nat.le_trans (Nat.le_trans (Nat.le_trans (Nat.le_trans (Nat.le_trans (Nat.le_trans (Nat.le_trans (Nat.le_trans (Nat.le_trans (Nat.le_trans (Nat.le_trans (Nat.le_trans Z0 Ex180.1) Ex182.1) (Nat.le_of_eq W183.size.symm)) (Nat.le_of_eq W184.size.symm)) Kq190.1) Ex191.1) Ex195.1) (Nat.le_of_eq W196.size.symm)) (Nat.le_of_eq W197.size.symm)) Kq203.1) Ex204.1) Ex207.1) Kq216.1) (Nat.le_of_eq g217.symm)
        have ne_ed_nb217 : ed ≠ nb217 := Nat.ne_of_lt (Nat.lt_of_lt_of_le V_218.lt (Nat.le_of_eq g217.symm))
        have ne_nb180_nb217 : nb180 ≠ nb217 := Nat.ne_of_lt (Nat.lt_of_lt_of_le C_219.lt (Nat.le_of_eq g217.symm))
        have ne_nb191_nb217 : nb191 ≠ nb217 := Nat.ne_of_lt (Nat.lt_of_lt_of_le C_220.lt (Nat.le_of_eq g217.symm))
        have ne_nb204_nb217 : nb204 ≠ nb217 := Nat.ne_of_lt (Nat.lt_of_lt_of_le Co210.lt (Nat.le_of_eq g217.symm))
        have hk := Nat.le_trans hk Ex217.1
        have hC := hC.trans (CHr.ext Ex217 hC.1)
        have F217_name : Fld Z h217 nb217 "com/example/handl/handl/cli/Arguments$Option" "name" "Ljava/lang/String;" .null := D217 (Or.inr (hw _ (List.mem_of_getElem? (i := 47) rfl))) (ty := (.object "java/lang/String")) (by decide)
        have F217_value : Fld Z h217 nb217 "com/example/handl/handl/cli/Arguments$Option" "value" "Ljava/lang/String;" .null := D217 (Or.inr (hw _ (List.mem_of_getElem? (i := 49) rfl))) (ty := (.object "java/lang/String")) (by decide)
        have F217_repeatable : Fld Z h217 nb217 "com/example/handl/handl/cli/Arguments$Option" "repeatable" "Z" (.int (0 : Int32)) := D217 (Or.inr (hw _ (List.mem_of_getElem? (i := 51) rfl))) (ty := .boolean) (by decide)
        have F217_joinable : Fld Z h217 nb217 "com/example/handl/handl/cli/Arguments$Option" "joinable" "Z" (.int (0 : Int32)) := D217 (Or.inr (hw _ (List.mem_of_getElem? (i := 53) rfl))) (ty := .boolean) (by decide)
        refine own_via (g' := (mkF m 100 #[.val (.int p1), .val (.int p2), .val (.int p3), .val (.int ((p1 &&& (2147483647 : Int32)) % (3 : Int32))), .val (.ref nb180), .val (.ref nb191), .val (.ref nb204), .unset, .unset, .unset, .unset, .unset, .unset, .unset] [(.ref nb217)])) st217 ?_
        refine own_step (g' := (mkF m 101 #[.val (.int p1), .val (.int p2), .val (.int p3), .val (.int ((p1 &&& (2147483647 : Int32)) % (3 : Int32))), .val (.ref nb180), .val (.ref nb191), .val (.ref nb204), .unset, .unset, .unset, .unset, .unset, .unset, .unset] [(.ref nb217), (.ref nb217)])) (fun _ k => XS.dup X217.here hx rfl (hb hby at_100) rfl rfl k) ?_
        refine own_step (g' := (mkF m 103 #[.val (.int p1), .val (.int p2), .val (.int p3), .val (.int ((p1 &&& (2147483647 : Int32)) % (3 : Int32))), .val (.ref nb180), .val (.ref nb191), .val (.ref nb204), .unset, .unset, .unset, .unset, .unset, .unset, .unset] [(.ref nb191), (.ref nb217), (.ref nb217)])) (fun _ k => XS.aload X217.here hx rfl (hb hby at_101) rfl rfl k) ?_
        obtain ⟨nb221, T221, h221, kk221, X221, e221, Ex221, hS, hk, hZ, hown, hC221, -, st221⟩ := ldcOH (vm0 := _) X217 hx hZ hown (hw _ (List.mem_of_getElem? (i := 54) rfl)) hwS e217 hS hk hEL hC.1 (g := (mkF m 103 #[.val (.int p1), .val (.int p2), .val (.int p3), .val (.int ((p1 &&& (2147483647 : Int32)) % (3 : Int32))), .val (.ref nb180), .val (.ref nb191), .val (.ref nb204), .unset, .unset, .unset, .unset, .unset, .unset, .unset] [(.ref nb191), (.ref nb217), (.ref nb217)])) rfl (hb hby at_103) (n := 32) (by decide) (by decide) (by decide) (by decide)
        have hC := hC.trans hC221
        refine own_via (g' := (mkF m 105 #[.val (.int p1), .val (.int p2), .val (.int p3), .val (.int ((p1 &&& (2147483647 : Int32)) % (3 : Int32))), .val (.ref nb180), .val (.ref nb191), .val (.ref nb204), .unset, .unset, .unset, .unset, .unset, .unset, .unset] [(.ref nb221), (.ref nb191), (.ref nb217), (.ref nb217)])) st221 ?_
        refine own_step (g' := (mkF m 106 #[.val (.int p1), .val (.int p2), .val (.int p3), .val (.int ((p1 &&& (2147483647 : Int32)) % (3 : Int32))), .val (.ref nb180), .val (.ref nb191), .val (.ref nb204), .unset, .unset, .unset, .unset, .unset, .unset, .unset] [(.int p3), (.ref nb221), (.ref nb191), (.ref nb217), (.ref nb217)])) (fun _ k => XS.iloadN X221.here hx rfl (hb hby at_105) rfl k) ?_
        refine own_step (g' := (mkF m 107 #[.val (.int p1), .val (.int p2), .val (.int p3), .val (.int ((p1 &&& (2147483647 : Int32)) % (3 : Int32))), .val (.ref nb180), .val (.ref nb191), .val (.ref nb204), .unset, .unset, .unset, .unset, .unset, .unset, .unset] [(.int (4 : Int32)), (.int p3), (.ref nb221), (.ref nb191), (.ref nb217), (.ref nb217)])) (fun _ k => XS.iconst X221.here hx rfl (hb hby at_106) k) ?_
        refine own_step (g' := (mkF m 108 #[.val (.int p1), .val (.int p2), .val (.int p3), .val (.int ((p1 &&& (2147483647 : Int32)) % (3 : Int32))), .val (.ref nb180), .val (.ref nb191), .val (.ref nb204), .unset, .unset, .unset, .unset, .unset, .unset, .unset] [(.int (p3 &&& (4 : Int32))), (.ref nb221), (.ref nb191), (.ref nb217), (.ref nb217)])) (fun _ k => XS.iand X221.here hx rfl (hb hby at_107) rfl k) ?_
        have Jb222 : ∀ b222 : Int32, (b222 = (0 : Int32) ∨ b222 = (1 : Int32)) → OGo p e below (OEndW Z ([]) s (Q0 n0) room_1.cells room_1.slots) T221 (mkF m 116 #[.val (.int p1), .val (.int p2), .val (.int p3), .val (.int ((p1 &&& (2147483647 : Int32)) % (3 : Int32))), .val (.ref nb180), .val (.ref nb191), .val (.ref nb204), .unset, .unset, .unset, .unset, .unset, .unset, .unset] [(.int b222), (.ref nb221), (.ref nb191), (.ref nb217), (.ref nb217)]) := by
          intro b222 hb222
          refine own_step (g' := (mkF m 117 #[.val (.int p1), .val (.int p2), .val (.int p3), .val (.int ((p1 &&& (2147483647 : Int32)) % (3 : Int32))), .val (.ref nb180), .val (.ref nb191), .val (.ref nb204), .unset, .unset, .unset, .unset, .unset, .unset, .unset] [(.int p3), (.int b222), (.ref nb221), (.ref nb191), (.ref nb217), (.ref nb217)])) (fun _ k => XS.iloadN X221.here hx rfl (hb hby at_116) rfl k) ?_
          refine own_step (g' := (mkF m 119 #[.val (.int p1), .val (.int p2), .val (.int p3), .val (.int ((p1 &&& (2147483647 : Int32)) % (3 : Int32))), .val (.ref nb180), .val (.ref nb191), .val (.ref nb204), .unset, .unset, .unset, .unset, .unset, .unset, .unset] [(.int (8 : Int32)), (.int p3), (.int b222), (.ref nb221), (.ref nb191), (.ref nb217), (.ref nb217)])) (fun _ k => XS.bipush X221.here hx rfl (hb hby at_117) k) ?_
          refine own_step (g' := (mkF m 120 #[.val (.int p1), .val (.int p2), .val (.int p3), .val (.int ((p1 &&& (2147483647 : Int32)) % (3 : Int32))), .val (.ref nb180), .val (.ref nb191), .val (.ref nb204), .unset, .unset, .unset, .unset, .unset, .unset, .unset] [(.int (p3 &&& (8 : Int32))), (.int b222), (.ref nb221), (.ref nb191), (.ref nb217), (.ref nb217)])) (fun _ k => XS.iand X221.here hx rfl (hb hby at_119) rfl k) ?_
          have Jb223 : ∀ b223 : Int32, (b223 = (0 : Int32) ∨ b223 = (1 : Int32)) → OGo p e below (OEndW Z ([]) s (Q0 n0) room_1.cells room_1.slots) T221 (mkF m 128 #[.val (.int p1), .val (.int p2), .val (.int p3), .val (.int ((p1 &&& (2147483647 : Int32)) % (3 : Int32))), .val (.ref nb180), .val (.ref nb191), .val (.ref nb204), .unset, .unset, .unset, .unset, .unset, .unset, .unset] [(.int b223), (.int b222), (.ref nb221), (.ref nb191), (.ref nb217), (.ref nb217)]) := by
            intro b223 hb223
            have C_225 : Exa Z h221 nb217 "com/example/handl/handl/cli/Arguments$Option" := (Exa.ext Ex221 A217)
            have F_226 : Fld Z h221 nb217 "com/example/handl/handl/cli/Arguments$Option" "name" "Ljava/lang/String;" .null := (Fld.ext Ex221 F217_name)
            have F_227 : Fld Z h221 nb217 "com/example/handl/handl/cli/Arguments$Option" "value" "Ljava/lang/String;" .null := (Fld.ext Ex221 F217_value)
            have F_228 : Fld Z h221 nb217 "com/example/handl/handl/cli/Arguments$Option" "repeatable" "Z" (.int (0 : Int32)) := (Fld.ext Ex221 F217_repeatable)
            have F_229 : Fld Z h221 nb217 "com/example/handl/handl/cli/Arguments$Option" "joinable" "Z" (.int (0 : Int32)) := (Fld.ext Ex221 F217_joinable)
            refine own_init X221 hx hZ (W := 1) hown e221 (rmOp l Z a0 hw [] nb217 nb191 nb221 b222 b223 h221 n0 (Nat.le_trans (Nat.le_trans (Nat.le_trans (Nat.le_trans (Nat.le_trans (Nat.le_trans (Nat.le_trans (Nat.le_trans (Nat.le_trans (Nat.le_trans (Nat.le_trans (Nat.le_trans (Nat.le_trans (Nat.le_trans (Nat.le_trans Z0 Ex180.1) Ex182.1) (Nat.le_of_eq W183.size.symm)) (Nat.le_of_eq W184.size.symm)) Kq190.1) Ex191.1) Ex195.1) (Nat.le_of_eq W196.size.symm)) (Nat.le_of_eq W197.size.symm)) Kq203.1) Ex204.1) Ex207.1) Kq216.1) Ex217.1) Ex221.1) g_nb217 C_225 F_226 F_227 F_228 F_229 hb222 hb223) rfl (hw _ (List.mem_of_getElem? (i := 37) rfl)) (hw _ (List.mem_of_getElem? (i := 38) rfl)) (hw _ (List.mem_of_getElem? (i := 39) rfl)) (hw _ (List.mem_of_getElem? (i := 33) rfl)) (by decide) (by decide) (by decide) (g := (mkF m 128 #[.val (.int p1), .val (.int p2), .val (.int p3), .val (.int ((p1 &&& (2147483647 : Int32)) % (3 : Int32))), .val (.ref nb180), .val (.ref nb191), .val (.ref nb204), .unset, .unset, .unset, .unset, .unset, .unset, .unset] [(.int b223), (.int b222), (.ref nb221), (.ref nb191), (.ref nb217), (.ref nb217)])) rfl (by rw [hml]; rfl) (argsL := [(.ref nb191), (.ref nb221), (.int b222), (.int b223)]) (rest := [(.ref nb217)]) rfl (lenOf pd_9 rfl) rfl (by show 2 * 0 + _ ≤ _; exact Nat.le_of_eq rfl) (hb hby at_128) (by decide) (by decide) ?_
            intro v230 T230 L230 X230 hQ230
            obtain ⟨rfl, Nq230, Kq230, Co224⟩ := hQ230
            have N230 := Fr.app N216 Nq230
            have hk := Nat.le_trans hk Kq230.1
            have hC := hC.trans (CHr.keep Kq230 (sfS own_safe_nil sf0) hC.1)
            show OGo p e below _ T230 (mkF m 131 #[.val (.int p1), .val (.int p2), .val (.int p3), .val (.int ((p1 &&& (2147483647 : Int32)) % (3 : Int32))), .val (.ref nb180), .val (.ref nb191), .val (.ref nb204), .unset, .unset, .unset, .unset, .unset, .unset, .unset] [(.ref nb217)])
            refine own_step (g' := (mkF m 133 #[.val (.int p1), .val (.int p2), .val (.int p3), .val (.int ((p1 &&& (2147483647 : Int32)) % (3 : Int32))), .val (.ref nb180), .val (.ref nb191), .val (.ref nb204), .val (.ref nb217), .unset, .unset, .unset, .unset, .unset, .unset] [])) (fun _ k => XS.astore X230.here hx rfl (hb hby at_131) rfl rfl (l' := #[.val (.int p1), .val (.int p2), .val (.int p3), .val (.int ((p1 &&& (2147483647 : Int32)) % (3 : Int32))), .val (.ref nb180), .val (.ref nb191), .val (.ref nb204), .val (.ref nb217), .unset, .unset, .unset, .unset, .unset, .unset]) rfl k) ?_
            have V_232 : Arv Z T230.heap ed kd (.object "java/lang/Object") (0 : Int32) [] .null := (((V_218.ext Ex217).ext Ex221).keep Kq230 (ninS ne_ed_nb217 nin0))
            have C_233 : Exa Z T230.heap nb180 "java/lang/String" := ((Exa.ext Ex221 (Exa.ext Ex217 C_219)).keep Kq230)
            have C_234 : Exa Z T230.heap nb191 "java/lang/String" := ((Exa.ext Ex221 (Exa.ext Ex217 C_220)).keep Kq230)
            have C_235 : Exa Z T230.heap nb204 "com/example/handl/handl/cli/Arguments$Option" := ((Exa.ext Ex221 (Exa.ext Ex217 Co210)).keep Kq230)
            obtain ⟨T231, h231, X231, e231, Ex231, A231, D231, -, st231⟩ := newO X230 hx hZ hown (hw _ (List.mem_of_getElem? (i := 55) rfl)) (hw _ (List.mem_of_getElem? (i := 56) rfl)) (hw _ (List.mem_of_getElem? (i := 57) rfl)) rfl (g := (mkF m 133 #[.val (.int p1), .val (.int p2), .val (.int p3), .val (.int ((p1 &&& (2147483647 : Int32)) % (3 : Int32))), .val (.ref nb180), .val (.ref nb191), .val (.ref nb204), .val (.ref nb217), .unset, .unset, .unset, .unset, .unset, .unset] [])) rfl (hb hby at_133) (by decide) (by decide)
            obtain ⟨nb231, g231⟩ : ∃ z, z = T230.heap.size := ⟨_, rfl⟩
            rw [← g231] at A231 D231 st231
            have g_nb231 : n0 ≤ nb231 := Nat.le_trans (Nat.le_trans (Nat.le_trans (Nat.le_trans (Nat.le_trans (Nat.le_trans (Nat.le_trans (Nat.le_trans (Nat.le_trans (Nat.le_trans (Nat.le_trans (Nat.le_trans (Nat.le_trans (Nat.le_trans (Nat.le_trans (Nat.le_trans (Nat.le_trans Z0 Ex180.1) Ex182.1) (Nat.le_of_eq W183.size.symm)) (Nat.le_of_eq W184.size.symm)) Kq190.1) Ex191.1) Ex195.1) (Nat.le_of_eq W196.size.symm)) (Nat.le_of_eq W197.size.symm)) Kq203.1) Ex204.1) Ex207.1) Kq216.1) Ex217.1) Ex221.1) Kq230.1) (Nat.le_of_eq g231.symm)
            have ne_ed_nb231 : ed ≠ nb231 := Nat.ne_of_lt (Nat.lt_of_lt_of_le V_232.lt (Nat.le_of_eq g231.symm))
            have ne_nb180_nb231 : nb180 ≠ nb231 := Nat.ne_of_lt (Nat.lt_of_lt_of_le C_233.lt (Nat.le_of_eq g231.symm))
            have ne_nb191_nb231 : nb191 ≠ nb231 := Nat.ne_of_lt (Nat.lt_of_lt_of_le C_234.lt (Nat.le_of_eq g231.symm))
            have ne_nb204_nb231 : nb204 ≠ nb231 := Nat.ne_of_lt (Nat.lt_of_lt_of_le C_235.lt (Nat.le_of_eq g231.symm))
            have ne_nb217_nb231 : nb217 ≠ nb231 := Nat.ne_of_lt (Nat.lt_of_lt_of_le Co224.lt (Nat.le_of_eq g231.symm))
            have hk := Nat.le_trans hk Ex231.1
            have hC := hC.trans (CHr.ext Ex231 hC.1)
            have F231_modCount : Fld Z h231 nb231 "java/util/AbstractList" "modCount" "I" (.int (0 : Int32)) := D231 (Or.inl (hw _ (List.mem_of_getElem? (i := 75) rfl))) (ty := .int) (by decide)
            have F231_elementData : Fld Z h231 nb231 "java/util/ArrayList" "elementData" "[Ljava/lang/Object;" .null := D231 (Or.inl (hw _ (List.mem_of_getElem? (i := 78) rfl))) (ty := (.array (.object "java/lang/Object"))) (by decide)
            have F231_size : Fld Z h231 nb231 "java/util/ArrayList" "size" "I" (.int (0 : Int32)) := D231 (Or.inl (hw _ (List.mem_of_getElem? (i := 117) rfl))) (ty := .int) (by decide)
            refine own_via (g' := (mkF m 136 #[.val (.int p1), .val (.int p2), .val (.int p3), .val (.int ((p1 &&& (2147483647 : Int32)) % (3 : Int32))), .val (.ref nb180), .val (.ref nb191), .val (.ref nb204), .val (.ref nb217), .unset, .unset, .unset, .unset, .unset, .unset] [(.ref nb231)])) st231 ?_
            refine own_step (g' := (mkF m 137 #[.val (.int p1), .val (.int p2), .val (.int p3), .val (.int ((p1 &&& (2147483647 : Int32)) % (3 : Int32))), .val (.ref nb180), .val (.ref nb191), .val (.ref nb204), .val (.ref nb217), .unset, .unset, .unset, .unset, .unset, .unset] [(.ref nb231), (.ref nb231)])) (fun _ k => XS.dup X231.here hx rfl (hb hby at_136) rfl rfl k) ?_
            have S_237 : Sta Z h231 "java/util/ArrayList" "DEFAULTCAPACITY_EMPTY_ELEMENTDATA" "[Ljava/lang/Object;" (.ref ed) := (Sta.ext Ex231 (own_sta_keep (Sta.ext Ex221 (Sta.ext Ex217 (own_sta_keep (Sta.ext Ex207 (Sta.ext Ex204 (own_sta_keep (Sta.wr W197 (Sta.wr W196 (Sta.ext Ex195 (Sta.ext Ex191 (own_sta_keep (Sta.wr W184 (Sta.wr W183 (Sta.ext Ex182 (Sta.ext Ex180 S_DC)))) Kq190 (allS (own_nsE C_186) all0)))))) Kq203 (allS (own_nsE C_199) all0)))) Kq216 (allS (own_nsE C_211) all0)))) Kq230 (allS (own_nsE C_225) all0)))
            refine own_init X231 hx hZ (W := 1) hown e231 (rmAL l Z a0 hw [] nb231 ed h231 n0 (Nat.le_trans (Nat.le_trans (Nat.le_trans (Nat.le_trans (Nat.le_trans (Nat.le_trans (Nat.le_trans (Nat.le_trans (Nat.le_trans (Nat.le_trans (Nat.le_trans (Nat.le_trans (Nat.le_trans (Nat.le_trans (Nat.le_trans (Nat.le_trans (Nat.le_trans Z0 Ex180.1) Ex182.1) (Nat.le_of_eq W183.size.symm)) (Nat.le_of_eq W184.size.symm)) Kq190.1) Ex191.1) Ex195.1) (Nat.le_of_eq W196.size.symm)) (Nat.le_of_eq W197.size.symm)) Kq203.1) Ex204.1) Ex207.1) Kq216.1) Ex217.1) Ex221.1) Kq230.1) Ex231.1) S_237 g_nb231 A231 F231_modCount F231_elementData F231_size) rfl (hw _ (List.mem_of_getElem? (i := 58) rfl)) (hw _ (List.mem_of_getElem? (i := 59) rfl)) (hw _ (List.mem_of_getElem? (i := 60) rfl)) (hw _ (List.mem_of_getElem? (i := 57) rfl)) (by decide) (by decide) (by decide) (g := (mkF m 137 #[.val (.int p1), .val (.int p2), .val (.int p3), .val (.int ((p1 &&& (2147483647 : Int32)) % (3 : Int32))), .val (.ref nb180), .val (.ref nb191), .val (.ref nb204), .val (.ref nb217), .unset, .unset, .unset, .unset, .unset, .unset] [(.ref nb231), (.ref nb231)])) rfl (by rw [hml]; rfl) (argsL := []) (rest := [(.ref nb231)]) rfl (lenOf pd_0 rfl) rfl (by show 2 * 0 + _ ≤ _; exact Nat.le_of_eq rfl) (hb hby at_137) (by decide) (by decide) ?_
            intro v238 T238 L238 X238 hQ238
            obtain ⟨rfl, Nq238, Kq238, Cl236, F1l236, F2l236, F3l236⟩ := hQ238
            have N238 := Fr.app N230 Nq238
            have hk := Nat.le_trans hk Kq238.1
            have hC := hC.trans (CHr.keep Kq238 (sfS own_safe_nil sf0) hC.1)
            show OGo p e below _ T238 (mkF m 140 #[.val (.int p1), .val (.int p2), .val (.int p3), .val (.int ((p1 &&& (2147483647 : Int32)) % (3 : Int32))), .val (.ref nb180), .val (.ref nb191), .val (.ref nb204), .val (.ref nb217), .unset, .unset, .unset, .unset, .unset, .unset] [(.ref nb231)])
            refine own_step (g' := (mkF m 142 #[.val (.int p1), .val (.int p2), .val (.int p3), .val (.int ((p1 &&& (2147483647 : Int32)) % (3 : Int32))), .val (.ref nb180), .val (.ref nb191), .val (.ref nb204), .val (.ref nb217), .val (.ref nb231), .unset, .unset, .unset, .unset, .unset] [])) (fun _ k => XS.astore X238.here hx rfl (hb hby at_140) rfl rfl (l' := #[.val (.int p1), .val (.int p2), .val (.int p3), .val (.int ((p1 &&& (2147483647 : Int32)) % (3 : Int32))), .val (.ref nb180), .val (.ref nb191), .val (.ref nb204), .val (.ref nb217), .val (.ref nb231), .unset, .unset, .unset, .unset, .unset]) rfl k) ?_
            refine own_step (g' := (mkF m 143 #[.val (.int p1), .val (.int p2), .val (.int p3), .val (.int ((p1 &&& (2147483647 : Int32)) % (3 : Int32))), .val (.ref nb180), .val (.ref nb191), .val (.ref nb204), .val (.ref nb217), .val (.ref nb231), .unset, .unset, .unset, .unset, .unset] [(.int ((p1 &&& (2147483647 : Int32)) % (3 : Int32)))])) (fun _ k => XS.iloadN X238.here hx rfl (hb hby at_142) rfl k) ?_
            refine own_step (g' := (mkF m 144 #[.val (.int p1), .val (.int p2), .val (.int p3), .val (.int ((p1 &&& (2147483647 : Int32)) % (3 : Int32))), .val (.ref nb180), .val (.ref nb191), .val (.ref nb204), .val (.ref nb217), .val (.ref nb231), .unset, .unset, .unset, .unset, .unset] [(.int (1 : Int32)), (.int ((p1 &&& (2147483647 : Int32)) % (3 : Int32)))])) (fun _ k => XS.iconst X238.here hx rfl (hb hby at_143) k) ?_
            refine own_step (g' := (mkF m 147 #[.val (.int p1), .val (.int p2), .val (.int p3), .val (.int ((p1 &&& (2147483647 : Int32)) % (3 : Int32))), .val (.ref nb180), .val (.ref nb191), .val (.ref nb204), .val (.ref nb217), .val (.ref nb231), .unset, .unset, .unset, .unset, .unset] [])) (fun _ k => XS.icmpNo X238.here hx rfl (hb hby at_144) rfl (flt (by rw [hq] <;> decide : ¬ (((p1 &&& (2147483647 : Int32)) % (3 : Int32)) < (1 : Int32)))).1 k) ?_
            refine own_step (g' := (mkF m 149 #[.val (.int p1), .val (.int p2), .val (.int p3), .val (.int ((p1 &&& (2147483647 : Int32)) % (3 : Int32))), .val (.ref nb180), .val (.ref nb191), .val (.ref nb204), .val (.ref nb217), .val (.ref nb231), .unset, .unset, .unset, .unset, .unset] [(.ref nb231)])) (fun _ k => XS.aload X238.here hx rfl (hb hby at_147) rfl rfl k) ?_
            refine own_step (g' := (mkF m 151 #[.val (.int p1), .val (.int p2), .val (.int p3), .val (.int ((p1 &&& (2147483647 : Int32)) % (3 : Int32))), .val (.ref nb180), .val (.ref nb191), .val (.ref nb204), .val (.ref nb217), .val (.ref nb231), .unset, .unset, .unset, .unset, .unset] [(.ref nb204), (.ref nb231)])) (fun _ k => XS.aload X238.here hx rfl (hb hby at_149) rfl rfl k) ?_
            have V_240 : Arv Z T238.heap ed kd (.object "java/lang/Object") (0 : Int32) [] .null := ((V_232.ext Ex231).keep Kq238 (ninS ne_ed_nb231 nin0))
            have C_241 : Exa Z T238.heap nb180 "java/lang/String" := ((Exa.ext Ex231 C_233).keep Kq238)
            have C_242 : Exa Z T238.heap nb191 "java/lang/String" := ((Exa.ext Ex231 C_234).keep Kq238)
            have C_243 : Exa Z T238.heap nb204 "com/example/handl/handl/cli/Arguments$Option" := ((Exa.ext Ex231 C_235).keep Kq238)
            have C_244 : Exa Z T238.heap nb217 "com/example/handl/handl/cli/Arguments$Option" := ((Exa.ext Ex231 Co224).keep Kq238)
            have S_245 : Sta Z T238.heap "java/util/ArrayList" "DEFAULTCAPACITY_EMPTY_ELEMENTDATA" "[Ljava/lang/Object;" (.ref ed) := (own_sta_keep S_237 Kq238 (allS (own_nsE A231) all0))
            refine own_callI X238 hx hZ (W := 0) hown rfl (rmAdd0 l Z a0 hw [] nb231 nb204 ed kd (0 : Int32) T238.heap n0 (Nat.le_trans (Nat.le_trans (Nat.le_trans (Nat.le_trans (Nat.le_trans (Nat.le_trans (Nat.le_trans (Nat.le_trans (Nat.le_trans (Nat.le_trans (Nat.le_trans (Nat.le_trans (Nat.le_trans (Nat.le_trans (Nat.le_trans (Nat.le_trans (Nat.le_trans (Nat.le_trans Z0 Ex180.1) Ex182.1) (Nat.le_of_eq W183.size.symm)) (Nat.le_of_eq W184.size.symm)) Kq190.1) Ex191.1) Ex195.1) (Nat.le_of_eq W196.size.symm)) (Nat.le_of_eq W197.size.symm)) Kq203.1) Ex204.1) Ex207.1) Kq216.1) Ex217.1) Ex221.1) Kq230.1) Ex231.1) Kq238.1) S_245 V_240 g_nb231 Cl236 F1l236 F2l236 F3l236 C_243) Cl236 (hw _ (List.mem_of_getElem? (i := 118) rfl)) (hw _ (List.mem_of_getElem? (i := 119) rfl)) (mvT hZ (hw _ (List.mem_of_getElem? (i := 120) rfl))) (hw _ (List.mem_of_getElem? (i := 121) rfl)) (hw _ (List.mem_of_getElem? (i := 122) rfl)) (hw _ (List.mem_of_getElem? (i := 123) rfl)) (hw _ (List.mem_of_getElem? (i := 124) rfl)) (hw _ (List.mem_of_getElem? (i := 114) rfl)) (hw _ (List.mem_of_getElem? (i := 125) rfl)) (hw _ (List.mem_of_getElem? (i := 57) rfl)) (by decide) (by decide) (by decide) (g := (mkF m 151 #[.val (.int p1), .val (.int p2), .val (.int p3), .val (.int ((p1 &&& (2147483647 : Int32)) % (3 : Int32))), .val (.ref nb180), .val (.ref nb191), .val (.ref nb204), .val (.ref nb217), .val (.ref nb231), .unset, .unset, .unset, .unset, .unset] [(.ref nb204), (.ref nb231)])) rfl (by rw [hml]; rfl) (argsL := [(.ref nb204)]) (rest := []) rfl (lenOf pd_14 rfl) rfl (by show 2 * 0 + _ ≤ _; exact Nat.le_of_eq rfl) (hb hby at_151) (by decide) (by decide) ?_
            intro v246 T246 L246 X246 hQ246
            obtain ⟨⟨ar, kq239, rfl, szar, g_ar, Oq239, Vq239, Cq239, F1q239, F2q239, F3q239⟩, Nq246, Kq246⟩ := hQ246
            have N246 := Fr.app N238 Nq246
            have hk := Nat.le_trans hk Kq246.1
            have hC := hC.trans (CHr.keep Kq246 (sfS own_safe_nil sf0) hC.1)
            show OGo p e below _ T246 (mkF m 156 #[.val (.int p1), .val (.int p2), .val (.int p3), .val (.int ((p1 &&& (2147483647 : Int32)) % (3 : Int32))), .val (.ref nb180), .val (.ref nb191), .val (.ref nb204), .val (.ref nb217), .val (.ref nb231), .unset, .unset, .unset, .unset, .unset] [(.int (1 : Int32))])
            have ne_ed_ar : ed ≠ ar := Nat.ne_of_lt (Nat.lt_of_lt_of_le V_240.lt szar)
            have ne_nb180_ar : nb180 ≠ ar := Nat.ne_of_lt (Nat.lt_of_lt_of_le C_241.lt szar)
            have ne_nb191_ar : nb191 ≠ ar := Nat.ne_of_lt (Nat.lt_of_lt_of_le C_242.lt szar)
            have ne_nb204_ar : nb204 ≠ ar := Nat.ne_of_lt (Nat.lt_of_lt_of_le C_243.lt szar)
            have ne_nb217_ar : nb217 ≠ ar := Nat.ne_of_lt (Nat.lt_of_lt_of_le C_244.lt szar)
            have ne_l_ar : nb231 ≠ ar := Exa.neArv Cq239 Vq239 (hw _ (List.mem_of_getElem? (i := 56) rfl))
            refine own_step (g' := (mkF m 157 #[.val (.int p1), .val (.int p2), .val (.int p3), .val (.int ((p1 &&& (2147483647 : Int32)) % (3 : Int32))), .val (.ref nb180), .val (.ref nb191), .val (.ref nb204), .val (.ref nb217), .val (.ref nb231), .unset, .unset, .unset, .unset, .unset] [])) (fun _ k => XS.pop X246.here hx rfl (hb hby at_156) rfl rfl k) ?_
            refine own_step (g' := (mkF m 158 #[.val (.int p1), .val (.int p2), .val (.int p3), .val (.int ((p1 &&& (2147483647 : Int32)) % (3 : Int32))), .val (.ref nb180), .val (.ref nb191), .val (.ref nb204), .val (.ref nb217), .val (.ref nb231), .unset, .unset, .unset, .unset, .unset] [(.int ((p1 &&& (2147483647 : Int32)) % (3 : Int32)))])) (fun _ k => XS.iloadN X246.here hx rfl (hb hby at_157) rfl k) ?_
            refine own_step (g' := (mkF m 159 #[.val (.int p1), .val (.int p2), .val (.int p3), .val (.int ((p1 &&& (2147483647 : Int32)) % (3 : Int32))), .val (.ref nb180), .val (.ref nb191), .val (.ref nb204), .val (.ref nb217), .val (.ref nb231), .unset, .unset, .unset, .unset, .unset] [(.int (2 : Int32)), (.int ((p1 &&& (2147483647 : Int32)) % (3 : Int32)))])) (fun _ k => XS.iconst X246.here hx rfl (hb hby at_158) k) ?_
            refine own_step (g' := (mkF m 162 #[.val (.int p1), .val (.int p2), .val (.int p3), .val (.int ((p1 &&& (2147483647 : Int32)) % (3 : Int32))), .val (.ref nb180), .val (.ref nb191), .val (.ref nb204), .val (.ref nb217), .val (.ref nb231), .unset, .unset, .unset, .unset, .unset] [])) (fun _ k => XS.icmpNo X246.here hx rfl (hb hby at_159) rfl (flt (by rw [hq] <;> decide : ¬ (((p1 &&& (2147483647 : Int32)) % (3 : Int32)) < (2 : Int32)))).1 k) ?_
            refine own_step (g' := (mkF m 164 #[.val (.int p1), .val (.int p2), .val (.int p3), .val (.int ((p1 &&& (2147483647 : Int32)) % (3 : Int32))), .val (.ref nb180), .val (.ref nb191), .val (.ref nb204), .val (.ref nb217), .val (.ref nb231), .unset, .unset, .unset, .unset, .unset] [(.ref nb231)])) (fun _ k => XS.aload X246.here hx rfl (hb hby at_162) rfl rfl k) ?_
            refine own_step (g' := (mkF m 166 #[.val (.int p1), .val (.int p2), .val (.int p3), .val (.int ((p1 &&& (2147483647 : Int32)) % (3 : Int32))), .val (.ref nb180), .val (.ref nb191), .val (.ref nb204), .val (.ref nb217), .val (.ref nb231), .unset, .unset, .unset, .unset, .unset] [(.ref nb217), (.ref nb231)])) (fun _ k => XS.aload X246.here hx rfl (hb hby at_164) rfl rfl k) ?_
            have C_248 : Exa Z T246.heap nb217 "com/example/handl/handl/cli/Arguments$Option" := (C_244.keep Kq246)
            refine own_callI X246 hx hZ (W := 0) hown rfl (rmAdd1 l Z a0 hw [] nb231 nb217 ar nb204 kq239 (1 : Int32) T246.heap n0 (Nat.le_trans (Nat.le_trans (Nat.le_trans (Nat.le_trans (Nat.le_trans (Nat.le_trans (Nat.le_trans (Nat.le_trans (Nat.le_trans (Nat.le_trans (Nat.le_trans (Nat.le_trans (Nat.le_trans (Nat.le_trans (Nat.le_trans (Nat.le_trans (Nat.le_trans (Nat.le_trans (Nat.le_trans Z0 Ex180.1) Ex182.1) (Nat.le_of_eq W183.size.symm)) (Nat.le_of_eq W184.size.symm)) Kq190.1) Ex191.1) Ex195.1) (Nat.le_of_eq W196.size.symm)) (Nat.le_of_eq W197.size.symm)) Kq203.1) Ex204.1) Ex207.1) Kq216.1) Ex217.1) Ex221.1) Kq230.1) Ex231.1) Kq238.1) Kq246.1) g_nb231 g_ar Oq239 Vq239 Cq239 F1q239 F2q239 F3q239 C_248) Cq239 (hw _ (List.mem_of_getElem? (i := 118) rfl)) (hw _ (List.mem_of_getElem? (i := 119) rfl)) (mvT hZ (hw _ (List.mem_of_getElem? (i := 120) rfl))) (hw _ (List.mem_of_getElem? (i := 121) rfl)) (hw _ (List.mem_of_getElem? (i := 122) rfl)) (hw _ (List.mem_of_getElem? (i := 123) rfl)) (hw _ (List.mem_of_getElem? (i := 124) rfl)) (hw _ (List.mem_of_getElem? (i := 114) rfl)) (hw _ (List.mem_of_getElem? (i := 125) rfl)) (hw _ (List.mem_of_getElem? (i := 57) rfl)) (by decide) (by decide) (by decide) (g := (mkF m 166 #[.val (.int p1), .val (.int p2), .val (.int p3), .val (.int ((p1 &&& (2147483647 : Int32)) % (3 : Int32))), .val (.ref nb180), .val (.ref nb191), .val (.ref nb204), .val (.ref nb217), .val (.ref nb231), .unset, .unset, .unset, .unset, .unset] [(.ref nb217), (.ref nb231)])) rfl (by rw [hml]; rfl) (argsL := [(.ref nb217)]) (rest := []) rfl (lenOf pd_14 rfl) rfl (by show 2 * 0 + _ ≤ _; exact Nat.le_of_eq rfl) (hb hby at_166) (by decide) (by decide) ?_
            intro v249 T249 L249 X249 hQ249
            obtain ⟨rfl, Nq249, Kq249, Vq247, Cq247, F1q247, F2q247, F3q247⟩ := hQ249
            have N249 := Fr.app N246 Nq249
            have hk := Nat.le_trans hk Kq249.1
            have hC := hC.trans (CHr.keep Kq249 (sfS own_safe_nil (sfS own_safe_nil sf0)) hC.1)
            show OGo p e below _ T249 (mkF m 171 #[.val (.int p1), .val (.int p2), .val (.int p3), .val (.int ((p1 &&& (2147483647 : Int32)) % (3 : Int32))), .val (.ref nb180), .val (.ref nb191), .val (.ref nb204), .val (.ref nb217), .val (.ref nb231), .unset, .unset, .unset, .unset, .unset] [(.int (1 : Int32))])
            refine own_step (g' := (mkF m 172 #[.val (.int p1), .val (.int p2), .val (.int p3), .val (.int ((p1 &&& (2147483647 : Int32)) % (3 : Int32))), .val (.ref nb180), .val (.ref nb191), .val (.ref nb204), .val (.ref nb217), .val (.ref nb231), .unset, .unset, .unset, .unset, .unset] [])) (fun _ k => XS.pop X249.here hx rfl (hb hby at_171) rfl rfl k) ?_
            refine own_step (g' := (mkF m 173 #[.val (.int p1), .val (.int p2), .val (.int p3), .val (.int ((p1 &&& (2147483647 : Int32)) % (3 : Int32))), .val (.ref nb180), .val (.ref nb191), .val (.ref nb204), .val (.ref nb217), .val (.ref nb231), .unset, .unset, .unset, .unset, .unset] [(.int p3)])) (fun _ k => XS.iloadN X249.here hx rfl (hb hby at_172) rfl k) ?_
            refine own_step (g' := (mkF m 175 #[.val (.int p1), .val (.int p2), .val (.int p3), .val (.int ((p1 &&& (2147483647 : Int32)) % (3 : Int32))), .val (.ref nb180), .val (.ref nb191), .val (.ref nb204), .val (.ref nb217), .val (.ref nb231), .unset, .unset, .unset, .unset, .unset] [(.int (16 : Int32)), (.int p3)])) (fun _ k => XS.bipush X249.here hx rfl (hb hby at_173) k) ?_
            refine own_step (g' := (mkF m 176 #[.val (.int p1), .val (.int p2), .val (.int p3), .val (.int ((p1 &&& (2147483647 : Int32)) % (3 : Int32))), .val (.ref nb180), .val (.ref nb191), .val (.ref nb204), .val (.ref nb217), .val (.ref nb231), .unset, .unset, .unset, .unset, .unset] [(.int (p3 &&& (16 : Int32)))])) (fun _ k => XS.iand X249.here hx rfl (hb hby at_175) rfl k) ?_
            have Jb250 : ∀ b250 : Int32, (b250 = (0 : Int32) ∨ b250 = (1 : Int32)) → OGo p e below (OEndW Z ([]) s (Q0 n0) room_1.cells room_1.slots) T249 (mkF m 184 #[.val (.int p1), .val (.int p2), .val (.int p3), .val (.int ((p1 &&& (2147483647 : Int32)) % (3 : Int32))), .val (.ref nb180), .val (.ref nb191), .val (.ref nb204), .val (.ref nb217), .val (.ref nb231), .unset, .unset, .unset, .unset, .unset] [(.int b250)]) := by
              intro b250 hb250
              refine own_step (g' := (mkF m 186 #[.val (.int p1), .val (.int p2), .val (.int p3), .val (.int ((p1 &&& (2147483647 : Int32)) % (3 : Int32))), .val (.ref nb180), .val (.ref nb191), .val (.ref nb204), .val (.ref nb217), .val (.ref nb231), .val (.int b250), .unset, .unset, .unset, .unset] [])) (fun _ k => XS.istore X249.here hx rfl (hb hby at_184) rfl (l' := #[.val (.int p1), .val (.int p2), .val (.int p3), .val (.int ((p1 &&& (2147483647 : Int32)) % (3 : Int32))), .val (.ref nb180), .val (.ref nb191), .val (.ref nb204), .val (.ref nb217), .val (.ref nb231), .val (.int b250), .unset, .unset, .unset, .unset]) rfl k) ?_
              have V_252 : Arv Z T249.heap ed kd (.object "java/lang/Object") (0 : Int32) [] .null := ((V_240.keep Kq246 (ninS ne_ed_nb231 nin0)).keep Kq249 (ninS ne_ed_nb231 (ninS ne_ed_ar nin0)))
              have C_253 : Exa Z T249.heap nb180 "java/lang/String" := ((C_241.keep Kq246).keep Kq249)
              have C_254 : Exa Z T249.heap nb191 "java/lang/String" := ((C_242.keep Kq246).keep Kq249)
              have C_255 : Exa Z T249.heap nb204 "com/example/handl/handl/cli/Arguments$Option" := ((C_243.keep Kq246).keep Kq249)
              have C_256 : Exa Z T249.heap nb217 "com/example/handl/handl/cli/Arguments$Option" := (C_248.keep Kq249)
              obtain ⟨T251, h251, X251, e251, Ex251, A251, D251, -, st251⟩ := newO X249 hx hZ hown (hw _ (List.mem_of_getElem? (i := 79) rfl)) (hw _ (List.mem_of_getElem? (i := 80) rfl)) (hw _ (List.mem_of_getElem? (i := 81) rfl)) rfl (g := (mkF m 186 #[.val (.int p1), .val (.int p2), .val (.int p3), .val (.int ((p1 &&& (2147483647 : Int32)) % (3 : Int32))), .val (.ref nb180), .val (.ref nb191), .val (.ref nb204), .val (.ref nb217), .val (.ref nb231), .val (.int b250), .unset, .unset, .unset, .unset] [])) rfl (hb hby at_186) (by decide) (by decide)
              obtain ⟨nb251, g251⟩ : ∃ z, z = T249.heap.size := ⟨_, rfl⟩
              rw [← g251] at A251 D251 st251
              have g_nb251 : n0 ≤ nb251 := Nat.le_trans (Nat.le_trans (Nat.le_trans (Nat.le_trans (Nat.le_trans (Nat.le_trans (Nat.le_trans (Nat.le_trans (Nat.le_trans (Nat.le_trans (Nat.le_trans (Nat.le_trans (Nat.le_trans (Nat.le_trans (Nat.le_trans (Nat.le_trans (Nat.le_trans (Nat.le_trans (Nat.le_trans (Nat.le_trans (Nat.le_trans Z0 Ex180.1) Ex182.1) (Nat.le_of_eq W183.size.symm)) (Nat.le_of_eq W184.size.symm)) Kq190.1) Ex191.1) Ex195.1) (Nat.le_of_eq W196.size.symm)) (Nat.le_of_eq W197.size.symm)) Kq203.1) Ex204.1) Ex207.1) Kq216.1) Ex217.1) Ex221.1) Kq230.1) Ex231.1) Kq238.1) Kq246.1) Kq249.1) (Nat.le_of_eq g251.symm)
              have ne_ed_nb251 : ed ≠ nb251 := Nat.ne_of_lt (Nat.lt_of_lt_of_le V_252.lt (Nat.le_of_eq g251.symm))
              have ne_nb180_nb251 : nb180 ≠ nb251 := Nat.ne_of_lt (Nat.lt_of_lt_of_le C_253.lt (Nat.le_of_eq g251.symm))
              have ne_nb191_nb251 : nb191 ≠ nb251 := Nat.ne_of_lt (Nat.lt_of_lt_of_le C_254.lt (Nat.le_of_eq g251.symm))
              have ne_nb204_nb251 : nb204 ≠ nb251 := Nat.ne_of_lt (Nat.lt_of_lt_of_le C_255.lt (Nat.le_of_eq g251.symm))
              have ne_nb217_nb251 : nb217 ≠ nb251 := Nat.ne_of_lt (Nat.lt_of_lt_of_le C_256.lt (Nat.le_of_eq g251.symm))
              have ne_nb231_nb251 : nb231 ≠ nb251 := Nat.ne_of_lt (Nat.lt_of_lt_of_le Cq247.lt (Nat.le_of_eq g251.symm))
              have ne_ar_nb251 : ar ≠ nb251 := Nat.ne_of_lt (Nat.lt_of_lt_of_le Vq247.lt (Nat.le_of_eq g251.symm))
              have hk := Nat.le_trans hk Ex251.1
              have hC := hC.trans (CHr.ext Ex251 hC.1)
              have F251_options : Fld Z h251 nb251 "com/example/handl/handl/cli/Arguments$Syntax" "options" "Ljava/util/List;" .null := D251 (Or.inr (hw _ (List.mem_of_getElem? (i := 87) rfl))) (ty := (.object "java/util/List")) (by decide)
              have F251_operands : Fld Z h251 nb251 "com/example/handl/handl/cli/Arguments$Syntax" "operands" "Z" (.int (0 : Int32)) := D251 (Or.inr (hw _ (List.mem_of_getElem? (i := 89) rfl))) (ty := .boolean) (by decide)
              refine own_via (g' := (mkF m 189 #[.val (.int p1), .val (.int p2), .val (.int p3), .val (.int ((p1 &&& (2147483647 : Int32)) % (3 : Int32))), .val (.ref nb180), .val (.ref nb191), .val (.ref nb204), .val (.ref nb217), .val (.ref nb231), .val (.int b250), .unset, .unset, .unset, .unset] [(.ref nb251)])) st251 ?_
              refine own_step (g' := (mkF m 190 #[.val (.int p1), .val (.int p2), .val (.int p3), .val (.int ((p1 &&& (2147483647 : Int32)) % (3 : Int32))), .val (.ref nb180), .val (.ref nb191), .val (.ref nb204), .val (.ref nb217), .val (.ref nb231), .val (.int b250), .unset, .unset, .unset, .unset] [(.ref nb251), (.ref nb251)])) (fun _ k => XS.dup X251.here hx rfl (hb hby at_189) rfl rfl k) ?_
              refine own_step (g' := (mkF m 192 #[.val (.int p1), .val (.int p2), .val (.int p3), .val (.int ((p1 &&& (2147483647 : Int32)) % (3 : Int32))), .val (.ref nb180), .val (.ref nb191), .val (.ref nb204), .val (.ref nb217), .val (.ref nb231), .val (.int b250), .unset, .unset, .unset, .unset] [(.ref nb231), (.ref nb251), (.ref nb251)])) (fun _ k => XS.aload X251.here hx rfl (hb hby at_190) rfl rfl k) ?_
              refine own_step (g' := (mkF m 194 #[.val (.int p1), .val (.int p2), .val (.int p3), .val (.int ((p1 &&& (2147483647 : Int32)) % (3 : Int32))), .val (.ref nb180), .val (.ref nb191), .val (.ref nb204), .val (.ref nb217), .val (.ref nb231), .val (.int b250), .unset, .unset, .unset, .unset] [(.int b250), (.ref nb231), (.ref nb251), (.ref nb251)])) (fun _ k => XS.iload X251.here hx rfl (hb hby at_192) rfl k) ?_
              refine own_init X251 hx hZ (W := 1) hown e251 (rmSy l Z a0 hw [] nb251 nb231 b250 h251 n0 (Nat.le_trans (Nat.le_trans (Nat.le_trans (Nat.le_trans (Nat.le_trans (Nat.le_trans (Nat.le_trans (Nat.le_trans (Nat.le_trans (Nat.le_trans (Nat.le_trans (Nat.le_trans (Nat.le_trans (Nat.le_trans (Nat.le_trans (Nat.le_trans (Nat.le_trans (Nat.le_trans (Nat.le_trans (Nat.le_trans (Nat.le_trans Z0 Ex180.1) Ex182.1) (Nat.le_of_eq W183.size.symm)) (Nat.le_of_eq W184.size.symm)) Kq190.1) Ex191.1) Ex195.1) (Nat.le_of_eq W196.size.symm)) (Nat.le_of_eq W197.size.symm)) Kq203.1) Ex204.1) Ex207.1) Kq216.1) Ex217.1) Ex221.1) Kq230.1) Ex231.1) Kq238.1) Kq246.1) Kq249.1) Ex251.1) g_nb251 A251 F251_options F251_operands hb250) rfl (hw _ (List.mem_of_getElem? (i := 82) rfl)) (hw _ (List.mem_of_getElem? (i := 83) rfl)) (hw _ (List.mem_of_getElem? (i := 84) rfl)) (hw _ (List.mem_of_getElem? (i := 81) rfl)) (by decide) (by decide) (by decide) (g := (mkF m 194 #[.val (.int p1), .val (.int p2), .val (.int p3), .val (.int ((p1 &&& (2147483647 : Int32)) % (3 : Int32))), .val (.ref nb180), .val (.ref nb191), .val (.ref nb204), .val (.ref nb217), .val (.ref nb231), .val (.int b250), .unset, .unset, .unset, .unset] [(.int b250), (.ref nb231), (.ref nb251), (.ref nb251)])) rfl (by rw [hml]; rfl) (argsL := [(.ref nb231), (.int b250)]) (rest := [(.ref nb251)]) rfl (lenOf pd_1 rfl) rfl (by show 2 * 0 + _ ≤ _; exact Nat.le_of_eq rfl) (hb hby at_194) (by decide) (by decide) ?_
              intro v258 T258 L258 X258 hQ258
              obtain ⟨rfl, Nq258, Kq258, Cs257, F1s257, F2s257⟩ := hQ258
              have N258 := Fr.app N249 Nq258
              have hk := Nat.le_trans hk Kq258.1
              have hC := hC.trans (CHr.keep Kq258 (sfS own_safe_nil sf0) hC.1)
              show OGo p e below _ T258 (mkF m 197 #[.val (.int p1), .val (.int p2), .val (.int p3), .val (.int ((p1 &&& (2147483647 : Int32)) % (3 : Int32))), .val (.ref nb180), .val (.ref nb191), .val (.ref nb204), .val (.ref nb217), .val (.ref nb231), .val (.int b250), .unset, .unset, .unset, .unset] [(.ref nb251)])
              refine own_step (g' := (mkF m 199 #[.val (.int p1), .val (.int p2), .val (.int p3), .val (.int ((p1 &&& (2147483647 : Int32)) % (3 : Int32))), .val (.ref nb180), .val (.ref nb191), .val (.ref nb204), .val (.ref nb217), .val (.ref nb231), .val (.int b250), .val (.ref nb251), .unset, .unset, .unset] [])) (fun _ k => XS.astore X258.here hx rfl (hb hby at_197) rfl rfl (l' := #[.val (.int p1), .val (.int p2), .val (.int p3), .val (.int ((p1 &&& (2147483647 : Int32)) % (3 : Int32))), .val (.ref nb180), .val (.ref nb191), .val (.ref nb204), .val (.ref nb217), .val (.ref nb231), .val (.int b250), .val (.ref nb251), .unset, .unset, .unset]) rfl k) ?_
              refine own_step (g' := (mkF m 201 #[.val (.int p1), .val (.int p2), .val (.int p3), .val (.int ((p1 &&& (2147483647 : Int32)) % (3 : Int32))), .val (.ref nb180), .val (.ref nb191), .val (.ref nb204), .val (.ref nb217), .val (.ref nb231), .val (.int b250), .val (.ref nb251), .unset, .unset, .unset] [(.ref nb251)])) (fun _ k => XS.aload X258.here hx rfl (hb hby at_199) rfl rfl k) ?_
              refine own_callV X258 hx hZ (W := 0) hown rfl (rmWith l Z a0 hw [] nb251 nb231 T258.heap n0 (Nat.le_trans (Nat.le_trans (Nat.le_trans (Nat.le_trans (Nat.le_trans (Nat.le_trans (Nat.le_trans (Nat.le_trans (Nat.le_trans (Nat.le_trans (Nat.le_trans (Nat.le_trans (Nat.le_trans (Nat.le_trans (Nat.le_trans (Nat.le_trans (Nat.le_trans (Nat.le_trans (Nat.le_trans (Nat.le_trans (Nat.le_trans (Nat.le_trans Z0 Ex180.1) Ex182.1) (Nat.le_of_eq W183.size.symm)) (Nat.le_of_eq W184.size.symm)) Kq190.1) Ex191.1) Ex195.1) (Nat.le_of_eq W196.size.symm)) (Nat.le_of_eq W197.size.symm)) Kq203.1) Ex204.1) Ex207.1) Kq216.1) Ex217.1) Ex221.1) Kq230.1) Ex231.1) Kq238.1) Kq246.1) Kq249.1) Ex251.1) Kq258.1) Cs257 F1s257) Cs257 (hw _ (List.mem_of_getElem? (i := 90) rfl)) (hw _ (List.mem_of_getElem? (i := 91) rfl)) (notFace_of_selects (args := #[]) (mvT hZ (hw _ (List.mem_of_getElem? (i := 93) rfl)))) (hw _ (List.mem_of_getElem? (i := 93) rfl)) (hw _ (List.mem_of_getElem? (i := 92) rfl)) (hw _ (List.mem_of_getElem? (i := 94) rfl)) (hw _ (List.mem_of_getElem? (i := 81) rfl)) (by decide) (by decide) (by decide) (g := (mkF m 201 #[.val (.int p1), .val (.int p2), .val (.int p3), .val (.int ((p1 &&& (2147483647 : Int32)) % (3 : Int32))), .val (.ref nb180), .val (.ref nb191), .val (.ref nb204), .val (.ref nb217), .val (.ref nb231), .val (.int b250), .val (.ref nb251), .unset, .unset, .unset] [(.ref nb251)])) rfl (by rw [hml]; rfl) (argsL := []) (rest := []) rfl (lenOf pd_10 rfl) rfl (by show 2 * 0 + _ ≤ _; exact Nat.le_of_eq rfl) (hb hby at_201) (by decide) (by decide) ?_
              intro v259 T259 L259 X259 hQ259
              obtain ⟨⟨tb, rfl, szt, Ct, Ft1, Ft2⟩, Nq259, Kq259⟩ := hQ259
              have N259 := Fr.app N258 Nq259
              have hk := Nat.le_trans hk Kq259.1
              have hC := hC.trans (CHr.keep Kq259 sf0 hC.1)
              show OGo p e below _ T259 (mkF m 204 #[.val (.int p1), .val (.int p2), .val (.int p3), .val (.int ((p1 &&& (2147483647 : Int32)) % (3 : Int32))), .val (.ref nb180), .val (.ref nb191), .val (.ref nb204), .val (.ref nb217), .val (.ref nb231), .val (.int b250), .val (.ref nb251), .unset, .unset, .unset] [(.ref tb)])
              refine own_step (g' := (mkF m 206 #[.val (.int p1), .val (.int p2), .val (.int p3), .val (.int ((p1 &&& (2147483647 : Int32)) % (3 : Int32))), .val (.ref nb180), .val (.ref nb191), .val (.ref nb204), .val (.ref nb217), .val (.ref nb231), .val (.int b250), .val (.ref nb251), .val (.ref tb), .unset, .unset] [])) (fun _ k => XS.astore X259.here hx rfl (hb hby at_204) rfl rfl (l' := #[.val (.int p1), .val (.int p2), .val (.int p3), .val (.int ((p1 &&& (2147483647 : Int32)) % (3 : Int32))), .val (.ref nb180), .val (.ref nb191), .val (.ref nb204), .val (.ref nb217), .val (.ref nb231), .val (.int b250), .val (.ref nb251), .val (.ref tb), .unset, .unset]) rfl k) ?_
              refine own_step (g' := (mkF m 208 #[.val (.int p1), .val (.int p2), .val (.int p3), .val (.int ((p1 &&& (2147483647 : Int32)) % (3 : Int32))), .val (.ref nb180), .val (.ref nb191), .val (.ref nb204), .val (.ref nb217), .val (.ref nb231), .val (.int b250), .val (.ref nb251), .val (.ref tb), .unset, .unset] [(.ref tb)])) (fun _ k => XS.aload X259.here hx rfl (hb hby at_206) rfl rfl k) ?_
              refine own_callV X259 hx hZ (W := 0) hown rfl (rmGopt l Z a0 hw [] tb nb231 T259.heap n0 (Nat.le_trans (Nat.le_trans (Nat.le_trans (Nat.le_trans (Nat.le_trans (Nat.le_trans (Nat.le_trans (Nat.le_trans (Nat.le_trans (Nat.le_trans (Nat.le_trans (Nat.le_trans (Nat.le_trans (Nat.le_trans (Nat.le_trans (Nat.le_trans (Nat.le_trans (Nat.le_trans (Nat.le_trans (Nat.le_trans (Nat.le_trans (Nat.le_trans (Nat.le_trans Z0 Ex180.1) Ex182.1) (Nat.le_of_eq W183.size.symm)) (Nat.le_of_eq W184.size.symm)) Kq190.1) Ex191.1) Ex195.1) (Nat.le_of_eq W196.size.symm)) (Nat.le_of_eq W197.size.symm)) Kq203.1) Ex204.1) Ex207.1) Kq216.1) Ex217.1) Ex221.1) Kq230.1) Ex231.1) Kq238.1) Kq246.1) Kq249.1) Ex251.1) Kq258.1) Kq259.1) Ft1) Ct (hw _ (List.mem_of_getElem? (i := 97) rfl)) (hw _ (List.mem_of_getElem? (i := 98) rfl)) (notFace_of_selects (args := #[]) (mvT hZ (hw _ (List.mem_of_getElem? (i := 100) rfl)))) (hw _ (List.mem_of_getElem? (i := 100) rfl)) (hw _ (List.mem_of_getElem? (i := 99) rfl)) (hw _ (List.mem_of_getElem? (i := 101) rfl)) (hw _ (List.mem_of_getElem? (i := 81) rfl)) (by decide) (by decide) (by decide) (g := (mkF m 208 #[.val (.int p1), .val (.int p2), .val (.int p3), .val (.int ((p1 &&& (2147483647 : Int32)) % (3 : Int32))), .val (.ref nb180), .val (.ref nb191), .val (.ref nb204), .val (.ref nb217), .val (.ref nb231), .val (.int b250), .val (.ref nb251), .val (.ref tb), .unset, .unset] [(.ref tb)])) rfl (by rw [hml]; rfl) (argsL := []) (rest := []) rfl (lenOf pd_11 rfl) rfl (by show 2 * 0 + _ ≤ _; exact Nat.le_of_eq rfl) (hb hby at_208) (by decide) (by decide) ?_
              intro v260 T260 L260 X260 hQ260
              obtain ⟨rfl, rfl, e260⟩ := hQ260
              replace X260 := own_pureX X260
              show OGo p e below _ T260 (mkF m 211 #[.val (.int p1), .val (.int p2), .val (.int p3), .val (.int ((p1 &&& (2147483647 : Int32)) % (3 : Int32))), .val (.ref nb180), .val (.ref nb191), .val (.ref nb204), .val (.ref nb217), .val (.ref nb231), .val (.int b250), .val (.ref nb251), .val (.ref tb), .unset, .unset] [(.ref nb231)])
              refine own_step (g' := (mkF m 213 #[.val (.int p1), .val (.int p2), .val (.int p3), .val (.int ((p1 &&& (2147483647 : Int32)) % (3 : Int32))), .val (.ref nb180), .val (.ref nb191), .val (.ref nb204), .val (.ref nb217), .val (.ref nb231), .val (.int b250), .val (.ref nb251), .val (.ref tb), .val (.ref nb231), .unset] [])) (fun _ k => XS.astore X260.here hx rfl (hb hby at_211) rfl rfl (l' := #[.val (.int p1), .val (.int p2), .val (.int p3), .val (.int ((p1 &&& (2147483647 : Int32)) % (3 : Int32))), .val (.ref nb180), .val (.ref nb191), .val (.ref nb204), .val (.ref nb217), .val (.ref nb231), .val (.int b250), .val (.ref nb251), .val (.ref tb), .val (.ref nb231), .unset]) rfl k) ?_
              refine own_step (g' := (mkF m 215 #[.val (.int p1), .val (.int p2), .val (.int p3), .val (.int ((p1 &&& (2147483647 : Int32)) % (3 : Int32))), .val (.ref nb180), .val (.ref nb191), .val (.ref nb204), .val (.ref nb217), .val (.ref nb231), .val (.int b250), .val (.ref nb251), .val (.ref tb), .val (.ref nb231), .unset] [(.ref tb)])) (fun _ k => XS.aload X260.here hx rfl (hb hby at_213) rfl rfl k) ?_
              refine own_callV X260 hx hZ (W := 0) hown e260 (rmGopd l Z a0 hw [] tb (1 : Int32) T259.heap n0 (Nat.le_trans (Nat.le_trans (Nat.le_trans (Nat.le_trans (Nat.le_trans (Nat.le_trans (Nat.le_trans (Nat.le_trans (Nat.le_trans (Nat.le_trans (Nat.le_trans (Nat.le_trans (Nat.le_trans (Nat.le_trans (Nat.le_trans (Nat.le_trans (Nat.le_trans (Nat.le_trans (Nat.le_trans (Nat.le_trans (Nat.le_trans (Nat.le_trans (Nat.le_trans Z0 Ex180.1) Ex182.1) (Nat.le_of_eq W183.size.symm)) (Nat.le_of_eq W184.size.symm)) Kq190.1) Ex191.1) Ex195.1) (Nat.le_of_eq W196.size.symm)) (Nat.le_of_eq W197.size.symm)) Kq203.1) Ex204.1) Ex207.1) Kq216.1) Ex217.1) Ex221.1) Kq230.1) Ex231.1) Kq238.1) Kq246.1) Kq249.1) Ex251.1) Kq258.1) Kq259.1) Ft2 (Or.inr rfl)) Ct (hw _ (List.mem_of_getElem? (i := 102) rfl)) (hw _ (List.mem_of_getElem? (i := 103) rfl)) (notFace_of_selects (args := #[]) (mvT hZ (hw _ (List.mem_of_getElem? (i := 105) rfl)))) (hw _ (List.mem_of_getElem? (i := 105) rfl)) (hw _ (List.mem_of_getElem? (i := 104) rfl)) (hw _ (List.mem_of_getElem? (i := 106) rfl)) (hw _ (List.mem_of_getElem? (i := 81) rfl)) (by decide) (by decide) (by decide) (g := (mkF m 215 #[.val (.int p1), .val (.int p2), .val (.int p3), .val (.int ((p1 &&& (2147483647 : Int32)) % (3 : Int32))), .val (.ref nb180), .val (.ref nb191), .val (.ref nb204), .val (.ref nb217), .val (.ref nb231), .val (.int b250), .val (.ref nb251), .val (.ref tb), .val (.ref nb231), .unset] [(.ref tb)])) rfl (by rw [hml]; rfl) (argsL := []) (rest := []) rfl (lenOf pd_12 rfl) rfl (by show 2 * 0 + _ ≤ _; exact Nat.le_of_eq rfl) (hb hby at_215) (by decide) (by decide) ?_
              intro v261 T261 L261 X261 hQ261
              obtain ⟨rfl, rfl, e261⟩ := hQ261
              replace X261 := own_pureX X261
              show OGo p e below _ T261 (mkF m 218 #[.val (.int p1), .val (.int p2), .val (.int p3), .val (.int ((p1 &&& (2147483647 : Int32)) % (3 : Int32))), .val (.ref nb180), .val (.ref nb191), .val (.ref nb204), .val (.ref nb217), .val (.ref nb231), .val (.int b250), .val (.ref nb251), .val (.ref tb), .val (.ref nb231), .unset] [(.int (1 : Int32))])
              refine own_step (g' := (mkF m 221 #[.val (.int p1), .val (.int p2), .val (.int p3), .val (.int ((p1 &&& (2147483647 : Int32)) % (3 : Int32))), .val (.ref nb180), .val (.ref nb191), .val (.ref nb204), .val (.ref nb217), .val (.ref nb231), .val (.int b250), .val (.ref nb251), .val (.ref tb), .val (.ref nb231), .unset] [])) (fun _ k => XS.ifNo X261.here hx rfl (hb hby at_218) rfl ((if0 _ _).trans (feq (by decide : ¬ ((1 : Int32) = (0 : Int32)))).1) k) ?_
              refine own_step (g' := (mkF m 223 #[.val (.int p1), .val (.int p2), .val (.int p3), .val (.int ((p1 &&& (2147483647 : Int32)) % (3 : Int32))), .val (.ref nb180), .val (.ref nb191), .val (.ref nb204), .val (.ref nb217), .val (.ref nb231), .val (.int b250), .val (.ref nb251), .val (.ref tb), .val (.ref nb231), .unset] [(.ref nb251)])) (fun _ k => XS.aload X261.here hx rfl (hb hby at_221) rfl rfl k) ?_
              have F_262 : Fld Z T259.heap nb251 "com/example/handl/handl/cli/Arguments$Syntax" "operands" "Z" (.int b250) := (F2s257.keep Kq259 nin0)
              have C_264 : Exa Z T259.heap nb251 "com/example/handl/handl/cli/Arguments$Syntax" := (Cs257.keep Kq259)
              refine own_callV X261 hx hZ (W := 0) hown e261 (rmGopd l Z a0 hw [] nb251 b250 T259.heap n0 (Nat.le_trans (Nat.le_trans (Nat.le_trans (Nat.le_trans (Nat.le_trans (Nat.le_trans (Nat.le_trans (Nat.le_trans (Nat.le_trans (Nat.le_trans (Nat.le_trans (Nat.le_trans (Nat.le_trans (Nat.le_trans (Nat.le_trans (Nat.le_trans (Nat.le_trans (Nat.le_trans (Nat.le_trans (Nat.le_trans (Nat.le_trans (Nat.le_trans (Nat.le_trans Z0 Ex180.1) Ex182.1) (Nat.le_of_eq W183.size.symm)) (Nat.le_of_eq W184.size.symm)) Kq190.1) Ex191.1) Ex195.1) (Nat.le_of_eq W196.size.symm)) (Nat.le_of_eq W197.size.symm)) Kq203.1) Ex204.1) Ex207.1) Kq216.1) Ex217.1) Ex221.1) Kq230.1) Ex231.1) Kq238.1) Kq246.1) Kq249.1) Ex251.1) Kq258.1) Kq259.1) F_262 hb250) C_264 (hw _ (List.mem_of_getElem? (i := 102) rfl)) (hw _ (List.mem_of_getElem? (i := 103) rfl)) (notFace_of_selects (args := #[]) (mvT hZ (hw _ (List.mem_of_getElem? (i := 105) rfl)))) (hw _ (List.mem_of_getElem? (i := 105) rfl)) (hw _ (List.mem_of_getElem? (i := 104) rfl)) (hw _ (List.mem_of_getElem? (i := 106) rfl)) (hw _ (List.mem_of_getElem? (i := 81) rfl)) (by decide) (by decide) (by decide) (g := (mkF m 223 #[.val (.int p1), .val (.int p2), .val (.int p3), .val (.int ((p1 &&& (2147483647 : Int32)) % (3 : Int32))), .val (.ref nb180), .val (.ref nb191), .val (.ref nb204), .val (.ref nb217), .val (.ref nb231), .val (.int b250), .val (.ref nb251), .val (.ref tb), .val (.ref nb231), .unset] [(.ref nb251)])) rfl (by rw [hml]; rfl) (argsL := []) (rest := []) rfl (lenOf pd_12 rfl) rfl (by show 2 * 0 + _ ≤ _; exact Nat.le_of_eq rfl) (hb hby at_223) (by decide) (by decide) ?_
              intro v263 T263 L263 X263 hQ263
              obtain ⟨rfl, rfl, e263⟩ := hQ263
              replace X263 := own_pureX X263
              show OGo p e below _ T263 (mkF m 226 #[.val (.int p1), .val (.int p2), .val (.int p3), .val (.int ((p1 &&& (2147483647 : Int32)) % (3 : Int32))), .val (.ref nb180), .val (.ref nb191), .val (.ref nb204), .val (.ref nb217), .val (.ref nb231), .val (.int b250), .val (.ref nb251), .val (.ref tb), .val (.ref nb231), .unset] [(.int b250)])
              refine own_step (g' := (mkF m 228 #[.val (.int p1), .val (.int p2), .val (.int p3), .val (.int ((p1 &&& (2147483647 : Int32)) % (3 : Int32))), .val (.ref nb180), .val (.ref nb191), .val (.ref nb204), .val (.ref nb217), .val (.ref nb231), .val (.int b250), .val (.ref nb251), .val (.ref tb), .val (.ref nb231), .unset] [(.int b250), (.int b250)])) (fun _ k => XS.iload X263.here hx rfl (hb hby at_226) rfl k) ?_
              refine own_step (g' := (mkF m 231 #[.val (.int p1), .val (.int p2), .val (.int p3), .val (.int ((p1 &&& (2147483647 : Int32)) % (3 : Int32))), .val (.ref nb180), .val (.ref nb191), .val (.ref nb204), .val (.ref nb217), .val (.ref nb231), .val (.int b250), .val (.ref nb251), .val (.ref tb), .val (.ref nb231), .unset] [])) (fun _ k => XS.icmpNo X263.here hx rfl (hb hby at_228) rfl (teq (rfl : b250 = b250)).2 k) ?_
              refine own_step (g' := (mkF m 233 #[.val (.int p1), .val (.int p2), .val (.int p3), .val (.int ((p1 &&& (2147483647 : Int32)) % (3 : Int32))), .val (.ref nb180), .val (.ref nb191), .val (.ref nb204), .val (.ref nb217), .val (.ref nb231), .val (.int b250), .val (.ref nb251), .val (.ref tb), .val (.ref nb231), .unset] [(.ref nb251)])) (fun _ k => XS.aload X263.here hx rfl (hb hby at_231) rfl rfl k) ?_
              have F_265 : Fld Z T259.heap nb251 "com/example/handl/handl/cli/Arguments$Syntax" "options" "Ljava/util/List;" (.ref nb231) := (F1s257.keep Kq259 nin0)
              refine own_callV X263 hx hZ (W := 0) hown e263 (rmGopt l Z a0 hw [] nb251 nb231 T259.heap n0 (Nat.le_trans (Nat.le_trans (Nat.le_trans (Nat.le_trans (Nat.le_trans (Nat.le_trans (Nat.le_trans (Nat.le_trans (Nat.le_trans (Nat.le_trans (Nat.le_trans (Nat.le_trans (Nat.le_trans (Nat.le_trans (Nat.le_trans (Nat.le_trans (Nat.le_trans (Nat.le_trans (Nat.le_trans (Nat.le_trans (Nat.le_trans (Nat.le_trans (Nat.le_trans Z0 Ex180.1) Ex182.1) (Nat.le_of_eq W183.size.symm)) (Nat.le_of_eq W184.size.symm)) Kq190.1) Ex191.1) Ex195.1) (Nat.le_of_eq W196.size.symm)) (Nat.le_of_eq W197.size.symm)) Kq203.1) Ex204.1) Ex207.1) Kq216.1) Ex217.1) Ex221.1) Kq230.1) Ex231.1) Kq238.1) Kq246.1) Kq249.1) Ex251.1) Kq258.1) Kq259.1) F_265) C_264 (hw _ (List.mem_of_getElem? (i := 97) rfl)) (hw _ (List.mem_of_getElem? (i := 98) rfl)) (notFace_of_selects (args := #[]) (mvT hZ (hw _ (List.mem_of_getElem? (i := 100) rfl)))) (hw _ (List.mem_of_getElem? (i := 100) rfl)) (hw _ (List.mem_of_getElem? (i := 99) rfl)) (hw _ (List.mem_of_getElem? (i := 101) rfl)) (hw _ (List.mem_of_getElem? (i := 81) rfl)) (by decide) (by decide) (by decide) (g := (mkF m 233 #[.val (.int p1), .val (.int p2), .val (.int p3), .val (.int ((p1 &&& (2147483647 : Int32)) % (3 : Int32))), .val (.ref nb180), .val (.ref nb191), .val (.ref nb204), .val (.ref nb217), .val (.ref nb231), .val (.int b250), .val (.ref nb251), .val (.ref tb), .val (.ref nb231), .unset] [(.ref nb251)])) rfl (by rw [hml]; rfl) (argsL := []) (rest := []) rfl (lenOf pd_11 rfl) rfl (by show 2 * 0 + _ ≤ _; exact Nat.le_of_eq rfl) (hb hby at_233) (by decide) (by decide) ?_
              intro v266 T266 L266 X266 hQ266
              obtain ⟨rfl, rfl, e266⟩ := hQ266
              replace X266 := own_pureX X266
              show OGo p e below _ T266 (mkF m 236 #[.val (.int p1), .val (.int p2), .val (.int p3), .val (.int ((p1 &&& (2147483647 : Int32)) % (3 : Int32))), .val (.ref nb180), .val (.ref nb191), .val (.ref nb204), .val (.ref nb217), .val (.ref nb231), .val (.int b250), .val (.ref nb251), .val (.ref tb), .val (.ref nb231), .unset] [(.ref nb231)])
              refine own_step (g' := (mkF m 238 #[.val (.int p1), .val (.int p2), .val (.int p3), .val (.int ((p1 &&& (2147483647 : Int32)) % (3 : Int32))), .val (.ref nb180), .val (.ref nb191), .val (.ref nb204), .val (.ref nb217), .val (.ref nb231), .val (.int b250), .val (.ref nb251), .val (.ref tb), .val (.ref nb231), .unset] [(.ref nb231), (.ref nb231)])) (fun _ k => XS.aload X266.here hx rfl (hb hby at_236) rfl rfl k) ?_
              refine own_step (g' := (mkF m 241 #[.val (.int p1), .val (.int p2), .val (.int p3), .val (.int ((p1 &&& (2147483647 : Int32)) % (3 : Int32))), .val (.ref nb180), .val (.ref nb191), .val (.ref nb204), .val (.ref nb217), .val (.ref nb231), .val (.int b250), .val (.ref nb251), .val (.ref tb), .val (.ref nb231), .unset] [])) (fun _ k => Jvm.RoadKit.acmp (g := (mkF m 238 #[.val (.int p1), .val (.int p2), .val (.int p3), .val (.int ((p1 &&& (2147483647 : Int32)) % (3 : Int32))), .val (.ref nb180), .val (.ref nb191), .val (.ref nb204), .val (.ref nb217), .val (.ref nb231), .val (.int b250), .val (.ref nb251), .val (.ref tb), .val (.ref nb231), .unset] [(.ref nb231), (.ref nb231)])) X266 hx rfl rfl rfl (pc0 := 238) (pc' := 241) (same := true) rfl (hb hby at_238) rfl (decide_eq_true rfl) (by decide) (by decide) k) ?_
              refine own_step (g' := (mkF m 243 #[.val (.int p1), .val (.int p2), .val (.int p3), .val (.int ((p1 &&& (2147483647 : Int32)) % (3 : Int32))), .val (.ref nb180), .val (.ref nb191), .val (.ref nb204), .val (.ref nb217), .val (.ref nb231), .val (.int b250), .val (.ref nb251), .val (.ref tb), .val (.ref nb231), .unset] [(.ref nb231)])) (fun _ k => XS.aload X266.here hx rfl (hb hby at_241) rfl rfl k) ?_
              have F_267 : Fld Z T259.heap nb231 "java/util/ArrayList" "size" "I" (.int (2 : Int32)) := (((Fld.ext Ex251 F3q247).keep Kq258 (ninS ne_nb231_nb251 nin0)).keep Kq259 nin0)
              have C_269 : Exa Z T259.heap nb231 "java/util/ArrayList" := (((Exa.ext Ex251 Cq247).keep Kq258).keep Kq259)
              refine own_callI X266 hx hZ (W := 0) hown e266 (rmSize l Z a0 hw [] nb231 (2 : Int32) T259.heap n0 (Nat.le_trans (Nat.le_trans (Nat.le_trans (Nat.le_trans (Nat.le_trans (Nat.le_trans (Nat.le_trans (Nat.le_trans (Nat.le_trans (Nat.le_trans (Nat.le_trans (Nat.le_trans (Nat.le_trans (Nat.le_trans (Nat.le_trans (Nat.le_trans (Nat.le_trans (Nat.le_trans (Nat.le_trans (Nat.le_trans (Nat.le_trans (Nat.le_trans (Nat.le_trans Z0 Ex180.1) Ex182.1) (Nat.le_of_eq W183.size.symm)) (Nat.le_of_eq W184.size.symm)) Kq190.1) Ex191.1) Ex195.1) (Nat.le_of_eq W196.size.symm)) (Nat.le_of_eq W197.size.symm)) Kq203.1) Ex204.1) Ex207.1) Kq216.1) Ex217.1) Ex221.1) Kq230.1) Ex231.1) Kq238.1) Kq246.1) Kq249.1) Ex251.1) Kq258.1) Kq259.1) F_267) C_269 (hw _ (List.mem_of_getElem? (i := 107) rfl)) (hw _ (List.mem_of_getElem? (i := 108) rfl)) (mvT hZ (hw _ (List.mem_of_getElem? (i := 109) rfl))) (hw _ (List.mem_of_getElem? (i := 110) rfl)) (hw _ (List.mem_of_getElem? (i := 111) rfl)) (hw _ (List.mem_of_getElem? (i := 112) rfl)) (hw _ (List.mem_of_getElem? (i := 113) rfl)) (hw _ (List.mem_of_getElem? (i := 114) rfl)) (hw _ (List.mem_of_getElem? (i := 115) rfl)) (hw _ (List.mem_of_getElem? (i := 57) rfl)) (by decide) (by decide) (by decide) (g := (mkF m 243 #[.val (.int p1), .val (.int p2), .val (.int p3), .val (.int ((p1 &&& (2147483647 : Int32)) % (3 : Int32))), .val (.ref nb180), .val (.ref nb191), .val (.ref nb204), .val (.ref nb217), .val (.ref nb231), .val (.int b250), .val (.ref nb251), .val (.ref tb), .val (.ref nb231), .unset] [(.ref nb231)])) rfl (by rw [hml]; rfl) (argsL := []) (rest := []) rfl (lenOf pd_13 rfl) rfl (by show 2 * 0 + _ ≤ _; exact Nat.le_of_eq rfl) (hb hby at_243) (by decide) (by decide) ?_
              intro v268 T268 L268 X268 hQ268
              obtain ⟨rfl, rfl, e268⟩ := hQ268
              replace X268 := own_pureX X268
              show OGo p e below _ T268 (mkF m 248 #[.val (.int p1), .val (.int p2), .val (.int p3), .val (.int ((p1 &&& (2147483647 : Int32)) % (3 : Int32))), .val (.ref nb180), .val (.ref nb191), .val (.ref nb204), .val (.ref nb217), .val (.ref nb231), .val (.int b250), .val (.ref nb251), .val (.ref tb), .val (.ref nb231), .unset] [(.int (2 : Int32))])
              refine own_step (g' := (mkF m 249 #[.val (.int p1), .val (.int p2), .val (.int p3), .val (.int ((p1 &&& (2147483647 : Int32)) % (3 : Int32))), .val (.ref nb180), .val (.ref nb191), .val (.ref nb204), .val (.ref nb217), .val (.ref nb231), .val (.int b250), .val (.ref nb251), .val (.ref tb), .val (.ref nb231), .unset] [(.int ((p1 &&& (2147483647 : Int32)) % (3 : Int32))), (.int (2 : Int32))])) (fun _ k => XS.iloadN X268.here hx rfl (hb hby at_248) rfl k) ?_
              refine own_step (g' := (mkF m 252 #[.val (.int p1), .val (.int p2), .val (.int p3), .val (.int ((p1 &&& (2147483647 : Int32)) % (3 : Int32))), .val (.ref nb180), .val (.ref nb191), .val (.ref nb204), .val (.ref nb217), .val (.ref nb231), .val (.int b250), .val (.ref nb251), .val (.ref tb), .val (.ref nb231), .unset] [])) (fun _ k => XS.icmpNo X268.here hx rfl (hb hby at_249) rfl (teq (by rw [hq] <;> decide : (2 : Int32) = ((p1 &&& (2147483647 : Int32)) % (3 : Int32)))).2 k) ?_
              refine own_step (g' := (mkF m 253 #[.val (.int p1), .val (.int p2), .val (.int p3), .val (.int ((p1 &&& (2147483647 : Int32)) % (3 : Int32))), .val (.ref nb180), .val (.ref nb191), .val (.ref nb204), .val (.ref nb217), .val (.ref nb231), .val (.int b250), .val (.ref nb251), .val (.ref tb), .val (.ref nb231), .unset] [(.int (1 : Int32))])) (fun _ k => XS.iconst X268.here hx rfl (hb hby at_252) k) ?_
              refine own_step (g' := (mkF m 257 #[.val (.int p1), .val (.int p2), .val (.int p3), .val (.int ((p1 &&& (2147483647 : Int32)) % (3 : Int32))), .val (.ref nb180), .val (.ref nb191), .val (.ref nb204), .val (.ref nb217), .val (.ref nb231), .val (.int b250), .val (.ref nb251), .val (.ref tb), .val (.ref nb231), .unset] [(.int (1 : Int32))])) (fun _ k => XS.goto X268.here hx rfl (pc0 := 253) (pc' := 257) rfl (hb hby at_253) (by decide) (by decide) k) ?_
              refine own_step (g' := (mkF m 259 #[.val (.int p1), .val (.int p2), .val (.int p3), .val (.int ((p1 &&& (2147483647 : Int32)) % (3 : Int32))), .val (.ref nb180), .val (.ref nb191), .val (.ref nb204), .val (.ref nb217), .val (.ref nb231), .val (.int b250), .val (.ref nb251), .val (.ref tb), .val (.ref nb231), .val (.int (1 : Int32))] [])) (fun _ k => XS.istore X268.here hx rfl (hb hby at_257) rfl (l' := #[.val (.int p1), .val (.int p2), .val (.int p3), .val (.int ((p1 &&& (2147483647 : Int32)) % (3 : Int32))), .val (.ref nb180), .val (.ref nb191), .val (.ref nb204), .val (.ref nb217), .val (.ref nb231), .val (.int b250), .val (.ref nb251), .val (.ref tb), .val (.ref nb231), .val (.int (1 : Int32))]) rfl k) ?_
              refine own_step (g' := (mkF m 261 #[.val (.int p1), .val (.int p2), .val (.int p3), .val (.int ((p1 &&& (2147483647 : Int32)) % (3 : Int32))), .val (.ref nb180), .val (.ref nb191), .val (.ref nb204), .val (.ref nb217), .val (.ref nb231), .val (.int b250), .val (.ref nb251), .val (.ref tb), .val (.ref nb231), .val (.int (1 : Int32))] [(.int (1 : Int32))])) (fun _ k => XS.iload X268.here hx rfl (hb hby at_259) rfl k) ?_
              refine own_step (g' := (mkF m 264 #[.val (.int p1), .val (.int p2), .val (.int p3), .val (.int ((p1 &&& (2147483647 : Int32)) % (3 : Int32))), .val (.ref nb180), .val (.ref nb191), .val (.ref nb204), .val (.ref nb217), .val (.ref nb231), .val (.int b250), .val (.ref nb251), .val (.ref tb), .val (.ref nb231), .val (.int (1 : Int32))] [])) (fun _ k => XS.ifNo X268.here hx rfl (hb hby at_261) rfl ((if0 _ _).trans (feq (by decide : ¬ ((1 : Int32) = (0 : Int32)))).1) k) ?_
              refine own_step (g' := (mkF m 265 #[.val (.int p1), .val (.int p2), .val (.int p3), .val (.int ((p1 &&& (2147483647 : Int32)) % (3 : Int32))), .val (.ref nb180), .val (.ref nb191), .val (.ref nb204), .val (.ref nb217), .val (.ref nb231), .val (.int b250), .val (.ref nb251), .val (.ref tb), .val (.ref nb231), .val (.int (1 : Int32))] [(.int ((p1 &&& (2147483647 : Int32)) % (3 : Int32)))])) (fun _ k => XS.iloadN X268.here hx rfl (hb hby at_264) rfl k) ?_
              refine own_step (g' := (mkF m 266 #[.val (.int p1), .val (.int p2), .val (.int p3), .val (.int ((p1 &&& (2147483647 : Int32)) % (3 : Int32))), .val (.ref nb180), .val (.ref nb191), .val (.ref nb204), .val (.ref nb217), .val (.ref nb231), .val (.int b250), .val (.ref nb251), .val (.ref tb), .val (.ref nb231), .val (.int (1 : Int32))] [(.int (1 : Int32)), (.int ((p1 &&& (2147483647 : Int32)) % (3 : Int32)))])) (fun _ k => XS.iconst X268.here hx rfl (hb hby at_265) k) ?_
              refine own_step (g' := (mkF m 269 #[.val (.int p1), .val (.int p2), .val (.int p3), .val (.int ((p1 &&& (2147483647 : Int32)) % (3 : Int32))), .val (.ref nb180), .val (.ref nb191), .val (.ref nb204), .val (.ref nb217), .val (.ref nb231), .val (.int b250), .val (.ref nb251), .val (.ref tb), .val (.ref nb231), .val (.int (1 : Int32))] [])) (fun _ k => XS.icmpNo X268.here hx rfl (hb hby at_266) rfl (flt (by rw [hq] <;> decide : ¬ (((p1 &&& (2147483647 : Int32)) % (3 : Int32)) < (1 : Int32)))).1 k) ?_
              refine own_step (g' := (mkF m 271 #[.val (.int p1), .val (.int p2), .val (.int p3), .val (.int ((p1 &&& (2147483647 : Int32)) % (3 : Int32))), .val (.ref nb180), .val (.ref nb191), .val (.ref nb204), .val (.ref nb217), .val (.ref nb231), .val (.int b250), .val (.ref nb251), .val (.ref tb), .val (.ref nb231), .val (.int (1 : Int32))] [(.ref nb231)])) (fun _ k => XS.aload X268.here hx rfl (hb hby at_269) rfl rfl k) ?_
              refine own_step (g' := (mkF m 272 #[.val (.int p1), .val (.int p2), .val (.int p3), .val (.int ((p1 &&& (2147483647 : Int32)) % (3 : Int32))), .val (.ref nb180), .val (.ref nb191), .val (.ref nb204), .val (.ref nb217), .val (.ref nb231), .val (.int b250), .val (.ref nb251), .val (.ref tb), .val (.ref nb231), .val (.int (1 : Int32))] [(.int (0 : Int32)), (.ref nb231)])) (fun _ k => XS.iconst X268.here hx rfl (hb hby at_271) k) ?_
              have F_270 : Fld Z T259.heap nb231 "java/util/ArrayList" "elementData" "[Ljava/lang/Object;" (.ref ar) := (((Fld.ext Ex251 F2q247).keep Kq258 (ninS ne_nb231_nb251 nin0)).keep Kq259 nin0)
              have V_271 : Arv Z T259.heap ar kq239 (.object "java/lang/Object") (10 : Int32) [(.ref nb204), (.ref nb217), .null, .null, .null, .null, .null, .null, .null, .null] .null := (((Vq247.ext Ex251).keep Kq258 (ninS ne_ar_nb251 nin0)).keep Kq259 nin0)
              refine own_callI X268 hx hZ (W := 0) hown e268 (rmGet2_0 l Z a0 hw [] nb231 ar nb204 nb217 kq239 T259.heap n0 (Nat.le_trans (Nat.le_trans (Nat.le_trans (Nat.le_trans (Nat.le_trans (Nat.le_trans (Nat.le_trans (Nat.le_trans (Nat.le_trans (Nat.le_trans (Nat.le_trans (Nat.le_trans (Nat.le_trans (Nat.le_trans (Nat.le_trans (Nat.le_trans (Nat.le_trans (Nat.le_trans (Nat.le_trans (Nat.le_trans (Nat.le_trans (Nat.le_trans (Nat.le_trans Z0 Ex180.1) Ex182.1) (Nat.le_of_eq W183.size.symm)) (Nat.le_of_eq W184.size.symm)) Kq190.1) Ex191.1) Ex195.1) (Nat.le_of_eq W196.size.symm)) (Nat.le_of_eq W197.size.symm)) Kq203.1) Ex204.1) Ex207.1) Kq216.1) Ex217.1) Ex221.1) Kq230.1) Ex231.1) Kq238.1) Kq246.1) Kq249.1) Ex251.1) Kq258.1) Kq259.1) C_269 F_270 V_271 F_267) C_269 (hw _ (List.mem_of_getElem? (i := 150) rfl)) (hw _ (List.mem_of_getElem? (i := 151) rfl)) (mvT hZ (hw _ (List.mem_of_getElem? (i := 152) rfl))) (hw _ (List.mem_of_getElem? (i := 153) rfl)) (hw _ (List.mem_of_getElem? (i := 154) rfl)) (hw _ (List.mem_of_getElem? (i := 155) rfl)) (hw _ (List.mem_of_getElem? (i := 156) rfl)) (hw _ (List.mem_of_getElem? (i := 114) rfl)) (hw _ (List.mem_of_getElem? (i := 157) rfl)) (hw _ (List.mem_of_getElem? (i := 57) rfl)) (by decide) (by decide) (by decide) (g := (mkF m 272 #[.val (.int p1), .val (.int p2), .val (.int p3), .val (.int ((p1 &&& (2147483647 : Int32)) % (3 : Int32))), .val (.ref nb180), .val (.ref nb191), .val (.ref nb204), .val (.ref nb217), .val (.ref nb231), .val (.int b250), .val (.ref nb251), .val (.ref tb), .val (.ref nb231), .val (.int (1 : Int32))] [(.int (0 : Int32)), (.ref nb231)])) rfl (by rw [hml]; rfl) (argsL := [(.int (0 : Int32))]) (rest := []) rfl (lenOf pd_7 rfl) rfl (by show 2 * 0 + _ ≤ _; exact Nat.le_of_eq rfl) (hb hby at_272) (by decide) (by decide) ?_
              intro v272 T272 L272 X272 hQ272
              obtain ⟨rfl, rfl, e272⟩ := hQ272
              replace X272 := own_pureX X272
              show OGo p e below _ T272 (mkF m 277 #[.val (.int p1), .val (.int p2), .val (.int p3), .val (.int ((p1 &&& (2147483647 : Int32)) % (3 : Int32))), .val (.ref nb180), .val (.ref nb191), .val (.ref nb204), .val (.ref nb217), .val (.ref nb231), .val (.int b250), .val (.ref nb251), .val (.ref tb), .val (.ref nb231), .val (.int (1 : Int32))] [(.ref nb204)])
              refine own_step (g' := (mkF m 279 #[.val (.int p1), .val (.int p2), .val (.int p3), .val (.int ((p1 &&& (2147483647 : Int32)) % (3 : Int32))), .val (.ref nb180), .val (.ref nb191), .val (.ref nb204), .val (.ref nb217), .val (.ref nb231), .val (.int b250), .val (.ref nb251), .val (.ref tb), .val (.ref nb231), .val (.int (1 : Int32))] [(.ref nb204), (.ref nb204)])) (fun _ k => XS.aload X272.here hx rfl (hb hby at_277) rfl rfl k) ?_
              refine own_step (g' := (mkF m 282 #[.val (.int p1), .val (.int p2), .val (.int p3), .val (.int ((p1 &&& (2147483647 : Int32)) % (3 : Int32))), .val (.ref nb180), .val (.ref nb191), .val (.ref nb204), .val (.ref nb217), .val (.ref nb231), .val (.int b250), .val (.ref nb251), .val (.ref tb), .val (.ref nb231), .val (.int (1 : Int32))] [])) (fun _ k => Jvm.RoadKit.acmp (g := (mkF m 279 #[.val (.int p1), .val (.int p2), .val (.int p3), .val (.int ((p1 &&& (2147483647 : Int32)) % (3 : Int32))), .val (.ref nb180), .val (.ref nb191), .val (.ref nb204), .val (.ref nb217), .val (.ref nb231), .val (.int b250), .val (.ref nb251), .val (.ref tb), .val (.ref nb231), .val (.int (1 : Int32))] [(.ref nb204), (.ref nb204)])) X272 hx rfl rfl rfl (pc0 := 279) (pc' := 282) (same := true) rfl (hb hby at_279) rfl (decide_eq_true rfl) (by decide) (by decide) k) ?_
              refine own_step (g' := (mkF m 283 #[.val (.int p1), .val (.int p2), .val (.int p3), .val (.int ((p1 &&& (2147483647 : Int32)) % (3 : Int32))), .val (.ref nb180), .val (.ref nb191), .val (.ref nb204), .val (.ref nb217), .val (.ref nb231), .val (.int b250), .val (.ref nb251), .val (.ref tb), .val (.ref nb231), .val (.int (1 : Int32))] [(.int (1 : Int32))])) (fun _ k => XS.iconst X272.here hx rfl (hb hby at_282) k) ?_
              refine own_step (g' := (mkF m 287 #[.val (.int p1), .val (.int p2), .val (.int p3), .val (.int ((p1 &&& (2147483647 : Int32)) % (3 : Int32))), .val (.ref nb180), .val (.ref nb191), .val (.ref nb204), .val (.ref nb217), .val (.ref nb231), .val (.int b250), .val (.ref nb251), .val (.ref tb), .val (.ref nb231), .val (.int (1 : Int32))] [(.int (1 : Int32))])) (fun _ k => XS.goto X272.here hx rfl (pc0 := 283) (pc' := 287) rfl (hb hby at_283) (by decide) (by decide) k) ?_
              refine own_step (g' := (mkF m 289 #[.val (.int p1), .val (.int p2), .val (.int p3), .val (.int ((p1 &&& (2147483647 : Int32)) % (3 : Int32))), .val (.ref nb180), .val (.ref nb191), .val (.ref nb204), .val (.ref nb217), .val (.ref nb231), .val (.int b250), .val (.ref nb251), .val (.ref tb), .val (.ref nb231), .val (.int (1 : Int32))] [])) (fun _ k => XS.istore X272.here hx rfl (hb hby at_287) rfl (l' := #[.val (.int p1), .val (.int p2), .val (.int p3), .val (.int ((p1 &&& (2147483647 : Int32)) % (3 : Int32))), .val (.ref nb180), .val (.ref nb191), .val (.ref nb204), .val (.ref nb217), .val (.ref nb231), .val (.int b250), .val (.ref nb251), .val (.ref tb), .val (.ref nb231), .val (.int (1 : Int32))]) rfl k) ?_
              refine own_step (g' := (mkF m 291 #[.val (.int p1), .val (.int p2), .val (.int p3), .val (.int ((p1 &&& (2147483647 : Int32)) % (3 : Int32))), .val (.ref nb180), .val (.ref nb191), .val (.ref nb204), .val (.ref nb217), .val (.ref nb231), .val (.int b250), .val (.ref nb251), .val (.ref tb), .val (.ref nb231), .val (.int (1 : Int32))] [(.int (1 : Int32))])) (fun _ k => XS.iload X272.here hx rfl (hb hby at_289) rfl k) ?_
              refine own_step (g' := (mkF m 294 #[.val (.int p1), .val (.int p2), .val (.int p3), .val (.int ((p1 &&& (2147483647 : Int32)) % (3 : Int32))), .val (.ref nb180), .val (.ref nb191), .val (.ref nb204), .val (.ref nb217), .val (.ref nb231), .val (.int b250), .val (.ref nb251), .val (.ref tb), .val (.ref nb231), .val (.int (1 : Int32))] [])) (fun _ k => XS.ifNo X272.here hx rfl (hb hby at_291) rfl ((if0 _ _).trans (feq (by decide : ¬ ((1 : Int32) = (0 : Int32)))).1) k) ?_
              refine own_step (g' := (mkF m 295 #[.val (.int p1), .val (.int p2), .val (.int p3), .val (.int ((p1 &&& (2147483647 : Int32)) % (3 : Int32))), .val (.ref nb180), .val (.ref nb191), .val (.ref nb204), .val (.ref nb217), .val (.ref nb231), .val (.int b250), .val (.ref nb251), .val (.ref tb), .val (.ref nb231), .val (.int (1 : Int32))] [(.int ((p1 &&& (2147483647 : Int32)) % (3 : Int32)))])) (fun _ k => XS.iloadN X272.here hx rfl (hb hby at_294) rfl k) ?_
              refine own_step (g' := (mkF m 296 #[.val (.int p1), .val (.int p2), .val (.int p3), .val (.int ((p1 &&& (2147483647 : Int32)) % (3 : Int32))), .val (.ref nb180), .val (.ref nb191), .val (.ref nb204), .val (.ref nb217), .val (.ref nb231), .val (.int b250), .val (.ref nb251), .val (.ref tb), .val (.ref nb231), .val (.int (1 : Int32))] [(.int (2 : Int32)), (.int ((p1 &&& (2147483647 : Int32)) % (3 : Int32)))])) (fun _ k => XS.iconst X272.here hx rfl (hb hby at_295) k) ?_
              refine own_step (g' := (mkF m 299 #[.val (.int p1), .val (.int p2), .val (.int p3), .val (.int ((p1 &&& (2147483647 : Int32)) % (3 : Int32))), .val (.ref nb180), .val (.ref nb191), .val (.ref nb204), .val (.ref nb217), .val (.ref nb231), .val (.int b250), .val (.ref nb251), .val (.ref tb), .val (.ref nb231), .val (.int (1 : Int32))] [])) (fun _ k => XS.icmpNo X272.here hx rfl (hb hby at_296) rfl (flt (by rw [hq] <;> decide : ¬ (((p1 &&& (2147483647 : Int32)) % (3 : Int32)) < (2 : Int32)))).1 k) ?_
              refine own_step (g' := (mkF m 301 #[.val (.int p1), .val (.int p2), .val (.int p3), .val (.int ((p1 &&& (2147483647 : Int32)) % (3 : Int32))), .val (.ref nb180), .val (.ref nb191), .val (.ref nb204), .val (.ref nb217), .val (.ref nb231), .val (.int b250), .val (.ref nb251), .val (.ref tb), .val (.ref nb231), .val (.int (1 : Int32))] [(.ref nb231)])) (fun _ k => XS.aload X272.here hx rfl (hb hby at_299) rfl rfl k) ?_
              refine own_step (g' := (mkF m 302 #[.val (.int p1), .val (.int p2), .val (.int p3), .val (.int ((p1 &&& (2147483647 : Int32)) % (3 : Int32))), .val (.ref nb180), .val (.ref nb191), .val (.ref nb204), .val (.ref nb217), .val (.ref nb231), .val (.int b250), .val (.ref nb251), .val (.ref tb), .val (.ref nb231), .val (.int (1 : Int32))] [(.int (1 : Int32)), (.ref nb231)])) (fun _ k => XS.iconst X272.here hx rfl (hb hby at_301) k) ?_
              refine own_callI X272 hx hZ (W := 0) hown e272 (rmGet2_1 l Z a0 hw [] nb231 ar nb204 nb217 kq239 T259.heap n0 (Nat.le_trans (Nat.le_trans (Nat.le_trans (Nat.le_trans (Nat.le_trans (Nat.le_trans (Nat.le_trans (Nat.le_trans (Nat.le_trans (Nat.le_trans (Nat.le_trans (Nat.le_trans (Nat.le_trans (Nat.le_trans (Nat.le_trans (Nat.le_trans (Nat.le_trans (Nat.le_trans (Nat.le_trans (Nat.le_trans (Nat.le_trans (Nat.le_trans (Nat.le_trans Z0 Ex180.1) Ex182.1) (Nat.le_of_eq W183.size.symm)) (Nat.le_of_eq W184.size.symm)) Kq190.1) Ex191.1) Ex195.1) (Nat.le_of_eq W196.size.symm)) (Nat.le_of_eq W197.size.symm)) Kq203.1) Ex204.1) Ex207.1) Kq216.1) Ex217.1) Ex221.1) Kq230.1) Ex231.1) Kq238.1) Kq246.1) Kq249.1) Ex251.1) Kq258.1) Kq259.1) C_269 F_270 V_271 F_267) C_269 (hw _ (List.mem_of_getElem? (i := 150) rfl)) (hw _ (List.mem_of_getElem? (i := 151) rfl)) (mvT hZ (hw _ (List.mem_of_getElem? (i := 152) rfl))) (hw _ (List.mem_of_getElem? (i := 153) rfl)) (hw _ (List.mem_of_getElem? (i := 154) rfl)) (hw _ (List.mem_of_getElem? (i := 155) rfl)) (hw _ (List.mem_of_getElem? (i := 156) rfl)) (hw _ (List.mem_of_getElem? (i := 114) rfl)) (hw _ (List.mem_of_getElem? (i := 157) rfl)) (hw _ (List.mem_of_getElem? (i := 57) rfl)) (by decide) (by decide) (by decide) (g := (mkF m 302 #[.val (.int p1), .val (.int p2), .val (.int p3), .val (.int ((p1 &&& (2147483647 : Int32)) % (3 : Int32))), .val (.ref nb180), .val (.ref nb191), .val (.ref nb204), .val (.ref nb217), .val (.ref nb231), .val (.int b250), .val (.ref nb251), .val (.ref tb), .val (.ref nb231), .val (.int (1 : Int32))] [(.int (1 : Int32)), (.ref nb231)])) rfl (by rw [hml]; rfl) (argsL := [(.int (1 : Int32))]) (rest := []) rfl (lenOf pd_7 rfl) rfl (by show 2 * 0 + _ ≤ _; exact Nat.le_of_eq rfl) (hb hby at_302) (by decide) (by decide) ?_
              intro v273 T273 L273 X273 hQ273
              obtain ⟨rfl, rfl, e273⟩ := hQ273
              replace X273 := own_pureX X273
              show OGo p e below _ T273 (mkF m 307 #[.val (.int p1), .val (.int p2), .val (.int p3), .val (.int ((p1 &&& (2147483647 : Int32)) % (3 : Int32))), .val (.ref nb180), .val (.ref nb191), .val (.ref nb204), .val (.ref nb217), .val (.ref nb231), .val (.int b250), .val (.ref nb251), .val (.ref tb), .val (.ref nb231), .val (.int (1 : Int32))] [(.ref nb217)])
              refine own_step (g' := (mkF m 309 #[.val (.int p1), .val (.int p2), .val (.int p3), .val (.int ((p1 &&& (2147483647 : Int32)) % (3 : Int32))), .val (.ref nb180), .val (.ref nb191), .val (.ref nb204), .val (.ref nb217), .val (.ref nb231), .val (.int b250), .val (.ref nb251), .val (.ref tb), .val (.ref nb231), .val (.int (1 : Int32))] [(.ref nb217), (.ref nb217)])) (fun _ k => XS.aload X273.here hx rfl (hb hby at_307) rfl rfl k) ?_
              refine own_step (g' := (mkF m 312 #[.val (.int p1), .val (.int p2), .val (.int p3), .val (.int ((p1 &&& (2147483647 : Int32)) % (3 : Int32))), .val (.ref nb180), .val (.ref nb191), .val (.ref nb204), .val (.ref nb217), .val (.ref nb231), .val (.int b250), .val (.ref nb251), .val (.ref tb), .val (.ref nb231), .val (.int (1 : Int32))] [])) (fun _ k => Jvm.RoadKit.acmp (g := (mkF m 309 #[.val (.int p1), .val (.int p2), .val (.int p3), .val (.int ((p1 &&& (2147483647 : Int32)) % (3 : Int32))), .val (.ref nb180), .val (.ref nb191), .val (.ref nb204), .val (.ref nb217), .val (.ref nb231), .val (.int b250), .val (.ref nb251), .val (.ref tb), .val (.ref nb231), .val (.int (1 : Int32))] [(.ref nb217), (.ref nb217)])) X273 hx rfl rfl rfl (pc0 := 309) (pc' := 312) (same := true) rfl (hb hby at_309) rfl (decide_eq_true rfl) (by decide) (by decide) k) ?_
              refine own_step (g' := (mkF m 313 #[.val (.int p1), .val (.int p2), .val (.int p3), .val (.int ((p1 &&& (2147483647 : Int32)) % (3 : Int32))), .val (.ref nb180), .val (.ref nb191), .val (.ref nb204), .val (.ref nb217), .val (.ref nb231), .val (.int b250), .val (.ref nb251), .val (.ref tb), .val (.ref nb231), .val (.int (1 : Int32))] [(.int (1 : Int32))])) (fun _ k => XS.iconst X273.here hx rfl (hb hby at_312) k) ?_
              refine own_step (g' := (mkF m 317 #[.val (.int p1), .val (.int p2), .val (.int p3), .val (.int ((p1 &&& (2147483647 : Int32)) % (3 : Int32))), .val (.ref nb180), .val (.ref nb191), .val (.ref nb204), .val (.ref nb217), .val (.ref nb231), .val (.int b250), .val (.ref nb251), .val (.ref tb), .val (.ref nb231), .val (.int (1 : Int32))] [(.int (1 : Int32))])) (fun _ k => XS.goto X273.here hx rfl (pc0 := 313) (pc' := 317) rfl (hb hby at_313) (by decide) (by decide) k) ?_
              refine own_step (g' := (mkF m 319 #[.val (.int p1), .val (.int p2), .val (.int p3), .val (.int ((p1 &&& (2147483647 : Int32)) % (3 : Int32))), .val (.ref nb180), .val (.ref nb191), .val (.ref nb204), .val (.ref nb217), .val (.ref nb231), .val (.int b250), .val (.ref nb251), .val (.ref tb), .val (.ref nb231), .val (.int (1 : Int32))] [])) (fun _ k => XS.istore X273.here hx rfl (hb hby at_317) rfl (l' := #[.val (.int p1), .val (.int p2), .val (.int p3), .val (.int ((p1 &&& (2147483647 : Int32)) % (3 : Int32))), .val (.ref nb180), .val (.ref nb191), .val (.ref nb204), .val (.ref nb217), .val (.ref nb231), .val (.int b250), .val (.ref nb251), .val (.ref tb), .val (.ref nb231), .val (.int (1 : Int32))]) rfl k) ?_
              refine own_step (g' := (mkF m 321 #[.val (.int p1), .val (.int p2), .val (.int p3), .val (.int ((p1 &&& (2147483647 : Int32)) % (3 : Int32))), .val (.ref nb180), .val (.ref nb191), .val (.ref nb204), .val (.ref nb217), .val (.ref nb231), .val (.int b250), .val (.ref nb251), .val (.ref tb), .val (.ref nb231), .val (.int (1 : Int32))] [(.int (1 : Int32))])) (fun _ k => XS.iload X273.here hx rfl (hb hby at_319) rfl k) ?_
              exact own_retNW X273 hx hZ hEL hS hk hC (t := .boolean) hret (by simp) hlk (hb hby at_321) e273 (by exact ⟨rfl, N259⟩) (by decide) (by decide)
            by_cases hc274 : (p3 &&& (16 : Int32)) = (0 : Int32)
            · refine own_step (g' := (mkF m 183 #[.val (.int p1), .val (.int p2), .val (.int p3), .val (.int ((p1 &&& (2147483647 : Int32)) % (3 : Int32))), .val (.ref nb180), .val (.ref nb191), .val (.ref nb204), .val (.ref nb217), .val (.ref nb231), .unset, .unset, .unset, .unset, .unset] [])) (fun _ k => XS.ifYes X249.here hx rfl (pc0 := 176) (pc' := 183) rfl (hb hby at_176) rfl ((if0 _ _).trans (teq hc274).1) (by decide) (by decide) k) ?_
              refine own_step (g' := (mkF m 184 #[.val (.int p1), .val (.int p2), .val (.int p3), .val (.int ((p1 &&& (2147483647 : Int32)) % (3 : Int32))), .val (.ref nb180), .val (.ref nb191), .val (.ref nb204), .val (.ref nb217), .val (.ref nb231), .unset, .unset, .unset, .unset, .unset] [(.int (0 : Int32))])) (fun _ k => XS.iconst X249.here hx rfl (hb hby at_183) k) ?_
              exact Jb250 _ (Or.inl rfl)
            · refine own_step (g' := (mkF m 179 #[.val (.int p1), .val (.int p2), .val (.int p3), .val (.int ((p1 &&& (2147483647 : Int32)) % (3 : Int32))), .val (.ref nb180), .val (.ref nb191), .val (.ref nb204), .val (.ref nb217), .val (.ref nb231), .unset, .unset, .unset, .unset, .unset] [])) (fun _ k => XS.ifNo X249.here hx rfl (hb hby at_176) rfl ((if0 _ _).trans (feq hc274).1) k) ?_
              refine own_step (g' := (mkF m 180 #[.val (.int p1), .val (.int p2), .val (.int p3), .val (.int ((p1 &&& (2147483647 : Int32)) % (3 : Int32))), .val (.ref nb180), .val (.ref nb191), .val (.ref nb204), .val (.ref nb217), .val (.ref nb231), .unset, .unset, .unset, .unset, .unset] [(.int (1 : Int32))])) (fun _ k => XS.iconst X249.here hx rfl (hb hby at_179) k) ?_
              refine own_step (g' := (mkF m 184 #[.val (.int p1), .val (.int p2), .val (.int p3), .val (.int ((p1 &&& (2147483647 : Int32)) % (3 : Int32))), .val (.ref nb180), .val (.ref nb191), .val (.ref nb204), .val (.ref nb217), .val (.ref nb231), .unset, .unset, .unset, .unset, .unset] [(.int (1 : Int32))])) (fun _ k => XS.goto X249.here hx rfl (pc0 := 180) (pc' := 184) rfl (hb hby at_180) (by decide) (by decide) k) ?_
              exact Jb250 _ (Or.inr rfl)
          by_cases hc275 : (p3 &&& (8 : Int32)) = (0 : Int32)
          · refine own_step (g' := (mkF m 127 #[.val (.int p1), .val (.int p2), .val (.int p3), .val (.int ((p1 &&& (2147483647 : Int32)) % (3 : Int32))), .val (.ref nb180), .val (.ref nb191), .val (.ref nb204), .unset, .unset, .unset, .unset, .unset, .unset, .unset] [(.int b222), (.ref nb221), (.ref nb191), (.ref nb217), (.ref nb217)])) (fun _ k => XS.ifYes X221.here hx rfl (pc0 := 120) (pc' := 127) rfl (hb hby at_120) rfl ((if0 _ _).trans (teq hc275).1) (by decide) (by decide) k) ?_
            refine own_step (g' := (mkF m 128 #[.val (.int p1), .val (.int p2), .val (.int p3), .val (.int ((p1 &&& (2147483647 : Int32)) % (3 : Int32))), .val (.ref nb180), .val (.ref nb191), .val (.ref nb204), .unset, .unset, .unset, .unset, .unset, .unset, .unset] [(.int (0 : Int32)), (.int b222), (.ref nb221), (.ref nb191), (.ref nb217), (.ref nb217)])) (fun _ k => XS.iconst X221.here hx rfl (hb hby at_127) k) ?_
            exact Jb223 _ (Or.inl rfl)
          · refine own_step (g' := (mkF m 123 #[.val (.int p1), .val (.int p2), .val (.int p3), .val (.int ((p1 &&& (2147483647 : Int32)) % (3 : Int32))), .val (.ref nb180), .val (.ref nb191), .val (.ref nb204), .unset, .unset, .unset, .unset, .unset, .unset, .unset] [(.int b222), (.ref nb221), (.ref nb191), (.ref nb217), (.ref nb217)])) (fun _ k => XS.ifNo X221.here hx rfl (hb hby at_120) rfl ((if0 _ _).trans (feq hc275).1) k) ?_
            refine own_step (g' := (mkF m 124 #[.val (.int p1), .val (.int p2), .val (.int p3), .val (.int ((p1 &&& (2147483647 : Int32)) % (3 : Int32))), .val (.ref nb180), .val (.ref nb191), .val (.ref nb204), .unset, .unset, .unset, .unset, .unset, .unset, .unset] [(.int (1 : Int32)), (.int b222), (.ref nb221), (.ref nb191), (.ref nb217), (.ref nb217)])) (fun _ k => XS.iconst X221.here hx rfl (hb hby at_123) k) ?_
            refine own_step (g' := (mkF m 128 #[.val (.int p1), .val (.int p2), .val (.int p3), .val (.int ((p1 &&& (2147483647 : Int32)) % (3 : Int32))), .val (.ref nb180), .val (.ref nb191), .val (.ref nb204), .unset, .unset, .unset, .unset, .unset, .unset, .unset] [(.int (1 : Int32)), (.int b222), (.ref nb221), (.ref nb191), (.ref nb217), (.ref nb217)])) (fun _ k => XS.goto X221.here hx rfl (pc0 := 124) (pc' := 128) rfl (hb hby at_124) (by decide) (by decide) k) ?_
            exact Jb223 _ (Or.inr rfl)
        by_cases hc276 : (p3 &&& (4 : Int32)) = (0 : Int32)
        · refine own_step (g' := (mkF m 115 #[.val (.int p1), .val (.int p2), .val (.int p3), .val (.int ((p1 &&& (2147483647 : Int32)) % (3 : Int32))), .val (.ref nb180), .val (.ref nb191), .val (.ref nb204), .unset, .unset, .unset, .unset, .unset, .unset, .unset] [(.ref nb221), (.ref nb191), (.ref nb217), (.ref nb217)])) (fun _ k => XS.ifYes X221.here hx rfl (pc0 := 108) (pc' := 115) rfl (hb hby at_108) rfl ((if0 _ _).trans (teq hc276).1) (by decide) (by decide) k) ?_
          refine own_step (g' := (mkF m 116 #[.val (.int p1), .val (.int p2), .val (.int p3), .val (.int ((p1 &&& (2147483647 : Int32)) % (3 : Int32))), .val (.ref nb180), .val (.ref nb191), .val (.ref nb204), .unset, .unset, .unset, .unset, .unset, .unset, .unset] [(.int (0 : Int32)), (.ref nb221), (.ref nb191), (.ref nb217), (.ref nb217)])) (fun _ k => XS.iconst X221.here hx rfl (hb hby at_115) k) ?_
          exact Jb222 _ (Or.inl rfl)
        · refine own_step (g' := (mkF m 111 #[.val (.int p1), .val (.int p2), .val (.int p3), .val (.int ((p1 &&& (2147483647 : Int32)) % (3 : Int32))), .val (.ref nb180), .val (.ref nb191), .val (.ref nb204), .unset, .unset, .unset, .unset, .unset, .unset, .unset] [(.ref nb221), (.ref nb191), (.ref nb217), (.ref nb217)])) (fun _ k => XS.ifNo X221.here hx rfl (hb hby at_108) rfl ((if0 _ _).trans (feq hc276).1) k) ?_
          refine own_step (g' := (mkF m 112 #[.val (.int p1), .val (.int p2), .val (.int p3), .val (.int ((p1 &&& (2147483647 : Int32)) % (3 : Int32))), .val (.ref nb180), .val (.ref nb191), .val (.ref nb204), .unset, .unset, .unset, .unset, .unset, .unset, .unset] [(.int (1 : Int32)), (.ref nb221), (.ref nb191), (.ref nb217), (.ref nb217)])) (fun _ k => XS.iconst X221.here hx rfl (hb hby at_111) k) ?_
          refine own_step (g' := (mkF m 116 #[.val (.int p1), .val (.int p2), .val (.int p3), .val (.int ((p1 &&& (2147483647 : Int32)) % (3 : Int32))), .val (.ref nb180), .val (.ref nb191), .val (.ref nb204), .unset, .unset, .unset, .unset, .unset, .unset, .unset] [(.int (1 : Int32)), (.ref nb221), (.ref nb191), (.ref nb217), (.ref nb217)])) (fun _ k => XS.goto X221.here hx rfl (pc0 := 112) (pc' := 116) rfl (hb hby at_112) (by decide) (by decide) k) ?_
          exact Jb222 _ (Or.inr rfl)
      by_cases hc277 : (p3 &&& (2 : Int32)) = (0 : Int32)
      · refine own_step (g' := (mkF m 91 #[.val (.int p1), .val (.int p2), .val (.int p3), .val (.int ((p1 &&& (2147483647 : Int32)) % (3 : Int32))), .val (.ref nb180), .val (.ref nb191), .unset, .unset, .unset, .unset, .unset, .unset, .unset, .unset] [(.int b208), (.ref nb207), (.ref nb180), (.ref nb204), (.ref nb204)])) (fun _ k => XS.ifYes X207.here hx rfl (pc0 := 84) (pc' := 91) rfl (hb hby at_84) rfl ((if0 _ _).trans (teq hc277).1) (by decide) (by decide) k) ?_
        refine own_step (g' := (mkF m 92 #[.val (.int p1), .val (.int p2), .val (.int p3), .val (.int ((p1 &&& (2147483647 : Int32)) % (3 : Int32))), .val (.ref nb180), .val (.ref nb191), .unset, .unset, .unset, .unset, .unset, .unset, .unset, .unset] [(.int (0 : Int32)), (.int b208), (.ref nb207), (.ref nb180), (.ref nb204), (.ref nb204)])) (fun _ k => XS.iconst X207.here hx rfl (hb hby at_91) k) ?_
        exact Jb209 _ (Or.inl rfl)
      · refine own_step (g' := (mkF m 87 #[.val (.int p1), .val (.int p2), .val (.int p3), .val (.int ((p1 &&& (2147483647 : Int32)) % (3 : Int32))), .val (.ref nb180), .val (.ref nb191), .unset, .unset, .unset, .unset, .unset, .unset, .unset, .unset] [(.int b208), (.ref nb207), (.ref nb180), (.ref nb204), (.ref nb204)])) (fun _ k => XS.ifNo X207.here hx rfl (hb hby at_84) rfl ((if0 _ _).trans (feq hc277).1) k) ?_
        refine own_step (g' := (mkF m 88 #[.val (.int p1), .val (.int p2), .val (.int p3), .val (.int ((p1 &&& (2147483647 : Int32)) % (3 : Int32))), .val (.ref nb180), .val (.ref nb191), .unset, .unset, .unset, .unset, .unset, .unset, .unset, .unset] [(.int (1 : Int32)), (.int b208), (.ref nb207), (.ref nb180), (.ref nb204), (.ref nb204)])) (fun _ k => XS.iconst X207.here hx rfl (hb hby at_87) k) ?_
        refine own_step (g' := (mkF m 92 #[.val (.int p1), .val (.int p2), .val (.int p3), .val (.int ((p1 &&& (2147483647 : Int32)) % (3 : Int32))), .val (.ref nb180), .val (.ref nb191), .unset, .unset, .unset, .unset, .unset, .unset, .unset, .unset] [(.int (1 : Int32)), (.int b208), (.ref nb207), (.ref nb180), (.ref nb204), (.ref nb204)])) (fun _ k => XS.goto X207.here hx rfl (pc0 := 88) (pc' := 92) rfl (hb hby at_88) (by decide) (by decide) k) ?_
        exact Jb209 _ (Or.inr rfl)
    by_cases hc278 : (p3 &&& (1 : Int32)) = (0 : Int32)
    · refine own_step (g' := (mkF m 80 #[.val (.int p1), .val (.int p2), .val (.int p3), .val (.int ((p1 &&& (2147483647 : Int32)) % (3 : Int32))), .val (.ref nb180), .val (.ref nb191), .unset, .unset, .unset, .unset, .unset, .unset, .unset, .unset] [(.ref nb207), (.ref nb180), (.ref nb204), (.ref nb204)])) (fun _ k => XS.ifYes X207.here hx rfl (pc0 := 73) (pc' := 80) rfl (hb hby at_73) rfl ((if0 _ _).trans (teq hc278).1) (by decide) (by decide) k) ?_
      refine own_step (g' := (mkF m 81 #[.val (.int p1), .val (.int p2), .val (.int p3), .val (.int ((p1 &&& (2147483647 : Int32)) % (3 : Int32))), .val (.ref nb180), .val (.ref nb191), .unset, .unset, .unset, .unset, .unset, .unset, .unset, .unset] [(.int (0 : Int32)), (.ref nb207), (.ref nb180), (.ref nb204), (.ref nb204)])) (fun _ k => XS.iconst X207.here hx rfl (hb hby at_80) k) ?_
      exact Jb208 _ (Or.inl rfl)
    · refine own_step (g' := (mkF m 76 #[.val (.int p1), .val (.int p2), .val (.int p3), .val (.int ((p1 &&& (2147483647 : Int32)) % (3 : Int32))), .val (.ref nb180), .val (.ref nb191), .unset, .unset, .unset, .unset, .unset, .unset, .unset, .unset] [(.ref nb207), (.ref nb180), (.ref nb204), (.ref nb204)])) (fun _ k => XS.ifNo X207.here hx rfl (hb hby at_73) rfl ((if0 _ _).trans (feq hc278).1) k) ?_
      refine own_step (g' := (mkF m 77 #[.val (.int p1), .val (.int p2), .val (.int p3), .val (.int ((p1 &&& (2147483647 : Int32)) % (3 : Int32))), .val (.ref nb180), .val (.ref nb191), .unset, .unset, .unset, .unset, .unset, .unset, .unset, .unset] [(.int (1 : Int32)), (.ref nb207), (.ref nb180), (.ref nb204), (.ref nb204)])) (fun _ k => XS.iconst X207.here hx rfl (hb hby at_76) k) ?_
      refine own_step (g' := (mkF m 81 #[.val (.int p1), .val (.int p2), .val (.int p3), .val (.int ((p1 &&& (2147483647 : Int32)) % (3 : Int32))), .val (.ref nb180), .val (.ref nb191), .unset, .unset, .unset, .unset, .unset, .unset, .unset, .unset] [(.int (1 : Int32)), (.ref nb207), (.ref nb180), (.ref nb204), (.ref nb204)])) (fun _ k => XS.goto X207.here hx rfl (pc0 := 77) (pc' := 81) rfl (hb hby at_77) (by decide) (by decide) k) ?_
      exact Jb208 _ (Or.inr rfl)
set_option maxRecDepth 65536 in
set_option maxHeartbeats 40000000 in
theorem comes_1 {Post : Tables → Env → Array Value → State → Outcome → State → Prop} (hpost : ∀ tb e args s v u, (limb_1_1.after args s (.returned v) u = true ∧ limb_1_2.after args s (.returned v) u = true ∧ True) → FramedW s (.returned v) u (Jvm.fieldLocs frame_1_writes args s ++ Jvm.arrayLocs frame_1_arrays args s ++ Jvm.staticLocs frame_1_statics s) 40 2240 → Post tb e args s (.returned v) u) :
    ArmFor flags0 classFile x code maxLocals ret World_1 tables_1 room_1 Calls_1 rest_1 Pre_1 Post := by
  intro l hfl _ _ p e ha hc hk s m args below hf hA hF happ hP
  obtain ⟨hcalls, hrest, hpre⟩ := hP
  obtain ⟨-, -, -, hnamed, -, -, -, hat⟩ := (Spec.applies_iff hf).mp happ
  obtain ⟨hg, hn⟩ := and_e (Cond.before_iff.mp (show (Jvm.Cond.and given_1 narrow_1).before args s = true from hpre))
  obtain ⟨g1, g2⟩ := and_e hg
  obtain ⟨g3, g4⟩ := and_e g2
  obtain ⟨g5, g6⟩ := and_e g4
  obtain ⟨w0, w1, w2, rfl⟩ : ∃ w0 w1 w2 : Value, args = #[w0, w1, w2] := by
    have hs : args.size = 3 := by simpa [Cond.value, given_1] using g1
    obtain ⟨L⟩ := args
    match L, hs with
    | [w0, w1, w2], _ => exact ⟨w0, w1, w2, rfl⟩
  have hw := fun d (hd : d ∈ tables_1) => atoms_spec (ws := Jvm.Cond.code x code maxLocals ret :: tables_1) hat d (List.mem_cons_of_mem _ hd)
  have hfit : Fit s := fun {y c} hc i hi => by
    obtain ⟨ha, rfl⟩ := Array.getElem?_eq_some_iff.mp hc
    have q := List.all_eq_true.mp ((Array.all_eq_true_iff_forall_mem.mp hF) _ (Array.getElem_mem ha)) i (List.mem_range.mpr hi)
    simpa [Array.getElem?_eq_getElem hi] using q
  obtain ⟨hsets, hown0⟩ := atoms_of _ (rest_1_c_eq ▸ (show rest_1_c.before _ s = true from hrest))
  obtain ⟨i0, ei0⟩ := is_v g3
  obtain rfl : w0 = (.int i0) := Option.some.inj ei0
  obtain ⟨i1, ei1⟩ := is_v g5
  obtain rfl : w1 = (.int i1) := Option.some.inj ei1
  obtain ⟨i2, ei2⟩ := is_v g6
  obtain rfl : w2 = (.int i2) := Option.some.inj ei2
  obtain ⟨z, ev_z⟩ := is_v (Cond.before_iff.mp (hsets _ (List.mem_of_getElem? (i := 1) rfl)))
  have S_CS := Sta.start ev_z (Or.inl (hsets _ (List.mem_of_getElem? (i := 0) rfl)))
  have hz : ¬ (z = (0 : Int32)) := fun q => by
    have h2 := Cond.before_iff.mp (hsets _ (List.mem_of_getElem? (i := 2) rfl))
    have h3 := not_v h2
    rw [eq_i ev_z (Term.int_eval (0)) (by rw [q])] at h3
    cases h3
  obtain ⟨ed, ev_DC⟩ := arr_v (Cond.before_iff.mp (hsets _ (List.mem_of_getElem? (i := 15) rfl)))
  have S_DC := Sta.start ev_DC (Or.inr ⟨(hw _ (List.mem_of_getElem? (i := 57) rfl)), hsets _ (List.mem_of_getElem? (i := 11) rfl)⟩)
  obtain ⟨cd, Ad⟩ := Arr.start ev_DC (Cond.before_iff.mp (hsets _ (List.mem_of_getElem? (i := 15) rfl)))
  have hld := own_len0 ev_DC Ad (Cond.before_iff.mp (hsets _ (List.mem_of_getElem? (i := 17) rfl)))
  obtain ⟨kd, Vd⟩ : ∃ kd, Arv s s.heap ed kd (.object "java/lang/Object") (0 : Int32) [] .null := ⟨_, own_arv0 Ad hld⟩
  obtain ⟨n, o, h1, h2, h3, _, L, rfl, ⟨rfl, N⟩, -, hq⟩ := rm0 l s _ hw tables_1 i0 i1 i2 z ed kd s.heap s.heap.size (Nat.le_refl _) S_CS hz S_DC Vd p e ha hc hk s m _ below hf ((Spec.applies_iff_loose hf).mp happ).1 ⟨rfl, State.Warmed39.refl s, rfl, own_chv_nil⟩ trivial
  refine ⟨n, _, h1, h2, h3, hpost _ _ _ _ _ _ ⟨Cond.after_iff.mpr rfl, Cond.after_iff.mpr (eq_i res_at (Term.int_eval (1)) rfl), trivial⟩ ⟨hq.1, hq.2.1, hq.2.2.1, (hq.2.2.2.sift fun y hy => Or.inr (N y hy)).mono (by decide) (by decide)⟩⟩
theorem main_1_1 : Claimed_1_1 := comes_1 fun _ _ _ _ _ _ h hF => ⟨h.1, hF⟩
theorem main_1_2 : Claimed_1_2 := comes_1 fun _ _ _ _ _ _ h hF => ⟨h.2.1, hF⟩
end Jvm.Pilot.@@N@@
namespace Jvm.Pilot.@@N@@
open Jvm Jvm.ClassFile Sem Op Lib Jvm.Free Jvm.Stand Jvm.Pilot.@@N@@.Jvm.D
/-! MADE BY PROGRAM (witnessworld.py) out of the Statement's table words and the real class files: 33 classes; the members and pool entries that the words name. The judged class is class 1, her method 1. -/
namespace start1
open Jvm.ClassFile
def u (s : String) : CpInfo := .utf8 (stringToUtf16 s)
/-- a pool by its gaps: so many unusable entries, then the entry; so many at the end -/
def gap : Nat → List CpInfo → List CpInfo
  | 0, r => r
  | n + 1, r => .unusable :: gap n r
def poolList (es : List (Nat × CpInfo)) (last : Nat) : List CpInfo := es.foldr (fun e r => gap e.1 (e.2 :: r)) (gap last [])
def pool (es : List (Nat × CpInfo)) (last : Nat) : Array CpInfo := ⟨poolList es last⟩
def fileOf (pool : Array CpInfo) (this : Nat) (attrs : Array Attribute := #[]) (ms : Array MethodInfo := #[]) (fl : Nat := 33) (sup : Nat := 0) (ifs : Array Nat := #[]) (fds : Array FieldInfo := #[]) : ClassFile where
  minorVersion := 0
  majorVersion := 65
  constantPool := pool
  accessFlags := fl
  thisClass := this
  superClass := sup
  interfaces := ifs
  fields := fds
  methods := ms
  attributes := attrs
def plain (name : String) (sup : Option ClassId) : Class where
  name := name
  kind := .ordinary
  loader := none
  accessFlags := 33
  super := sup
  interfaces := #[]
  cf := none
  fields := #[]
  methods := #[]
  instanceTypes := #[]
  staticTypes := #[]
  resolved := #[]
  callSites := []
  init := .initialized
  statics := none
  mirror := none

def pool0 : Array CpInfo := pool [(5, u "<init>"), (0, u "()V"), (1, .class_ 10), (1, u "java/lang/Object")] 113

def k0c0 : Code := { maxStack := 0, maxLocals := 1, code := object_method_1_code, exceptionTable := #[], attributes := #[] }
def k0m0 : Method := { name := "<init>", desc := "()V", sig := { parameters := [], returnType := none }, accessFlags := 1, code := some k0c0 }
/-- java/lang/Object -/
def k0 : Class := { plain "java/lang/Object" none with
  accessFlags := 33
  interfaces := #[]
  cf := some (fileOf pool0 8 #[] #[{ accessFlags := 1, nameIndex := 5, descriptorIndex := 6, attributes := #[] }] 33 0 #[] #[])
  fields := #[]
  methods := #[k0m0]
  instanceTypes := #[]
  staticTypes := #[]
  resolved := Array.replicate 124 none
  statics := none }

def pool1 : Array CpInfo := pool [(2, .class_ 4), (0, .nameAndType 5 6), (0, u "java/lang/Object"), (0, u "<init>"), (0, u "()V"), (0, .integer 2147483647), (0, .class_ 9), (0, u "java/lang/String"), (0, .methodref 8 11), (0, .nameAndType 5 12), (0, u "([C)V"), (0, .class_ 14), (0, u "com/example/handl/handl/cli/Arguments$Option"), (0, .string 16), (0, u "a value"), (0, .methodref 13 18), (0, .nameAndType 5 19), (0, u "(Ljava/lang/String;Ljava/lang/String;ZZ)V"), (0, .string 21), (0, u "a folder"), (0, .class_ 23), (0, u "java/util/ArrayList"), (0, .methodref 22 3), (0, .interfaceMethodref 26 27), (0, .class_ 28), (0, .nameAndType 29 30), (0, u "java/util/List"), (0, u "add"), (0, u "(Ljava/lang/Object;)Z"), (0, .class_ 32), (0, u "com/example/handl/handl/cli/Arguments$Syntax"), (0, .methodref 31 34), (0, .nameAndType 5 35), (0, u "(Ljava/util/List;Z)V"), (0, .methodref 31 37), (0, .nameAndType 38 39), (0, u "withOperands"), (0, u "()Lcom/example/handl/handl/cli/Arguments$Syntax;"), (0, .methodref 31 41), (0, .nameAndType 42 43), (0, u "options"), (0, u "()Ljava/util/List;"), (0, .methodref 31 45), (0, .nameAndType 46 47), (0, u "operands"), (0, u "()Z"), (0, .interfaceMethodref 26 49), (0, .nameAndType 50 51), (0, u "size"), (0, u "()I"), (0, .interfaceMethodref 26 53), (0, .nameAndType 54 55), (0, u "get"), (0, u "(I)Ljava/lang/Object;"), (0, .class_ 57), (0, u "com/example/handl/handl/cli/SyntaxWithOperandsPinLaw"), (2, u "law"), (0, u "(III)Z")] 8

def k1m0 : Method := { name := "<init>", desc := "()V", sig := { parameters := [], returnType := none }, accessFlags := 1, code := none }
def k1c1 : Code := { maxStack := 7, maxLocals := 14, code := code, exceptionTable := #[], attributes := #[] }
def k1m1 : Method := { name := "law", desc := "(III)Z", sig := { parameters := [.int, .int, .int], returnType := some .boolean }, accessFlags := 9, code := some k1c1 }
/-- com/example/handl/handl/cli/SyntaxWithOperandsPinLaw -/
def k1 : Class := { plain "com/example/handl/handl/cli/SyntaxWithOperandsPinLaw" (some 0) with
  accessFlags := 49
  interfaces := #[]
  cf := some (fileOf pool1 56 #[] #[{ accessFlags := 1, nameIndex := 5, descriptorIndex := 6, attributes := #[] }, { accessFlags := 9, nameIndex := 60, descriptorIndex := 61, attributes := #[] }] 49 2 #[] #[])
  fields := #[]
  methods := #[k1m0, k1m1]
  instanceTypes := #[]
  staticTypes := #[]
  resolved := Array.replicate 70 none
  statics := none }

def pool2 : Array CpInfo := pool [(1, .class_ 2), (0, u "java/io/Serializable"), (0, .class_ 4), (0, u "java/lang/Object")] 2

/-- java/io/Serializable -/
def k2 : Class := { plain "java/io/Serializable" (some 0) with
  accessFlags := 1537
  interfaces := #[]
  cf := some (fileOf pool2 1 #[] #[] 1537 3 #[] #[])
  fields := #[]
  methods := #[]
  instanceTypes := #[]
  staticTypes := #[]
  resolved := Array.replicate 7 none
  statics := none }

def pool3 : Array CpInfo := pool [(1, .class_ 2), (0, u "java/lang/Comparable"), (0, .class_ 4), (0, u "java/lang/Object")] 7

/-- java/lang/Comparable -/
def k3 : Class := { plain "java/lang/Comparable" (some 0) with
  accessFlags := 1537
  interfaces := #[]
  cf := some (fileOf pool3 1 #[] #[] 1537 3 #[] #[])
  fields := #[]
  methods := #[]
  instanceTypes := #[]
  staticTypes := #[]
  resolved := Array.replicate 12 none
  statics := none }

def pool4 : Array CpInfo := pool [(2, .class_ 4), (1, u "java/lang/CharSequence"), (42, .class_ 48), (0, u "java/lang/CharSequence$1CodePointIterator"), (10, .class_ 60), (0, u "java/lang/CharSequence$1CharIterator"), (5, .class_ 67), (0, u "java/lang/Object")] 63

/-- java/lang/CharSequence -/
def k4 : Class := { plain "java/lang/CharSequence" (some 0) with
  accessFlags := 1537
  interfaces := #[]
  cf := some (fileOf pool4 2 #[.nestMembers #[47, 59]] #[] 1537 66 #[] #[])
  fields := #[]
  methods := #[]
  instanceTypes := #[]
  staticTypes := #[]
  resolved := Array.replicate 131 none
  statics := none }

def pool5 : Array CpInfo := pool [(1, .class_ 2), (0, u "java/lang/constant/Constable"), (0, .class_ 4), (0, u "java/lang/Object")] 6

/-- java/lang/constant/Constable -/
def k5 : Class := { plain "java/lang/constant/Constable" (some 0) with
  accessFlags := 1537
  interfaces := #[]
  cf := some (fileOf pool5 1 #[] #[] 1537 3 #[] #[])
  fields := #[]
  methods := #[]
  instanceTypes := #[]
  staticTypes := #[]
  resolved := Array.replicate 11 none
  statics := none }

def pool6 : Array CpInfo := pool [(1, .class_ 2), (0, u "java/lang/constant/ConstantDesc"), (0, .class_ 4), (0, u "java/lang/Object")] 32

/-- java/lang/constant/ConstantDesc -/
def k6 : Class := { plain "java/lang/constant/ConstantDesc" (some 0) with
  accessFlags := 1537
  interfaces := #[]
  cf := some (fileOf pool6 1 #[] #[] 1537 3 #[] #[])
  fields := #[]
  methods := #[]
  instanceTypes := #[]
  staticTypes := #[]
  resolved := Array.replicate 37 none
  statics := none }

def pool7 : Array CpInfo := pool [(1, .methodref 2 3), (0, .class_ 4), (0, .nameAndType 5 6), (0, u "java/lang/Object"), (0, u "<init>"), (0, u "()V"), (2, .fieldref 10 11), (0, .class_ 12), (0, .nameAndType 13 14), (0, u "java/lang/String"), (0, u "value"), (0, u "[B"), (0, .fieldref 10 16), (0, .nameAndType 17 18), (0, u "coder"), (0, u "B"), (2, u "hash"), (0, u "I"), (2, u "hashIsZero"), (0, u "Z"), (0, .methodref 10 28), (0, .nameAndType 5 29), (0, u "([CIILjava/lang/Void;)V"), (8, .fieldref 10 39), (0, .nameAndType 40 26), (0, u "COMPACT_STRINGS"), (1, .class_ 44), (1, u "java/lang/StringUTF16"), (0, u "compress"), (1, .methodref 42 48), (0, .nameAndType 49 50), (0, u "coderFromArrayLen"), (0, u "([BI)B"), (126, .methodref 42 178), (0, .nameAndType 45 179), (0, u "([CII)[B"), (395, .class_ 576), (0, u "java/lang/CharSequence"), (22, u "CASE_INSENSITIVE_ORDER"), (0, u "Ljava/util/Comparator;"), (409, u "([C)V"), (90, u "serialPersistentFields"), (0, u "[Ljava/io/ObjectStreamField;"), (0, .class_ 1104), (0, u "java/lang/String$CaseInsensitiveComparator"), (1, .class_ 1107), (0, u "java/io/Serializable"), (0, .class_ 1109), (0, u "java/lang/Comparable"), (0, .class_ 1111), (0, u "java/lang/constant/Constable"), (0, .class_ 1113), (0, u "java/lang/constant/ConstantDesc"), (2, u "serialVersionUID"), (0, u "J"), (3, u "REPL"), (0, u "C"), (2, u "LATIN1"), (1, u "UTF16")] 323

def k7m0 : Method := { name := "<init>", desc := "()V", sig := { parameters := [], returnType := none }, accessFlags := 1, code := none }
def k7c1 : Code := { maxStack := 5, maxLocals := 2, code := jdk_42_method_3_code, exceptionTable := #[], attributes := #[] }
def k7m1 : Method := { name := "<init>", desc := "([C)V", sig := { parameters := [(.array .char)], returnType := none }, accessFlags := 1, code := some k7c1 }
def k7c2 : Code := { maxStack := 4, maxLocals := 6, code := jdk_42_method_149_code, exceptionTable := #[], attributes := #[] }
def k7m2 : Method := { name := "<init>", desc := "([CIILjava/lang/Void;)V", sig := { parameters := [(.array .char), .int, .int, (.object "java/lang/Void")], returnType := none }, accessFlags := 2, code := some k7c2 }
/-- java/lang/String -/
def k7 : Class := { plain "java/lang/String" (some 0) with
  accessFlags := 49
  interfaces := #[2, 3, 4, 5, 6]
  cf := some (fileOf pool7 10 #[.nestMembers #[1103]] #[{ accessFlags := 1, nameIndex := 5, descriptorIndex := 6, attributes := #[] }, { accessFlags := 1, nameIndex := 5, descriptorIndex := 1010, attributes := #[] }, { accessFlags := 2, nameIndex := 5, descriptorIndex := 29, attributes := #[] }] 49 2 #[1106, 1108, 575, 1110, 1112] #[{ accessFlags := 18, nameIndex := 13, descriptorIndex := 14, attributes := #[] }, { accessFlags := 18, nameIndex := 17, descriptorIndex := 18, attributes := #[] }, { accessFlags := 2, nameIndex := 21, descriptorIndex := 22, attributes := #[] }, { accessFlags := 2, nameIndex := 25, descriptorIndex := 26, attributes := #[] }, { accessFlags := 26, nameIndex := 1116, descriptorIndex := 1117, attributes := #[] }, { accessFlags := 24, nameIndex := 40, descriptorIndex := 26, attributes := #[] }, { accessFlags := 26, nameIndex := 1101, descriptorIndex := 1102, attributes := #[] }, { accessFlags := 26, nameIndex := 1121, descriptorIndex := 1122, attributes := #[] }, { accessFlags := 25, nameIndex := 599, descriptorIndex := 600, attributes := #[] }, { accessFlags := 24, nameIndex := 1125, descriptorIndex := 18, attributes := #[] }, { accessFlags := 24, nameIndex := 1127, descriptorIndex := 18, attributes := #[] }])
  fields := #[{ name := "value", type := (.array .byte), accessFlags := 18, slot := 0, constantValue := 0 }, { name := "coder", type := .byte, accessFlags := 18, slot := 1, constantValue := 0 }, { name := "hash", type := .int, accessFlags := 2, slot := 2, constantValue := 0 }, { name := "hashIsZero", type := .boolean, accessFlags := 2, slot := 3, constantValue := 0 }, { name := "serialVersionUID", type := .long, accessFlags := 26, slot := 0, constantValue := 0 }, { name := "COMPACT_STRINGS", type := .boolean, accessFlags := 24, slot := 1, constantValue := 0 }, { name := "serialPersistentFields", type := (.array (.object "java/io/ObjectStreamField")), accessFlags := 26, slot := 2, constantValue := 0 }, { name := "REPL", type := .char, accessFlags := 26, slot := 3, constantValue := 0 }, { name := "CASE_INSENSITIVE_ORDER", type := (.object "java/util/Comparator"), accessFlags := 25, slot := 4, constantValue := 0 }, { name := "LATIN1", type := .byte, accessFlags := 24, slot := 5, constantValue := 0 }, { name := "UTF16", type := .byte, accessFlags := 24, slot := 6, constantValue := 0 }]
  methods := #[k7m0, k7m1, k7m2]
  instanceTypes := #[(.array .byte), .byte, .int, .boolean]
  staticTypes := #[.long, .boolean, (.array (.object "java/io/ObjectStreamField")), .char, (.object "java/util/Comparator"), .byte, .byte]
  resolved := Array.replicate 1451 none
  statics := some 0 }

def pool8 : Array CpInfo := pool [(6, .class_ 8), (1, u "java/lang/Object"), (0, u "<init>"), (0, u "()V"), (1, .class_ 14), (1, u "java/lang/StringUTF16"), (31, u "$assertionsDisabled"), (0, u "Z"), (13, u "HI_BYTE_SHIFT"), (0, u "I"), (2, u "LO_BYTE_SHIFT"), (49, .methodref 12 116), (0, .nameAndType 117 118), (0, u "compress"), (0, u "([CI[BII)I"), (3, u "([CII)[B"), (138, u "coderFromArrayLen"), (0, u "([BI)B"), (106, .class_ 371), (1, u "java/lang/StringUTF16$LinesSpliterator"), (58, u "MAX_LENGTH"), (196, .class_ 628), (0, u "java/lang/StringUTF16$CodePointsSpliterator"), (0, .class_ 630), (0, u "java/lang/StringUTF16$CharsSpliterator")] 4

def k8m0 : Method := { name := "<init>", desc := "()V", sig := { parameters := [], returnType := none }, accessFlags := 0, code := none }
def k8c1 : Code := { maxStack := 2, maxLocals := 2, code := jdk_52_method_15_code, exceptionTable := #[], attributes := #[] }
def k8m1 : Method := { name := "coderFromArrayLen", desc := "([BI)B", sig := { parameters := [(.array .byte), .int], returnType := some .byte }, accessFlags := 8, code := some k8c1 }
def k8c2 : Code := { maxStack := 5, maxLocals := 6, code := jdk_52_method_16_code, exceptionTable := #[], attributes := #[] }
def k8m2 : Method := { name := "compress", desc := "([CII)[B", sig := { parameters := [(.array .char), .int, .int], returnType := some (.array .byte) }, accessFlags := 9, code := some k8c2 }
def k8c3 : Code := { maxStack := 3, maxLocals := 7, code := jdk_52_method_21_code, exceptionTable := #[], attributes := #[] }
def k8m3 : Method := { name := "compress", desc := "([CI[BII)I", sig := { parameters := [(.array .char), .int, (.array .byte), .int, .int], returnType := some .int }, accessFlags := 9, code := some k8c3 }
/-- java/lang/StringUTF16 -/
def k8 : Class := { plain "java/lang/StringUTF16" (some 0) with
  accessFlags := 48
  interfaces := #[]
  cf := some (fileOf pool8 12 #[.nestMembers #[627, 629, 369]] #[{ accessFlags := 0, nameIndex := 9, descriptorIndex := 10, attributes := #[] }, { accessFlags := 8, nameIndex := 261, descriptorIndex := 262, attributes := #[] }, { accessFlags := 9, nameIndex := 117, descriptorIndex := 122, attributes := #[] }, { accessFlags := 9, nameIndex := 117, descriptorIndex := 118, attributes := #[] }] 48 6 #[] #[{ accessFlags := 26, nameIndex := 61, descriptorIndex := 62, attributes := #[] }, { accessFlags := 26, nameIndex := 65, descriptorIndex := 62, attributes := #[] }, { accessFlags := 24, nameIndex := 430, descriptorIndex := 62, attributes := #[] }, { accessFlags := 4120, nameIndex := 46, descriptorIndex := 47, attributes := #[] }])
  fields := #[{ name := "HI_BYTE_SHIFT", type := .int, accessFlags := 26, slot := 0, constantValue := 0 }, { name := "LO_BYTE_SHIFT", type := .int, accessFlags := 26, slot := 1, constantValue := 0 }, { name := "MAX_LENGTH", type := .int, accessFlags := 24, slot := 2, constantValue := 0 }, { name := "$assertionsDisabled", type := .boolean, accessFlags := 4120, slot := 3, constantValue := 0 }]
  methods := #[k8m0, k8m1, k8m2, k8m3]
  instanceTypes := #[]
  staticTypes := #[.int, .int, .int, .boolean]
  resolved := Array.replicate 635 none
  statics := none }

def pool9 : Array CpInfo := pool [(1, .methodref 2 3), (0, .class_ 4), (0, .nameAndType 5 6), (0, u "java/lang/Object"), (0, u "<init>"), (0, u "()V"), (0, .class_ 8), (0, u "java/lang/Record")] 13

def k9c0 : Code := { maxStack := 1, maxLocals := 1, code := jdk_30_method_1_code, exceptionTable := #[], attributes := #[] }
def k9m0 : Method := { name := "<init>", desc := "()V", sig := { parameters := [], returnType := none }, accessFlags := 4, code := some k9c0 }
/-- java/lang/Record -/
def k9 : Class := { plain "java/lang/Record" (some 0) with
  accessFlags := 1057
  interfaces := #[]
  cf := some (fileOf pool9 7 #[] #[{ accessFlags := 4, nameIndex := 5, descriptorIndex := 6, attributes := #[] }] 1057 2 #[] #[])
  fields := #[]
  methods := #[k9m0]
  instanceTypes := #[]
  staticTypes := #[]
  resolved := Array.replicate 22 none
  statics := none }

def pool10 : Array CpInfo := pool [(1, .methodref 2 3), (0, .class_ 4), (0, .nameAndType 5 6), (0, u "java/lang/Record"), (0, u "<init>"), (0, u "()V"), (0, .fieldref 8 9), (0, .class_ 10), (0, .nameAndType 11 12), (0, u "com/example/handl/handl/cli/Arguments$Option"), (0, u "name"), (0, u "Ljava/lang/String;"), (0, .fieldref 8 14), (0, .nameAndType 15 12), (0, u "value"), (0, .fieldref 8 17), (0, .nameAndType 18 19), (0, u "repeatable"), (0, u "Z"), (0, .fieldref 8 21), (0, .nameAndType 22 19), (0, u "joinable"), (2, u "(Ljava/lang/String;Ljava/lang/String;ZZ)V"), (39, .class_ 66), (0, u "com/example/handl/handl/cli/Arguments")] 30

def k10c0 : Code := { maxStack := 2, maxLocals := 5, code := prog_19_method_1_code, exceptionTable := #[], attributes := #[] }
def k10m0 : Method := { name := "<init>", desc := "(Ljava/lang/String;Ljava/lang/String;ZZ)V", sig := { parameters := [(.object "java/lang/String"), (.object "java/lang/String"), .boolean, .boolean], returnType := none }, accessFlags := 0, code := some k10c0 }
/-- com/example/handl/handl/cli/Arguments$Option -/
def k10 : Class := { plain "com/example/handl/handl/cli/Arguments$Option" (some 9) with
  accessFlags := 48
  interfaces := #[]
  cf := some (fileOf pool10 8 #[.nestHost 65] #[{ accessFlags := 0, nameIndex := 5, descriptorIndex := 25, attributes := #[] }] 48 2 #[] #[{ accessFlags := 18, nameIndex := 11, descriptorIndex := 12, attributes := #[] }, { accessFlags := 18, nameIndex := 15, descriptorIndex := 12, attributes := #[] }, { accessFlags := 18, nameIndex := 18, descriptorIndex := 19, attributes := #[] }, { accessFlags := 18, nameIndex := 22, descriptorIndex := 19, attributes := #[] }])
  fields := #[{ name := "name", type := (.object "java/lang/String"), accessFlags := 18, slot := 0, constantValue := 0 }, { name := "value", type := (.object "java/lang/String"), accessFlags := 18, slot := 1, constantValue := 0 }, { name := "repeatable", type := .boolean, accessFlags := 18, slot := 2, constantValue := 0 }, { name := "joinable", type := .boolean, accessFlags := 18, slot := 3, constantValue := 0 }]
  methods := #[k10m0]
  instanceTypes := #[(.object "java/lang/String"), (.object "java/lang/String"), .boolean, .boolean]
  staticTypes := #[]
  resolved := Array.replicate 97 none
  statics := none }

def pool11 : Array CpInfo := pool [(8, .class_ 10), (1, u "java/lang/Iterable"), (24, .class_ 36), (0, u "java/lang/Object")] 25

/-- java/lang/Iterable -/
def k11 : Class := { plain "java/lang/Iterable" (some 0) with
  accessFlags := 1537
  interfaces := #[]
  cf := some (fileOf pool11 8 #[] #[] 1537 35 #[] #[])
  fields := #[]
  methods := #[]
  instanceTypes := #[]
  staticTypes := #[]
  resolved := Array.replicate 62 none
  statics := none }

def pool12 : Array CpInfo := pool [(10, .class_ 12), (1, u "java/util/Collection"), (47, .class_ 61), (0, u "java/lang/Object"), (0, .class_ 63), (0, u "java/lang/Iterable")] 51

/-- java/util/Collection -/
def k12 : Class := { plain "java/util/Collection" (some 0) with
  accessFlags := 1537
  interfaces := #[11]
  cf := some (fileOf pool12 10 #[] #[] 1537 60 #[62] #[])
  fields := #[]
  methods := #[]
  instanceTypes := #[]
  staticTypes := #[]
  resolved := Array.replicate 115 none
  statics := none }

def pool13 : Array CpInfo := pool [(1, .methodref 2 3), (0, .class_ 4), (0, .nameAndType 5 6), (0, u "java/lang/Object"), (0, u "<init>"), (0, u "()V"), (1, .class_ 10), (1, u "java/util/AbstractCollection"), (66, .class_ 78), (0, u "java/util/Collection")] 81

def k13c0 : Code := { maxStack := 1, maxLocals := 1, code := jdk_22_method_1_code, exceptionTable := #[], attributes := #[] }
def k13m0 : Method := { name := "<init>", desc := "()V", sig := { parameters := [], returnType := none }, accessFlags := 4, code := some k13c0 }
/-- java/util/AbstractCollection -/
def k13 : Class := { plain "java/util/AbstractCollection" (some 0) with
  accessFlags := 1057
  interfaces := #[12]
  cf := some (fileOf pool13 8 #[] #[{ accessFlags := 4, nameIndex := 5, descriptorIndex := 6, attributes := #[] }] 1057 2 #[77] #[])
  fields := #[]
  methods := #[k13m0]
  instanceTypes := #[]
  staticTypes := #[]
  resolved := Array.replicate 160 none
  statics := none }

def pool14 : Array CpInfo := pool [(8, .class_ 10), (1, u "java/util/SequencedCollection"), (15, .class_ 27), (0, u "java/lang/Object"), (0, .class_ 29), (0, u "java/util/Collection")] 27

/-- java/util/SequencedCollection -/
def k14 : Class := { plain "java/util/SequencedCollection" (some 0) with
  accessFlags := 1537
  interfaces := #[12]
  cf := some (fileOf pool14 8 #[] #[] 1537 26 #[28] #[])
  fields := #[]
  methods := #[]
  instanceTypes := #[]
  staticTypes := #[]
  resolved := Array.replicate 57 none
  statics := none }

def pool15 : Array CpInfo := pool [(8, .class_ 10), (1, u "java/util/List"), (49, u "add"), (3, u "(Ljava/lang/Object;)Z"), (10, u "get"), (0, u "(I)Ljava/lang/Object;"), (2, u "size"), (0, u "()I"), (22, .class_ 104), (0, u "java/lang/Object"), (15, .class_ 121), (0, u "java/util/SequencedCollection")] 129

def k15m0 : Method := { name := "size", desc := "()I", sig := { parameters := [], returnType := some .int }, accessFlags := 1025, code := none }
def k15m1 : Method := { name := "add", desc := "(Ljava/lang/Object;)Z", sig := { parameters := [(.object "java/lang/Object")], returnType := some .boolean }, accessFlags := 1025, code := none }
def k15m2 : Method := { name := "get", desc := "(I)Ljava/lang/Object;", sig := { parameters := [.int], returnType := some (.object "java/lang/Object") }, accessFlags := 1025, code := none }
/-- java/util/List -/
def k15 : Class := { plain "java/util/List" (some 0) with
  accessFlags := 1537
  interfaces := #[14]
  cf := some (fileOf pool15 8 #[] #[{ accessFlags := 1025, nameIndex := 79, descriptorIndex := 80, attributes := #[] }, { accessFlags := 1025, nameIndex := 60, descriptorIndex := 64, attributes := #[] }, { accessFlags := 1025, nameIndex := 75, descriptorIndex := 76, attributes := #[] }] 1537 103 #[120] #[])
  fields := #[]
  methods := #[k15m0, k15m1, k15m2]
  instanceTypes := #[]
  staticTypes := #[]
  resolved := Array.replicate 251 none
  statics := none }

def pool16 : Array CpInfo := pool [(1, .methodref 2 3), (0, .class_ 4), (0, .nameAndType 5 6), (0, u "java/util/AbstractCollection"), (0, u "<init>"), (0, u "()V"), (0, .fieldref 8 9), (0, .class_ 10), (0, .nameAndType 11 12), (0, u "java/util/AbstractList"), (0, u "modCount"), (0, u "I"), (64, .class_ 78), (0, u "java/util/AbstractList$Itr"), (3, .class_ 83), (0, u "java/util/AbstractList$ListItr"), (9, .class_ 94), (0, u "java/util/AbstractList$RandomAccessSubList"), (3, .class_ 99), (0, u "java/util/AbstractList$SubList"), (33, .class_ 134), (0, u "java/util/List"), (73, .class_ 209), (0, u "java/util/AbstractList$SubList$1"), (0, .class_ 211), (0, u "java/util/AbstractList$RandomAccessSpliterator")] 6

def k16c0 : Code := { maxStack := 2, maxLocals := 1, code := jdk_39_method_1_code, exceptionTable := #[], attributes := #[] }
def k16m0 : Method := { name := "<init>", desc := "()V", sig := { parameters := [], returnType := none }, accessFlags := 4, code := some k16c0 }
/-- java/util/AbstractList -/
def k16 : Class := { plain "java/util/AbstractList" (some 13) with
  accessFlags := 1057
  interfaces := #[15]
  cf := some (fileOf pool16 8 #[.nestMembers #[93, 98, 208, 210, 82, 77]] #[{ accessFlags := 4, nameIndex := 5, descriptorIndex := 6, attributes := #[] }] 1057 2 #[133] #[{ accessFlags := 132, nameIndex := 11, descriptorIndex := 12, attributes := #[] }])
  fields := #[{ name := "modCount", type := .int, accessFlags := 132, slot := 0, constantValue := 0 }]
  methods := #[k16m0]
  instanceTypes := #[.int]
  staticTypes := #[]
  resolved := Array.replicate 218 none
  statics := none }

def pool17 : Array CpInfo := pool [(1, .class_ 2), (0, u "java/util/RandomAccess"), (0, .class_ 4), (0, u "java/lang/Object")] 2

/-- java/util/RandomAccess -/
def k17 : Class := { plain "java/util/RandomAccess" (some 0) with
  accessFlags := 1537
  interfaces := #[]
  cf := some (fileOf pool17 1 #[] #[] 1537 3 #[] #[])
  fields := #[]
  methods := #[]
  instanceTypes := #[]
  staticTypes := #[]
  resolved := Array.replicate 7 none
  statics := none }

def pool18 : Array CpInfo := pool [(1, .class_ 2), (0, u "java/lang/Cloneable"), (0, .class_ 4), (0, u "java/lang/Object")] 2

/-- java/lang/Cloneable -/
def k18 : Class := { plain "java/lang/Cloneable" (some 0) with
  accessFlags := 1537
  interfaces := #[]
  cf := some (fileOf pool18 1 #[] #[] 1537 3 #[] #[])
  fields := #[]
  methods := #[]
  instanceTypes := #[]
  staticTypes := #[]
  resolved := Array.replicate 7 none
  statics := none }

def pool19 : Array CpInfo := pool [(1, .methodref 2 3), (0, .class_ 4), (0, .nameAndType 5 6), (0, u "java/util/AbstractList"), (0, u "<init>"), (0, u "()V"), (0, .class_ 8), (0, u "java/lang/Object"), (0, .fieldref 10 11), (0, .class_ 12), (0, .nameAndType 13 14), (0, u "java/util/ArrayList"), (0, u "elementData"), (0, u "[Ljava/lang/Object;"), (2, u "EMPTY_ELEMENTDATA"), (21, .fieldref 10 40), (0, .nameAndType 41 14), (0, u "DEFAULTCAPACITY_EMPTY_ELEMENTDATA"), (5, u "()[Ljava/lang/Object;"), (0, .fieldref 10 49), (0, .nameAndType 50 51), (0, u "size"), (0, u "I"), (11, .fieldref 10 64), (0, .nameAndType 65 51), (0, u "modCount"), (3, .methodref 10 70), (0, .nameAndType 71 72), (0, u "grow"), (0, u "(I)[Ljava/lang/Object;"), (6, .methodref 80 81), (0, .class_ 82), (0, .nameAndType 83 84), (0, u "java/lang/Math"), (0, u "max"), (0, u "(II)I"), (11, u "(Ljava/lang/Object;)Z"), (21, .methodref 119 120), (0, .class_ 121), (0, .nameAndType 122 84), (0, u "java/util/Objects"), (0, u "checkIndex"), (0, .methodref 10 124), (0, .nameAndType 13 125), (0, u "(I)Ljava/lang/Object;"), (3, .methodref 10 130), (0, .nameAndType 71 47), (0, .methodref 10 132), (0, .nameAndType 133 134), (0, u "add"), (0, u "(Ljava/lang/Object;[Ljava/lang/Object;I)V"), (13, .class_ 149), (0, u "java/util/List"), (36, u "()I"), (75, .class_ 263), (0, u "java/util/ArrayList$ListItr"), (3, .class_ 268), (0, u "java/util/ArrayList$Itr"), (7, .class_ 277), (0, u "java/util/ArrayList$SubList"), (12, .class_ 291), (0, u "java/util/ArrayList$ArrayListSpliterator"), (37, .class_ 330), (0, u "java/util/RandomAccess"), (0, .class_ 332), (0, u "java/lang/Cloneable"), (0, .class_ 334), (0, u "java/io/Serializable"), (0, u "serialVersionUID"), (0, u "J"), (3, u "DEFAULT_CAPACITY"), (40, u "get"), (118, .class_ 501), (0, u "java/util/ArrayList$SubList$2"), (0, .class_ 503), (0, u "java/util/ArrayList$SubList$1")] 5

def k19c0 : Code := { maxStack := 2, maxLocals := 1, code := jdk_38_method_2_code, exceptionTable := #[], attributes := #[] }
def k19m0 : Method := { name := "<init>", desc := "()V", sig := { parameters := [], returnType := none }, accessFlags := 1, code := some k19c0 }
def k19c1 : Code := { maxStack := 4, maxLocals := 4, code := jdk_38_method_6_code, exceptionTable := #[], attributes := #[] }
def k19m1 : Method := { name := "grow", desc := "(I)[Ljava/lang/Object;", sig := { parameters := [.int], returnType := some (.array (.object "java/lang/Object")) }, accessFlags := 2, code := some k19c1 }
def k19c2 : Code := { maxStack := 3, maxLocals := 1, code := jdk_38_method_7_code, exceptionTable := #[], attributes := #[] }
def k19m2 : Method := { name := "grow", desc := "()[Ljava/lang/Object;", sig := { parameters := [], returnType := some (.array (.object "java/lang/Object")) }, accessFlags := 2, code := some k19c2 }
def k19c3 : Code := { maxStack := 1, maxLocals := 1, code := jdk_38_method_8_code, exceptionTable := #[], attributes := #[] }
def k19m3 : Method := { name := "size", desc := "()I", sig := { parameters := [], returnType := some .int }, accessFlags := 1, code := some k19c3 }
def k19c4 : Code := { maxStack := 2, maxLocals := 2, code := jdk_38_method_18_code, exceptionTable := #[], attributes := #[] }
def k19m4 : Method := { name := "elementData", desc := "(I)Ljava/lang/Object;", sig := { parameters := [.int], returnType := some (.object "java/lang/Object") }, accessFlags := 0, code := some k19c4 }
def k19c5 : Code := { maxStack := 2, maxLocals := 2, code := jdk_38_method_20_code, exceptionTable := #[], attributes := #[] }
def k19m5 : Method := { name := "get", desc := "(I)Ljava/lang/Object;", sig := { parameters := [.int], returnType := some (.object "java/lang/Object") }, accessFlags := 1, code := some k19c5 }
def k19c6 : Code := { maxStack := 3, maxLocals := 4, code := jdk_38_method_24_code, exceptionTable := #[], attributes := #[] }
def k19m6 : Method := { name := "add", desc := "(Ljava/lang/Object;[Ljava/lang/Object;I)V", sig := { parameters := [(.object "java/lang/Object"), (.array (.object "java/lang/Object")), .int], returnType := none }, accessFlags := 2, code := some k19c6 }
def k19c7 : Code := { maxStack := 4, maxLocals := 2, code := jdk_38_method_25_code, exceptionTable := #[], attributes := #[] }
def k19m7 : Method := { name := "add", desc := "(Ljava/lang/Object;)Z", sig := { parameters := [(.object "java/lang/Object")], returnType := some .boolean }, accessFlags := 1, code := some k19c7 }
/-- java/util/ArrayList -/
def k19 : Class := { plain "java/util/ArrayList" (some 16) with
  accessFlags := 33
  interfaces := #[15, 17, 18, 2]
  cf := some (fileOf pool19 10 #[.nestMembers #[290, 276, 500, 502, 262, 267]] #[{ accessFlags := 1, nameIndex := 5, descriptorIndex := 6, attributes := #[] }, { accessFlags := 2, nameIndex := 71, descriptorIndex := 72, attributes := #[] }, { accessFlags := 2, nameIndex := 71, descriptorIndex := 47, attributes := #[] }, { accessFlags := 1, nameIndex := 50, descriptorIndex := 186, attributes := #[] }, { accessFlags := 0, nameIndex := 13, descriptorIndex := 125, attributes := #[] }, { accessFlags := 1, nameIndex := 381, descriptorIndex := 125, attributes := #[] }, { accessFlags := 2, nameIndex := 133, descriptorIndex := 134, attributes := #[] }, { accessFlags := 1, nameIndex := 133, descriptorIndex := 96, attributes := #[] }] 33 2 #[148, 329, 331, 333] #[{ accessFlags := 26, nameIndex := 335, descriptorIndex := 336, attributes := #[] }, { accessFlags := 26, nameIndex := 340, descriptorIndex := 51, attributes := #[] }, { accessFlags := 26, nameIndex := 17, descriptorIndex := 14, attributes := #[] }, { accessFlags := 26, nameIndex := 41, descriptorIndex := 14, attributes := #[] }, { accessFlags := 128, nameIndex := 13, descriptorIndex := 14, attributes := #[] }, { accessFlags := 2, nameIndex := 50, descriptorIndex := 51, attributes := #[] }])
  fields := #[{ name := "serialVersionUID", type := .long, accessFlags := 26, slot := 0, constantValue := 0 }, { name := "DEFAULT_CAPACITY", type := .int, accessFlags := 26, slot := 1, constantValue := 0 }, { name := "EMPTY_ELEMENTDATA", type := (.array (.object "java/lang/Object")), accessFlags := 26, slot := 2, constantValue := 0 }, { name := "DEFAULTCAPACITY_EMPTY_ELEMENTDATA", type := (.array (.object "java/lang/Object")), accessFlags := 26, slot := 3, constantValue := 0 }, { name := "elementData", type := (.array (.object "java/lang/Object")), accessFlags := 128, slot := 1, constantValue := 0 }, { name := "size", type := .int, accessFlags := 2, slot := 2, constantValue := 0 }]
  methods := #[k19m0, k19m1, k19m2, k19m3, k19m4, k19m5, k19m6, k19m7]
  instanceTypes := #[.int, (.array (.object "java/lang/Object")), .int]
  staticTypes := #[.long, .int, (.array (.object "java/lang/Object")), (.array (.object "java/lang/Object"))]
  resolved := Array.replicate 509 none
  statics := some 1 }

def pool20 : Array CpInfo := pool [(1, .methodref 2 3), (0, .class_ 4), (0, .nameAndType 5 6), (0, u "java/lang/Record"), (0, u "<init>"), (0, u "()V"), (0, .fieldref 8 9), (0, .class_ 10), (0, .nameAndType 11 12), (0, u "com/example/handl/handl/cli/Arguments$Syntax"), (0, u "options"), (0, u "Ljava/util/List;"), (0, .fieldref 8 14), (0, .nameAndType 15 16), (0, u "operands"), (0, u "Z"), (6, .methodref 8 24), (0, .nameAndType 5 25), (0, u "(Ljava/util/List;Z)V"), (39, .class_ 67), (1, u "com/example/handl/handl/cli/Arguments"), (40, u "()Z"), (44, u "withOperands"), (0, u "()Lcom/example/handl/handl/cli/Arguments$Syntax;"), (6, u "()Ljava/util/List;")] 49

def k20c0 : Code := { maxStack := 2, maxLocals := 3, code := prog_20_method_1_code, exceptionTable := #[], attributes := #[] }
def k20m0 : Method := { name := "<init>", desc := "(Ljava/util/List;Z)V", sig := { parameters := [(.object "java/util/List"), .boolean], returnType := none }, accessFlags := 0, code := some k20c0 }
def k20c1 : Code := { maxStack := 4, maxLocals := 1, code := prog_20_method_3_code, exceptionTable := #[], attributes := #[] }
def k20m1 : Method := { name := "withOperands", desc := "()Lcom/example/handl/handl/cli/Arguments$Syntax;", sig := { parameters := [], returnType := some (.object "com/example/handl/handl/cli/Arguments$Syntax") }, accessFlags := 0, code := some k20c1 }
def k20c2 : Code := { maxStack := 1, maxLocals := 1, code := prog_20_method_11_code, exceptionTable := #[], attributes := #[] }
def k20m2 : Method := { name := "options", desc := "()Ljava/util/List;", sig := { parameters := [], returnType := some (.object "java/util/List") }, accessFlags := 1, code := some k20c2 }
def k20c3 : Code := { maxStack := 1, maxLocals := 1, code := prog_20_method_12_code, exceptionTable := #[], attributes := #[] }
def k20m3 : Method := { name := "operands", desc := "()Z", sig := { parameters := [], returnType := some .boolean }, accessFlags := 1, code := some k20c3 }
/-- com/example/handl/handl/cli/Arguments$Syntax -/
def k20 : Class := { plain "com/example/handl/handl/cli/Arguments$Syntax" (some 9) with
  accessFlags := 48
  interfaces := #[]
  cf := some (fileOf pool20 8 #[.nestHost 65] #[{ accessFlags := 0, nameIndex := 5, descriptorIndex := 25, attributes := #[] }, { accessFlags := 0, nameIndex := 153, descriptorIndex := 154, attributes := #[] }, { accessFlags := 1, nameIndex := 11, descriptorIndex := 161, attributes := #[] }, { accessFlags := 1, nameIndex := 15, descriptorIndex := 108, attributes := #[] }] 48 2 #[] #[{ accessFlags := 18, nameIndex := 11, descriptorIndex := 12, attributes := #[] }, { accessFlags := 18, nameIndex := 15, descriptorIndex := 16, attributes := #[] }])
  fields := #[{ name := "options", type := (.object "java/util/List"), accessFlags := 18, slot := 0, constantValue := 0 }, { name := "operands", type := .boolean, accessFlags := 18, slot := 1, constantValue := 0 }]
  methods := #[k20m0, k20m1, k20m2, k20m3]
  instanceTypes := #[(.object "java/util/List"), .boolean]
  staticTypes := #[]
  resolved := Array.replicate 211 none
  statics := none }

def pool21 : Array CpInfo := pool [(1, .class_ 2), (0, u "java/lang/Math"), (1, .class_ 6), (1, u "java/lang/Object"), (0, u "<init>"), (0, u "()V"), (89, .class_ 100), (1, u "java/lang/Math$RandomNumberGeneratorHolder"), (71, u "negativeZeroFloatBits"), (0, u "J"), (2, u "negativeZeroDoubleBits"), (21, u "max"), (46, u "$assertionsDisabled"), (0, u "Z"), (88, u "(II)I"), (2, u "twoToTheDoubleScaleDown"), (0, u "D"), (4, u "twoToTheDoubleScaleUp"), (9, u "E"), (3, u "PI"), (2, u "TAU"), (2, u "DEGREES_TO_RADIANS"), (0, u "RADIANS_TO_DEGREES")] 94

def k21m0 : Method := { name := "<init>", desc := "()V", sig := { parameters := [], returnType := none }, accessFlags := 2, code := none }
def k21c1 : Code := { maxStack := 2, maxLocals := 2, code := jdk_29_method_65_code, exceptionTable := #[], attributes := #[] }
def k21m1 : Method := { name := "max", desc := "(II)I", sig := { parameters := [.int, .int], returnType := some .int }, accessFlags := 9, code := some k21c1 }
/-- java/lang/Math -/
def k21 : Class := { plain "java/lang/Math" (some 0) with
  accessFlags := 49
  interfaces := #[]
  cf := some (fileOf pool21 1 #[.nestMembers #[98]] #[{ accessFlags := 2, nameIndex := 7, descriptorIndex := 8, attributes := #[] }, { accessFlags := 9, nameIndex := 198, descriptorIndex := 335, attributes := #[] }] 49 4 #[] #[{ accessFlags := 25, nameIndex := 354, descriptorIndex := 339, attributes := #[] }, { accessFlags := 25, nameIndex := 358, descriptorIndex := 339, attributes := #[] }, { accessFlags := 25, nameIndex := 361, descriptorIndex := 339, attributes := #[] }, { accessFlags := 26, nameIndex := 364, descriptorIndex := 339, attributes := #[] }, { accessFlags := 26, nameIndex := 365, descriptorIndex := 339, attributes := #[] }, { accessFlags := 26, nameIndex := 172, descriptorIndex := 173, attributes := #[] }, { accessFlags := 26, nameIndex := 176, descriptorIndex := 173, attributes := #[] }, { accessFlags := 8, nameIndex := 344, descriptorIndex := 339, attributes := #[] }, { accessFlags := 8, nameIndex := 338, descriptorIndex := 339, attributes := #[] }, { accessFlags := 4120, nameIndex := 245, descriptorIndex := 246, attributes := #[] }])
  fields := #[{ name := "E", type := .double, accessFlags := 25, slot := 0, constantValue := 0 }, { name := "PI", type := .double, accessFlags := 25, slot := 1, constantValue := 0 }, { name := "TAU", type := .double, accessFlags := 25, slot := 2, constantValue := 0 }, { name := "DEGREES_TO_RADIANS", type := .double, accessFlags := 26, slot := 3, constantValue := 0 }, { name := "RADIANS_TO_DEGREES", type := .double, accessFlags := 26, slot := 4, constantValue := 0 }, { name := "negativeZeroFloatBits", type := .long, accessFlags := 26, slot := 5, constantValue := 0 }, { name := "negativeZeroDoubleBits", type := .long, accessFlags := 26, slot := 6, constantValue := 0 }, { name := "twoToTheDoubleScaleUp", type := .double, accessFlags := 8, slot := 7, constantValue := 0 }, { name := "twoToTheDoubleScaleDown", type := .double, accessFlags := 8, slot := 8, constantValue := 0 }, { name := "$assertionsDisabled", type := .boolean, accessFlags := 4120, slot := 9, constantValue := 0 }]
  methods := #[k21m0, k21m1]
  instanceTypes := #[]
  staticTypes := #[.double, .double, .double, .double, .double, .long, .long, .double, .double, .boolean]
  resolved := Array.replicate 460 none
  statics := none }

def pool22 : Array CpInfo := pool [(2, .class_ 4), (1, u "java/lang/Object"), (0, u "<init>"), (0, u "()V"), (35, .class_ 44), (1, u "java/util/Objects"), (60, .methodref 106 107), (0, .class_ 108), (0, .nameAndType 109 110), (0, u "jdk/internal/util/Preconditions"), (0, u "checkIndex"), (0, u "(IILjava/util/function/BiFunction;)I"), (60, u "(II)I")] 12

def k22m0 : Method := { name := "<init>", desc := "()V", sig := { parameters := [], returnType := none }, accessFlags := 2, code := none }
def k22c1 : Code := { maxStack := 3, maxLocals := 2, code := jdk_31_method_17_code, exceptionTable := #[], attributes := #[] }
def k22m1 : Method := { name := "checkIndex", desc := "(II)I", sig := { parameters := [.int, .int], returnType := some .int }, accessFlags := 9, code := some k22c1 }
/-- java/util/Objects -/
def k22 : Class := { plain "java/util/Objects" (some 0) with
  accessFlags := 49
  interfaces := #[]
  cf := some (fileOf pool22 42 #[] #[{ accessFlags := 2, nameIndex := 5, descriptorIndex := 6, attributes := #[] }, { accessFlags := 9, nameIndex := 109, descriptorIndex := 171, attributes := #[] }] 49 2 #[] #[])
  fields := #[]
  methods := #[k22m0, k22m1]
  instanceTypes := #[]
  staticTypes := #[]
  resolved := Array.replicate 184 none
  statics := none }

def pool23 : Array CpInfo := pool [(2, .class_ 4), (1, u "java/lang/Object"), (0, u "<init>"), (0, u "()V"), (17, .class_ 26), (1, u "jdk/internal/util/Preconditions"), (6, u "checkIndex"), (21, .class_ 56), (0, u "jdk/internal/util/Preconditions$4"), (57, .class_ 115), (0, u "jdk/internal/util/Preconditions$1"), (7, u "SIOOBE_FORMATTER"), (0, u "Ljava/util/function/BiFunction;"), (0, .class_ 126), (0, u "jdk/internal/util/Preconditions$2"), (3, u "AIOOBE_FORMATTER"), (0, .class_ 132), (0, u "jdk/internal/util/Preconditions$3"), (3, u "IOOBE_FORMATTER"), (41, u "(IILjava/util/function/BiFunction;)I")] 15

def k23m0 : Method := { name := "<init>", desc := "()V", sig := { parameters := [], returnType := none }, accessFlags := 1, code := none }
def k23c1 : Code := { maxStack := 3, maxLocals := 3, code := jdk_41_method_11_code, exceptionTable := #[], attributes := #[] }
def k23m1 : Method := { name := "checkIndex", desc := "(IILjava/util/function/BiFunction;)I", sig := { parameters := [.int, .int, (.object "java/util/function/BiFunction")], returnType := some .int }, accessFlags := 9, code := some k23c1 }
/-- jdk/internal/util/Preconditions -/
def k23 : Class := { plain "jdk/internal/util/Preconditions" (some 0) with
  accessFlags := 33
  interfaces := #[]
  cf := some (fileOf pool23 24 #[.nestMembers #[55, 131, 125, 114]] #[{ accessFlags := 1, nameIndex := 5, descriptorIndex := 6, attributes := #[] }, { accessFlags := 9, nameIndex := 33, descriptorIndex := 178, attributes := #[] }] 33 2 #[] #[{ accessFlags := 25, nameIndex := 123, descriptorIndex := 124, attributes := #[] }, { accessFlags := 25, nameIndex := 130, descriptorIndex := 124, attributes := #[] }, { accessFlags := 25, nameIndex := 136, descriptorIndex := 124, attributes := #[] }])
  fields := #[{ name := "SIOOBE_FORMATTER", type := (.object "java/util/function/BiFunction"), accessFlags := 25, slot := 0, constantValue := 0 }, { name := "AIOOBE_FORMATTER", type := (.object "java/util/function/BiFunction"), accessFlags := 25, slot := 1, constantValue := 0 }, { name := "IOOBE_FORMATTER", type := (.object "java/util/function/BiFunction"), accessFlags := 25, slot := 2, constantValue := 0 }]
  methods := #[k23m0, k23m1]
  instanceTypes := #[]
  staticTypes := #[(.object "java/util/function/BiFunction"), (.object "java/util/function/BiFunction"), (.object "java/util/function/BiFunction")]
  resolved := Array.replicate 194 none
  statics := some 2 }

def pool24 : Array CpInfo := pool [(4, .class_ 6), (1, u "java/lang/Object"), (0, u "<init>"), (0, u "()V"), (5, .class_ 16), (1, u "java/lang/StringLatin1"), (104, u "$assertionsDisabled"), (0, u "Z"), (98, .class_ 223), (1, u "java/lang/StringLatin1$LinesSpliterator"), (166, .class_ 391), (0, u "java/lang/StringLatin1$CharsSpliterator")] 3

def k24m0 : Method := { name := "<init>", desc := "()V", sig := { parameters := [], returnType := none }, accessFlags := 0, code := none }
/-- java/lang/StringLatin1 -/
def k24 : Class := { plain "java/lang/StringLatin1" (some 0) with
  accessFlags := 48
  interfaces := #[]
  cf := some (fileOf pool24 14 #[.nestMembers #[390, 221]] #[{ accessFlags := 0, nameIndex := 7, descriptorIndex := 8, attributes := #[] }] 48 4 #[] #[{ accessFlags := 4120, nameIndex := 121, descriptorIndex := 122, attributes := #[] }])
  fields := #[{ name := "$assertionsDisabled", type := .boolean, accessFlags := 4120, slot := 0, constantValue := 0 }]
  methods := #[k24m0]
  instanceTypes := #[]
  staticTypes := #[.boolean]
  resolved := Array.replicate 395 none
  statics := none }

def pool25 : Array CpInfo := pool [(9, u "<init>"), (6, .class_ 18), (1, u "java/lang/Object"), (0, u "()V"), (1, .class_ 23), (1, u "jdk/internal/util/ArraysSupport"), (0, u "LOG2_ARRAY_LONG_INDEX_SCALE"), (0, u "I"), (2, u "U"), (0, u "Ljdk/internal/misc/Unsafe;"), (8, u "BIG_ENDIAN"), (0, u "Z"), (8, u "LOG2_BYTE_BIT_SIZE"), (4, u "LOG2_ARRAY_INT_INDEX_SCALE"), (54, u "JLA"), (0, u "Ljdk/internal/access/JavaLangAccess;"), (11, u "LOG2_ARRAY_BOOLEAN_INDEX_SCALE"), (9, u "LOG2_ARRAY_BYTE_INDEX_SCALE"), (5, u "LOG2_ARRAY_CHAR_INDEX_SCALE"), (5, u "LOG2_ARRAY_SHORT_INDEX_SCALE"), (18, u "LOG2_ARRAY_FLOAT_INDEX_SCALE"), (24, u "LOG2_ARRAY_DOUBLE_INDEX_SCALE"), (89, u "T_BOOLEAN"), (2, u "T_CHAR"), (1, u "T_FLOAT"), (1, u "T_DOUBLE"), (1, u "T_BYTE"), (1, u "T_SHORT"), (1, u "T_INT"), (1, u "T_LONG"), (1, u "SOFT_MAX_ARRAY_LENGTH")] 83

def k25m0 : Method := { name := "<init>", desc := "()V", sig := { parameters := [], returnType := none }, accessFlags := 2, code := none }
/-- jdk/internal/util/ArraysSupport -/
def k25 : Class := { plain "jdk/internal/util/ArraysSupport" (some 0) with
  accessFlags := 33
  interfaces := #[]
  cf := some (fileOf pool25 21 #[] #[{ accessFlags := 2, nameIndex := 9, descriptorIndex := 19, attributes := #[] }] 33 16 #[] #[{ accessFlags := 24, nameIndex := 28, descriptorIndex := 29, attributes := #[] }, { accessFlags := 26, nameIndex := 38, descriptorIndex := 39, attributes := #[] }, { accessFlags := 25, nameIndex := 121, descriptorIndex := 25, attributes := #[] }, { accessFlags := 25, nameIndex := 131, descriptorIndex := 25, attributes := #[] }, { accessFlags := 25, nameIndex := 137, descriptorIndex := 25, attributes := #[] }, { accessFlags := 25, nameIndex := 143, descriptorIndex := 25, attributes := #[] }, { accessFlags := 25, nameIndex := 53, descriptorIndex := 25, attributes := #[] }, { accessFlags := 25, nameIndex := 24, descriptorIndex := 25, attributes := #[] }, { accessFlags := 25, nameIndex := 162, descriptorIndex := 25, attributes := #[] }, { accessFlags := 25, nameIndex := 187, descriptorIndex := 25, attributes := #[] }, { accessFlags := 26, nameIndex := 48, descriptorIndex := 25, attributes := #[] }, { accessFlags := 25, nameIndex := 277, descriptorIndex := 25, attributes := #[] }, { accessFlags := 25, nameIndex := 280, descriptorIndex := 25, attributes := #[] }, { accessFlags := 25, nameIndex := 282, descriptorIndex := 25, attributes := #[] }, { accessFlags := 25, nameIndex := 284, descriptorIndex := 25, attributes := #[] }, { accessFlags := 25, nameIndex := 286, descriptorIndex := 25, attributes := #[] }, { accessFlags := 25, nameIndex := 288, descriptorIndex := 25, attributes := #[] }, { accessFlags := 25, nameIndex := 290, descriptorIndex := 25, attributes := #[] }, { accessFlags := 25, nameIndex := 292, descriptorIndex := 25, attributes := #[] }, { accessFlags := 26, nameIndex := 108, descriptorIndex := 109, attributes := #[] }, { accessFlags := 25, nameIndex := 294, descriptorIndex := 25, attributes := #[] }])
  fields := #[{ name := "U", type := (.object "jdk/internal/misc/Unsafe"), accessFlags := 24, slot := 0, constantValue := 0 }, { name := "BIG_ENDIAN", type := .boolean, accessFlags := 26, slot := 1, constantValue := 0 }, { name := "LOG2_ARRAY_BOOLEAN_INDEX_SCALE", type := .int, accessFlags := 25, slot := 2, constantValue := 0 }, { name := "LOG2_ARRAY_BYTE_INDEX_SCALE", type := .int, accessFlags := 25, slot := 3, constantValue := 0 }, { name := "LOG2_ARRAY_CHAR_INDEX_SCALE", type := .int, accessFlags := 25, slot := 4, constantValue := 0 }, { name := "LOG2_ARRAY_SHORT_INDEX_SCALE", type := .int, accessFlags := 25, slot := 5, constantValue := 0 }, { name := "LOG2_ARRAY_INT_INDEX_SCALE", type := .int, accessFlags := 25, slot := 6, constantValue := 0 }, { name := "LOG2_ARRAY_LONG_INDEX_SCALE", type := .int, accessFlags := 25, slot := 7, constantValue := 0 }, { name := "LOG2_ARRAY_FLOAT_INDEX_SCALE", type := .int, accessFlags := 25, slot := 8, constantValue := 0 }, { name := "LOG2_ARRAY_DOUBLE_INDEX_SCALE", type := .int, accessFlags := 25, slot := 9, constantValue := 0 }, { name := "LOG2_BYTE_BIT_SIZE", type := .int, accessFlags := 26, slot := 10, constantValue := 0 }, { name := "T_BOOLEAN", type := .int, accessFlags := 25, slot := 11, constantValue := 0 }, { name := "T_CHAR", type := .int, accessFlags := 25, slot := 12, constantValue := 0 }, { name := "T_FLOAT", type := .int, accessFlags := 25, slot := 13, constantValue := 0 }, { name := "T_DOUBLE", type := .int, accessFlags := 25, slot := 14, constantValue := 0 }, { name := "T_BYTE", type := .int, accessFlags := 25, slot := 15, constantValue := 0 }, { name := "T_SHORT", type := .int, accessFlags := 25, slot := 16, constantValue := 0 }, { name := "T_INT", type := .int, accessFlags := 25, slot := 17, constantValue := 0 }, { name := "T_LONG", type := .int, accessFlags := 25, slot := 18, constantValue := 0 }, { name := "JLA", type := (.object "jdk/internal/access/JavaLangAccess"), accessFlags := 26, slot := 19, constantValue := 0 }, { name := "SOFT_MAX_ARRAY_LENGTH", type := .int, accessFlags := 25, slot := 20, constantValue := 0 }]
  methods := #[k25m0]
  instanceTypes := #[]
  staticTypes := #[(.object "jdk/internal/misc/Unsafe"), .boolean, .int, .int, .int, .int, .int, .int, .int, .int, .int, .int, .int, .int, .int, .int, .int, .int, .int, (.object "jdk/internal/access/JavaLangAccess"), .int]
  resolved := Array.replicate 378 none
  statics := none }

/-- the primitive byte -/
def k26 : Class := { plain "byte" none with kind := .primitive 'B', accessFlags := 0x411 }
/-- [B -/
def k27 : Class := { plain "[B" (some 0) with kind := .array 26 .byte, interfaces := #[18, 2], accessFlags := 1041 }

/-- the primitive char -/
def k28 : Class := { plain "char" none with kind := .primitive 'C', accessFlags := 0x411 }
/-- [C -/
def k29 : Class := { plain "[C" (some 0) with kind := .array 28 .char, interfaces := #[18, 2], accessFlags := 1041 }

/-- the primitive int -/
def k30 : Class := { plain "int" none with kind := .primitive 'I', accessFlags := 0x411 }
/-- [I -/
def k31 : Class := { plain "[I" (some 0) with kind := .array 30 .int, interfaces := #[18, 2], accessFlags := 1041 }

/-- [Ljava/lang/Object; -/
def k32 : Class := { plain "[Ljava/lang/Object;" (some 0) with kind := .array 0 (.object "java/lang/Object"), interfaces := #[18, 2], accessFlags := 1041 }

def heap : Heap := #[{ cls := 7, slots := #[.long 0, .int 1, .null, .int 0, .null, .int 0, .int 0], vm := .statics 7 },
  { cls := 19, slots := #[.long 0, .int 0, .ref 3, .ref 4], vm := .statics 19 },
  { cls := 23, slots := #[.null, .null, .null], vm := .statics 23 },
  { cls := 32, slots := #[], vm := .none },
  { cls := 32, slots := #[], vm := .none }]
def classes : Array Class := #[k0, k1, k2, k3, k4, k5, k6, k7, k8, k9, k10, k11, k12, k13, k14, k15, k16, k17, k18, k19, k20, k21, k22, k23, k24, k25, k26, k27, k28, k29, k30, k31, k32]
def interned : List (Array UInt16 × Addr) := []
def slotsUsed : Nat := 14
def theMethod : MethodId := ⟨1, 1⟩
def args0 : Array Value := #[.int 5, .int 5, .int 5]
def aboutOver (below : List Frame) : State where
  vm := { classes := classes, interned := interned.toArray }
  heap := heap
  slotsUsed := slotsUsed
  threads := #[{ frames := .invoking theMethod args0 :: below }]
def below0 : List Frame := [.native { method := ⟨0, 0⟩, args := #[] }]
def about1 : State := aboutOver below0
def p0 : Program := .bare "" "" ""
def e0 : Env := launch0.env 0 0 0
theorem w_frames : about1.frames = Frame.invoking theMethod args0 :: below0 := rfl
set_option maxRecDepth 65536 in
theorem w_args : argsFit about1.vm theMethod args0 = true := by decide +kernel
set_option maxRecDepth 65536 in
theorem w_heap : heapFits about1 = true := by decide +kernel
set_option maxRecDepth 65536 in
theorem w_runnable : about1.curStatus? = some .runnable := by decide +kernel
set_option maxRecDepth 65536 in
theorem w_alone : about1.alone = true := by decide +kernel
set_option maxRecDepth 65536 in
theorem w_named : about1.methodNamed? x = some theMethod := by decide +kernel
set_option maxRecDepth 65536 in
theorem w_hears : about1.hears theMethod below0 = true := by decide +kernel
set_option maxRecDepth 65536 in
theorem w_ripe : about1.ripe theMethod args0 below0 = true := by decide +kernel
theorem w_running : about1.status = .running := rfl
set_option maxRecDepth 65536 in
theorem w_room : about1.hasRoom e0.platform room_1 = true :=
  launch0.hasRoom_least _ room_1 (by decide +kernel) (by decide +kernel) (by decide +kernel) (by decide +kernel) (by decide +kernel) (by decide +kernel)
theorem allAtoms_all (ts : List Jvm.Cond) (a : Array Jvm.Value) (st : Jvm.State) : (allAtoms ts).before a st = ts.all (fun c => c.before a st) := by
  induction ts with
  | nil => rfl
  | cons c t ih =>
    show (Jvm.Cond.and c (allAtoms t)).before a st = _
    rw [Jvm.Cond.before_and, ih, List.all_cons]
def words1 : List Jvm.Cond := Jvm.Cond.code x code maxLocals ret :: tables_1
/-- a 'code' word, met by the world's own term for the bytes: nothing is compared byte by byte -/
theorem code_word {y : MethodName} {bytes : ByteArray} {mx : Nat} {rt : Option FieldType} {a : Array Value} {s : State} {m : MethodId} {meth : Method} {c : Code} (h1 : s.methodNamed? y = some m) (h2 : s.vm.method? m = some meth) (h3 : meth.code = some c) (h4 : c.code = bytes)
    (h5 : (c.maxLocals == mx && c.exceptionTable.isEmpty && decide (c.maxStack ≤ mostOperands) && decide (meth.sig.returnType = rt) && !meth.locks && decide (parseMethodDescriptor y.desc = some meth.sig)) = true) : (Jvm.Cond.code y bytes mx rt).before a s = true := by
  simp only [Bool.and_eq_true, beq_iff_eq, Bool.not_eq_true', decide_eq_true_eq] at h5
  obtain ⟨⟨⟨⟨⟨g1, g2⟩, g3⟩, g4⟩, g5⟩, g6⟩ := h5
  simp [Cond.before, Cond.holds, Cond.value, h1, h2, h3, h4, g1, g2, g3, g4, g5, g6]
def isCode : Jvm.Cond → Bool
  | .code _ _ _ _ => true
  | _ => false
theorem all_split {L : List Jvm.Cond} {P : Jvm.Cond → Bool} (h1 : L.all (fun c => isCode c || P c) = true) (h2 : ∀ c ∈ L.filter isCode, P c = true) : L.all P = true := by
  refine List.all_eq_true.mpr fun c hc => ?_
  have h := List.all_eq_true.mp h1 c hc
  rcases Bool.eq_false_or_eq_true (isCode c) with hi | hi
  · exact h2 c (List.mem_filter.mpr ⟨hc, hi⟩)
  · simpa [hi] using h
set_option maxRecDepth 65536 in
theorem w_c0 : (Jvm.Cond.code x code maxLocals ret).before args0 about1 = true := code_word (m := ⟨1, 1⟩) (meth := k1m1) (c := k1c1) (by decide +kernel) rfl rfl rfl (by decide +kernel)
set_option maxRecDepth 65536 in
theorem w_c1 : (Jvm.Cond.code ({ cls := "java/lang/String", name := "<init>", desc := "([C)V" } : Jvm.MethodName) jdk_42_method_3_code (2 : Nat) (Option.none : Option Jvm.ClassFile.FieldType)).before args0 about1 = true := code_word (m := ⟨7, 1⟩) (meth := k7m1) (c := k7c1) (by decide +kernel) rfl rfl rfl (by decide +kernel)
set_option maxRecDepth 65536 in
theorem w_c2 : (Jvm.Cond.code ({ cls := "java/lang/String", name := "<init>", desc := "([CIILjava/lang/Void;)V" } : Jvm.MethodName) jdk_42_method_149_code (6 : Nat) (Option.none : Option Jvm.ClassFile.FieldType)).before args0 about1 = true := code_word (m := ⟨7, 2⟩) (meth := k7m2) (c := k7c2) (by decide +kernel) rfl rfl rfl (by decide +kernel)
set_option maxRecDepth 65536 in
theorem w_c3 : (Jvm.Cond.code ({ cls := "java/lang/Object", name := "<init>", desc := "()V" } : Jvm.MethodName) object_method_1_code (1 : Nat) (Option.none : Option Jvm.ClassFile.FieldType)).before args0 about1 = true := code_word (m := ⟨0, 0⟩) (meth := k0m0) (c := k0c0) (by decide +kernel) rfl rfl rfl (by decide +kernel)
set_option maxRecDepth 65536 in
theorem w_c4 : (Jvm.Cond.code ({ cls := "java/lang/StringUTF16", name := "compress", desc := "([CII)[B" } : Jvm.MethodName) jdk_52_method_16_code (6 : Nat) (Option.some (Jvm.ClassFile.FieldType.array Jvm.ClassFile.FieldType.byte))).before args0 about1 = true := code_word (m := ⟨8, 2⟩) (meth := k8m2) (c := k8c2) (by decide +kernel) rfl rfl rfl (by decide +kernel)
set_option maxRecDepth 65536 in
theorem w_c5 : (Jvm.Cond.code ({ cls := "java/lang/StringUTF16", name := "compress", desc := "([CI[BII)I" } : Jvm.MethodName) jdk_52_method_21_code (7 : Nat) (Option.some Jvm.ClassFile.FieldType.int)).before args0 about1 = true := code_word (m := ⟨8, 3⟩) (meth := k8m3) (c := k8c3) (by decide +kernel) rfl rfl rfl (by decide +kernel)
set_option maxRecDepth 65536 in
theorem w_c6 : (Jvm.Cond.code ({ cls := "java/lang/StringUTF16", name := "coderFromArrayLen", desc := "([BI)B" } : Jvm.MethodName) jdk_52_method_15_code (2 : Nat) (Option.some Jvm.ClassFile.FieldType.byte)).before args0 about1 = true := code_word (m := ⟨8, 1⟩) (meth := k8m1) (c := k8c1) (by decide +kernel) rfl rfl rfl (by decide +kernel)
set_option maxRecDepth 65536 in
theorem w_c7 : (Jvm.Cond.code ({ cls := "com/example/handl/handl/cli/Arguments$Option", name := "<init>", desc := "(Ljava/lang/String;Ljava/lang/String;ZZ)V" } : Jvm.MethodName) prog_19_method_1_code (5 : Nat) (Option.none : Option Jvm.ClassFile.FieldType)).before args0 about1 = true := code_word (m := ⟨10, 0⟩) (meth := k10m0) (c := k10c0) (by decide +kernel) rfl rfl rfl (by decide +kernel)
set_option maxRecDepth 65536 in
theorem w_c8 : (Jvm.Cond.code ({ cls := "java/lang/Record", name := "<init>", desc := "()V" } : Jvm.MethodName) jdk_30_method_1_code (1 : Nat) (Option.none : Option Jvm.ClassFile.FieldType)).before args0 about1 = true := code_word (m := ⟨9, 0⟩) (meth := k9m0) (c := k9c0) (by decide +kernel) rfl rfl rfl (by decide +kernel)
set_option maxRecDepth 65536 in
theorem w_c9 : (Jvm.Cond.code ({ cls := "java/util/ArrayList", name := "<init>", desc := "()V" } : Jvm.MethodName) jdk_38_method_2_code (1 : Nat) (Option.none : Option Jvm.ClassFile.FieldType)).before args0 about1 = true := code_word (m := ⟨19, 0⟩) (meth := k19m0) (c := k19c0) (by decide +kernel) rfl rfl rfl (by decide +kernel)
set_option maxRecDepth 65536 in
theorem w_c10 : (Jvm.Cond.code ({ cls := "java/util/AbstractList", name := "<init>", desc := "()V" } : Jvm.MethodName) jdk_39_method_1_code (1 : Nat) (Option.none : Option Jvm.ClassFile.FieldType)).before args0 about1 = true := code_word (m := ⟨16, 0⟩) (meth := k16m0) (c := k16c0) (by decide +kernel) rfl rfl rfl (by decide +kernel)
set_option maxRecDepth 65536 in
theorem w_c11 : (Jvm.Cond.code ({ cls := "java/util/AbstractCollection", name := "<init>", desc := "()V" } : Jvm.MethodName) jdk_22_method_1_code (1 : Nat) (Option.none : Option Jvm.ClassFile.FieldType)).before args0 about1 = true := code_word (m := ⟨13, 0⟩) (meth := k13m0) (c := k13c0) (by decide +kernel) rfl rfl rfl (by decide +kernel)
set_option maxRecDepth 65536 in
theorem w_c12 : (Jvm.Cond.code ({ cls := "com/example/handl/handl/cli/Arguments$Syntax", name := "<init>", desc := "(Ljava/util/List;Z)V" } : Jvm.MethodName) prog_20_method_1_code (3 : Nat) (Option.none : Option Jvm.ClassFile.FieldType)).before args0 about1 = true := code_word (m := ⟨20, 0⟩) (meth := k20m0) (c := k20c0) (by decide +kernel) rfl rfl rfl (by decide +kernel)
set_option maxRecDepth 65536 in
theorem w_c13 : (Jvm.Cond.code ({ cls := "com/example/handl/handl/cli/Arguments$Syntax", name := "withOperands", desc := "()Lcom/example/handl/handl/cli/Arguments$Syntax;" } : Jvm.MethodName) prog_20_method_3_code (1 : Nat) (Option.some (Jvm.ClassFile.FieldType.object "com/example/handl/handl/cli/Arguments$Syntax"))).before args0 about1 = true := code_word (m := ⟨20, 1⟩) (meth := k20m1) (c := k20c1) (by decide +kernel) rfl rfl rfl (by decide +kernel)
set_option maxRecDepth 65536 in
theorem w_c14 : (Jvm.Cond.code ({ cls := "com/example/handl/handl/cli/Arguments$Syntax", name := "options", desc := "()Ljava/util/List;" } : Jvm.MethodName) prog_20_method_11_code (1 : Nat) (Option.some (Jvm.ClassFile.FieldType.object "java/util/List"))).before args0 about1 = true := code_word (m := ⟨20, 2⟩) (meth := k20m2) (c := k20c2) (by decide +kernel) rfl rfl rfl (by decide +kernel)
set_option maxRecDepth 65536 in
theorem w_c15 : (Jvm.Cond.code ({ cls := "com/example/handl/handl/cli/Arguments$Syntax", name := "operands", desc := "()Z" } : Jvm.MethodName) prog_20_method_12_code (1 : Nat) (Option.some Jvm.ClassFile.FieldType.boolean)).before args0 about1 = true := code_word (m := ⟨20, 3⟩) (meth := k20m3) (c := k20c3) (by decide +kernel) rfl rfl rfl (by decide +kernel)
set_option maxRecDepth 65536 in
theorem w_c16 : (Jvm.Cond.code ({ cls := "java/util/ArrayList", name := "size", desc := "()I" } : Jvm.MethodName) jdk_38_method_8_code (1 : Nat) (Option.some Jvm.ClassFile.FieldType.int)).before args0 about1 = true := code_word (m := ⟨19, 3⟩) (meth := k19m3) (c := k19c3) (by decide +kernel) rfl rfl rfl (by decide +kernel)
set_option maxRecDepth 65536 in
theorem w_c17 : (Jvm.Cond.code ({ cls := "java/util/ArrayList", name := "add", desc := "(Ljava/lang/Object;)Z" } : Jvm.MethodName) jdk_38_method_25_code (2 : Nat) (Option.some Jvm.ClassFile.FieldType.boolean)).before args0 about1 = true := code_word (m := ⟨19, 7⟩) (meth := k19m7) (c := k19c7) (by decide +kernel) rfl rfl rfl (by decide +kernel)
set_option maxRecDepth 65536 in
theorem w_c18 : (Jvm.Cond.code ({ cls := "java/util/ArrayList", name := "add", desc := "(Ljava/lang/Object;[Ljava/lang/Object;I)V" } : Jvm.MethodName) jdk_38_method_24_code (4 : Nat) (Option.none : Option Jvm.ClassFile.FieldType)).before args0 about1 = true := code_word (m := ⟨19, 6⟩) (meth := k19m6) (c := k19c6) (by decide +kernel) rfl rfl rfl (by decide +kernel)
set_option maxRecDepth 65536 in
theorem w_c19 : (Jvm.Cond.code ({ cls := "java/util/ArrayList", name := "grow", desc := "()[Ljava/lang/Object;" } : Jvm.MethodName) jdk_38_method_7_code (1 : Nat) (Option.some (Jvm.ClassFile.FieldType.array (Jvm.ClassFile.FieldType.object "java/lang/Object")))).before args0 about1 = true := code_word (m := ⟨19, 2⟩) (meth := k19m2) (c := k19c2) (by decide +kernel) rfl rfl rfl (by decide +kernel)
set_option maxRecDepth 65536 in
theorem w_c20 : (Jvm.Cond.code ({ cls := "java/util/ArrayList", name := "grow", desc := "(I)[Ljava/lang/Object;" } : Jvm.MethodName) jdk_38_method_6_code (4 : Nat) (Option.some (Jvm.ClassFile.FieldType.array (Jvm.ClassFile.FieldType.object "java/lang/Object")))).before args0 about1 = true := code_word (m := ⟨19, 1⟩) (meth := k19m1) (c := k19c1) (by decide +kernel) rfl rfl rfl (by decide +kernel)
set_option maxRecDepth 65536 in
theorem w_c21 : (Jvm.Cond.code ({ cls := "java/lang/Math", name := "max", desc := "(II)I" } : Jvm.MethodName) jdk_29_method_65_code (2 : Nat) (Option.some Jvm.ClassFile.FieldType.int)).before args0 about1 = true := code_word (m := ⟨21, 1⟩) (meth := k21m1) (c := k21c1) (by decide +kernel) rfl rfl rfl (by decide +kernel)
set_option maxRecDepth 65536 in
theorem w_c22 : (Jvm.Cond.code ({ cls := "java/util/ArrayList", name := "get", desc := "(I)Ljava/lang/Object;" } : Jvm.MethodName) jdk_38_method_20_code (2 : Nat) (Option.some (Jvm.ClassFile.FieldType.object "java/lang/Object"))).before args0 about1 = true := code_word (m := ⟨19, 5⟩) (meth := k19m5) (c := k19c5) (by decide +kernel) rfl rfl rfl (by decide +kernel)
set_option maxRecDepth 65536 in
theorem w_c23 : (Jvm.Cond.code ({ cls := "java/util/Objects", name := "checkIndex", desc := "(II)I" } : Jvm.MethodName) jdk_31_method_17_code (2 : Nat) (Option.some Jvm.ClassFile.FieldType.int)).before args0 about1 = true := code_word (m := ⟨22, 1⟩) (meth := k22m1) (c := k22c1) (by decide +kernel) rfl rfl rfl (by decide +kernel)
set_option maxRecDepth 65536 in
theorem w_c24 : (Jvm.Cond.code ({ cls := "jdk/internal/util/Preconditions", name := "checkIndex", desc := "(IILjava/util/function/BiFunction;)I" } : Jvm.MethodName) jdk_41_method_11_code (3 : Nat) (Option.some Jvm.ClassFile.FieldType.int)).before args0 about1 = true := code_word (m := ⟨23, 1⟩) (meth := k23m1) (c := k23c1) (by decide +kernel) rfl rfl rfl (by decide +kernel)
set_option maxRecDepth 65536 in
theorem w_c25 : (Jvm.Cond.code ({ cls := "java/util/ArrayList", name := "elementData", desc := "(I)Ljava/lang/Object;" } : Jvm.MethodName) jdk_38_method_18_code (2 : Nat) (Option.some (Jvm.ClassFile.FieldType.object "java/lang/Object"))).before args0 about1 = true := code_word (m := ⟨19, 4⟩) (meth := k19m4) (c := k19c4) (by decide +kernel) rfl rfl rfl (by decide +kernel)
def codes1 : List Jvm.Cond := [Jvm.Cond.code x code maxLocals ret, Jvm.Cond.code ({ cls := "java/lang/String", name := "<init>", desc := "([C)V" } : Jvm.MethodName) jdk_42_method_3_code (2 : Nat) (Option.none : Option Jvm.ClassFile.FieldType), Jvm.Cond.code ({ cls := "java/lang/String", name := "<init>", desc := "([CIILjava/lang/Void;)V" } : Jvm.MethodName) jdk_42_method_149_code (6 : Nat) (Option.none : Option Jvm.ClassFile.FieldType), Jvm.Cond.code ({ cls := "java/lang/Object", name := "<init>", desc := "()V" } : Jvm.MethodName) object_method_1_code (1 : Nat) (Option.none : Option Jvm.ClassFile.FieldType), Jvm.Cond.code ({ cls := "java/lang/StringUTF16", name := "compress", desc := "([CII)[B" } : Jvm.MethodName) jdk_52_method_16_code (6 : Nat) (Option.some (Jvm.ClassFile.FieldType.array Jvm.ClassFile.FieldType.byte)), Jvm.Cond.code ({ cls := "java/lang/StringUTF16", name := "compress", desc := "([CI[BII)I" } : Jvm.MethodName) jdk_52_method_21_code (7 : Nat) (Option.some Jvm.ClassFile.FieldType.int), Jvm.Cond.code ({ cls := "java/lang/StringUTF16", name := "coderFromArrayLen", desc := "([BI)B" } : Jvm.MethodName) jdk_52_method_15_code (2 : Nat) (Option.some Jvm.ClassFile.FieldType.byte), Jvm.Cond.code ({ cls := "com/example/handl/handl/cli/Arguments$Option", name := "<init>", desc := "(Ljava/lang/String;Ljava/lang/String;ZZ)V" } : Jvm.MethodName) prog_19_method_1_code (5 : Nat) (Option.none : Option Jvm.ClassFile.FieldType), Jvm.Cond.code ({ cls := "java/lang/Record", name := "<init>", desc := "()V" } : Jvm.MethodName) jdk_30_method_1_code (1 : Nat) (Option.none : Option Jvm.ClassFile.FieldType), Jvm.Cond.code ({ cls := "java/util/ArrayList", name := "<init>", desc := "()V" } : Jvm.MethodName) jdk_38_method_2_code (1 : Nat) (Option.none : Option Jvm.ClassFile.FieldType), Jvm.Cond.code ({ cls := "java/util/AbstractList", name := "<init>", desc := "()V" } : Jvm.MethodName) jdk_39_method_1_code (1 : Nat) (Option.none : Option Jvm.ClassFile.FieldType), Jvm.Cond.code ({ cls := "java/util/AbstractCollection", name := "<init>", desc := "()V" } : Jvm.MethodName) jdk_22_method_1_code (1 : Nat) (Option.none : Option Jvm.ClassFile.FieldType), Jvm.Cond.code ({ cls := "com/example/handl/handl/cli/Arguments$Syntax", name := "<init>", desc := "(Ljava/util/List;Z)V" } : Jvm.MethodName) prog_20_method_1_code (3 : Nat) (Option.none : Option Jvm.ClassFile.FieldType), Jvm.Cond.code ({ cls := "com/example/handl/handl/cli/Arguments$Syntax", name := "withOperands", desc := "()Lcom/example/handl/handl/cli/Arguments$Syntax;" } : Jvm.MethodName) prog_20_method_3_code (1 : Nat) (Option.some (Jvm.ClassFile.FieldType.object "com/example/handl/handl/cli/Arguments$Syntax")), Jvm.Cond.code ({ cls := "com/example/handl/handl/cli/Arguments$Syntax", name := "options", desc := "()Ljava/util/List;" } : Jvm.MethodName) prog_20_method_11_code (1 : Nat) (Option.some (Jvm.ClassFile.FieldType.object "java/util/List")), Jvm.Cond.code ({ cls := "com/example/handl/handl/cli/Arguments$Syntax", name := "operands", desc := "()Z" } : Jvm.MethodName) prog_20_method_12_code (1 : Nat) (Option.some Jvm.ClassFile.FieldType.boolean), Jvm.Cond.code ({ cls := "java/util/ArrayList", name := "size", desc := "()I" } : Jvm.MethodName) jdk_38_method_8_code (1 : Nat) (Option.some Jvm.ClassFile.FieldType.int), Jvm.Cond.code ({ cls := "java/util/ArrayList", name := "add", desc := "(Ljava/lang/Object;)Z" } : Jvm.MethodName) jdk_38_method_25_code (2 : Nat) (Option.some Jvm.ClassFile.FieldType.boolean), Jvm.Cond.code ({ cls := "java/util/ArrayList", name := "add", desc := "(Ljava/lang/Object;[Ljava/lang/Object;I)V" } : Jvm.MethodName) jdk_38_method_24_code (4 : Nat) (Option.none : Option Jvm.ClassFile.FieldType), Jvm.Cond.code ({ cls := "java/util/ArrayList", name := "grow", desc := "()[Ljava/lang/Object;" } : Jvm.MethodName) jdk_38_method_7_code (1 : Nat) (Option.some (Jvm.ClassFile.FieldType.array (Jvm.ClassFile.FieldType.object "java/lang/Object"))), Jvm.Cond.code ({ cls := "java/util/ArrayList", name := "grow", desc := "(I)[Ljava/lang/Object;" } : Jvm.MethodName) jdk_38_method_6_code (4 : Nat) (Option.some (Jvm.ClassFile.FieldType.array (Jvm.ClassFile.FieldType.object "java/lang/Object"))), Jvm.Cond.code ({ cls := "java/lang/Math", name := "max", desc := "(II)I" } : Jvm.MethodName) jdk_29_method_65_code (2 : Nat) (Option.some Jvm.ClassFile.FieldType.int), Jvm.Cond.code ({ cls := "java/util/ArrayList", name := "get", desc := "(I)Ljava/lang/Object;" } : Jvm.MethodName) jdk_38_method_20_code (2 : Nat) (Option.some (Jvm.ClassFile.FieldType.object "java/lang/Object")), Jvm.Cond.code ({ cls := "java/util/Objects", name := "checkIndex", desc := "(II)I" } : Jvm.MethodName) jdk_31_method_17_code (2 : Nat) (Option.some Jvm.ClassFile.FieldType.int), Jvm.Cond.code ({ cls := "jdk/internal/util/Preconditions", name := "checkIndex", desc := "(IILjava/util/function/BiFunction;)I" } : Jvm.MethodName) jdk_41_method_11_code (3 : Nat) (Option.some Jvm.ClassFile.FieldType.int), Jvm.Cond.code ({ cls := "java/util/ArrayList", name := "elementData", desc := "(I)Ljava/lang/Object;" } : Jvm.MethodName) jdk_38_method_18_code (2 : Nat) (Option.some (Jvm.ClassFile.FieldType.object "java/lang/Object"))]
set_option maxRecDepth 65536 in
theorem codes_eq : words1.filter isCode = codes1 := rfl
theorem w_codes : ∀ c ∈ words1.filter isCode, c.before args0 about1 = true := by
  rw [codes_eq]
  intro c hc
  simp only [codes1, List.mem_cons, List.not_mem_nil, or_false] at hc
  rcases hc with rfl | rfl | rfl | rfl | rfl | rfl | rfl | rfl | rfl | rfl | rfl | rfl | rfl | rfl | rfl | rfl | rfl | rfl | rfl | rfl | rfl | rfl | rfl | rfl | rfl | rfl
  · exact w_c0
  · exact w_c1
  · exact w_c2
  · exact w_c3
  · exact w_c4
  · exact w_c5
  · exact w_c6
  · exact w_c7
  · exact w_c8
  · exact w_c9
  · exact w_c10
  · exact w_c11
  · exact w_c12
  · exact w_c13
  · exact w_c14
  · exact w_c15
  · exact w_c16
  · exact w_c17
  · exact w_c18
  · exact w_c19
  · exact w_c20
  · exact w_c21
  · exact w_c22
  · exact w_c23
  · exact w_c24
  · exact w_c25
set_option maxRecDepth 65536 in
theorem w_t1 : (words1.take 24).all (fun c => isCode c || c.before args0 about1) = true := by decide +kernel
set_option maxRecDepth 65536 in
theorem w_t2 : ((words1.drop 24).take 24).all (fun c => isCode c || c.before args0 about1) = true := by decide +kernel
set_option maxRecDepth 65536 in
theorem w_t3 : (((words1.drop 24).drop 24).take 24).all (fun c => isCode c || c.before args0 about1) = true := by decide +kernel
set_option maxRecDepth 65536 in
theorem w_t4 : ((((words1.drop 24).drop 24).drop 24).take 24).all (fun c => isCode c || c.before args0 about1) = true := by decide +kernel
set_option maxRecDepth 65536 in
theorem w_t5 : (((((words1.drop 24).drop 24).drop 24).drop 24).take 24).all (fun c => isCode c || c.before args0 about1) = true := by decide +kernel
set_option maxRecDepth 65536 in
theorem w_t6 : ((((((words1.drop 24).drop 24).drop 24).drop 24).drop 24).take 24).all (fun c => isCode c || c.before args0 about1) = true := by decide +kernel
set_option maxRecDepth 65536 in
theorem w_t7 : (((((((words1.drop 24).drop 24).drop 24).drop 24).drop 24).drop 24).take 24).all (fun c => isCode c || c.before args0 about1) = true := by decide +kernel
set_option maxRecDepth 65536 in
theorem w_t8 : (((((((words1.drop 24).drop 24).drop 24).drop 24).drop 24).drop 24).drop 24).all (fun c => isCode c || c.before args0 about1) = true := by decide +kernel
theorem w_tables : (allAtoms (Jvm.Cond.code x code maxLocals ret :: tables_1)).before args0 about1 = true := by
  rw [allAtoms_all]
  show words1.all (fun c => c.before args0 about1) = true
  refine all_split ?_ w_codes
  rw [← List.take_append_drop 24 words1, List.all_append, w_t1, ← List.take_append_drop 24 (words1.drop 24), List.all_append, w_t2, ← List.take_append_drop 24 ((words1.drop 24).drop 24), List.all_append, w_t3, ← List.take_append_drop 24 (((words1.drop 24).drop 24).drop 24), List.all_append, w_t4, ← List.take_append_drop 24 ((((words1.drop 24).drop 24).drop 24).drop 24), List.all_append, w_t5, ← List.take_append_drop 24 (((((words1.drop 24).drop 24).drop 24).drop 24).drop 24), List.all_append, w_t6, ← List.take_append_drop 24 ((((((words1.drop 24).drop 24).drop 24).drop 24).drop 24).drop 24), List.all_append, w_t7, w_t8]
  rfl
set_option maxRecDepth 65536 in
theorem w_rest : rest_1_c.before args0 about1 = true := by decide +kernel
set_option maxRecDepth 65536 in
theorem w_case : (Jvm.Cond.and given_1 narrow_1).before args0 about1 = true := by decide +kernel
theorem w_applies : (headSpec (Jvm.Cond.code x code maxLocals ret :: tables_1) room_1).applies x e0.platform about1 = true :=
  (Spec.applies_iff w_frames).mpr ⟨w_running, w_runnable, w_alone, w_named, w_hears, w_ripe, w_room, w_tables⟩
theorem atStart : AtStart classFile x code maxLocals ret World_1 tables_1 room_1 Calls_1 rest_1 Pre_1 launch0 p0 e0 about1 theMethod args0 below0 :=
  ⟨lists_1, trivial, launch0.admits_env _ _ _, launch0.least_env, fairChoices_fair.cas, fairChoices_fair.clock, w_frames, w_args, w_heap, w_applies, trivial, w_rest, w_case⟩
end start1
theorem witness_1 : WitnessClaimed_1 := ⟨start1.p0, start1.e0, start1.about1, start1.theMethod, start1.args0, start1.below0, start1.atStart⟩
end Jvm.Pilot.@@N@@
