import JvmDerived
import JvmDerived.Pilot.@@N@@Statement
import JvmDerived.Pilot.@@N@@Code
set_option linter.unusedVariables false
set_option linter.unusedSimpArgs false
/- laws to paste: Road.backV (cut by pick.py; bodies as the Statement names them) -/
namespace Jvm.Pilot.@@N@@
namespace StrChars
open Jvm Sem ClassFile Op Lib Jvm.Stand Jvm.Free.XT Jvm.Free.ALB Jvm.Free.JM Jvm.Free
open Jvm.Lib.Cold (StaticIs)
/-- a char array whose places are chars -/
def Ch (a : Addr) (A : Cell) (U : State) : Prop := Arr .char a A U ∧ Typed .char A
theorem Ch.mv {a : Addr} {A : Cell} {U U' : State} (h : Ch a A U) (hal : U.vm.Alike U'.vm) (hh : U'.heap = U.heap) : Ch a A U' := ⟨h.1.mv hal hh, h.2⟩
theorem Ch.keep {a : Addr} {A : Cell} {U U' : State} (h : Ch a A U) (hal : U.vm.Alike U'.vm) (hk : U'.heap[a]? = some A) : Ch a A U' := ⟨h.1.keep hal hk, h.2⟩
/-- what place i of a char[]'s cell holds -/
def cv (A : Cell) (i : Nat) : Int32 := match A.slots[i]? with | some (.int x) => x | _ => 0
theorem Ch.get {a : Addr} {A : Cell} {U : State} (h : Ch a A U) {i : Nat} (hi : i < A.slots.size) : A.slots[i]? = some (.int (cv A i)) := by
  have e := Array.getElem?_eq_getElem hi
  have f := h.2 i _ e
  unfold cv; rw [e]
  generalize A.slots[i] = v at f
  cases v <;> simp [fits] at f ⊢
/-- the byte that i2b leaves of a char -/
def lo8 (x : Int32) : Int32 := x.toInt8.toInt32
theorem fits_lo8 (y : Int32) : fits .byte (.int (lo8 y)) = true := by
  have h1 := y.toInt8.le_toInt
  have h2 := y.toInt8.toInt_lt
  simp only [lo8, fits, Bool.and_eq_true, decide_eq_true_eq, Int32.le_iff_toInt_le, Int8.toInt_toInt32, show (-128 : Int32).toInt = -128 from by decide, show (127 : Int32).toInt = 127 from by decide]
  omega
/-- A' is A but that each place j of lo .. hi - 1 holds f j -/
def Laid (A A' : Cell) (lo hi : Nat) (f : Nat → Value) : Prop := A'.cls = A.cls ∧ A'.vm = A.vm ∧ A'.slots.size = A.slots.size ∧ ∀ i, A'.slots[i]? = if lo ≤ i ∧ i < hi then some (f i) else A.slots[i]?
theorem Laid.zero (A : Cell) (lo : Nat) (f : Nat → Value) : Laid A A lo (lo + 0) f := ⟨rfl, rfl, rfl, fun i => by rw [if_neg (by omega)]⟩
theorem Laid.step {A Ak : Cell} {lo k : Nat} {f : Nat → Value} {v : Value} (h : Laid A Ak lo k f) (hlo : lo ≤ k) (hk : k < Ak.slots.size) (hv : v = f k) : Laid A (Ak.setSlot k v) lo (k + 1) f := by
  refine ⟨h.1, h.2.1, by simpa [Cell.setSlot] using h.2.2.1, fun i => ?_⟩
  by_cases e : k = i
  · subst e; rw [Cell.slots_setSlot_self v hk, if_pos (by omega), hv]
  · rw [Cell.slots_setSlot_ne v e, h.2.2.2 i]
    by_cases q : lo ≤ i ∧ i < k
    · rw [if_pos q, if_pos (by omega)]
    · rw [if_neg q, if_neg (by omega)]
def U16 : String := "java/lang/StringUTF16"
namespace Cmp5
def yN : MethodName := ⟨"java/lang/StringUTF16", "compress", "([CI[BII)I"⟩
abbrev yB : ByteArray := jdk_52_method_21_code
theorem d0 : decode yB 0 = .ok (.iconst 0, 1) := by decide +kernel
theorem d1 : decode yB 1 = .ok (.istore 5, 2) := by decide +kernel
theorem d3 : decode yB 3 = .ok (.iload 5, 2) := by decide +kernel
theorem d5 : decode yB 5 = .ok (.iload 4, 2) := by decide +kernel
theorem d7 : decode yB 7 = .ok (.if_icmp (.ge) 37, 3) := by decide +kernel
theorem d10 : decode yB 10 = .ok (.aload_n 0, 1) := by decide +kernel
theorem d11 : decode yB 11 = .ok (.iload_n 1, 1) := by decide +kernel
theorem d12 : decode yB 12 = .ok (.caload, 1) := by decide +kernel
theorem d13 : decode yB 13 = .ok (.istore 6, 2) := by decide +kernel
theorem d15 : decode yB 15 = .ok (.iload 6, 2) := by decide +kernel
theorem d17 : decode yB 17 = .ok (.sipush 255, 3) := by decide +kernel
theorem d20 : decode yB 20 = .ok (.if_icmp (.le) 6, 3) := by decide +kernel
theorem d26 : decode yB 26 = .ok (.aload_n 2, 1) := by decide +kernel
theorem d27 : decode yB 27 = .ok (.iload_n 3, 1) := by decide +kernel
theorem d28 : decode yB 28 = .ok (.iload 6, 2) := by decide +kernel
theorem d30 : decode yB 30 = .ok (.i2b, 1) := by decide +kernel
theorem d31 : decode yB 31 = .ok (.bastore, 1) := by decide +kernel
theorem d32 : decode yB 32 = .ok (.iinc 1 1, 3) := by decide +kernel
theorem d35 : decode yB 35 = .ok (.iinc 3 1, 3) := by decide +kernel
theorem d38 : decode yB 38 = .ok (.iinc 5 1, 3) := by decide +kernel
theorem d41 : decode yB 41 = .ok (.goto (-38), 3) := by decide +kernel
theorem d44 : decode yB 44 = .ok (.iload 4, 2) := by decide +kernel
theorem d46 : decode yB 46 = .ok (.ireturn, 1) := by decide +kernel
def site : List Cond := []
def tab : Cond := tabOf yN yB 7 (some .int) site
def P (b : Addr) (A : Cell) (d : Addr) (B : Cell) (o q len : Nat) (args : Array Value) (s : State) : Prop := args = #[.ref b, .int (Int32.ofNat o), .ref d, .int (Int32.ofNat q), .int (Int32.ofNat len)] ∧ Ch b A s ∧ Arr .byte d B s ∧ b ≠ d ∧ o + len ≤ A.slots.size ∧ q + len ≤ B.slots.size ∧ ∀ i, i < len → ¬ 255 < cv A (o + i)
def E (b : Addr) (A : Cell) (d : Addr) (B : Cell) (o q len : Nat) (r : Option Value) (s u : State) : Prop := r = some (.int (Int32.ofNat len)) ∧ ∃ B', Put d B' s u ∧ Laid B B' q (q + len) (fun j => Value.int (lo8 (cv A (o + (j - q)))))
/-- no char of the range above 255: len; the places written hold each char's low byte -/
theorem law (l : Launch) (b : Addr) (A : Cell) (d : Addr) (B : Cell) (o q len : Nat) : Law l yN 5 5 0 0 yB 7 (some .int) site (P b A d B o q len) (E b A d B o q len) (copyLocs d q len) 0 0 := by
  refine Law.of_walk (plainFor_of_name (by decide +kernel)) (by decide +kernel) (by decide +kernel) (by decide) (fun _ _ h => by rw [h.1]; rfl) (fun _ U U' hal hh h => ⟨h.1, h.2.1.mv hal hh, h.2.2.1.mv hal hh, h.2.2.2⟩) (fun r U U' V V' h1 hal h2 h => ⟨h.1, h.2.elim fun B' q => ⟨B', q.1.mv h1 h2, q.2⟩⟩) ?_
  intro p e s m args below meth c s₁ X0 hexec hbytes hml hret hlk hnm hown hh0 W hP
  obtain ⟨rfl, hA, hB, hne, l1, l2, hp⟩ := hP
  have c1 : Steps p.tables e below (s₁.setTop (entryFrame m #[.ref b, .int (Int32.ofNat o), .ref d, .int (Int32.ofNat q), .int (Int32.ofNat len)] 7)) (s₁.setTop (mkF m 0 #[.val (.ref b), .val (.int (Int32.ofNat o)), .val (.ref d), .val (.int (Int32.ofNat q)), .val (.int (Int32.ofNat len)), .unset, .unset] [])) := entry rfl
  have hA0 := hA.1.mv X0.warmed.alike hh0
  have hB0 := hB.mv X0.warmed.alike hh0
  have a31 := hA.1.2.2.2
  have c2 : Steps p.tables e below (s₁.setTop (entryFrame m #[.ref b, .int (Int32.ofNat o), .ref d, .int (Int32.ofNat q), .int (Int32.ofNat len)] 7)) (s₁.setTop (mkF m 3 #[.val (.ref b), .val (.int (Int32.ofNat o)), .val (.ref d), .val (.int (Int32.ofNat q)), .val (.int (Int32.ofNat len)), .val (.int 0), .unset] [])) := c1.trans (by
    refine iconstV X0.here hexec rfl 0 (hb hbytes d0) (by decide) ?_
    refine XS.istore X0.here hexec rfl (hb hbytes d1) rfl rfl ?_
    exact Steps.refl _)
  have loop : ∀ (r i : Nat), i + r = len → ∀ (z : Slot), (z = .unset ∨ ∃ w, z = .val w ∧ w.category = 1) → ∀ (Tl : State) (Bk : Cell), Stand p l e { frames := 0, locals := 0, cells := 0, slots := 0 } s m #[.ref b, .int (Int32.ofNat o), .ref d, .int (Int32.ofNat q), .int (Int32.ofNat len)] below meth c Tl ([] ++ copyLocs d q i) 0 0 → Put d Bk s₁ Tl → Laid B Bk q (q + i) (fun j => Value.int (lo8 (cv A (o + (j - q))))) →
      Steps p.tables e below (s₁.setTop (entryFrame m #[.ref b, .int (Int32.ofNat o), .ref d, .int (Int32.ofNat q), .int (Int32.ofNat len)] 7)) (Tl.setTop (mkF m 3 #[.val (.ref b), .val (.int (Int32.ofNat (o + i))), .val (.ref d), .val (.int (Int32.ofNat (q + i))), .val (.int (Int32.ofNat len)), .val (.int (Int32.ofNat i)), z] [])) → ∃ (T' : State) (B' : Cell) (z' : Slot), Stand p l e { frames := 0, locals := 0, cells := 0, slots := 0 } s m #[.ref b, .int (Int32.ofNat o), .ref d, .int (Int32.ofNat q), .int (Int32.ofNat len)] below meth c T' ([] ++ copyLocs d q len) 0 0 ∧ Put d B' s₁ T' ∧ Laid B B' q (q + len) (fun j => Value.int (lo8 (cv A (o + (j - q))))) ∧
      Steps p.tables e below (s₁.setTop (entryFrame m #[.ref b, .int (Int32.ofNat o), .ref d, .int (Int32.ofNat q), .int (Int32.ofNat len)] 7)) (T'.setTop (mkF m 3 #[.val (.ref b), .val (.int (Int32.ofNat (o + len))), .val (.ref d), .val (.int (Int32.ofNat (q + len))), .val (.int (Int32.ofNat len)), .val (.int (Int32.ofNat len)), z'] [])) := by
    intro r
    induction r with
    | zero =>
      intro i hi z hz Tl Bk Xl pl fl cl
      have hil : i = len := by omega
      rw [hil] at Xl fl cl
      exact ⟨Tl, Bk, z, Xl, pl, fl, cl⟩
    | succ r ih =>
      intro i hi z hz Tl Bk Xl pl fl cl
      have all := X0.warmed.alike.symm.trans Xl.warmed.alike
      have hAl := hA0.keep all (pl.other hne hA0.1)
      have hBk := hB0.like all pl.1 fl.1 fl.2.1 fl.2.2.1
      have hlt : q + i < Bk.slots.size := by rw [fl.2.2.1]; omega
      have c3 : Steps p.tables e below (s₁.setTop (entryFrame m #[.ref b, .int (Int32.ofNat o), .ref d, .int (Int32.ofNat q), .int (Int32.ofNat len)] 7)) (Tl.setTop (mkF m 12 #[.val (.ref b), .val (.int (Int32.ofNat (o + i))), .val (.ref d), .val (.int (Int32.ofNat (q + i))), .val (.int (Int32.ofNat len)), .val (.int (Int32.ofNat i)), z] [.int (Int32.ofNat (o + i)), .ref b])) := cl.trans (by
        refine XS.iload Xl.here hexec rfl (hb hbytes d3) rfl ?_
        refine XS.iload Xl.here hexec rfl (hb hbytes d5) rfl ?_
        refine XS.icmpNo Xl.here hexec rfl (hb hbytes d7) rfl (ii_ge_f (lt32 (by omega) (by omega))) ?_
        refine XS.aloadN Xl.here hexec rfl (hb hbytes d10) rfl rfl ?_
        refine XS.iloadN Xl.here hexec rfl (hb hbytes d11) rfl ?_
        exact Steps.refl _)
      have c4 : Steps p.tables e below (s₁.setTop (entryFrame m #[.ref b, .int (Int32.ofNat o), .ref d, .int (Int32.ofNat q), .int (Int32.ofNat len)] 7)) (Tl.setTop (mkF m 13 #[.val (.ref b), .val (.int (Int32.ofNat (o + i))), .val (.ref d), .val (.int (Int32.ofNat (q + i))), .val (.int (Int32.ofNat len)), .val (.int (Int32.ofNat i)), z] [.int (cv A (o + i))])) := c3.trans (by
        refine Xl.aget hexec hAl rfl (hA.get (i := o + i) (by omega)) rfl rfl (hb hbytes d12) ?_
        exact Steps.refl _)
      have c5 : Steps p.tables e below (s₁.setTop (entryFrame m #[.ref b, .int (Int32.ofNat o), .ref d, .int (Int32.ofNat q), .int (Int32.ofNat len)] 7)) (Tl.setTop (mkF m 15 #[.val (.ref b), .val (.int (Int32.ofNat (o + i))), .val (.ref d), .val (.int (Int32.ofNat (q + i))), .val (.int (Int32.ofNat len)), .val (.int (Int32.ofNat i)), .val (.int (cv A (o + i)))] [])) := c4.trans (by
        refine XS.istoreS Xl.here hexec rfl (hb hbytes d13) rfl rfl hz ?_
        exact Steps.refl _)
      have c6 : Steps p.tables e below (s₁.setTop (entryFrame m #[.ref b, .int (Int32.ofNat o), .ref d, .int (Int32.ofNat q), .int (Int32.ofNat len)] 7)) (Tl.setTop (mkF m 31 #[.val (.ref b), .val (.int (Int32.ofNat (o + i))), .val (.ref d), .val (.int (Int32.ofNat (q + i))), .val (.int (Int32.ofNat len)), .val (.int (Int32.ofNat i)), .val (.int (cv A (o + i)))] [.int (lo8 (cv A (o + i))), .int (Int32.ofNat (q + i)), .ref d])) := c5.trans (by
        refine XS.iload Xl.here hexec rfl (hb hbytes d15) rfl ?_
        refine sipushV Xl.here hexec rfl 255 (hb hbytes d17) (by decide) ?_
        refine XS.icmpYes Xl.here hexec rfl (pc0 := 20) rfl (hb hbytes d20) rfl (ii_le_t (hp i (by omega))) (by decide) rfl ?_
        refine XS.aloadN Xl.here hexec rfl (hb hbytes d26) rfl rfl ?_
        refine XS.iloadN Xl.here hexec rfl (hb hbytes d27) rfl ?_
        refine XS.iload Xl.here hexec rfl (hb hbytes d28) rfl ?_
        refine i2b Xl.here hexec rfl (hb hbytes d30) rfl ?_
        exact Steps.refl _)
      obtain ⟨T7, X7, p7, st7⟩ := Xl.aput hexec hBk rfl hlt rfl (fits_lo8 (cv A (o + i))) (g := (mkF m 31 #[.val (.ref b), .val (.int (Int32.ofNat (o + i))), .val (.ref d), .val (.int (Int32.ofNat (q + i))), .val (.int (Int32.ofNat len)), .val (.int (Int32.ofNat i)), .val (.int (cv A (o + i)))] [.int (lo8 (cv A (o + i))), .int (Int32.ofNat (q + i)), .ref d])) rfl (rest := []) rfl (hb hbytes d31)
      have c8 : Steps p.tables e below (s₁.setTop (entryFrame m #[.ref b, .int (Int32.ofNat o), .ref d, .int (Int32.ofNat q), .int (Int32.ofNat len)] 7)) (T7.setTop (mkF m 32 #[.val (.ref b), .val (.int (Int32.ofNat (o + i))), .val (.ref d), .val (.int (Int32.ofNat (q + i))), .val (.int (Int32.ofNat len)), .val (.int (Int32.ofNat i)), .val (.int (cv A (o + i)))] [])) := c6.trans (st7 _ (Steps.refl _))
      have c9 : Steps p.tables e below (s₁.setTop (entryFrame m #[.ref b, .int (Int32.ofNat o), .ref d, .int (Int32.ofNat q), .int (Int32.ofNat len)] 7)) (T7.setTop (mkF m 3 #[.val (.ref b), .val (.int (Int32.ofNat (o + i) + 1)), .val (.ref d), .val (.int (Int32.ofNat (q + i) + 1)), .val (.int (Int32.ofNat len)), .val (.int (Int32.ofNat i + 1)), .val (.int (cv A (o + i)))] [])) := c8.trans (by
        refine iincV X7.here hexec rfl 1 (hb hbytes d32) (by decide) rfl rfl ?_
        refine iincV X7.here hexec rfl 1 (hb hbytes d35) (by decide) rfl rfl ?_
        refine iincV X7.here hexec rfl 1 (hb hbytes d38) (by decide) rfl rfl ?_
        refine XS.goto X7.here hexec rfl (pc0 := 41) rfl (hb hbytes d41) (by decide) rfl ?_
        exact Steps.refl _)
      have c10 : Steps p.tables e below (s₁.setTop (entryFrame m #[.ref b, .int (Int32.ofNat o), .ref d, .int (Int32.ofNat q), .int (Int32.ofNat len)] 7)) (T7.setTop (mkF m 3 #[.val (.ref b), .val (.int (Int32.ofNat (o + (i + 1)))), .val (.ref d), .val (.int (Int32.ofNat (q + (i + 1)))), .val (.int (Int32.ofNat len)), .val (.int (Int32.ofNat (i + 1))), .val (.int (cv A (o + i)))] [])) := by
        have := c9
        rw [succ32, succ32, succ32] at this
        exact this
      exact ih (i + 1) (by omega) _ (Or.inr ⟨_, rfl, rfl⟩) T7 _ (by rw [copyLocs_step, ← List.append_assoc]; exact X7) (pl.trans p7) (fl.step (by omega) hlt (by simp)) c10
  obtain ⟨T9, B9, z9, X9, p9, f9, g9⟩ := loop len 0 (by omega) .unset (Or.inl rfl) s₁ B (by simpa [copyLocs] using X0) ⟨hB0.1, fun _ _ => rfl, rfl⟩ (Laid.zero _ _ _) c2
  have c11 : Steps p.tables e below (s₁.setTop (entryFrame m #[.ref b, .int (Int32.ofNat o), .ref d, .int (Int32.ofNat q), .int (Int32.ofNat len)] 7)) (T9.setTop (mkF m 46 #[.val (.ref b), .val (.int (Int32.ofNat (o + len))), .val (.ref d), .val (.int (Int32.ofNat (q + len))), .val (.int (Int32.ofNat len)), .val (.int (Int32.ofNat len)), z9] [.int (Int32.ofNat len)])) := g9.trans (by
    refine XS.iload X9.here hexec rfl (hb hbytes d3) rfl ?_
    refine XS.iload X9.here hexec rfl (hb hbytes d5) rfl ?_
    refine XS.icmpYes X9.here hexec rfl (pc0 := 7) rfl (hb hbytes d7) rfl (ii_ge_t (nlt32 (by omega) (Nat.le_refl _))) (by decide) rfl ?_
    refine XS.iload X9.here hexec rfl (hb hbytes d44) rfl ?_
    exact Steps.refl _)
  exact ⟨T9, some (.int (Int32.ofNat len)), _, _, _, X9, by simp, rfl, rfl, (fun h => by cases h), ⟨rfl, B9, p9.from hh0, f9⟩, fun fs hl => c11.trans (X9.ireturnOut hexec hret rfl (Or.inl rfl) (hb hbytes d46) hl)⟩
end Cmp5
namespace Cmp3
def yN : MethodName := ⟨"java/lang/StringUTF16", "compress", "([CII)[B"⟩
abbrev yB : ByteArray := jdk_52_method_16_code
theorem d0 : decode yB 0 = .ok (.iload_n 2, 1) := by decide +kernel
theorem d1 : decode yB 1 = .ok (.newarray .byte, 2) := by decide +kernel
theorem d3 : decode yB 3 = .ok (.astore_n 3, 1) := by decide +kernel
theorem d4 : decode yB 4 = .ok (.aload_n 0, 1) := by decide +kernel
theorem d5 : decode yB 5 = .ok (.iload_n 1, 1) := by decide +kernel
theorem d6 : decode yB 6 = .ok (.aload_n 3, 1) := by decide +kernel
theorem d7 : decode yB 7 = .ok (.iconst 0, 1) := by decide +kernel
theorem d8 : decode yB 8 = .ok (.iload_n 2, 1) := by decide +kernel
theorem d9 : decode yB 9 = .ok (.invokestatic 115, 3) := by decide +kernel
theorem d12 : decode yB 12 = .ok (.istore 4, 2) := by decide +kernel
theorem d14 : decode yB 14 = .ok (.iload 4, 2) := by decide +kernel
theorem d16 : decode yB 16 = .ok (.iload_n 2, 1) := by decide +kernel
theorem d17 : decode yB 17 = .ok (.if_icmp (.eq) 40, 3) := by decide +kernel
theorem d57 : decode yB 57 = .ok (.aload_n 3, 1) := by decide +kernel
theorem d58 : decode yB 58 = .ok (.areturn, 1) := by decide +kernel
def site : List Cond := [.arrayClass .byte, Cmp5.tab] ++ staticW U16 115 Cmp5.yN
def tab : Cond := tabOf yN yB 6 (some (.array .byte)) site
def P (b : Addr) (A : Cell) (o len : Nat) (args : Array Value) (s : State) : Prop := args = #[.ref b, .int (Int32.ofNat o), .int (Int32.ofNat len)] ∧ Ch b A s ∧ o + len ≤ A.slots.size ∧ len ≤ 536870912 ∧ ∀ i, i < len → ¬ 255 < cv A (o + i)
def E (b : Addr) (A : Cell) (o len : Nat) (r : Option Value) (s u : State) : Prop := NewArr .byte "[B" len (fun j => .int (lo8 (cv A (o + j)))) r s u ∧ u.heap.size = s.heap.size + 1
/-- no char of the range above 255: a new byte[] of their low bytes -/
theorem law (l : Launch) (b : Addr) (A : Cell) (o len : Nat) : Law l yN 3 3 1 18 yB 6 (some (.array .byte)) site (P b A o len) (E b A o len) [] 1 len := by
  refine Law.of_walk (plainFor_of_name (by decide +kernel)) (by decide +kernel) (by decide +kernel) (by decide) (fun _ _ h => by rw [h.1]; rfl) (fun _ U U' hal hh h => ⟨h.1, h.2.1.mv hal hh, h.2.2⟩) (fun r U U' V V' h1 hal h2 h => ⟨NewArr.mv r U U' V V' h1 hal h2 h.1, by rw [h1, h2]; exact h.2⟩) ?_
  intro p e s m args below meth c s₁ X0 hexec hbytes hml hret hlk hnm hown hh0 W hP
  obtain ⟨rfl, hA, l1, l2, hp⟩ := hP
  have a31 := hA.1.2.2.2
  have c1 : Steps p.tables e below (s₁.setTop (entryFrame m #[.ref b, .int (Int32.ofNat o), .int (Int32.ofNat len)] 6)) (s₁.setTop (mkF m 0 #[.val (.ref b), .val (.int (Int32.ofNat o)), .val (.int (Int32.ofNat len)), .unset, .unset, .unset] [])) := entry rfl
  have c2 : Steps p.tables e below (s₁.setTop (entryFrame m #[.ref b, .int (Int32.ofNat o), .int (Int32.ofNat len)] 6)) (s₁.setTop (mkF m 1 #[.val (.ref b), .val (.int (Int32.ofNat o)), .val (.int (Int32.ofNat len)), .unset, .unset, .unset] [.int (Int32.ofNat len)])) := c1.trans (by
    refine XS.iloadN X0.here hexec rfl (hb hbytes d0) rfl ?_
    exact Steps.refl _)
  obtain ⟨T3, B3, X3, ba3, bs3, bv3, bh3, bf3, st3⟩ := X0.anew hexec (atype := .byte) (wk W (.arrayClass .byte)) rfl (by show len * 1 ≤ _; omega) (by omega) (g := (mkF m 1 #[.val (.ref b), .val (.int (Int32.ofNat o)), .val (.int (Int32.ofNat len)), .unset, .unset, .unset] [.int (Int32.ofNat len)])) rfl (hb hbytes d1) (rest := []) rfl (Nat.le_refl _) (by show 0 + len ≤ len; omega)
  rw [hh0] at ba3 st3
  have kp3 : XT.Kept s T3 := (XT.Kept.of_eq hh0).push bh3
  have hA3 := hA.keep X3.warmed.alike (kp3 _ _ hA.1.1)
  have hne : b ≠ s.heap.size := hA.1.ne
  have c4 : Steps p.tables e below (s₁.setTop (entryFrame m #[.ref b, .int (Int32.ofNat o), .int (Int32.ofNat len)] 6)) (T3.setTop (mkF m 3 #[.val (.ref b), .val (.int (Int32.ofNat o)), .val (.int (Int32.ofNat len)), .unset, .unset, .unset] [.ref s.heap.size])) := c2.trans (st3 _ (Steps.refl _))
  have c5 : Steps p.tables e below (s₁.setTop (entryFrame m #[.ref b, .int (Int32.ofNat o), .int (Int32.ofNat len)] 6)) (T3.setTop (mkF m 9 #[.val (.ref b), .val (.int (Int32.ofNat o)), .val (.int (Int32.ofNat len)), .val (.ref s.heap.size), .unset, .unset] [.int (Int32.ofNat len), .int 0, .ref s.heap.size, .int (Int32.ofNat o), .ref b])) := c4.trans (by
    refine XS.astoreN X3.here hexec rfl (hb hbytes d3) rfl rfl rfl ?_
    refine XS.aloadN X3.here hexec rfl (hb hbytes d4) rfl rfl ?_
    refine XS.iloadN X3.here hexec rfl (hb hbytes d5) rfl ?_
    refine XS.aloadN X3.here hexec rfl (hb hbytes d6) rfl rfl ?_
    refine iconstV X3.here hexec rfl 0 (hb hbytes d7) (by decide) ?_
    refine XS.iloadN X3.here hexec rfl (hb hbytes d8) rfl ?_
    exact Steps.refl _)
  obtain ⟨v6, T6, X6, E6, g6⟩ := X3.callS hexec (Cmp5.law l b A s.heap.size B3 o 0 len) hown (wks W (staticW U16 115 Cmp5.yN)) (wk W Cmp5.tab) (W := 0) (Nat.le_of_ble_eq_true rfl) (Nat.le_of_ble_eq_true rfl) (Nat.le_refl _) (by show 0 + len + 0 ≤ len; omega) (g := (mkF m 9 #[.val (.ref b), .val (.int (Int32.ofNat o)), .val (.int (Int32.ofNat len)), .val (.ref s.heap.size), .unset, .unset] [.int (Int32.ofNat len), .int (Int32.ofNat 0), .ref s.heap.size, .int (Int32.ofNat o), .ref b])) rfl (by rw [hml]; rfl) c5 (argsL := [.ref b, .int (Int32.ofNat o), .ref s.heap.size, .int (Int32.ofNat 0), .int (Int32.ofNat len)]) (rest := []) rfl rfl (by show 2 * 0 + 0 ≤ _; decide) (hb hbytes d9) (⟨rfl, hA3, ba3, hne, l1, by rw [bs3]; simp, hp⟩)
  obtain ⟨rfl, B6, p6, f6⟩ := E6
  have c7 : Steps p.tables e below (s₁.setTop (entryFrame m #[.ref b, .int (Int32.ofNat o), .int (Int32.ofNat len)] 6)) (T6.setTop (mkF m 12 #[.val (.ref b), .val (.int (Int32.ofNat o)), .val (.int (Int32.ofNat len)), .val (.ref s.heap.size), .unset, .unset] [.int (Int32.ofNat len)])) := g6
  have c8 : Steps p.tables e below (s₁.setTop (entryFrame m #[.ref b, .int (Int32.ofNat o), .int (Int32.ofNat len)] 6)) (T6.setTop (mkF m 58 #[.val (.ref b), .val (.int (Int32.ofNat o)), .val (.int (Int32.ofNat len)), .val (.ref s.heap.size), .val (.int (Int32.ofNat len)), .unset] [.ref s.heap.size])) := c7.trans (by
    refine XS.istore X6.here hexec rfl (hb hbytes d12) rfl rfl ?_
    refine XS.iload X6.here hexec rfl (hb hbytes d14) rfl ?_
    refine XS.iloadN X6.here hexec rfl (hb hbytes d16) rfl ?_
    refine XS.icmpYes X6.here hexec rfl (pc0 := 17) rfl (hb hbytes d17) rfl (ii_eq_t rfl) (by decide) rfl ?_
    refine XS.aloadN X6.here hexec rfl (hb hbytes d57) rfl rfl ?_
    exact Steps.refl _)
  have X8 := X6.wide (L' := []) (cells' := 1) (slots' := len) (fun x hx hlt => by
    simp only [List.nil_append, copyLocs, List.mem_map, List.mem_range] at hx
    obtain ⟨i, -, rfl⟩ := hx
    exact absurd hlt (Nat.lt_irrefl _)) (Nat.le_refl _) (by omega)
  exact ⟨T6, some (.ref s.heap.size), _, _, _, X8, rfl, rfl, rfl, (fun h => by cases h), ⟨⟨rfl, B6, ba3.like (X3.warmed.alike.symm.trans X6.warmed.alike) p6.1 f6.1 f6.2.1 f6.2.2.1, f6.2.1.trans bv3, by rw [X6.warmed.alike.findClass, f6.1]; exact bf3, by rw [f6.2.2.1, bs3]; simp, fun j hj => by rw [f6.2.2.2 j, if_pos (by omega)]; rfl, kp3.put p6 (Nat.le_refl _)⟩, by rw [p6.2.2, bh3, hh0]; simp⟩, fun fs hl => c8.trans (X8.areturnOut hexec rfl hret rfl (hb hbytes d58) hl)⟩
end Cmp3
namespace CodL
def yN : MethodName := ⟨"java/lang/StringUTF16", "coderFromArrayLen", "([BI)B"⟩
abbrev yB : ByteArray := jdk_52_method_15_code
theorem d0 : decode yB 0 = .ok (.iload_n 1, 1) := by decide +kernel
theorem d1 : decode yB 1 = .ok (.aload_n 0, 1) := by decide +kernel
theorem d2 : decode yB 2 = .ok (.arraylength, 1) := by decide +kernel
theorem d3 : decode yB 3 = .ok (.isub, 1) := by decide +kernel
theorem d4 : decode yB 4 = .ok (.bipush 31, 2) := by decide +kernel
theorem d6 : decode yB 6 = .ok (.iushr, 1) := by decide +kernel
theorem d7 : decode yB 7 = .ok (.i2b, 1) := by decide +kernel
theorem d8 : decode yB 8 = .ok (.ireturn, 1) := by decide +kernel
def site : List Cond := []
def tab : Cond := tabOf yN yB 2 (some .byte) site
def P (d : Addr) (B : Cell) (args : Array Value) (s : State) : Prop := args = #[.ref d, .int (Int32.ofNat B.slots.size)] ∧ Arr .byte d B s
def E (r : Option Value) (s u : State) : Prop := XT.PureE (some (.int 0)) r s u
/-- an array as long as the number of chars: LATIN1 -/
theorem law (l : Launch) (d : Addr) (B : Cell) : Law l yN 2 2 0 0 yB 2 (some .byte) site (P d B) E [] 0 0 := by
  refine Law.of_walk (plainFor_of_name (by decide +kernel)) (by decide +kernel) (by decide +kernel) (by decide) (fun _ _ h => by rw [h.1]; rfl) (fun _ U U' hal hh h => ⟨h.1, h.2.mv hal hh⟩) (fun r U U' V V' h1 hal h2 h => XT.PureE.mv r U U' V V' h1 hal h2 h) ?_
  intro p e s m args below meth c s₁ X0 hexec hbytes hml hret hlk hnm hown hh0 W hP
  obtain ⟨rfl, hB⟩ := hP
  have hB0 := hB.mv X0.warmed.alike hh0
  have c1 : Steps p.tables e below (s₁.setTop (entryFrame m #[.ref d, .int (Int32.ofNat B.slots.size)] 2)) (s₁.setTop (mkF m 0 #[.val (.ref d), .val (.int (Int32.ofNat B.slots.size))] [])) := entry rfl
  have c2 : Steps p.tables e below (s₁.setTop (entryFrame m #[.ref d, .int (Int32.ofNat B.slots.size)] 2)) (s₁.setTop (mkF m 2 #[.val (.ref d), .val (.int (Int32.ofNat B.slots.size))] [.ref d, .int (Int32.ofNat B.slots.size)])) := c1.trans (by
    refine XS.iloadN X0.here hexec rfl (hb hbytes d0) rfl ?_
    refine XS.aloadN X0.here hexec rfl (hb hbytes d1) rfl rfl ?_
    exact Steps.refl _)
  have c3 : Steps p.tables e below (s₁.setTop (entryFrame m #[.ref d, .int (Int32.ofNat B.slots.size)] 2)) (s₁.setTop (mkF m 8 #[.val (.ref d), .val (.int (Int32.ofNat B.slots.size))] [.int (lo8 (ushr (Int32.ofNat B.slots.size - Int32.ofNat B.slots.size) 31))])) := c2.trans (by
    refine X0.alen hexec hB0 rfl rfl (hb hbytes d2) ?_
    refine XS.isub X0.here hexec rfl (hb hbytes d3) rfl ?_
    refine bipushV X0.here hexec rfl 31 (hb hbytes d4) (by decide) ?_
    refine iushr X0.here hexec rfl (hb hbytes d6) rfl ?_
    refine i2b X0.here hexec rfl (hb hbytes d7) rfl ?_
    exact Steps.refl _)
  have e0 : lo8 (ushr (Int32.ofNat B.slots.size - Int32.ofNat B.slots.size) 31) = 0 := by rw [Int32.sub_self]; decide
  rw [e0] at c3
  exact ⟨s₁, some (.int 0), _, _, _, X0, rfl, rfl, rfl, (fun h => by cases h), ⟨rfl, hh0⟩, fun fs hl => c3.trans (X0.ireturnOut hexec hret rfl (Or.inr (Or.inr (Or.inl rfl))) (hb hbytes d8) hl)⟩
end CodL
/-- the String at a is Latin-1 over a new byte[] (the heap's one new cell): the low bytes of the len chars of A from o on; every cell but a is kept -/
def Got (a : Addr) (D : Cell) (fV fC : Field) (A : Cell) (o len : Nat) (r : Option Value) (s u : State) : Prop := r = none ∧ ∃ D' V : Cell, Blank "java/lang/String" a D' u ∧ Same D D' [fV.slot, fC.slot] ∧ D'.slots[fV.slot]? = some (.ref s.heap.size) ∧ D'.slots[fC.slot]? = some (.int 0) ∧ Arr .byte s.heap.size V u ∧ V.vm = .none ∧ u.vm.findClass "[B" = some V.cls ∧ V.slots.size = len ∧ (∀ j, j < len → V.slots[j]? = some (.int (lo8 (cv A (o + j))))) ∧ (∀ (y : Addr) (c : Cell), y ≠ a → s.heap[y]? = some c → u.heap[y]? = some c) ∧ u.heap.size = s.heap.size + 1
theorem Got.mv {a : Addr} {D A : Cell} {fV fC : Field} {o len : Nat} : ∀ r (U U' V V' : State), U'.heap = U.heap → V.vm.Alike V'.vm → V'.heap = V.heap → Got a D fV fC A o len r U V → Got a D fV fC A o len r U' V' :=
  fun r U U' V V' h1 hal h2 ⟨e0, D', X, a1, a2, a3, a4, a5, a6, a7, a8, a9, a10, a11⟩ => ⟨e0, D', X, a1.mv hal h2, a2, by rw [h1]; exact a3, a4, by rw [h1]; exact a5.mv hal h2, a6, by rw [hal.findClass]; exact a7, a8, a9, by rw [h1, h2]; exact a10, by rw [h1, h2]; exact a11⟩
namespace New4
def yN : MethodName := ⟨"java/lang/String", "<init>", "([CIILjava/lang/Void;)V"⟩
abbrev yB : ByteArray := jdk_42_method_149_code
theorem d0 : decode yB 0 = .ok (.aload_n 0, 1) := by decide +kernel
theorem d1 : decode yB 1 = .ok (.invokespecial 1, 3) := by decide +kernel
theorem d4 : decode yB 4 = .ok (.iload_n 3, 1) := by decide +kernel
theorem d5 : decode yB 5 = .ok (.ifCond (.ne) 22, 3) := by decide +kernel
theorem d27 : decode yB 27 = .ok (.getstatic 38, 3) := by decide +kernel
theorem d30 : decode yB 30 = .ok (.ifCond (.eq) 28, 3) := by decide +kernel
theorem d33 : decode yB 33 = .ok (.aload_n 1, 1) := by decide +kernel
theorem d34 : decode yB 34 = .ok (.iload_n 2, 1) := by decide +kernel
theorem d35 : decode yB 35 = .ok (.iload_n 3, 1) := by decide +kernel
theorem d36 : decode yB 36 = .ok (.invokestatic 177, 3) := by decide +kernel
theorem d39 : decode yB 39 = .ok (.astore 5, 2) := by decide +kernel
theorem d41 : decode yB 41 = .ok (.aload_n 0, 1) := by decide +kernel
theorem d42 : decode yB 42 = .ok (.aload 5, 2) := by decide +kernel
theorem d44 : decode yB 44 = .ok (.iload_n 3, 1) := by decide +kernel
theorem d45 : decode yB 45 = .ok (.invokestatic 47, 3) := by decide +kernel
theorem d48 : decode yB 48 = .ok (.putfield 15, 3) := by decide +kernel
theorem d51 : decode yB 51 = .ok (.aload_n 0, 1) := by decide +kernel
theorem d52 : decode yB 52 = .ok (.aload 5, 2) := by decide +kernel
theorem d54 : decode yB 54 = .ok (.putfield 9, 3) := by decide +kernel
theorem d57 : decode yB 57 = .ok (.return_, 1) := by decide +kernel
def site : List Cond := [.fieldLink "java/lang/String" 38 "java/lang/String" "COMPACT_STRINGS" "Z", Cmp3.tab, CodL.tab, .laysFinal "java/lang/String" "java/lang/String" "value" "[B", .fieldLink "java/lang/String" 9 "java/lang/String" "value" "[B", .laysFinal "java/lang/String" "java/lang/String" "coder" "B", .fieldLink "java/lang/String" 15 "java/lang/String" "coder" "B"] ++ objW "java/lang/String" 1 ++ staticW "java/lang/String" 177 Cmp3.yN ++ staticW "java/lang/String" 47 CodL.yN
def tab : Cond := tabOf yN yB 6 none site
def P (a : Addr) (D : Cell) (fV fC : Field) (b : Addr) (A : Cell) (z : Int32) (o len : Nat) (args : Array Value) (s : State) : Prop := args = #[.ref a, .ref b, .int (Int32.ofNat o), .int (Int32.ofNat len), .null] ∧ Blank "java/lang/String" a D s ∧ Found "java/lang/String" "value" "[B" fV s ∧ Found "java/lang/String" "coder" "B" fC s ∧ Ch b A s ∧ StaticIs s "java/lang/String" "COMPACT_STRINGS" "Z" (.int z) ∧ ¬ z = 0 ∧ 0 < len ∧ o + len ≤ A.slots.size ∧ len ≤ 536870912 ∧ ∀ i, i < len → ¬ 255 < cv A (o + i)
def E (a : Addr) (D : Cell) (fV fC : Field) (A : Cell) (o len : Nat) (r : Option Value) (s u : State) : Prop := Got a D fV fC A o len r s u
/-- len > 0, no char of the range above 255: a Latin-1 String of their low bytes -/
theorem law (l : Launch) (a : Addr) (D : Cell) (fV fC : Field) (b : Addr) (A : Cell) (z : Int32) (o len : Nat) : Law l yN 5 4 2 35 yB 6 none site (P a D fV fC b A z o len) (E a D fV fC A o len) [⟨a, fC.slot⟩, ⟨a, fV.slot⟩] 1 len := by
  refine Law.of_walk (plainFor_of_name (by decide +kernel)) (by decide +kernel) (by decide +kernel) (by decide) (fun _ _ h => by rw [h.1]; rfl) (fun _ U U' hal hh h => ⟨h.1, h.2.1.mv hal hh, h.2.2.1.al hal, h.2.2.2.1.al hal, h.2.2.2.2.1.mv hal hh, h.2.2.2.2.2.1.there hal hh, h.2.2.2.2.2.2⟩) (fun r U U' V V' h1 hal h2 h => Got.mv r U U' V V' h1 hal h2 h) ?_
  intro p e s m args below meth c s₁ X0 hexec hbytes hml hret hlk hnm hown hh0 W hP
  obtain ⟨rfl, hB, f1, f2, hA, s1, hz, l0, l1, l2, hp⟩ := hP
  have a31 := hA.1.2.2.2
  have c1 : Steps p.tables e below (s₁.setTop (entryFrame m #[.ref a, .ref b, .int (Int32.ofNat o), .int (Int32.ofNat len), .null] 6)) (s₁.setTop (mkF m 0 #[.val (.ref a), .val (.ref b), .val (.int (Int32.ofNat o)), .val (.int (Int32.ofNat len)), .val .null, .unset] [])) := entry rfl
  have c2 : Steps p.tables e below (s₁.setTop (entryFrame m #[.ref a, .ref b, .int (Int32.ofNat o), .int (Int32.ofNat len), .null] 6)) (s₁.setTop (mkF m 1 #[.val (.ref a), .val (.ref b), .val (.int (Int32.ofNat o)), .val (.int (Int32.ofNat len)), .val .null, .unset] [.ref a])) := c1.trans (by
    refine XS.aloadN X0.here hexec rfl (hb hbytes d0) rfl rfl ?_
    exact Steps.refl _)
  obtain ⟨T3, X3, q3, st3⟩ := X0.oinit hexec hown (wks W (objW "java/lang/String" 1)) (g := (mkF m 1 #[.val (.ref a), .val (.ref b), .val (.int (Int32.ofNat o)), .val (.int (Int32.ofNat len)), .val .null, .unset] [.ref a])) rfl (by rw [hml]; rfl) (rest := []) rfl (hb hbytes d1) (W := 0) (by show 2 * 0 + 0 ≤ _; decide) (Nat.le_of_ble_eq_true rfl) (Nat.le_of_ble_eq_true rfl)
  have hh3 := q3.trans hh0
  have c4 : Steps p.tables e below (s₁.setTop (entryFrame m #[.ref a, .ref b, .int (Int32.ofNat o), .int (Int32.ofNat len), .null] 6)) (T3.setTop (mkF m 27 #[.val (.ref a), .val (.ref b), .val (.int (Int32.ofNat o)), .val (.int (Int32.ofNat len)), .val .null, .unset] [])) := (c2.trans (st3 _ (Steps.refl _))).trans (by
    refine XS.iloadN X3.here hexec rfl (hb hbytes d4) rfl ?_
    refine XS.ifYes X3.here hexec rfl (pc0 := 5) rfl (hb hbytes d5) rfl (i0_ne_t (nz32 (by omega) l0)) (by decide) rfl ?_
    exact Steps.refl _)
  obtain ⟨T5, X5, q5, st5⟩ := X3.sget hexec hown (wk W (.fieldLink "java/lang/String" 38 "java/lang/String" "COMPACT_STRINGS" "Z")) s1 (fun _ _ h => by rw [hh3]; exact h) (g := (mkF m 27 #[.val (.ref a), .val (.ref b), .val (.int (Int32.ofNat o)), .val (.int (Int32.ofNat len)), .val .null, .unset] [])) rfl (hb hbytes d27)
  have hh5 := q5.trans hh3
  have c6 : Steps p.tables e below (s₁.setTop (entryFrame m #[.ref a, .ref b, .int (Int32.ofNat o), .int (Int32.ofNat len), .null] 6)) (T5.setTop (mkF m 30 #[.val (.ref a), .val (.ref b), .val (.int (Int32.ofNat o)), .val (.int (Int32.ofNat len)), .val .null, .unset] [.int z])) := c4.trans (st5 _ (Steps.refl _))
  have c7 : Steps p.tables e below (s₁.setTop (entryFrame m #[.ref a, .ref b, .int (Int32.ofNat o), .int (Int32.ofNat len), .null] 6)) (T5.setTop (mkF m 36 #[.val (.ref a), .val (.ref b), .val (.int (Int32.ofNat o)), .val (.int (Int32.ofNat len)), .val .null, .unset] [.int (Int32.ofNat len), .int (Int32.ofNat o), .ref b])) := c6.trans (by
    refine XS.ifNo X5.here hexec rfl (hb hbytes d30) rfl (i0_eq_f hz) ?_
    refine XS.aloadN X5.here hexec rfl (hb hbytes d33) rfl rfl ?_
    refine XS.iloadN X5.here hexec rfl (hb hbytes d34) rfl ?_
    refine XS.iloadN X5.here hexec rfl (hb hbytes d35) rfl ?_
    exact Steps.refl _)
  obtain ⟨v8, T8, X8, E8, g8⟩ := X5.callS hexec (Cmp3.law l b A o len) hown (wks W (staticW "java/lang/String" 177 Cmp3.yN)) (wk W Cmp3.tab) (W := 0) (Nat.le_of_ble_eq_true rfl) (Nat.le_of_ble_eq_true rfl) (Nat.le_refl _) (by show 0 + len ≤ len; omega) (g := (mkF m 36 #[.val (.ref a), .val (.ref b), .val (.int (Int32.ofNat o)), .val (.int (Int32.ofNat len)), .val .null, .unset] [.int (Int32.ofNat len), .int (Int32.ofNat o), .ref b])) rfl (by rw [hml]; rfl) c7 (argsL := [.ref b, .int (Int32.ofNat o), .int (Int32.ofNat len)]) (rest := []) rfl rfl (by show 2 * 0 + 0 ≤ _; decide) (hb hbytes d36) (⟨rfl, hA.mv X5.warmed.alike hh5, l1, l2, hp⟩)
  obtain ⟨e8, z8⟩ := E8
  obtain ⟨rfl, N, n1, n2, n3, n4, n5, n6⟩ := NewArr.mv _ T5 s _ _ hh5.symm (Vm.Alike.refl _) rfl e8
  rw [hh5] at z8
  have hB1 := hB.keep X8.warmed.alike (n6 _ _ hB.1)
  have hne : s.heap.size ≠ a := (Nat.ne_of_lt (Array.getElem?_eq_some_iff.mp hB.1).1).symm
  have c9 : Steps p.tables e below (s₁.setTop (entryFrame m #[.ref a, .ref b, .int (Int32.ofNat o), .int (Int32.ofNat len), .null] 6)) (T8.setTop (mkF m 39 #[.val (.ref a), .val (.ref b), .val (.int (Int32.ofNat o)), .val (.int (Int32.ofNat len)), .val .null, .unset] [.ref s.heap.size])) := g8
  have c10 : Steps p.tables e below (s₁.setTop (entryFrame m #[.ref a, .ref b, .int (Int32.ofNat o), .int (Int32.ofNat len), .null] 6)) (T8.setTop (mkF m 45 #[.val (.ref a), .val (.ref b), .val (.int (Int32.ofNat o)), .val (.int (Int32.ofNat len)), .val .null, .val (.ref s.heap.size)] [.int (Int32.ofNat N.slots.size), .ref s.heap.size, .ref a])) := by
    have hc : Steps p.tables e below (s₁.setTop (entryFrame m #[.ref a, .ref b, .int (Int32.ofNat o), .int (Int32.ofNat len), .null] 6)) (T8.setTop (mkF m 45 #[.val (.ref a), .val (.ref b), .val (.int (Int32.ofNat o)), .val (.int (Int32.ofNat len)), .val .null, .val (.ref s.heap.size)] [.int (Int32.ofNat len), .ref s.heap.size, .ref a])) := c9.trans (by
      refine XS.astore X8.here hexec rfl (hb hbytes d39) rfl rfl rfl ?_
      refine XS.aloadN X8.here hexec rfl (hb hbytes d41) rfl rfl ?_
      refine XS.aload X8.here hexec rfl (hb hbytes d42) rfl rfl ?_
      refine XS.iloadN X8.here hexec rfl (hb hbytes d44) rfl ?_
      exact Steps.refl _)
    rw [n4]; exact hc
  obtain ⟨v11, T11, X11, E11, g11⟩ := X8.callS hexec (CodL.law l s.heap.size N) hown (wks W (staticW "java/lang/String" 47 CodL.yN)) (wk W CodL.tab) (W := 1) (Nat.le_of_ble_eq_true rfl) (Nat.le_of_ble_eq_true rfl) (Nat.le_refl _) (by show 0 + len + 0 ≤ len; omega) (g := (mkF m 45 #[.val (.ref a), .val (.ref b), .val (.int (Int32.ofNat o)), .val (.int (Int32.ofNat len)), .val .null, .val (.ref s.heap.size)] [.int (Int32.ofNat N.slots.size), .ref s.heap.size, .ref a])) rfl (by rw [hml]; rfl) c10 (argsL := [.ref s.heap.size, .int (Int32.ofNat N.slots.size)]) (rest := [.ref a]) rfl rfl (by show 2 * 0 + (1 + 0) ≤ _; decide) (hb hbytes d45) (⟨rfl, n1⟩)
  obtain ⟨rfl, q11⟩ := E11
  have hB11 := hB1.mv (X8.warmed.alike.symm.trans X11.warmed.alike) q11
  have c12 : Steps p.tables e below (s₁.setTop (entryFrame m #[.ref a, .ref b, .int (Int32.ofNat o), .int (Int32.ofNat len), .null] 6)) (T11.setTop (mkF m 48 #[.val (.ref a), .val (.ref b), .val (.int (Int32.ofNat o)), .val (.int (Int32.ofNat len)), .val .null, .val (.ref s.heap.size)] [.int 0, .ref a])) := g11
  obtain ⟨T13, X13, p13, bl13, sl13, st13⟩ := X11.finit hexec hown (wk W (.fieldLink "java/lang/String" 15 "java/lang/String" "coder" "B")) (Or.inr ⟨_, (wk W (.laysFinal "java/lang/String" "java/lang/String" "coder" "B"))⟩) (Or.inl ⟨rfl, hnm⟩) f2 (Or.inl rfl) hB11 (t := .byte) (by decide +kernel) rfl (g := (mkF m 48 #[.val (.ref a), .val (.ref b), .val (.int (Int32.ofNat o)), .val (.int (Int32.ofNat len)), .val .null, .val (.ref s.heap.size)] [.int 0, .ref a])) rfl (rest := []) rfl (hb hbytes d48)
  have c14 : Steps p.tables e below (s₁.setTop (entryFrame m #[.ref a, .ref b, .int (Int32.ofNat o), .int (Int32.ofNat len), .null] 6)) (T13.setTop (mkF m 54 #[.val (.ref a), .val (.ref b), .val (.int (Int32.ofNat o)), .val (.int (Int32.ofNat len)), .val .null, .val (.ref s.heap.size)] [.ref s.heap.size, .ref a])) := (c12.trans (st13 _ (Steps.refl _))).trans (by
    refine XS.aloadN X13.here hexec rfl (hb hbytes d51) rfl rfl ?_
    refine XS.aload X13.here hexec rfl (hb hbytes d52) rfl rfl ?_
    exact Steps.refl _)
  obtain ⟨T15, X15, p15, bl15, sl15, st15⟩ := X13.finit hexec hown (wk W (.fieldLink "java/lang/String" 9 "java/lang/String" "value" "[B")) (Or.inr ⟨_, (wk W (.laysFinal "java/lang/String" "java/lang/String" "value" "[B"))⟩) (Or.inl ⟨rfl, hnm⟩) f1 (Or.inl rfl) bl13 (t := (.array .byte)) (by decide +kernel) rfl (g := (mkF m 54 #[.val (.ref a), .val (.ref b), .val (.int (Int32.ofNat o)), .val (.int (Int32.ofNat len)), .val .null, .val (.ref s.heap.size)] [.ref s.heap.size, .ref a])) rfl (rest := []) rfl (hb hbytes d54)
  have c16 : Steps p.tables e below (s₁.setTop (entryFrame m #[.ref a, .ref b, .int (Int32.ofNat o), .int (Int32.ofNat len), .null] 6)) (T15.setTop (mkF m 57 #[.val (.ref a), .val (.ref b), .val (.int (Int32.ofNat o)), .val (.int (Int32.ofNat len)), .val .null, .val (.ref s.heap.size)] [])) := c14.trans (st15 _ (Steps.refl _))
  have ap := apart (Or.inr ⟨_, (wk W (.laysFinal "java/lang/String" "java/lang/String" "value" "[B"))⟩) (Or.inr ⟨_, (wk W (.laysFinal "java/lang/String" "java/lang/String" "coder" "B"))⟩) f1 f2 (t₁ := .array .byte) (t₂ := .byte) (by decide +kernel) (by decide +kernel) (by decide)
  have al := X8.warmed.alike.symm.trans X15.warmed.alike
  have n7 : T11.heap[s.heap.size]? = some N := by rw [q11]; exact n1.1
  exact ⟨T15, none, _, _, _, X15, by simp, rfl, by omega, (fun _ => rfl), ⟨rfl, _, N, bl15, ((Same.refl D _).set _ (by simp)).set _ (by simp), sl15, (Cell.slots_setSlot_ne _ ap).trans sl13, n1.keep al (p15.other hne (p13.other hne n7)), n2, by rw [al.findClass]; exact n3, n4, n5, fun y c h1 h2 => p15.other h1 (p13.other h1 (by rw [q11]; exact n6 y c h2)), by rw [p15.2.2, p13.2.2, q11]; exact z8⟩, fun fs hl => c16.trans (X15.returnOut hexec hret (hb hbytes d57) hl)⟩
end New4
namespace New1
def yN : MethodName := ⟨"java/lang/String", "<init>", "([C)V"⟩
abbrev yB : ByteArray := jdk_42_method_3_code
theorem d0 : decode yB 0 = .ok (.aload_n 0, 1) := by decide +kernel
theorem d1 : decode yB 1 = .ok (.aload_n 1, 1) := by decide +kernel
theorem d2 : decode yB 2 = .ok (.iconst 0, 1) := by decide +kernel
theorem d3 : decode yB 3 = .ok (.aload_n 1, 1) := by decide +kernel
theorem d4 : decode yB 4 = .ok (.arraylength, 1) := by decide +kernel
theorem d5 : decode yB 5 = .ok (.aconst_null, 1) := by decide +kernel
theorem d6 : decode yB 6 = .ok (.invokespecial 27, 3) := by decide +kernel
theorem d9 : decode yB 9 = .ok (.return_, 1) := by decide +kernel
def site : List Cond := [New4.tab] ++ initW "java/lang/String" 27 New4.yN
def tab : Cond := tabOf yN yB 2 none site
def P (a : Addr) (D : Cell) (fV fC : Field) (b : Addr) (A : Cell) (z : Int32) (args : Array Value) (s : State) : Prop := args = #[.ref a, .ref b] ∧ Blank "java/lang/String" a D s ∧ Found "java/lang/String" "value" "[B" fV s ∧ Found "java/lang/String" "coder" "B" fC s ∧ Ch b A s ∧ StaticIs s "java/lang/String" "COMPACT_STRINGS" "Z" (.int z) ∧ ¬ z = 0 ∧ 0 < A.slots.size ∧ A.slots.size ≤ 536870912 ∧ ∀ i, i < A.slots.size → ¬ 255 < cv A i
def E (a : Addr) (D : Cell) (fV fC : Field) (A : Cell) (r : Option Value) (s u : State) : Prop := Got a D fV fC A 0 A.slots.size r s u
/-- new String(chars), not empty, no char above 255: a Latin-1 String of their low bytes -/
theorem law (l : Launch) (a : Addr) (D : Cell) (fV fC : Field) (b : Addr) (A : Cell) (z : Int32) : Law l yN 2 1 3 52 yB 2 none site (P a D fV fC b A z) (E a D fV fC A) [⟨a, fC.slot⟩, ⟨a, fV.slot⟩] 1 A.slots.size := by
  refine Law.of_walk (plainFor_of_name (by decide +kernel)) (by decide +kernel) (by decide +kernel) (by decide) (fun _ _ h => by rw [h.1]; rfl) (fun _ U U' hal hh h => ⟨h.1, h.2.1.mv hal hh, h.2.2.1.al hal, h.2.2.2.1.al hal, h.2.2.2.2.1.mv hal hh, h.2.2.2.2.2.1.there hal hh, h.2.2.2.2.2.2⟩) (fun r U U' V V' h1 hal h2 h => Got.mv r U U' V V' h1 hal h2 h) ?_
  intro p e s m args below meth c s₁ X0 hexec hbytes hml hret hlk hnm hown hh0 W hP
  obtain ⟨rfl, hB, f1, f2, hA, s1, hz, l0, l2, hp⟩ := hP
  have c1 : Steps p.tables e below (s₁.setTop (entryFrame m #[.ref a, .ref b] 2)) (s₁.setTop (mkF m 0 #[.val (.ref a), .val (.ref b)] [])) := entry rfl
  have c2 : Steps p.tables e below (s₁.setTop (entryFrame m #[.ref a, .ref b] 2)) (s₁.setTop (mkF m 6 #[.val (.ref a), .val (.ref b)] [.null, .int (Int32.ofNat A.slots.size), .int 0, .ref b, .ref a])) := c1.trans (by
    refine XS.aloadN X0.here hexec rfl (hb hbytes d0) rfl rfl ?_
    refine XS.aloadN X0.here hexec rfl (hb hbytes d1) rfl rfl ?_
    refine iconstV X0.here hexec rfl 0 (hb hbytes d2) (by decide) ?_
    refine XS.aloadN X0.here hexec rfl (hb hbytes d3) rfl rfl ?_
    refine X0.alen hexec (hA.1.mv X0.warmed.alike hh0) rfl rfl (hb hbytes d4) ?_
    refine XS.aconstNull X0.here hexec rfl (hb hbytes d5) ?_
    exact Steps.refl _)
  obtain ⟨v3, T3, X3, E3, g3⟩ := X0.callN hexec (New4.law l a D fV fC b A z 0 A.slots.size) rfl hown (wks W (initW "java/lang/String" 27 New4.yN)) (W New4.tab (by simp only [site, List.mem_cons, List.mem_append, true_or, or_true])) (W := 0) (Nat.le_of_ble_eq_true rfl) (Nat.le_of_ble_eq_true rfl) (Nat.le_refl _) (by show 0 + A.slots.size ≤ A.slots.size; omega) (g := (mkF m 6 #[.val (.ref a), .val (.ref b)] [.null, .int (Int32.ofNat A.slots.size), .int (Int32.ofNat 0), .ref b, .ref a])) rfl (by rw [hml]; rfl) c2 (argsL := [.ref b, .int (Int32.ofNat 0), .int (Int32.ofNat A.slots.size), .null]) (rest := []) rfl rfl (by show 2 * 0 + 0 ≤ _; decide) (hb hbytes d6) (⟨rfl, hB.mv X0.warmed.alike hh0, f1.al X0.warmed.alike, f2.al X0.warmed.alike, hA.mv X0.warmed.alike hh0, s1.there X0.warmed.alike hh0, hz, l0, by omega, l2, fun i hi => by rw [Nat.zero_add]; exact hp i hi⟩)
  have e0 := Got.mv _ s₁ s _ _ hh0.symm (Vm.Alike.refl _) rfl E3
  obtain rfl := e0.1
  have c4 : Steps p.tables e below (s₁.setTop (entryFrame m #[.ref a, .ref b] 2)) (T3.setTop (mkF m 9 #[.val (.ref a), .val (.ref b)] [])) := g3
  exact ⟨T3, none, _, _, _, X3, by simp, rfl, by omega, (fun _ => rfl), e0, fun fs hl => c4.trans (X3.returnOut hexec hret (hb hbytes d9) hl)⟩
theorem pays {l : Launch} {R : Room} {p : Program} {e : Env} {below : List Frame} {s : State} {sargs : Array Value} {len W : Nat} (a : Addr) (D : Cell) (fV fC : Field) (b : Addr) (A : Cell) (z : Int32) (htab : tab.before sargs s = true) (hfr : 4 ≤ R.frames) (hlo : W + 65 ≤ R.locals) :
    Back l R p e below s sargs yN len W (fun A₁ a₁ => A₁.cells + 1 ≤ R.cells ∧ A₁.slots + A.slots.size ≤ R.slots ∧ P a D fV fC b A z a₁ A₁.U) (fun A₁ _ v₁ B₁ => E a D fV fC A v₁ A₁.U B₁.U ∧ B₁.locs = A₁.locs ++ [⟨a, fC.slot⟩, ⟨a, fV.slot⟩] ∧ B₁.cells = A₁.cells + 1 ∧ B₁.slots = A₁.slots + A.slots.size) :=
  (law l a D fV fC b A z).pays htab hfr (by omega)
end New1
end StrChars
namespace StrChars.Road
open Jvm Sem ClassFile Op Lib Jvm.Stand Jvm.Free Jvm.Free.XT
open Jvm.Lib.Cold (StaticIs)
abbrev ST : String := "java/lang/String"
/-- every table word that New1's law asks, flat -/
abbrev words : List Jvm.Cond := [.code New1.yN New1.yB 2 none, .initialized ST, .methodLink ST 27 New4.yN, .instanceMethod New4.yN,
  .code New4.yN New4.yB 6 none, .fieldLink ST 38 ST "COMPACT_STRINGS" "Z", .laysFinal ST ST "value" "[B", .fieldLink ST 9 ST "value" "[B", .laysFinal ST ST "coder" "B", .fieldLink ST 15 ST "coder" "B",
  .methodLink ST 1 Lib.objectInit, .instanceMethod Lib.objectInit, .code Lib.objectInit ⟨#[0xb1]⟩ 1 none, .methodLink ST 177 Cmp3.yN, .static Cmp3.yN, .methodLink ST 47 CodL.yN, .static CodL.yN,
  .code Cmp3.yN Cmp3.yB 6 (some (.array .byte)), .initialized U16, .arrayClass .byte, .methodLink U16 115 Cmp5.yN, .static Cmp5.yN, .code Cmp5.yN Cmp5.yB 7 (some .int), .code CodL.yN CodL.yB 2 (some .byte)]
theorem tab_of {a : Array Value} {s : State} (h : ∀ w ∈ words, w.before a s = true) : New1.tab.before a s = true := by
  have h5 : Cmp5.tab.before a s = true := unparts (wk h (.code Cmp5.yN Cmp5.yB 7 (some .int))) (wks h (.initialized Cmp5.yN.cls :: Cmp5.site))
  have hc : CodL.tab.before a s = true := unparts (wk h (.code CodL.yN CodL.yB 2 (some .byte))) (wks h (.initialized CodL.yN.cls :: CodL.site))
  have q5 : ∀ w ∈ Cmp5.tab :: words, w.before a s = true := fun w hw => (List.mem_cons.mp hw).elim (fun e => e ▸ h5) (h w)
  have h3 : Cmp3.tab.before a s = true := unparts (wk q5 (.code Cmp3.yN Cmp3.yB 6 (some (.array .byte)))) (wks q5 (.initialized Cmp3.yN.cls :: Cmp3.site))
  have q3 : ∀ w ∈ Cmp3.tab :: CodL.tab :: words, w.before a s = true := fun w hw => (List.mem_cons.mp hw).elim (fun e => e ▸ h3) fun hw => (List.mem_cons.mp hw).elim (fun e => e ▸ hc) (h w)
  have h4 : New4.tab.before a s = true := unparts (wk q3 (.code New4.yN New4.yB 6 none)) (wks q3 (.initialized New4.yN.cls :: New4.site))
  have q4 : ∀ w ∈ New4.tab :: words, w.before a s = true := fun w hw => (List.mem_cons.mp hw).elim (fun e => e ▸ h4) (h w)
  exact unparts (wk q4 (.code New1.yN New1.yB 2 none)) (wks q4 (.initialized New1.yN.cls :: New1.site))
/-- the words ride from the start Z to the walk's own state -/
theorem moved {Z s : State} {a0 args : Array Value} (hZ : Z.Warmed39 s.vm) (hw : ∀ d ∈ words, d.before a0 Z = true) : ∀ d ∈ words, d.before args s = true := fun d hd => by
  have q := hw d hd
  have t : ∀ d ∈ words, d = .arrayClass .byte ∨ (d.onTables && d.keepsFace) = true := by decide +kernel
  rcases t d hd with rfl | t
  · exact RoadKit.mvA hZ q
  · exact RoadKit.mv hZ q t
/-- WHAT COMES BACK, over the tables of the start Z: h the heap at the call, h' behind it -/
def Q (Z : State) (x : Addr) (A : Cell) (h : Heap) (v : Option Value) (h' : Heap) (L : List Loc) : Prop := v = none ∧ (∀ y ∈ L, y.base = x) ∧ RoadKit.Keep h h' [x] ∧ h'.size = h.size + 1 ∧ RoadKit.Exa Z h' x ST ∧ RoadKit.Fld Z h' x ST "value" "[B" (.ref h.size) ∧ RoadKit.Fld Z h' x ST "coder" "B" (.int 0) ∧
  (∃ V : Cell, RoadKit.Arr Z h' h.size V .byte ∧ V.vm = .none ∧ Z.vm.findClass "[B" = some V.cls ∧ V.slots.size = A.slots.size ∧ ∀ j, j < A.slots.size → V.slots[j]? = some (.int (lo8 (cv A j)))) ∧
  ∀ (O n d : String) (w : Value), RoadKit.Fld Z h x O n d w → RoadKit.slotOf Z O n d ≠ RoadKit.slotOf Z ST "value" "[B" → RoadKit.slotOf Z O n d ≠ RoadKit.slotOf Z ST "coder" "B" → RoadKit.Fld Z h' x O n d w
/-- **new String(chars) AT A CALL, IN THE ROAD'S FORM**: for specialBack behind newO: x the fresh String, b the char[] with the cell A -/
theorem back {p : Program} {l : Launch} {e : Env} {R : Room} {s : State} {args : Array Value} {below : List Frame} {len W : Nat} {Z : State} {a0 : Array Value} {h : Heap} (hZ : Z.Warmed39 s.vm) (hw : ∀ d ∈ words, d.before a0 Z = true) {kI : Nat} (wi : (Jvm.Cond.instantiable ST kI).before a0 Z = true)
    {x b : Addr} {A : Cell} {z : Int32} {v0 c0 : Value} (E : RoadKit.Exa Z h x ST) (V : RoadKit.Fld Z h x ST "value" "[B" v0) (C : RoadKit.Fld Z h x ST "coder" "B" c0) (K : RoadKit.Arr Z h b A .char) (hty : Typed .char A) (S : RoadKit.Sta Z h ST "COMPACT_STRINGS" "Z" (.int z)) (hz : ¬ z = 0)
    (l0 : 0 < A.slots.size) (l2 : A.slots.size ≤ 536870912) (hp : ∀ i, i < A.slots.size → ¬ 255 < cv A i) (hfr : 4 ≤ R.frames) (hlo : W + 65 ≤ R.locals) :
    Back l R p e below s args New1.yN len W (fun P a => a = #[.ref x, .ref b] ∧ P.U.heap = h ∧ P.cells + 1 ≤ R.cells ∧ P.slots + A.slots.size ≤ R.slots)
      (fun P _ v B => ∃ L, Q Z x A h v B.U.heap L ∧ B.locs = P.locs ++ L ∧ B.cells = P.cells + 1 ∧ B.slots = P.slots + A.slots.size) := by
  intro m meth c P g ig mk a X hg hsize hdg hW hn hp'
  obtain ⟨rfl, rfl, r1, r2⟩ := hp'
  have al : Z.vm.Alike P.U.vm := hZ.alike.trans X.warmed.alike
  obtain ⟨D, cfV, kV, iV, fV, hD, gV, stV, knV, obV, asV, slV⟩ := id V
  obtain ⟨D', cfC, kC, iC, fC, hD', gC, stC, -, -, asC, slC⟩ := id C
  cases hD.symm.trans hD'
  obtain ⟨D2, kD, e1, e2, e3, e4, e5⟩ := id E
  cases hD.symm.trans e1
  obtain ⟨c2, k2, i1, i2, i3, -⟩ := Cond.instantiable_spec wi
  cases e2.symm.trans i1
  cases e3.symm.trans i2
  obtain ⟨kU, u1, u2⟩ := al.2.2 _ _ e3
  have hB : Blank ST x D P.U := ⟨hD, ⟨knV, fun q hq => by rw [hq] at obV; cases obV⟩, by rw [al.findClass]; exact e2, kU, u1, by rw [u2]; exact i3, by rw [u2]; exact e5 i3⟩
  have F1 : Found ST "value" "[B" fV P.U := ⟨SBG.found_only al ⟨cfV, kV, iV, gV⟩, stV⟩
  have F2 : Found ST "coder" "B" fC P.U := ⟨SBG.found_only al ⟨cfC, kC, iC, gC⟩, stC⟩
  have hA : Ch b A P.U := ⟨⟨K.1, State.isArrayOf_alike al K.2.1, K.2.2, by omega⟩, hty⟩
  have hS : StaticIs P.U ST "COMPACT_STRINGS" "Z" (.int z) := by
    obtain ⟨cfS, iS, kS, fS, st, cS, t1, t2, t3, t4, t5, t6, t7⟩ := S
    exact StaticIs.there (s := { Z with heap := P.U.heap }) ⟨cfS, iS, kS, fS, st, cS, t1, t2, t3, t4, t5, (fun q => by rw [q] at t6; cases t6), t7⟩ al rfl
  obtain ⟨v, B, X', ⟨⟨hv, E', V', q1, q2, q3, q4, q5, q6, q7, q8, q9, q10, q11⟩, hl, hc, hs⟩, st⟩ := New1.pays x D fV fC b A z (tab_of (moved hZ hw)) hfr hlo m meth c P g ig mk _ X hg hsize hdg hW hn ⟨r1, r2, rfl, hB, F1, F2, hA, hS, hz, l0, l2, hp⟩
  have al' : Z.vm.Alike B.U.vm := hZ.alike.trans X'.warmed.alike
  have hsz : E'.slots.size = D.slots.size := by
    obtain ⟨-, -, -, kB, w1, w2, w3⟩ := q1
    obtain ⟨kB', y1, y2⟩ := al'.2.2 _ _ e3
    rw [q2.2.1] at w1
    cases w1.symm.trans y1
    rw [w3, e5 i3, y2]
  refine ⟨v, B, X', ⟨_, ⟨hv, ?_, ⟨by omega, fun y cy hy hn' => q10 y cy (by simpa using hn') hy, fun y cy hy => ?_⟩, q11, ⟨E', _, q1.1, by rw [q2.2.1]; exact e2, by rw [q2.2.1]; exact e3, by rw [q2.1]; exact obV, fun _ => by rw [hsz]; exact e5 i3⟩,
    ⟨E', cfV, kV, iV, fV, q1.1, gV, stV, by rw [q2.1]; exact knV, by rw [q2.1]; exact obV, by rw [q2.2.1]; exact asV, q3⟩, ⟨E', cfC, kC, iC, fC, q1.1, gC, stC, by rw [q2.1]; exact knV, by rw [q2.1]; exact obV, by rw [q2.2.1]; exact asC, q4⟩,
    ⟨V', ⟨q5.1, State.isArrayOf_alike al'.symm q5.2.1, q5.2.2.1⟩, q6, by rw [← al'.findClass]; exact q7, q8, fun j hj => by have := q9 j hj; rwa [Nat.zero_add] at this⟩, fun O n d w F n1 n2 => ?_⟩, hl, hc, hs⟩, st⟩
  · intro y hy
    simp only [List.mem_cons, List.not_mem_nil, or_false] at hy
    rcases hy with rfl | rfl <;> rfl
  · by_cases q : y = x
    · subst q
      cases hD.symm.trans hy
      exact ⟨E', q1.1, q2.2.1, q2.1, hsz⟩
    · exact ⟨cy, q10 y cy q hy, rfl, rfl, rfl⟩
  · obtain ⟨D3, cf, k, i, f, g1, g2, g3, g4, g5, g6, g7⟩ := F
    cases hD.symm.trans g1
    simp only [RoadKit.slotOf, g2, gV, gC, Option.map_some, Option.getD_some] at n1 n2
    exact ⟨E', cf, k, i, f, q1.1, g2, g3, by rw [q2.1]; exact g4, by rw [q2.1]; exact g5, by rw [q2.2.1]; exact g6, by rw [q2.2.2 f.slot (by simp [n1, n2])]; exact g7⟩
end StrChars.Road
namespace StrChars.Road
open Jvm Sem ClassFile Op Lib Jvm.Stand Jvm.Free Jvm.Free.XT
/-- WHAT COMES BACK, the byte[] as a list of values -/
def QA (Z : State) (x : Addr) (zn : Int32) (cs : List Int32) (h : Heap) (v : Option Value) (h' : Heap) (L : List Loc) : Prop := v = none ∧ (∀ y ∈ L, y.base = x) ∧ RoadKit.Keep h h' [x] ∧ h'.size = h.size + 1 ∧ RoadKit.Exa Z h' x ST ∧ RoadKit.Fld Z h' x ST "value" "[B" (.ref h.size) ∧ RoadKit.Fld Z h' x ST "coder" "B" (.int 0) ∧
  (∃ kb, Z.vm.findClass "[B" = some kb ∧ RoadKit.Arv Z h' h.size kb .byte zn (cs.map fun c => .int (lo8 c)) (.int 0)) ∧
  ∀ (O n d : String) (w : Value), RoadKit.Fld Z h x O n d w → RoadKit.slotOf Z O n d ≠ RoadKit.slotOf Z ST "value" "[B" → RoadKit.slotOf Z O n d ≠ RoadKit.slotOf Z ST "coder" "B" → RoadKit.Fld Z h' x O n d w
/-- **new String(chars) AT A CALL, THE ARRAYS AS LISTS**: the char[] at b holds cs, not empty, no char above 255 -/
theorem backArv {p : Program} {l : Launch} {e : Env} {R : Room} {s : State} {args : Array Value} {below : List Frame} {len W : Nat} {Z : State} {a0 : Array Value} {h : Heap} (hZ : Z.Warmed39 s.vm) (hw : ∀ d ∈ words, d.before a0 Z = true) {kI : Nat} (wi : (Jvm.Cond.instantiable ST kI).before a0 Z = true)
    {x b : Addr} {k : ClassId} {zn z : Int32} {cs : List Int32} {dv v0 c0 : Value} (E : RoadKit.Exa Z h x ST) (V : RoadKit.Fld Z h x ST "value" "[B" v0) (C : RoadKit.Fld Z h x ST "coder" "B" c0) (K : RoadKit.Arv Z h b k .char zn (cs.map Value.int) dv) (S : RoadKit.Sta Z h ST "COMPACT_STRINGS" "Z" (.int z)) (hz : ¬ z = 0)
    (hlen : zn.toNatClampNeg = cs.length) (h0 : 0 < cs.length) (hbig : cs.length ≤ 536870912) (hall : ∀ c ∈ cs, ¬ 255 < c) (hfr : 4 ≤ R.frames) (hlo : W + 65 ≤ R.locals) :
    Back l R p e below s args New1.yN len W (fun P a => a = #[.ref x, .ref b] ∧ P.U.heap = h ∧ P.cells + 1 ≤ R.cells ∧ P.slots + cs.length ≤ R.slots)
      (fun P _ v B => ∃ L, QA Z x zn cs h v B.U.heap L ∧ B.locs = P.locs ++ L ∧ B.cells = P.cells + 1 ∧ B.slots = P.slots + cs.length) := by
  obtain ⟨A, K1, K2, K3, K4, K5, K6⟩ := K
  have e : A.slots.size = cs.length := K3.trans hlen
  have hat : ∀ (i : Nat) (hi : i < cs.length), A.slots[i]? = some (.int cs[i]) := fun i hi => by rw [K5 i (by omega)]; simp [List.getD_eq_getElem?_getD, hi]
  have hcv : ∀ (i : Nat) (hi : i < cs.length), cv A i = cs[i] := fun i hi => by unfold cv; rw [hat i hi]
  have hty : Typed .char A := fun i v hv => by
    have hi : i < A.slots.size := (Array.getElem?_eq_some_iff.mp hv).1
    have q := K5 i hi
    rw [hv] at q
    rw [Option.some.inj q]
    exact K6 i hi
  refine Back.mono (back hZ hw wi E V C K1 hty S hz (by omega) (by omega) (fun i hi => by rw [hcv i (by omega)]; exact hall _ (List.getElem_mem _)) hfr hlo) (fun P a hp => ⟨hp.1, hp.2.1, hp.2.2.1, by rw [e]; exact hp.2.2.2⟩) (fun P a v B hp hq => ?_)
  obtain ⟨L, ⟨q1, q2, q3, q4, q5, q6, q7, ⟨V', v1, v2, v3, v4, v5⟩, q9⟩, hl, hc, hs⟩ := hq
  refine ⟨L, ⟨q1, q2, q3, q4, q5, q6, q7, ⟨V'.cls, v3, V', v1, rfl, by rw [v4, e, hlen], K4, fun i hi => ?_, fun i hi => ?_⟩, q9⟩, hl, hc, by rw [hs, e]⟩
  · have hi' : i < cs.length := by omega
    rw [v5 i (by omega), hcv i hi']; simp [List.getD_eq_getElem?_getD, hi']
  · have hi' : i < cs.length := by omega
    simp only [List.getD_eq_getElem?_getD, List.getElem?_map, List.getElem?_eq_getElem hi', Option.map_some, Option.getD_some]
    exact fits_lo8 _
end StrChars.Road
namespace StrChars.Road
open Jvm Sem ClassFile Op Lib Jvm.Stand Jvm.Free Jvm.Free.XT
/-- WHAT COMES BACK, in the writer's own shape -/
def QV (Z : State) (x : Addr) (N : Int32) (bs : List Int32) (h : Heap) (n0 : Nat) (v : Option Value) (h' : Heap) (L : List Loc) : Prop := v = none ∧ RoadKit.Fr n0 L ∧ RoadKit.Keep h h' [x] ∧ RoadKit.Exa Z h' x ST ∧ RoadKit.Fld Z h' x ST "coder" "B" (.int 0) ∧
  ∃ (t : Addr) (kb : ClassId), n0 ≤ t ∧ h.size ≤ t ∧ ¬ t = x ∧ RoadKit.Fld Z h' x ST "value" "[B" (.ref t) ∧ RoadKit.Arv Z h' t kb .byte N (bs.map Value.int) (.int 0)
/-- **new String(chars) AT A CALL, FOR THE WRITER**: a char[] of n known ints, each 0 to 255 -/
theorem backV {p : Program} {l : Launch} {e : Env} {R : Room} {s : State} {args : Array Value} {below : List Frame} {len W : Nat} {Z : State} {a0 : Array Value} {h : Heap} (hZ : Z.Warmed39 s.vm) (hw : ∀ d ∈ words, d.before a0 Z = true) {kI : Nat} (wi : (Jvm.Cond.instantiable ST kI).before a0 Z = true)
    {x b : Addr} {kC : ClassId} {cs bs : List Int32} {d v0 c0 : Value} {z N : Int32} {n n0 : Nat} (hx0 : n0 ≤ x) (hh0 : n0 ≤ h.size) (E : RoadKit.Exa Z h x ST) (V : RoadKit.Fld Z h x ST "value" "[B" v0) (C : RoadKit.Fld Z h x ST "coder" "B" c0) (K : RoadKit.Arv Z h b kC .char N (cs.map Value.int) d) (S : RoadKit.Sta Z h ST "COMPACT_STRINGS" "Z" (.int z)) (hz : ¬ z = 0)
    (hn : cs.length = n) (hN : N = Int32.ofNat n) (l0 : 0 < n) (l2 : n ≤ 4000) (hp : ∀ c ∈ cs, ¬ c < 0 ∧ ¬ (255 : Int32) < c) (hb : bs = cs.map (fun c => c.toInt8.toInt32)) (hfr : 4 ≤ R.frames) (hlo : W + 65 ≤ R.locals) :
    Back l R p e below s args (⟨"java/lang/String", "<init>", "([C)V"⟩ : MethodName) len W (fun P a => a = #[.ref x, .ref b] ∧ P.U.heap = h ∧ P.cells + 1 ≤ R.cells ∧ P.slots + n ≤ R.slots)
      (fun P _ v B => ∃ L, QV Z x N bs h n0 v B.U.heap L ∧ B.locs = P.locs ++ L ∧ B.cells = P.cells + 1 ∧ B.slots = P.slots + n) := by
  subst hn hN hb
  refine Back.mono (backArv hZ hw wi E V C K S hz (n32 (by omega)) l0 (by omega) (fun c hc => (hp c hc).2) hfr hlo) (fun P a hp => hp) (fun P a v B hp hq => ?_)
  obtain ⟨L, ⟨q1, q2, q3, q4, q5, q6, q7, ⟨kb, v1, v2⟩, q9⟩, hl, hc, hs⟩ := hq
  exact ⟨L, ⟨q1, fun y hy => by rw [q2 y hy]; exact hx0, q3, q5, q7, h.size, kb, hh0, Nat.le_refl _, Nat.ne_of_gt E.lt, q6, by rw [List.map_map]; exact v2⟩, hl, hc, hs⟩
end StrChars.Road
end Jvm.Pilot.@@N@@

namespace Jvm.RoadKit
open Sem ClassFile Op Lib Jvm.Stand Jvm.Free Jvm.LawKit
section OwnGo
variable {p : Program} {l : Launch} {e : Env} {R : Room} {s : State} {m : MethodId} {args : Array Value} {below : List Frame} {meth : Method} {c : Code} {T T' : State} {locs : List Loc} {cells slots kc ks : Nat} {Q : Option Value → Heap → List Loc → Prop} {f f' : JFrame} {h : Heap}
/-- from the state T with the top frame f the body comes to its end, and what it leaves meets Q -/
def Go (p : Program) (e : Env) (below : List Frame) (s : State) (kc ks : Nat) (Q : Option Value → Heap → List Loc → Prop) (T : State) (f : JFrame) : Prop :=
  ∃ (s₂ : State) (o : Outcome), Steps p.tables e below (T.setTop f) s₂ ∧ s₂.status = .running ∧ Ended s₂ below o ∧ ∃ v L, o = .returned v ∧ Q v s₂.heap L ∧ FrameEnd s o s₂ L kc ks
theorem Go.step (h : ∀ target, Steps p.tables e below (T'.setTop f') target → Steps p.tables e below (T.setTop f) target) (k : Go p e below s kc ks Q T' f') : Go p e below s kc ks Q T f := by
  obtain ⟨s₂, o, h1, r⟩ := k
  exact ⟨s₂, o, h _ h1, r⟩
theorem Go.trans (h : Steps p.tables e below (T.setTop f) (T'.setTop f')) (k : Go p e below s kc ks Q T' f') : Go p e below s kc ks Q T f := by
  obtain ⟨s₂, o, h1, r⟩ := k
  exact ⟨s₂, o, h.trans h1, r⟩
theorem Go.cast (q : f = f') (k : Go p e below s kc ks Q T f') : Go p e below s kc ks Q T f := q ▸ k
theorem Go.enter {g : JFrame} {s₁ : State} (k : Go p e below s kc ks Q s₁ f) (q : g = f) :
    ∃ s₂ o, Steps p.tables e below (s₁.setTop g) s₂ ∧ s₂.status = .running ∧ Ended s₂ below o ∧ ∃ v L, o = .returned v ∧ Q v s₂.heap L ∧ FrameEnd s o s₂ L kc ks := by
  subst q; exact k
theorem Go.ret (X : Stand p l e R s m args below meth c T locs cells slots) (hx : p.tables.exec = Jvm.exec) {pc : Nat} {Ls : Array Slot} {w : Value} {t : FieldType} {i : Instr} {rest : List Value} (hret : meth.sig.returnType = some t) (hlk : meth.locks = false) (hn : narrow t w = w)
    (hi : (i = .ireturn ∧ (t = .int ∨ t = .boolean ∨ t = .byte ∨ t = .char ∨ t = .short) ∧ ∃ z, w = .int z) ∨ (i = .lreturn ∧ t = .long ∧ ∃ z, w = .long z) ∨ (i = .dreturn ∧ t = .double ∧ ∃ z, w = .double z) ∨ (i = .freturn ∧ t = .float ∧ ∃ z, w = .float z) ∨ (i = .areturn ∧ t.isReference = true ∧ w.isRef = true))
    (hd : decode c.code pc = .ok (i, 1)) (eT : T.heap = h) (hc : cells ≤ kc) (hs : slots ≤ ks) (hQ : Q (some w) h locs) : Go p e below s kc ks Q T (mkF m pc Ls (w :: rest)) := by
  obtain ⟨fs, hr, hrun, hended, hW, hsame⟩ := X.leave (v := some w) (fun q => by rw [hret] at q; cases q) hlk
  exact ⟨_, _, retOut X hx hret hn hi hd hr, hrun, hended, _, _, rfl, (by subst eT; exact hQ), ⟨_, rfl⟩, hW, hsame.mono hc hs⟩
theorem Go.retI (X : Stand p l e R s m args below meth c T locs cells slots) (hx : p.tables.exec = Jvm.exec) {pc : Nat} {Ls : Array Slot} {z : Int32} {rest : List Value} (hret : meth.sig.returnType = some .int) (hlk : meth.locks = false)
    (hd : decode c.code pc = .ok (.ireturn, 1)) (eT : T.heap = h) (hc : cells ≤ kc) (hs : slots ≤ ks) (hQ : Q (some (.int z)) h locs) : Go p e below s kc ks Q T (mkF m pc Ls (.int z :: rest)) :=
  Go.ret X hx hret hlk rfl (Or.inl ⟨rfl, Or.inl rfl, _, rfl⟩) hd eT hc hs hQ
theorem Go.retJ (X : Stand p l e R s m args below meth c T locs cells slots) (hx : p.tables.exec = Jvm.exec) {pc : Nat} {Ls : Array Slot} {z : Int64} {rest : List Value} (hret : meth.sig.returnType = some .long) (hlk : meth.locks = false)
    (hd : decode c.code pc = .ok (.lreturn, 1)) (eT : T.heap = h) (hc : cells ≤ kc) (hs : slots ≤ ks) (hQ : Q (some (.long z)) h locs) : Go p e below s kc ks Q T (mkF m pc Ls (.long z :: rest)) :=
  Go.ret X hx hret hlk rfl (Or.inr (Or.inl ⟨rfl, rfl, _, rfl⟩)) hd eT hc hs hQ
theorem Go.retA (X : Stand p l e R s m args below meth c T locs cells slots) (hx : p.tables.exec = Jvm.exec) {pc : Nat} {Ls : Array Slot} {w : Value} {t : FieldType} {rest : List Value} (hret : meth.sig.returnType = some t) (hlk : meth.locks = false) (ht : t.isReference = true) (hv : w.isRef = true)
    (hd : decode c.code pc = .ok (.areturn, 1)) (eT : T.heap = h) (hc : cells ≤ kc) (hs : slots ≤ ks) (hQ : Q (some w) h locs) : Go p e below s kc ks Q T (mkF m pc Ls (w :: rest)) :=
  Go.ret X hx hret hlk (by cases t <;> first | (cases ht; done) | (cases w <;> first | (cases hv; done) | rfl)) (Or.inr (Or.inr (Or.inr (Or.inr ⟨rfl, ht, hv⟩)))) hd eT hc hs hQ
theorem Go.retN (X : Stand p l e R s m args below meth c T locs cells slots) (hx : p.tables.exec = Jvm.exec) {pc : Nat} {Ls : Array Slot} {z : Int32} {t : FieldType} {rest : List Value} (hret : meth.sig.returnType = some t) (hlk : meth.locks = false) (ht : t = .boolean ∨ t = .byte ∨ t = .char ∨ t = .short)
    (hd : decode c.code pc = .ok (.ireturn, 1)) (eT : T.heap = h) (hc : cells ≤ kc) (hs : slots ≤ ks) (hQ : Q (some (.int (nar t z))) h locs) : Go p e below s kc ks Q T (mkF m pc Ls (.int z :: rest)) := by
  obtain ⟨fs, hr, hrun, hended, hW, hsame⟩ := X.leave (v := some (.int (nar t z))) (fun q => by rw [hret] at q; cases q) hlk
  exact ⟨_, _, Jvm.RoadKit.retN X hx hret ht hd hr, hrun, hended, _, _, rfl, (by subst eT; exact hQ), ⟨_, rfl⟩, hW, hsame.mono hc hs⟩
theorem Go.ret0 (X : Stand p l e R s m args below meth c T locs cells slots) (hx : p.tables.exec = Jvm.exec) {pc : Nat} {Ls : Array Slot} (hret : meth.sig.returnType = none) (hlk : meth.locks = false)
    (hd : decode c.code pc = .ok (.return_, 1)) (eT : T.heap = h) (hc : cells ≤ kc) (hs : slots ≤ ks) (hQ : Q none h locs) : Go p e below s kc ks Q T (mkF m pc Ls []) := by
  obtain ⟨fs, hr, hrun, hended, hW, hsame⟩ := X.leave (v := none) (fun _ => rfl) hlk
  exact ⟨_, _, X.returnOut hx hret hd hr, hrun, hended, _, _, rfl, (by subst eT; exact hQ), ⟨_, rfl⟩, hW, hsame.mono hc hs⟩
theorem own_selp {args' : Array Value} {y : MethodName} {n : Nat} (wi : (Cond.instantiable y.cls n).before args' s = true) (hpriv : s.PrivateAt y) (hinst : (Cond.instanceMethod y).before args' s = true) (hy : y.cls ≠ "java/lang/invoke/MethodHandle" ∧ y.cls ≠ "java/lang/invoke/VarHandle") : (Cond.selects y.cls y y).before args' s = true := by
  obtain ⟨c, k, h1, h2, -, h4, -⟩ := Cond.instantiable_spec wi
  exact selects_self_of_private h1 h2 (by simp only [Bool.or_eq_false_iff] at h4; exact h4.1) hpriv hinst hy
theorem own_mvMN {Z : State} {a0 args' : Array Value} {own host : String} {y : MethodName} {index : Nat} (hZ : Z.Warmed39 s.vm) (w : (Cond.methodLinkNest own index y host).before a0 Z = true) : (Cond.methodLinkNest own index y host).before args' s = true := (Cond.methodLinkNest_wide hZ w :)
theorem own_nar01 {z : Int32} (h : z = 0 ∨ z = 1) : nar .boolean z = z := by rcases h with rfl | rfl <;> decide
end OwnGo
end Jvm.RoadKit
namespace Jvm.Pilot.@@N@@
open Jvm Jvm.ClassFile Sem Op Lib Jvm.Free Jvm.Stand Jvm.LawKit Jvm.RoadKit Bundle Jvm.Pilot.@@N@@.Jvm.D
section
open Jvm.FP Jvm.FP.Core Jvm.Free.Fl
/-- a is a finite double; its value in units of 2^-1074 is z -/
def own_Z (a : UInt64) (z : Int) : Prop := ∃ (s : Bool) (c : Nat) (q : Int), val64 a = .fin s c q ∧ -1074 ≤ q ∧ signed s (c * 2 ^ (q + 1074).toNat) = z
/-- z units are a number of the format -/
def own_rep (z : Int) : Prop := ∃ c j : Nat, z.natAbs = c * 2 ^ j ∧ c < 9007199254740992 ∧ j ≤ 2045
theorem own_e1 : (2 : Nat) ^ b64.p = 9007199254740992 := by decide +kernel
theorem own_e2 : b64.qmin = -1074 := by decide +kernel
theorem own_e3 : b64.qmax = 971 := by decide +kernel
theorem own_Z.fin {a : UInt64} {z : Int} (h : own_Z a z) : Fin64 a := by
  obtain ⟨s, c, q, h1, -⟩ := h
  exact fin64_core.mpr ⟨s, c, q, h1⟩
theorem own_Z.nn {a : UInt64} {z : Int} (h : own_Z a z) : NoNaN64 a := h.fin.noNaN
theorem own_sabs (s : Bool) (n : Nat) : (signed s n).natAbs = n := by cases s <;> simp [signed]
theorem own_sc {A B : Nat} {a b : Int} (n : Nat) (ha : 0 ≤ a + n) (hb : 0 ≤ b + n) (h : A * 2 ^ (a + n).toNat = B * 2 ^ (b + n).toNat) : A * 2 ^ (a - b).toNat = B * 2 ^ (b - a).toNat := by
  by_cases q : a ≤ b
  · rw [show (a - b).toNat = 0 by omega, show (b + n).toNat = (a + n).toNat + (b - a).toNat by omega] at *
    rw [Nat.pow_add] at h
    have hp := Nat.two_pow_pos (a + n).toNat
    have : A * 2 ^ (a + n).toNat = (B * 2 ^ (b - a).toNat) * 2 ^ (a + n).toNat := by rw [h]; ac_rfl
    have := Nat.eq_of_mul_eq_mul_right hp this
    simpa using this
  · rw [show (b - a).toNat = 0 by omega, show (a + n).toNat = (b + n).toNat + (a - b).toNat by omega] at *
    rw [Nat.pow_add] at h
    have hp := Nat.two_pow_pos (b + n).toNat
    have : (A * 2 ^ (a - b).toNat) * 2 ^ (b + n).toNat = B * 2 ^ (b + n).toNat := by rw [← h]; ac_rfl
    have := Nat.eq_of_mul_eq_mul_right hp this
    simpa using this
/-- a ratio that is a number of the format -/
theorem own_ratio {s : Bool} {A B c j : Nat} {e : Int} (hB : 0 < B) (n : Nat) (hn : 1074 ≤ n) (he : 0 ≤ e + n) (hc : c < 9007199254740992) (hj : j ≤ 2045) (h : A * 2 ^ (e + n).toNat = (c * B) * 2 ^ ((j : Int) - 1074 + n).toNat) :
    ∃ c' q', roundRatio b64 s A B e = .fin s c' q' ∧ -1074 ≤ q' ∧ c' * 2 ^ (q' + 1074).toNat = c * 2 ^ j := by
  have h1 := own_sc n he (by omega) h
  rw [roundRatio_congr (A' := c) (B' := 1) (e' := (j : Int) - 1074) hB (by decide) (by simpa using h1)]
  obtain ⟨c', q', r1, r2⟩ := round_exact good_b64 s (c := c) (q := (j : Int) - 1074) (by rw [own_e1]; exact hc) (by rw [own_e2]; omega) (by rw [own_e3]; omega)
  have hf := round_fits good_b64 (.fin s c ((j : Int) - 1074))
  rw [r1] at hf
  have hq : -1074 ≤ q' := by have := hf.2.1; rw [own_e2] at this; exact this
  refine ⟨c', q', r1, hq, ?_⟩
  unfold inUnits at r2
  rw [own_e2, show (q' - -1074).toNat = (q' + 1074).toNat by omega, show ((j : Int) - 1074 - -1074).toNat = j by omega] at r2
  exact r2
theorem own_signed {s t : Bool} {n m : Nat} (h : signed s n = signed t m) : n = m := by
  have := congrArg Int.natAbs h; rwa [own_sabs, own_sabs] at this
def own_U : Nat := 2 ^ 1074
theorem own_Upos : 0 < own_U := Nat.two_pow_pos _
theorem own_Zint (x : Int64) (h : x.toInt.natAbs < 9007199254740992) : own_Z (FP.l2d x) (x.toInt * (own_U : Int)) := by
  obtain ⟨c', q', r1, r2, r3⟩ := own_ratio (s := decide (x.toInt < 0)) (A := x.toInt.natAbs) (B := 1) (c := x.toInt.natAbs) (j := 1074) (e := 0) (by decide) 1074 (by omega) (by omega) h (by omega) (by simp)
  refine ⟨decide (x.toInt < 0), c', q', ?_, r2, ?_⟩
  · rw [show FP.l2d x = Core.l2d x from rfl, val64_l2d]; exact r1
  · rw [r3]; unfold signed
    by_cases q : x.toInt < 0
    · rw [decide_eq_true q, if_pos rfl, Int.natCast_mul, show ((x.toInt.natAbs : Nat) : Int) = -x.toInt by omega, Int.neg_mul, Int.neg_neg]; rfl
    · rw [decide_eq_false q, if_neg (by decide), Int.natCast_mul, show ((x.toInt.natAbs : Nat) : Int) = x.toInt by omega]; rfl
theorem own_Zsum {s t : Bool} {c d : Nat} {q r : Int} {x y : Int} {a : UInt64} (ha : val64 a = round b64 (exactSum (.fin s c q) (.fin t d r))) (hq : -1074 ≤ q) (hr : -1074 ≤ r) (hx : signed s (c * 2 ^ (q + 1074).toNat) = x) (hy : signed t (d * 2 ^ (r + 1074).toNat) = y) (hz : own_rep (x + y)) : own_Z a (x + y) := by
  obtain ⟨c0, j, e1, e2, e3⟩ := hz
  have hu : sumUnits s c q t d r (min q r) * ((2 ^ (min q r + 1074).toNat : Nat) : Int) = x + y := by
    unfold sumUnits inUnits
    rw [Int.add_mul, ← signed_mul, ← signed_mul, ← hx, ← hy, Nat.mul_assoc, Nat.mul_assoc, ← Nat.pow_add, ← Nat.pow_add, show (q - min q r).toNat + (min q r + 1074).toNat = (q + 1074).toNat by omega, show (r - min q r).toNat + (min q r + 1074).toNat = (r + 1074).toNat by omega]
  have ha' : val64 a = roundRatio b64 (sumSign s t (sumUnits s c q t d r (min q r))) (sumUnits s c q t d r (min q r)).natAbs 1 (min q r) := ha
  generalize sumUnits s c q t d r (min q r) = v at *
  have hna : v.natAbs * 2 ^ (min q r + 1074).toNat = c0 * 2 ^ j := by
    rw [← e1, ← hu, Int.natAbs_mul, Int.natAbs_natCast]
  obtain ⟨c', q', r1, r2, r3⟩ := own_ratio (s := sumSign s t v) (A := v.natAbs) (B := 1) (c := c0) (j := j) (e := min q r) (by decide) 1074 (by omega) (by omega) e2 e3 (by rw [show ((j : Int) - 1074 + ((1074 : Nat) : Int)).toNat = j by omega, Nat.mul_one]; exact hna)
  refine ⟨sumSign s t v, c', q', by rw [ha']; exact r1, r2, ?_⟩
  rw [r3, ← hna, signed_mul, ← hu]
  congr 1
  unfold sumSign signed
  by_cases v0 : v = 0
  · subst v0; split <;> simp
  · rw [if_neg v0]
    by_cases v1 : v < 0
    · rw [decide_eq_true v1, if_pos rfl]; omega
    · rw [decide_eq_false v1, if_neg (by decide)]; omega
theorem own_Zadd {a b : UInt64} {x y : Int} (ha : own_Z a x) (hb : own_Z b y) (hz : own_rep (x + y)) : own_Z (FP.dadd a b) (x + y) := by
  obtain ⟨s, c, q, h1, h2, h3⟩ := ha
  obtain ⟨t, d, r, k1, k2, k3⟩ := hb
  refine own_Zsum (by rw [show FP.dadd a b = Core.dadd a b from rfl, val64_dadd, h1, k1]) h2 k2 h3 k3 hz
theorem own_Zsub {a b : UInt64} {x y : Int} (ha : own_Z a x) (hb : own_Z b y) (hz : own_rep (x - y)) : own_Z (FP.dsub a b) (x - y) := by
  obtain ⟨s, c, q, h1, h2, h3⟩ := ha
  obtain ⟨t, d, r, k1, k2, k3⟩ := hb
  rw [show x - y = x + -y by omega] at hz ⊢
  refine own_Zsum (t := !t) (d := d) (r := r) (by rw [show FP.dsub a b = Core.dsub a b from rfl, val64_dsub, h1, k1]; rfl) h2 k2 h3 (by rw [← k3]; cases t <;> simp [signed]) hz
theorem own_Zcmp {a b : UInt64} {x y : Int} (ha : own_Z a x) (hb : own_Z b y) : FP.dcmp a b = some (compare x y) := by
  obtain ⟨s, c, q, h1, h2, h3⟩ := ha
  obtain ⟨t, d, r, k1, k2, k3⟩ := hb
  have e : FP.dcmp a b = order (val64 a) (val64 b) := rfl
  rw [e, order_zval good_b64 (val64_fits a) (val64_fits b) (by rw [h1]; exact nofun) (by rw [k1]; exact nofun), h1, k1]
  have z1 : zval b64 (.fin s c q) = x := by rw [← h3]; show signed s (inUnits c q b64.qmin) = _; unfold inUnits; rw [own_e2, show (q - -1074).toNat = (q + 1074).toNat by omega]
  have z2 : zval b64 (.fin t d r) = y := by rw [← k3]; show signed t (inUnits d r b64.qmin) = _; unfold inUnits; rw [own_e2, show (r - -1074).toNat = (r + 1074).toNat by omega]
  rw [z1, z2]
theorem own_sgn {s t : Bool} {X Y W : Nat} {z : Int} (hY : 0 < Y) (h : z * signed t Y = signed s X * (W : Int)) : signed (s != t) z.natAbs = z := by
  have hY' : (0 : Int) < (Y : Int) := by omega
  have hXW : (0 : Int) ≤ (X : Int) * (W : Int) := Int.mul_nonneg (by omega) (by omega)
  by_cases z0 : z = 0
  · subst z0; cases s <;> cases t <;> rfl
  by_cases zn : z < 0
  · have hm : z * (Y : Int) < 0 := Int.mul_neg_of_neg_of_pos zn hY'
    cases s <;> cases t <;> simp [signed, Int.neg_mul, Int.mul_neg] at h ⊢ <;> omega
  · have hm : 0 < z * (Y : Int) := Int.mul_pos (by omega) hY'
    cases s <;> cases t <;> simp [signed, Int.neg_mul, Int.mul_neg] at h ⊢ <;> omega
theorem own_rle {a : UInt64} {s : Bool} {c : Nat} {q : Int} (h : val64 a = .fin s c q) : q ≤ 971 := by
  have := val64_fits a; rw [h] at this; have := this.2.2.1; rw [own_e3] at this; exact this
theorem own_Zdiv {a b : UInt64} {x y z : Int} (ha : own_Z a x) (hb : own_Z b y) (hy : y ≠ 0) (hz : own_rep z) (h : z * y = x * (own_U : Int)) : own_Z (FP.ddiv a b) z := by
  obtain ⟨s, c, q, h1, h2, h3⟩ := ha
  obtain ⟨t, d, r, k1, k2, k3⟩ := hb
  obtain ⟨c0, j, e1, e2, e3⟩ := hz
  have hr := own_rle k1
  have hd : d ≠ 0 := by intro d0; subst d0; apply hy; rw [← k3]; cases t <;> simp [signed]
  have hR := Nat.two_pow_pos (r + 1074).toNat
  have hY : 0 < d * 2 ^ (r + 1074).toNat := Nat.mul_pos (by omega) hR
  have hs := own_sgn (s := s) (t := t) (X := c * 2 ^ (q + 1074).toNat) (W := own_U) hY (by rw [k3, h3]; exact h)
  have hn : c0 * 2 ^ j * (d * 2 ^ (r + 1074).toNat) = c * 2 ^ (q + 1074).toNat * 2 ^ 1074 := by
    have := congrArg Int.natAbs h
    rw [Int.natAbs_mul, Int.natAbs_mul, e1, ← k3, ← h3, own_sabs, own_sabs, Int.natAbs_natCast] at this
    exact this
  have hE : c * 2 ^ (q - r + ((4000 : Nat) : Int)).toNat = (c0 * d) * 2 ^ ((j : Int) - 1074 + ((4000 : Nat) : Int)).toNat := by
    have h5 := congrArg (· * 2 ^ (4000 - 1074 - (r + 1074).toNat)) hn
    have l1 : c0 * 2 ^ j * (d * 2 ^ (r + 1074).toNat) * 2 ^ (4000 - 1074 - (r + 1074).toNat) = (c0 * d) * 2 ^ ((j : Int) - 1074 + ((4000 : Nat) : Int)).toNat := by
      rw [show ((j : Int) - 1074 + ((4000 : Nat) : Int)).toNat = j + ((r + 1074).toNat + (4000 - 1074 - (r + 1074).toNat)) by omega, Nat.pow_add, Nat.pow_add]; ac_rfl
    have l2 : c * 2 ^ (q + 1074).toNat * 2 ^ 1074 * 2 ^ (4000 - 1074 - (r + 1074).toNat) = c * 2 ^ (q - r + ((4000 : Nat) : Int)).toNat := by
      rw [show (q - r + ((4000 : Nat) : Int)).toNat = (q + 1074).toNat + (1074 + (4000 - 1074 - (r + 1074).toNat)) by omega, Nat.pow_add, Nat.pow_add]; generalize (2 : Nat) ^ 1074 = P1; ac_rfl
    rw [← l1, ← l2, h5]
  obtain ⟨c', q', r1, r2, r3⟩ := own_ratio (s := s != t) (A := c) (B := d) (c := c0) (j := j) (e := q - r) (by omega) 4000 (by omega) (by omega) e2 e3 hE
  refine ⟨s != t, c', q', ?_, r2, ?_⟩
  · rw [show FP.ddiv a b = Core.ddiv a b from rfl, val64_ddiv, h1, k1]
    show (if d = 0 then _ else roundRatio b64 (s != t) c d (q - r)) = _
    rw [if_neg hd]; exact r1
  · rw [r3, ← e1]; exact hs
theorem own_sgn2 {s t : Bool} {X Y W : Nat} {z : Int} (hW : 0 < W) (h : z * (W : Int) = signed s X * signed t Y) : signed (s != t) z.natAbs = z := by
  have hW' : (0 : Int) < (W : Int) := by omega
  have hXY : (0 : Int) ≤ (X : Int) * (Y : Int) := Int.mul_nonneg (by omega) (by omega)
  by_cases z0 : z = 0
  · subst z0; cases s <;> cases t <;> rfl
  by_cases zn : z < 0
  · have hm : z * (W : Int) < 0 := Int.mul_neg_of_neg_of_pos zn hW'
    cases s <;> cases t <;> simp [signed, Int.neg_mul, Int.mul_neg] at h ⊢ <;> omega
  · have hm : 0 < z * (W : Int) := Int.mul_pos (by omega) hW'
    cases s <;> cases t <;> simp [signed, Int.neg_mul, Int.mul_neg] at h ⊢ <;> omega
theorem own_Zmul {a b : UInt64} {x y z : Int} (ha : own_Z a x) (hb : own_Z b y) (hz : own_rep z) (h : z * (own_U : Int) = x * y) : own_Z (FP.dmul a b) z := by
  obtain ⟨s, c, q, h1, h2, h3⟩ := ha
  obtain ⟨t, d, r, k1, k2, k3⟩ := hb
  obtain ⟨c0, j, e1, e2, e3⟩ := hz
  have hs := own_sgn2 (s := s) (t := t) (X := c * 2 ^ (q + 1074).toNat) (Y := d * 2 ^ (r + 1074).toNat) own_Upos (by rw [k3, h3]; exact h)
  have hn : c0 * 2 ^ j * 2 ^ 1074 = c * 2 ^ (q + 1074).toNat * (d * 2 ^ (r + 1074).toNat) := by
    have := congrArg Int.natAbs h
    rw [Int.natAbs_mul, Int.natAbs_mul, e1, ← k3, ← h3, own_sabs, own_sabs, Int.natAbs_natCast] at this
    exact this
  have hE : (c * d) * 2 ^ (q + r + ((4000 : Nat) : Int)).toNat = (c0 * 1) * 2 ^ ((j : Int) - 1074 + ((4000 : Nat) : Int)).toNat := by
    have h5 := congrArg (· * 2 ^ (4000 - 2148)) hn
    have l1 : c0 * 2 ^ j * 2 ^ 1074 * 2 ^ (4000 - 2148) = (c0 * 1) * 2 ^ ((j : Int) - 1074 + ((4000 : Nat) : Int)).toNat := by
      rw [show ((j : Int) - 1074 + ((4000 : Nat) : Int)).toNat = j + (1074 + (4000 - 2148)) by omega, Nat.pow_add, Nat.pow_add]; generalize (2 : Nat) ^ 1074 = P1; generalize (2 : Nat) ^ (4000 - 2148) = P2; ac_rfl
    have l2 : c * 2 ^ (q + 1074).toNat * (d * 2 ^ (r + 1074).toNat) * 2 ^ (4000 - 2148) = (c * d) * 2 ^ (q + r + ((4000 : Nat) : Int)).toNat := by
      rw [show (q + r + ((4000 : Nat) : Int)).toNat = (q + 1074).toNat + ((r + 1074).toNat + (4000 - 2148)) by omega, Nat.pow_add, Nat.pow_add]; generalize (2 : Nat) ^ (4000 - 2148) = P2; ac_rfl
    rw [← l1, ← l2, h5]
  obtain ⟨c', q', r1, r2, r3⟩ := own_ratio (s := s != t) (A := c * d) (B := 1) (c := c0) (j := j) (e := q + r) (by decide) 4000 (by omega) (by omega) e2 e3 hE
  refine ⟨s != t, c', q', ?_, r2, ?_⟩
  · rw [show FP.dmul a b = Core.dmul a b from rfl, val64_dmul, h1, k1]; exact r1
  · rw [r3, ← e1]; exact hs
end
section
open Jvm Jvm.ClassFile Sem Op Lib Jvm.Free Jvm.Stand Jvm.LawKit Jvm.RoadKit Jvm.FP Jvm.Free.Fl
theorem own_alg1 (j q u : Int) : j * q * (4 * u) = j * (4 * q) * u := by ac_rfl
theorem own_alg2 (m q : Int) : m * (4 * q) = (4 * m) * q := by ac_rfl
theorem own_alg3 (j t D u : Int) : j * t * (D * u) = j * (t * D) * u := by ac_rfl
theorem own_alg4 (j t D u : Int) : j * t * (4 * D * u) = j * (4 * (t * D)) * u := by ac_rfl
theorem own_repP (m : Int) (k : Nat) (h : m.natAbs < 9007199254740992) (hk : k ≤ 2045) : own_rep (m * ((2 ^ k : Nat) : Int)) := ⟨m.natAbs, k, by rw [Int.natAbs_mul, Int.natAbs_natCast], h, hk⟩
def own_Q : Nat := 2 ^ 1072
theorem own_U4 : (own_U : Int) = 4 * (own_Q : Int) := by
  have : own_U = 4 * own_Q := by unfold own_U own_Q; rw [show (1074 : Nat) = 2 + 1072 from rfl, Nat.pow_add]
  omega
theorem own_Qpos : (0 : Int) < (own_Q : Int) := by have : 0 < own_Q := Nat.two_pow_pos _; omega
theorem own_four : own_Z 4616189618054758400 (4 * (own_U : Int)) := by
  have := own_Zint 4 (by decide); rw [show FP.l2d 4 = 4616189618054758400 by decide +kernel] at this; exact this
theorem own_quart (j : Int32) : own_Z (FP.ddiv (FP.i2d j) 4616189618054758400) (j.toInt * (own_Q : Int)) := by
  have g := rng32 j; have e := c_i2l j
  rw [i2d_w j]
  have h1 := own_Zint j.toInt64 (by omega)
  rw [e] at h1
  refine own_Zdiv h1 own_four (by have := own_Upos; omega) (own_repP _ 1072 (by omega) (by omega)) ?_
  show j.toInt * (own_Q : Int) * (4 * (own_U : Int)) = _
  rw [own_alg1, ← own_U4]
theorem own_adv {jp : Int64} {j : Int32} (hp : 0 ≤ jp.toInt ∧ jp.toInt ≤ 65790) : own_Z (FP.dadd (FP.l2d jp) (FP.ddiv (FP.i2d j) 4616189618054758400)) ((4 * jp.toInt + j.toInt) * (own_Q : Int)) := by
  have g := rng32 j
  have e : jp.toInt * (own_U : Int) + j.toInt * (own_Q : Int) = (4 * jp.toInt + j.toInt) * (own_Q : Int) := by rw [own_U4, Int.add_mul, own_alg2]
  have := own_Zadd (own_Zint jp (by omega)) (own_quart j) (by rw [e]; exact own_repP _ 1072 (by omega) (by omega))
  rw [e] at this; exact this
theorem own_cv (x y : Int) (o : CmpOp) : cmpValue (some (compare x y)) o = if x < y then -1 else if x = y then 0 else 1 := by
  simp only [compare, compareOfLessAndEq]
  by_cases h : x < y
  · simp only [if_pos h]; rfl
  · simp only [if_neg h]
    by_cases h2 : x = y
    · simp only [if_pos h2]; rfl
    · simp only [if_neg h2]; rfl
theorem own_cvg {a b : UInt64} {x y : Int} (ha : own_Z a x) (hb : own_Z b y) (o : CmpOp) : ((0 : Int32) < cmpValue (FP.dcmp a b) o ↔ y < x) := by
  rw [own_Zcmp ha hb, own_cv]
  by_cases h : x < y
  · rw [if_pos h]; exact ⟨fun q => absurd q (by decide), fun q => by omega⟩
  · rw [if_neg h]
    by_cases h2 : x = y
    · rw [if_pos h2]; exact ⟨fun q => absurd q (by decide), fun q => by omega⟩
    · rw [if_neg h2]; exact ⟨fun _ => by omega, fun _ => by decide⟩
theorem own_cve {a b : UInt64} {x : Int} (ha : own_Z a x) (hb : own_Z b x) (o : CmpOp) : cmpValue (FP.dcmp a b) o = 0 := by
  rw [own_Zcmp ha hb, own_cv, if_neg (by omega), if_pos rfl]
theorem own_mulQ {m n : Int} : m * (own_Q : Int) < n * (own_Q : Int) ↔ m < n := by
  have := own_Qpos
  constructor
  · intro h; exact Int.lt_of_mul_lt_mul_right h (by omega)
  · intro h; exact Int.mul_lt_mul_of_pos_right h this
theorem own_UQ (m : Int) : m * (own_U : Int) = (4 * m) * (own_Q : Int) := by rw [own_U4, own_alg2]
theorem own_g1 {da : UInt64} {jp : Int64} {j : Int32} (hp : 0 ≤ jp.toInt ∧ jp.toInt ≤ 65790) (ZA : own_Z da ((4 * jp.toInt + j.toInt) * (own_Q : Int))) (o : CmpOp) : ((0 : Int32) < cmpValue (FP.dcmp da (FP.l2d jp)) o ↔ 0 < j.toInt) := by
  rw [own_cvg ZA (own_Zint jp (by omega)), own_UQ, own_mulQ]; omega
theorem own_g2 {da : UInt64} {jp jv : Int64} {j : Int32} {D : Int} (hp : 0 ≤ jp.toInt ∧ jp.toInt ≤ 65790) (hD : 0 ≤ D ∧ D ≤ 128) (hv : jv.toInt = jp.toInt + D) (ZA : own_Z da ((4 * jp.toInt + j.toInt) * (own_Q : Int))) (o : CmpOp) : ((0 : Int32) < cmpValue (FP.dcmp da (FP.l2d jv)) o ↔ 4 * D < j.toInt) := by
  rw [own_cvg ZA (own_Zint jv (by omega)), own_UQ, own_mulQ]; omega
theorem own_fin3 {da : UInt64} {jp jv : Int64} {j sp : Int32} {D : Int} {e : Nat} (hp : 0 ≤ jp.toInt ∧ jp.toInt ≤ 65790) (hD : D = ((2 ^ e : Nat) : Int)) (he : e ≤ 7) (hv : jv.toInt = jp.toInt + D) (hs : sp.toInt = 4 * D) (hj : 0 < j.toInt ∧ j.toInt ≤ 4 * D) (ZA : own_Z da ((4 * jp.toInt + j.toInt) * (own_Q : Int))) :
    NoNaN64 (FP.dsub da (FP.l2d jp)) ∧ NoNaN64 (FP.dsub (FP.l2d jv) (FP.l2d jp)) ∧ NoNaN64 (FP.ddiv (FP.dsub da (FP.l2d jp)) (FP.dsub (FP.l2d jv) (FP.l2d jp))) ∧
    NoNaN64 (FP.dmul (FP.ddiv (FP.dsub da (FP.l2d jp)) (FP.dsub (FP.l2d jv) (FP.l2d jp))) (FP.i2d sp)) ∧ cmpValue (FP.dcmp (FP.dmul (FP.ddiv (FP.dsub da (FP.l2d jp)) (FP.dsub (FP.l2d jv) (FP.l2d jp))) (FP.i2d sp)) (FP.i2d j)) .l = 0 := by
  have hD1 : 1 ≤ D ∧ D ≤ 128 := by
    have p1 := Nat.two_pow_pos e
    have p2 : 2 ^ e ≤ 2 ^ 7 := Nat.pow_le_pow_right (by decide) he
    have : (2 : Nat) ^ 7 = 128 := rfl
    omega
  have gj := rng32 j
  have e1 : (4 * jp.toInt + j.toInt) * (own_Q : Int) - jp.toInt * (own_U : Int) = j.toInt * (own_Q : Int) := by rw [own_UQ, ← Int.sub_mul]; congr 1; omega
  have Z1 := own_Zsub ZA (own_Zint jp (by omega)) (by rw [e1]; exact own_repP _ 1072 (by omega) (by omega))
  rw [e1] at Z1
  have e2 : jv.toInt * (own_U : Int) - jp.toInt * (own_U : Int) = D * (own_U : Int) := by rw [← Int.sub_mul, hv]; congr 1; omega
  have Z2 := own_Zsub (own_Zint jv (by omega)) (own_Zint jp (by omega)) (by rw [e2]; exact own_repP _ 1074 (by omega) (by omega))
  rw [e2] at Z2
  have hU := own_Upos
  have hUi : (0 : Int) < (own_U : Int) := by omega
  have Z3 : own_Z (FP.ddiv (FP.dsub da (FP.l2d jp)) (FP.dsub (FP.l2d jv) (FP.l2d jp))) (j.toInt * ((2 ^ (1072 - e) : Nat) : Int)) := by
    refine own_Zdiv Z1 Z2 ?_ (own_repP _ _ (by omega) (by omega)) ?_
    · have := Int.mul_pos (show (0 : Int) < D by omega) hUi; omega
    · have : ((2 ^ (1072 - e) : Nat) : Int) * D = (own_Q : Int) := by
        rw [hD, ← Int.natCast_mul, ← Nat.pow_add, show 1072 - e + e = 1072 by omega]; rfl
      rw [own_alg3, this]
  have es := c_i2l sp
  have ej := c_i2l j
  have Zs : own_Z (FP.i2d sp) ((4 * D) * (own_U : Int)) := by have := own_Zint sp.toInt64 (by omega); rw [es, hs] at this; rw [i2d_w sp]; exact this
  have Zj : own_Z (FP.i2d j) (j.toInt * (own_U : Int)) := by have := own_Zint j.toInt64 (by omega); rw [ej] at this; rw [i2d_w j]; exact this
  have Z4 : own_Z (FP.dmul (FP.ddiv (FP.dsub da (FP.l2d jp)) (FP.dsub (FP.l2d jv) (FP.l2d jp))) (FP.i2d sp)) (j.toInt * (own_U : Int)) := by
    refine own_Zmul Z3 Zs (own_repP _ 1074 (by omega) (by omega)) ?_
    have : ((2 ^ (1072 - e) : Nat) : Int) * D = (own_Q : Int) := by
      rw [hD, ← Int.natCast_mul, ← Nat.pow_add, show 1072 - e + e = 1072 by omega]; rfl
    rw [own_alg4, this, ← own_U4]
  exact ⟨Z1.nn, Z2.nn, Z3.nn, Z4.nn, own_cve Z4 Zj .l⟩
theorem own_max : own_Z 9218868437227405311 (9007199254740991 * ((2 ^ 2045 : Nat) : Int)) := ⟨false, 9007199254740991, 971, by decide +kernel, by decide, by show ((9007199254740991 * 2 ^ (971 + 1074 : Int).toNat : Nat) : Int) = _; rw [show (971 + 1074 : Int).toNat = 2045 from rfl, Int.natCast_mul]; rfl⟩
theorem own_isfin {jx : Int64} (h : 0 ≤ jx.toInt ∧ jx.toInt < 9007199254740992) : ¬ ((0 : Int32) < cmpValue (FP.dcmp (FP.l2d jx &&& 0x7fffffffffffffff) 9218868437227405311) .g) := by
  rw [abs_w (by rw [Int64.lt_iff_toInt_lt]; show ¬ jx.toInt < 0; omega), own_cvg (own_Zint jx (by omega)) own_max]
  have h1 : jx.toInt * (own_U : Int) ≤ 9007199254740991 * (own_U : Int) := Int.mul_le_mul_of_nonneg_right (by omega) (by omega)
  have h2 : (own_U : Int) ≤ ((2 ^ 2045 : Nat) : Int) := by have : own_U ≤ 2 ^ 2045 := Nat.pow_le_pow_right (by decide) (by decide); omega
  have h3 : 9007199254740991 * (own_U : Int) ≤ 9007199254740991 * ((2 ^ 2045 : Nat) : Int) := Int.mul_le_mul_of_nonneg_left h2 (by decide)
  omega
theorem own_le {a b : Int64} (ha : 0 ≤ a.toInt ∧ a.toInt < 9007199254740992) (hb : 0 ≤ b.toInt ∧ b.toInt < 9007199254740992) (h : a.toInt ≤ b.toInt) (o : CmpOp) : ¬ ((0 : Int32) < cmpValue (FP.dcmp (FP.l2d a) (FP.l2d b)) o) := by
  rw [own_cvg (own_Zint a (by omega)) (own_Zint b (by omega))]
  have hU := own_Upos
  have := Int.mul_le_mul_of_nonneg_right h (show (0 : Int) ≤ (own_U : Int) by omega)
  omega
end
open Jvm.Free.Fl
theorem own_k8 (x : Int32) : ∃ e : Nat, e ≤ 7 ∧ ((1 : Int32) <<< ((x &&& 7) &&& 31)).toInt = ((2 ^ e : Nat) : Int) := by
  have := c_mask x 7 3 (by decide) (by decide)
  have : (7 : Int32).toInt = 7 := rfl
  have h : x &&& 7 = 0 ∨ x &&& 7 = 1 ∨ x &&& 7 = 2 ∨ x &&& 7 = 3 ∨ x &&& 7 = 4 ∨ x &&& 7 = 5 ∨ x &&& 7 = 6 ∨ x &&& 7 = 7 := by
    simp only [← Int32.toInt_inj]; have : (0 : Int32).toInt = 0 := rfl; have : (1 : Int32).toInt = 1 := rfl; have : (2 : Int32).toInt = 2 := rfl; have : (3 : Int32).toInt = 3 := rfl; have : (4 : Int32).toInt = 4 := rfl; have : (5 : Int32).toInt = 5 := rfl; have : (6 : Int32).toInt = 6 := rfl; have : (7 : Int32).toInt = 7 := rfl; omega
  rcases h with h | h | h | h | h | h | h | h <;> rw [h]
  · exact ⟨0, by decide, by decide⟩
  · exact ⟨1, by decide, by decide⟩
  · exact ⟨2, by decide, by decide⟩
  · exact ⟨3, by decide, by decide⟩
  · exact ⟨4, by decide, by decide⟩
  · exact ⟨5, by decide, by decide⟩
  · exact ⟨6, by decide, by decide⟩
  · exact ⟨7, by decide, by decide⟩
theorem own_j3 (j : Int32) (D : Int) : j.toInt ≤ 0 ∨ (0 < j.toInt ∧ 4 * D < j.toInt) ∨ (0 < j.toInt ∧ j.toInt ≤ 4 * D) := by omega
theorem own_dr {d : Int32} {e : Nat} (h : d.toInt = 0 ∨ (d.toInt = ((2 ^ e : Nat) : Int) ∧ e ≤ 7)) : 0 ≤ d.toInt ∧ d.toInt ≤ 128 := by
  rcases h with h | ⟨h, he⟩
  · omega
  · have p1 := Nat.two_pow_pos e; have p2 : 2 ^ e ≤ 2 ^ 7 := Nat.pow_le_pow_right (by decide) he; have : (2 : Nat) ^ 7 = 128 := rfl; omega
theorem own_ch (x : Int32) : ∀ c ∈ ([nar .char ((x &&& (255 : Int32)).toUInt32.toUInt16.toUInt32.toInt32)] : List Int32), ¬ c < 0 ∧ ¬ (255 : Int32) < c := by
  intro c hc; rw [List.mem_singleton] at hc; subst hc
  have a1 := c_mask x 255 8 (by decide) (by decide); have a2 := c_i2c (x &&& (255 : Int32)); have a3 : ((nar .char ((x &&& (255 : Int32)).toUInt32.toUInt16.toUInt32.toInt32)).toInt - ((x &&& (255 : Int32)).toUInt32.toUInt16.toUInt32.toInt32).toInt) % 65536 = 0 ∧ 0 ≤ (nar .char ((x &&& (255 : Int32)).toUInt32.toUInt16.toUInt32.toInt32)).toInt ∧ (nar .char ((x &&& (255 : Int32)).toUInt32.toUInt16.toUInt32.toInt32)).toInt < 65536 := c_i2c ((x &&& (255 : Int32)).toUInt32.toUInt16.toUInt32.toInt32)
  have : (255 : Int32).toInt = 255 := rfl; have : (0 : Int32).toInt = 0 := rfl
  simp only [Int32.lt_iff_toInt_lt]; omega
theorem d8_0 : decode jdk_30_method_1_code 0 = .ok (.aload_n 0, 1) := by decide +kernel
theorem d8_1 : decode jdk_30_method_1_code 1 = .ok (.invokespecial 1, 3) := by decide +kernel
theorem d8_4 : decode jdk_30_method_1_code 4 = .ok (.return_, 1) := by decide +kernel
theorem pd___V : parseMethodDescriptor "()V" = some ⟨[], none⟩ := by decide +kernel
theorem pn_java_lang_Record : plainName "java/lang/Record" = true := by first | (simp [plainName, overriddenIn]; done) | decide +kernel
theorem ef_rmRe (m : MethodId) (ao : Addr) : entryFrame m #[(.ref ao)] 1 = mkF m 0 #[.val (.ref ao)] [] := by first | (simp [entryFrame, mkF, argsToLocals, Value.category]; done) | rfl
def Q_rmRe (Z : State) (ao : Addr) (h0 : Heap) (n0 : Nat) (v : Option Value) (h : Heap) (L : List Loc) : Prop := (v = none) ∧ (Fr n0 L) ∧ (h = h0)
set_option maxRecDepth 65536 in
set_option maxHeartbeats 40000000 in
theorem rmRe (l : Launch) (Z : State) (a0 : Array Value) (hw : ∀ d ∈ tables_1, d.before a0 Z = true) (ws : List Jvm.Cond) (ao : Addr) (h0 : Heap) (n0 : Nat) (Z0 : n0 ≤ h0.size) :
    MetFree l (⟨"java/lang/Record", "<init>", "()V"⟩ : MethodName) (head1 (Jvm.Cond.code (⟨"java/lang/Record", "<init>", "()V"⟩ : MethodName) jdk_30_method_1_code 1 none :: ws) ({ frames := 1, cells := 0, slots := 0, locals := 12 } : Room)) (fun aA U => aA = #[(.ref ao)] ∧ Z.Warmed39 U.vm ∧ U.heap = h0) (fun _ _ _ _ _ => True) (fun _ U o U' => ∃ v L, o = .returned v ∧ Q_rmRe Z ao h0 n0 v U'.heap L ∧ FrameEnd U o U' L ({ frames := 1, cells := 0, slots := 0, locals := 12 } : Room).cells ({ frames := 1, cells := 0, slots := 0, locals := 12 } : Room).slots) := by
  refine MetFree.of_bodySF (plainFor_of_name pn_java_lang_Record) hisR ?_
  intro p e s m args below meth c s₁ Bd hml0 hP hK
  obtain ⟨rfl, hZ, hh⟩ := hP
  have hx := Bd.exec
  have hby := Bd.bytes
  have hml : c.maxLocals = 1 := hml0
  have hown : s.vm.findClass "java/lang/Record" = some m.cls := findClass_of_methodNamed Bd.named
  have hnm := (name_of_methodNamed Bd.named Bd.method).1
  have hret := Bd.returns
  have hlk : meth.locks = false := BodyLoose.notSynchronized Bd
  have X0 : Stand p l e ({ frames := 1, cells := 0, slots := 0, locals := 12 } : Room) s m #[(.ref ao)] below meth c s₁ [] 0 0 := Stand.of_body Bd
  have e0 : s₁.heap = h0 := by rw [← hh, Bd.state]; rfl
  have N0 := Fr.nil n0
  suffices hgo : Go p e below s ({ frames := 1, cells := 0, slots := 0, locals := 12 } : Room).cells ({ frames := 1, cells := 0, slots := 0, locals := 12 } : Room).slots (Q_rmRe Z ao h0 n0) s₁ (mkF m 0 #[.val (.ref ao)] []) from hgo.enter (ef_rmRe m ao)
  refine Go.step (fun _ k => XS.aloadN X0.here hx rfl (hb hby d8_0) rfl rfl k) ?_
  show Go _ _ _ _ _ _ _ s₁ (mkF m 1 #[.val (.ref ao)] [(.ref ao)])
  obtain ⟨T1, X1, e1, st1⟩ := initO X0 hx hZ hown (hw _ (List.mem_of_getElem? (i := 45) rfl)) (hw _ (List.mem_of_getElem? (i := 19) rfl)) (hw _ (List.mem_of_getElem? (i := 20) rfl)) e0 (g := (mkF m 1 #[.val (.ref ao)] [(.ref ao)])) rfl (by rw [hml]; rfl) rfl (hb hby d8_1) (by decide) (W := 0) (by show 2 * 0 + _ ≤ _; exact Nat.le_of_eq rfl) (by decide)
  refine Go.step st1 ?_
  show Go _ _ _ _ _ _ _ T1 (mkF m 4 #[.val (.ref ao)] [])
  exact Go.ret0 X1 hx hret hlk (hb hby d8_4) e1 (by decide) (by decide) ⟨rfl, N0, rfl⟩
theorem d9_0 : decode jdk_42_method_55_code 0 = .ok (.aload_n 0, 1) := by decide +kernel
theorem d9_1 : decode jdk_42_method_55_code 1 = .ok (.getfield 9, 3) := by decide +kernel
theorem d9_4 : decode jdk_42_method_55_code 4 = .ok (.arraylength, 1) := by decide +kernel
theorem d9_5 : decode jdk_42_method_55_code 5 = .ok (.ifCond .ne 7, 3) := by decide +kernel
theorem d9_8 : decode jdk_42_method_55_code 8 = .ok (.iconst 1, 1) := by decide +kernel
theorem d9_9 : decode jdk_42_method_55_code 9 = .ok (.goto 4, 3) := by decide +kernel
theorem d9_12 : decode jdk_42_method_55_code 12 = .ok (.iconst 0, 1) := by decide +kernel
theorem d9_13 : decode jdk_42_method_55_code 13 = .ok (.ireturn, 1) := by decide +kernel
theorem pn_java_lang_String : plainName "java/lang/String" = true := by first | (simp [plainName, overriddenIn]; done) | decide +kernel
theorem ef_rmIe (m : MethodId) (as_ : Addr) : entryFrame m #[(.ref as_)] 1 = mkF m 0 #[.val (.ref as_)] [] := by first | (simp [entryFrame, mkF, argsToLocals, Value.category]; done) | rfl
def Q_rmIe (Z : State) (as_ : Addr) (at_ : Addr) (kt : ClassId) (vt : List Value) (h0 : Heap) (n0 : Nat) (v : Option Value) (h : Heap) (L : List Loc) : Prop := (v = some (.int (0 : Int32))) ∧ (Fr n0 L) ∧ (h = h0)
set_option maxRecDepth 65536 in
set_option maxHeartbeats 40000000 in
theorem rmIe (l : Launch) (Z : State) (a0 : Array Value) (hw : ∀ d ∈ tables_1, d.before a0 Z = true) (ws : List Jvm.Cond) (as_ : Addr) (at_ : Addr) (kt : ClassId) (vt : List Value) (h0 : Heap) (n0 : Nat) (Z0 : n0 ≤ h0.size) (Fv : Fld Z h0 as_ "java/lang/String" "value" "[B" (.ref at_)) (Vt : Arv Z h0 at_ kt .byte (1 : Int32) vt (.int (0 : Int32))) :
    MetFree l (⟨"java/lang/String", "isEmpty", "()Z"⟩ : MethodName) (head1 (Jvm.Cond.code (⟨"java/lang/String", "isEmpty", "()Z"⟩ : MethodName) jdk_42_method_55_code 1 (some .boolean) :: ws) ({ frames := 0, cells := 0, slots := 0, locals := 0 } : Room)) (fun aA U => aA = #[(.ref as_)] ∧ Z.Warmed39 U.vm ∧ U.heap = h0) (fun _ _ _ _ _ => True) (fun _ U o U' => ∃ v L, o = .returned v ∧ Q_rmIe Z as_ at_ kt vt h0 n0 v U'.heap L ∧ FrameEnd U o U' L ({ frames := 0, cells := 0, slots := 0, locals := 0 } : Room).cells ({ frames := 0, cells := 0, slots := 0, locals := 0 } : Room).slots) := by
  refine MetFree.of_bodySF (plainFor_of_name pn_java_lang_String) hisR ?_
  intro p e s m args below meth c s₁ Bd hml0 hP hK
  obtain ⟨rfl, hZ, hh⟩ := hP
  have hx := Bd.exec
  have hby := Bd.bytes
  have hml : c.maxLocals = 1 := hml0
  have hown : s.vm.findClass "java/lang/String" = some m.cls := findClass_of_methodNamed Bd.named
  have hnm := (name_of_methodNamed Bd.named Bd.method).1
  have hret := Bd.returns
  have hlk : meth.locks = false := BodyLoose.notSynchronized Bd
  have X0 : Stand p l e ({ frames := 0, cells := 0, slots := 0, locals := 0 } : Room) s m #[(.ref as_)] below meth c s₁ [] 0 0 := Stand.of_body Bd
  have e0 : s₁.heap = h0 := by rw [← hh, Bd.state]; rfl
  have N0 := Fr.nil n0
  suffices hgo : Go p e below s ({ frames := 0, cells := 0, slots := 0, locals := 0 } : Room).cells ({ frames := 0, cells := 0, slots := 0, locals := 0 } : Room).slots (Q_rmIe Z as_ at_ kt vt h0 n0) s₁ (mkF m 0 #[.val (.ref as_)] []) from hgo.enter (ef_rmIe m as_)
  refine Go.step (fun _ k => XS.aloadN X0.here hx rfl (hb hby d9_0) rfl rfl k) ?_
  show Go _ _ _ _ _ _ _ s₁ (mkF m 1 #[.val (.ref as_)] [(.ref as_)])
  obtain ⟨T2, X2, e2, st2⟩ := getF X0 hx hZ hown (host := "") (Or.inl (hw _ (List.mem_of_getElem? (i := 35) rfl))) Via.refl e0 Fv (g := (mkF m 1 #[.val (.ref as_)] [(.ref as_)])) rfl rfl (hb hby d9_1)
  refine Go.step st2 ?_
  show Go _ _ _ _ _ _ _ T2 (mkF m 4 #[.val (.ref as_)] [(.ref at_)])
  obtain ⟨cl3, Ar3, -, S3, M3, -, -⟩ := id (Vt)
  have al3 := X2.arraylength hx (by rw [e2]; exact Ar3.1) (State.isArrayOf_alike hZ.alike Ar3.2.1) (g := (mkF m 4 #[.val (.ref as_)] [(.ref at_)])) rfl rfl (hb hby d9_4)
  rw [len_of S3 M3] at al3
  refine Go.step al3 ?_
  show Go _ _ _ _ _ _ _ T2 (mkF m 5 #[.val (.ref as_)] [(.int (1 : Int32))])
  have hc5_4 : ¬ ((1 : Int32) = (0 : Int32)) := (by decide)
  refine Go.step (fun _ k => XS.ifYes X2.here hx rfl (pc0 := 5) (pc' := 12) rfl (hb hby d9_5) rfl ((if0 _ _).trans (feq hc5_4).2) (by decide) (by decide) k) ?_
  show Go _ _ _ _ _ _ _ T2 (mkF m 12 #[.val (.ref as_)] [])
  refine Go.step (fun _ k => XS.iconst X2.here hx rfl (hb hby d9_12) k) ?_
  show Go _ _ _ _ _ _ _ T2 (mkF m 13 #[.val (.ref as_)] [(.int (0 : Int32))])
  exact Go.retN X2 hx (t := .boolean) hret hlk (by simp) (hb hby d9_13) e2 (by decide) (by decide) ⟨rfl, N0, rfl⟩
theorem d10_0 : decode jdk_117_method_8_code 0 = .ok (.dload_n 0, 1) := by decide +kernel
theorem d10_1 : decode jdk_117_method_8_code 1 = .ok (.invokestatic 38, 3) := by decide +kernel
theorem d10_4 : decode jdk_117_method_8_code 4 = .ok (.ldc2_w 111, 3) := by decide +kernel
theorem d10_7 : decode jdk_117_method_8_code 7 = .ok (.dcmp .g, 1) := by decide +kernel
theorem d10_8 : decode jdk_117_method_8_code 8 = .ok (.ifCond .gt 7, 3) := by decide +kernel
theorem d10_11 : decode jdk_117_method_8_code 11 = .ok (.iconst 1, 1) := by decide +kernel
theorem d10_12 : decode jdk_117_method_8_code 12 = .ok (.goto 4, 3) := by decide +kernel
theorem d10_15 : decode jdk_117_method_8_code 15 = .ok (.iconst 0, 1) := by decide +kernel
theorem d10_16 : decode jdk_117_method_8_code 16 = .ok (.ireturn, 1) := by decide +kernel
theorem pd__D_D : parseMethodDescriptor "(D)D" = some ⟨[.double], some .double⟩ := by decide +kernel
theorem pn_java_lang_Double : plainName "java/lang/Double" = true := by first | (simp [plainName, overriddenIn]; done) | decide +kernel
theorem ef_rmFi (m : MethodId) (da : UInt64) : entryFrame m #[(.double da)] 2 = mkF m 0 #[.val (.double da), .second] [] := by first | (simp [entryFrame, mkF, argsToLocals, Value.category]; done) | rfl
def Q_rmFi (Z : State) (da : UInt64) (jx : Int64) (h0 : Heap) (n0 : Nat) (v : Option Value) (h : Heap) (L : List Loc) : Prop := (v = some (.int (1 : Int32))) ∧ (Fr n0 L) ∧ (h = h0)
set_option maxRecDepth 65536 in
set_option maxHeartbeats 40000000 in
theorem rmFi (l : Launch) (Z : State) (a0 : Array Value) (hw : ∀ d ∈ tables_1, d.before a0 Z = true) (ws : List Jvm.Cond) (da : UInt64) (jx : Int64) (h0 : Heap) (n0 : Nat) (Z0 : n0 ≤ h0.size) (hda : da = FP.l2d jx) (hjx : 0 ≤ jx.toInt ∧ jx.toInt < 9007199254740992) :
    MetFree l (⟨"java/lang/Double", "isFinite", "(D)Z"⟩ : MethodName) (head1 (Jvm.Cond.code (⟨"java/lang/Double", "isFinite", "(D)Z"⟩ : MethodName) jdk_117_method_8_code 2 (some .boolean) :: ws) ({ frames := 1, cells := 0, slots := 0, locals := 13 } : Room)) (fun aA U => aA = #[(.double da)] ∧ Z.Warmed39 U.vm ∧ U.heap = h0) (fun _ _ _ _ _ => True) (fun _ U o U' => ∃ v L, o = .returned v ∧ Q_rmFi Z da jx h0 n0 v U'.heap L ∧ FrameEnd U o U' L ({ frames := 1, cells := 0, slots := 0, locals := 13 } : Room).cells ({ frames := 1, cells := 0, slots := 0, locals := 13 } : Room).slots) := by
  refine MetFree.of_bodySF (plainFor_of_name pn_java_lang_Double) hisR ?_
  intro p e s m args below meth c s₁ Bd hml0 hP hK
  obtain ⟨rfl, hZ, hh⟩ := hP
  have hx := Bd.exec
  have hby := Bd.bytes
  have hml : c.maxLocals = 2 := hml0
  have hown : s.vm.findClass "java/lang/Double" = some m.cls := findClass_of_methodNamed Bd.named
  have hnm := (name_of_methodNamed Bd.named Bd.method).1
  have hret := Bd.returns
  have hlk : meth.locks = false := BodyLoose.notSynchronized Bd
  have X0 : Stand p l e ({ frames := 1, cells := 0, slots := 0, locals := 13 } : Room) s m #[(.double da)] below meth c s₁ [] 0 0 := Stand.of_body Bd
  have e0 : s₁.heap = h0 := by rw [← hh, Bd.state]; rfl
  have N0 := Fr.nil n0
  suffices hgo : Go p e below s ({ frames := 1, cells := 0, slots := 0, locals := 13 } : Room).cells ({ frames := 1, cells := 0, slots := 0, locals := 13 } : Room).slots (Q_rmFi Z da jx h0 n0) s₁ (mkF m 0 #[.val (.double da), .second] []) from hgo.enter (ef_rmFi m da)
  subst hda
  show Go _ _ _ _ _ _ _ s₁ (mkF m 0 #[.val (.double (FP.l2d jx)), .second] [])
  refine Go.step (fun _ k => XS.dloadN X0.here hx rfl (hb hby d10_0) rfl k) ?_
  show Go _ _ _ _ _ _ _ s₁ (mkF m 1 #[.val (.double (FP.l2d jx)), .second] [(.double (FP.l2d jx))])
  obtain ⟨T5, X5, e5, st5⟩ := natS X0 hx hZ (y := (⟨"java/lang/Math", "abs", "(D)D"⟩ : MethodName)) hown (hw _ (List.mem_of_getElem? (i := 55) rfl)) (hw _ (List.mem_of_getElem? (i := 56) rfl)) (hw _ (List.mem_of_getElem? (i := 57) rfl)) (hw _ (List.mem_of_getElem? (i := 58) rfl)) (by decide) e0 (W := 0) (F := fun a' => a' = #[.double (FP.l2d jx)] ∧ NoNaN64 (FP.l2d jx)) (val := .double ((FP.l2d jx) &&& 0x7fffffffffffffff)) (fun hc => Jvm.Free.Fl.Abs.absD_pays (FP.l2d jx) hc (by decide) (by decide)) (g := (mkF m 1 #[.val (.double (FP.l2d jx)), .second] [(.double (FP.l2d jx))])) rfl (by rw [hml]; rfl) (argsL := [.double (FP.l2d jx)]) (rest := []) (lenOf pd__D_D rfl) rfl (by show 2 * 0 + _ ≤ _; exact Nat.le_of_eq rfl) (hb hby d10_1) (by decide) (by decide) ⟨rfl, (l2d_fin _).noNaN⟩ rfl
  refine Go.step st5 ?_
  show Go _ _ _ _ _ _ _ T5 (mkF m 4 #[.val (.double (FP.l2d jx)), .second] [(.double ((FP.l2d jx) &&& 0x7fffffffffffffff))])
  refine Go.step (X5.ldc2DoubleC hx hown (mvT hZ (hw _ (List.mem_of_getElem? (i := 59) rfl))) (g := (mkF m 4 #[.val (.double (FP.l2d jx)), .second] [(.double ((FP.l2d jx) &&& 0x7fffffffffffffff))])) rfl (hb hby d10_4)) ?_
  show Go _ _ _ _ _ _ _ T5 (mkF m 7 #[.val (.double (FP.l2d jx)), .second] [(.double (9218868437227405311 : UInt64)), (.double ((FP.l2d jx) &&& 0x7fffffffffffffff))])
  refine Go.step (fun _ k => XS.dcmpS X5.here hx rfl (hb hby d10_7) rfl rfl k) ?_
  show Go _ _ _ _ _ _ _ T5 (mkF m 8 #[.val (.double (FP.l2d jx)), .second] [(.int (cmpValue (FP.dcmp ((FP.l2d jx) &&& 0x7fffffffffffffff) (9218868437227405311 : UInt64)) .g))])
  have hc8_6 : ¬ ((0 : Int32) < (cmpValue (FP.dcmp ((FP.l2d jx) &&& 0x7fffffffffffffff) (9218868437227405311 : UInt64)) .g)) := (own_isfin hjx)
  refine Go.step (fun _ k => XS.ifNo X5.here hx rfl (hb hby d10_8) rfl ((if0 _ _).trans (flt hc8_6).2.2.1) k) ?_
  show Go _ _ _ _ _ _ _ T5 (mkF m 11 #[.val (.double (FP.l2d jx)), .second] [])
  refine Go.step (fun _ k => XS.iconst X5.here hx rfl (hb hby d10_11) k) ?_
  show Go _ _ _ _ _ _ _ T5 (mkF m 12 #[.val (.double (FP.l2d jx)), .second] [(.int (1 : Int32))])
  refine Go.step (fun _ k => XS.goto X5.here hx rfl (pc0 := 12) (pc' := 16) rfl (hb hby d10_12) (by decide) (by decide) k) ?_
  show Go _ _ _ _ _ _ _ T5 (mkF m 16 #[.val (.double (FP.l2d jx)), .second] [(.int (1 : Int32))])
  exact Go.retN X5 hx (t := .boolean) hret hlk (by simp) (hb hby d10_16) e5 (by decide) (by decide) ⟨rfl, N0, rfl⟩
theorem d7_0 : decode prog_21_method_1_code 0 = .ok (.aload_n 0, 1) := by decide +kernel
theorem d7_1 : decode prog_21_method_1_code 1 = .ok (.invokespecial 1, 3) := by decide +kernel
theorem d7_4 : decode prog_21_method_1_code 4 = .ok (.aload_n 1, 1) := by decide +kernel
theorem d7_5 : decode prog_21_method_1_code 5 = .ok (.invokevirtual 7, 3) := by decide +kernel
theorem d7_8 : decode prog_21_method_1_code 8 = .ok (.ifCond .eq 13, 3) := by decide +kernel
theorem d7_11 : decode prog_21_method_1_code 11 = .ok (.new 13, 3) := by decide +kernel
theorem d7_14 : decode prog_21_method_1_code 14 = .ok (.dup, 1) := by decide +kernel
theorem d7_15 : decode prog_21_method_1_code 15 = .ok (.ldc 15, 2) := by decide +kernel
theorem d7_17 : decode prog_21_method_1_code 17 = .ok (.invokespecial 17, 3) := by decide +kernel
theorem d7_20 : decode prog_21_method_1_code 20 = .ok (.athrow, 1) := by decide +kernel
theorem d7_21 : decode prog_21_method_1_code 21 = .ok (.aload_n 2, 1) := by decide +kernel
theorem d7_22 : decode prog_21_method_1_code 22 = .ok (.ifnonnull 13, 3) := by decide +kernel
theorem d7_25 : decode prog_21_method_1_code 25 = .ok (.new 13, 3) := by decide +kernel
theorem d7_28 : decode prog_21_method_1_code 28 = .ok (.dup, 1) := by decide +kernel
theorem d7_29 : decode prog_21_method_1_code 29 = .ok (.ldc 20, 2) := by decide +kernel
theorem d7_31 : decode prog_21_method_1_code 31 = .ok (.invokespecial 17, 3) := by decide +kernel
theorem d7_34 : decode prog_21_method_1_code 34 = .ok (.athrow, 1) := by decide +kernel
theorem d7_35 : decode prog_21_method_1_code 35 = .ok (.dload_n 3, 1) := by decide +kernel
theorem d7_36 : decode prog_21_method_1_code 36 = .ok (.invokestatic 22, 3) := by decide +kernel
theorem d7_39 : decode prog_21_method_1_code 39 = .ok (.ifCond .eq 19, 3) := by decide +kernel
theorem d7_42 : decode prog_21_method_1_code 42 = .ok (.dload 5, 2) := by decide +kernel
theorem d7_44 : decode prog_21_method_1_code 44 = .ok (.invokestatic 22, 3) := by decide +kernel
theorem d7_47 : decode prog_21_method_1_code 47 = .ok (.ifCond .eq 11, 3) := by decide +kernel
theorem d7_50 : decode prog_21_method_1_code 50 = .ok (.dload 7, 2) := by decide +kernel
theorem d7_52 : decode prog_21_method_1_code 52 = .ok (.invokestatic 22, 3) := by decide +kernel
theorem d7_55 : decode prog_21_method_1_code 55 = .ok (.ifCond .ne 17, 3) := by decide +kernel
theorem d7_58 : decode prog_21_method_1_code 58 = .ok (.new 13, 3) := by decide +kernel
theorem d7_61 : decode prog_21_method_1_code 61 = .ok (.dup, 1) := by decide +kernel
theorem d7_62 : decode prog_21_method_1_code 62 = .ok (.aload_n 1, 1) := by decide +kernel
theorem d7_68 : decode prog_21_method_1_code 68 = .ok (.invokespecial 17, 3) := by decide +kernel
theorem d7_71 : decode prog_21_method_1_code 71 = .ok (.athrow, 1) := by decide +kernel
theorem d7_72 : decode prog_21_method_1_code 72 = .ok (.dconst 0, 1) := by decide +kernel
theorem d7_73 : decode prog_21_method_1_code 73 = .ok (.dload_n 3, 1) := by decide +kernel
theorem d7_74 : decode prog_21_method_1_code 74 = .ok (.dcmp .g, 1) := by decide +kernel
theorem d7_75 : decode prog_21_method_1_code 75 = .ok (.ifCond .gt 18, 3) := by decide +kernel
theorem d7_78 : decode prog_21_method_1_code 78 = .ok (.dload_n 3, 1) := by decide +kernel
theorem d7_79 : decode prog_21_method_1_code 79 = .ok (.dload 5, 2) := by decide +kernel
theorem d7_81 : decode prog_21_method_1_code 81 = .ok (.dcmp .g, 1) := by decide +kernel
theorem d7_82 : decode prog_21_method_1_code 82 = .ok (.ifCond .gt 11, 3) := by decide +kernel
theorem d7_85 : decode prog_21_method_1_code 85 = .ok (.dload 5, 2) := by decide +kernel
theorem d7_87 : decode prog_21_method_1_code 87 = .ok (.dload 7, 2) := by decide +kernel
theorem d7_89 : decode prog_21_method_1_code 89 = .ok (.dcmp .g, 1) := by decide +kernel
theorem d7_90 : decode prog_21_method_1_code 90 = .ok (.ifCond .le 22, 3) := by decide +kernel
theorem d7_93 : decode prog_21_method_1_code 93 = .ok (.new 13, 3) := by decide +kernel
theorem d7_96 : decode prog_21_method_1_code 96 = .ok (.dup, 1) := by decide +kernel
theorem d7_97 : decode prog_21_method_1_code 97 = .ok (.aload_n 1, 1) := by decide +kernel
theorem d7_98 : decode prog_21_method_1_code 98 = .ok (.dload_n 3, 1) := by decide +kernel
theorem d7_99 : decode prog_21_method_1_code 99 = .ok (.dload 5, 2) := by decide +kernel
theorem d7_101 : decode prog_21_method_1_code 101 = .ok (.dload 7, 2) := by decide +kernel
theorem d7_108 : decode prog_21_method_1_code 108 = .ok (.invokespecial 17, 3) := by decide +kernel
theorem d7_111 : decode prog_21_method_1_code 111 = .ok (.athrow, 1) := by decide +kernel
theorem d7_112 : decode prog_21_method_1_code 112 = .ok (.aload_n 0, 1) := by decide +kernel
theorem d7_113 : decode prog_21_method_1_code 113 = .ok (.aload_n 1, 1) := by decide +kernel
theorem d7_114 : decode prog_21_method_1_code 114 = .ok (.putfield 35, 3) := by decide +kernel
theorem d7_117 : decode prog_21_method_1_code 117 = .ok (.aload_n 0, 1) := by decide +kernel
theorem d7_118 : decode prog_21_method_1_code 118 = .ok (.aload_n 2, 1) := by decide +kernel
theorem d7_119 : decode prog_21_method_1_code 119 = .ok (.putfield 41, 3) := by decide +kernel
theorem d7_122 : decode prog_21_method_1_code 122 = .ok (.aload_n 0, 1) := by decide +kernel
theorem d7_123 : decode prog_21_method_1_code 123 = .ok (.dload_n 3, 1) := by decide +kernel
theorem d7_124 : decode prog_21_method_1_code 124 = .ok (.putfield 45, 3) := by decide +kernel
theorem d7_127 : decode prog_21_method_1_code 127 = .ok (.aload_n 0, 1) := by decide +kernel
theorem d7_128 : decode prog_21_method_1_code 128 = .ok (.dload 5, 2) := by decide +kernel
theorem d7_130 : decode prog_21_method_1_code 130 = .ok (.putfield 49, 3) := by decide +kernel
theorem d7_133 : decode prog_21_method_1_code 133 = .ok (.aload_n 0, 1) := by decide +kernel
theorem d7_134 : decode prog_21_method_1_code 134 = .ok (.dload 7, 2) := by decide +kernel
theorem d7_136 : decode prog_21_method_1_code 136 = .ok (.putfield 52, 3) := by decide +kernel
theorem d7_139 : decode prog_21_method_1_code 139 = .ok (.return_, 1) := by decide +kernel
theorem pd___Z : parseMethodDescriptor "()Z" = some ⟨[], some .boolean⟩ := by decide +kernel
theorem pd__D_Z : parseMethodDescriptor "(D)Z" = some ⟨[.double], some .boolean⟩ := by decide +kernel
theorem pn_com_example_wayfront_wayfront_decision_Criterion : plainName "com/example/wayfront/wayfront/decision/Criterion" = true := by first | (simp [plainName, overriddenIn]; done) | decide +kernel
theorem ef_rmIn (m : MethodId) (ao : Addr) (as_ : Addr) (ad : Addr) (dq : UInt64) (dp : UInt64) (dv : UInt64) : entryFrame m #[(.ref ao), (.ref as_), (.ref ad), (.double dq), (.double dp), (.double dv)] 9 = mkF m 0 #[.val (.ref ao), .val (.ref as_), .val (.ref ad), .val (.double dq), .second, .val (.double dp), .second, .val (.double dv), .second] [] := by first | (simp [entryFrame, mkF, argsToLocals, Value.category]; done) | rfl
def Q_rmIn (Z : State) (ao : Addr) (as_ : Addr) (ad : Addr) (dq : UInt64) (dp : UInt64) (dv : UInt64) (at_ : Addr) (kt : ClassId) (vt : List Value) (jq : Int64) (jp : Int64) (jv : Int64) (h0 : Heap) (n0 : Nat) (v : Option Value) (h : Heap) (L : List Loc) : Prop := (v = none) ∧ (Fr n0 L) ∧ (Keep h0 h [ao]) ∧ (Fld Z h ao "com/example/wayfront/wayfront/decision/Criterion" "preference" "D" (.double dp)) ∧ (Fld Z h ao "com/example/wayfront/wayfront/decision/Criterion" "veto" "D" (.double dv))
set_option maxRecDepth 65536 in
set_option maxHeartbeats 40000000 in
theorem rmIn (l : Launch) (Z : State) (a0 : Array Value) (hw : ∀ d ∈ tables_1, d.before a0 Z = true) (ws : List Jvm.Cond) (ao : Addr) (as_ : Addr) (ad : Addr) (dq : UInt64) (dp : UInt64) (dv : UInt64) (at_ : Addr) (kt : ClassId) (vt : List Value) (jq : Int64) (jp : Int64) (jv : Int64) (h0 : Heap) (n0 : Nat) (Z0 : n0 ≤ h0.size) (E0 : Exa Z h0 ao "com/example/wayfront/wayfront/decision/Criterion") (g0 : n0 ≤ ao) (F_name : Fld Z h0 ao "com/example/wayfront/wayfront/decision/Criterion" "name" "Ljava/lang/String;" .null) (F_direction : Fld Z h0 ao "com/example/wayfront/wayfront/decision/Criterion" "direction" "Lcom/example/wayfront/wayfront/decision/Criterion$Direction;" .null) (F_indifference : Fld Z h0 ao "com/example/wayfront/wayfront/decision/Criterion" "indifference" "D" (.double (0 : UInt64))) (F_preference : Fld Z h0 ao "com/example/wayfront/wayfront/decision/Criterion" "preference" "D" (.double (0 : UInt64))) (F_veto : Fld Z h0 ao "com/example/wayfront/wayfront/decision/Criterion" "veto" "D" (.double (0 : UInt64))) (Es : Exa Z h0 as_ "java/lang/String") (Fv : Fld Z h0 as_ "java/lang/String" "value" "[B" (.ref at_)) (Vt : Arv Z h0 at_ kt .byte (1 : Int32) vt (.int (0 : Int32))) (hq : dq = FP.l2d jq) (bq : 0 ≤ jq.toInt ∧ jq.toInt < 9007199254740992) (hp : dp = FP.l2d jp) (bp : 0 ≤ jp.toInt ∧ jp.toInt < 9007199254740992) (hv : dv = FP.l2d jv) (bv : 0 ≤ jv.toInt ∧ jv.toInt < 9007199254740992) (c1 : ¬ ((0 : Int32) < (cmpValue (FP.dcmp (0 : UInt64) dq) .g))) (c2 : ¬ ((0 : Int32) < (cmpValue (FP.dcmp dq dp) .g))) (c3 : ¬ ((0 : Int32) < (cmpValue (FP.dcmp dp dv) .g))) :
    MetFree l (⟨"com/example/wayfront/wayfront/decision/Criterion", "<init>", "(Ljava/lang/String;Lcom/example/wayfront/wayfront/decision/Criterion$Direction;DDD)V"⟩ : MethodName) (head1 (Jvm.Cond.code (⟨"com/example/wayfront/wayfront/decision/Criterion", "<init>", "(Ljava/lang/String;Lcom/example/wayfront/wayfront/decision/Criterion$Direction;DDD)V"⟩ : MethodName) prog_21_method_1_code 9 none :: ws) ({ frames := 2, cells := 0, slots := 0, locals := 26 } : Room)) (fun aA U => aA = #[(.ref ao), (.ref as_), (.ref ad), (.double dq), (.double dp), (.double dv)] ∧ Z.Warmed39 U.vm ∧ U.heap = h0) (fun _ _ _ _ _ => True) (fun _ U o U' => ∃ v L, o = .returned v ∧ Q_rmIn Z ao as_ ad dq dp dv at_ kt vt jq jp jv h0 n0 v U'.heap L ∧ FrameEnd U o U' L ({ frames := 2, cells := 0, slots := 0, locals := 26 } : Room).cells ({ frames := 2, cells := 0, slots := 0, locals := 26 } : Room).slots) := by
  refine MetFree.of_bodySF (plainFor_of_name pn_com_example_wayfront_wayfront_decision_Criterion) hisR ?_
  intro p e s m args below meth c s₁ Bd hml0 hP hK
  obtain ⟨rfl, hZ, hh⟩ := hP
  have hx := Bd.exec
  have hby := Bd.bytes
  have hml : c.maxLocals = 9 := hml0
  have hown : s.vm.findClass "com/example/wayfront/wayfront/decision/Criterion" = some m.cls := findClass_of_methodNamed Bd.named
  have hnm := (name_of_methodNamed Bd.named Bd.method).1
  have hret := Bd.returns
  have hlk : meth.locks = false := BodyLoose.notSynchronized Bd
  have X0 : Stand p l e ({ frames := 2, cells := 0, slots := 0, locals := 26 } : Room) s m #[(.ref ao), (.ref as_), (.ref ad), (.double dq), (.double dp), (.double dv)] below meth c s₁ [] 0 0 := Stand.of_body Bd
  have e0 : s₁.heap = h0 := by rw [← hh, Bd.state]; rfl
  have N0 := Fr.nil n0
  suffices hgo : Go p e below s ({ frames := 2, cells := 0, slots := 0, locals := 26 } : Room).cells ({ frames := 2, cells := 0, slots := 0, locals := 26 } : Room).slots (Q_rmIn Z ao as_ ad dq dp dv at_ kt vt jq jp jv h0 n0) s₁ (mkF m 0 #[.val (.ref ao), .val (.ref as_), .val (.ref ad), .val (.double dq), .second, .val (.double dp), .second, .val (.double dv), .second] []) from hgo.enter (ef_rmIn m ao as_ ad dq dp dv)
  refine Go.step (fun _ k => XS.aloadN X0.here hx rfl (hb hby d7_0) rfl rfl k) ?_
  show Go _ _ _ _ _ _ _ s₁ (mkF m 1 #[.val (.ref ao), .val (.ref as_), .val (.ref ad), .val (.double dq), .second, .val (.double dp), .second, .val (.double dv), .second] [(.ref ao)])
  obtain ⟨_, _, ⟨T7, L7, k7, n7⟩, -, X7, ⟨Lc7, hQ7, l7, y7, z7⟩, st7⟩ := X0.specialBack hx (y := (⟨"java/lang/Record", "<init>", "()V"⟩ : MethodName)) rfl hown (mvT hZ (hw _ (List.mem_of_getElem? (i := 40) rfl))) (mvT hZ (hw _ (List.mem_of_getElem? (i := 41) rfl))) (mvT hZ (hw _ (List.mem_of_getElem? (i := 44) rfl))) (by decide) (backOf (W := 0) (rmRe l Z a0 hw [] ao h0 n0 Z0 ) hZ (hw _ (List.mem_of_getElem? (i := 44) rfl)) (hw _ (List.mem_of_getElem? (i := 43) rfl)) (by decide) (by decide)) (g := (mkF m 1 #[.val (.ref ao), .val (.ref as_), .val (.ref ad), .val (.double dq), .second, .val (.double dp), .second, .val (.double dv), .second] [(.ref ao)])) rfl (by rw [hml]; rfl) (Steps.refl _) (a := ao) (argsL := []) (rest := []) (lenOf pd___V rfl) rfl (by show 2 * 0 + _ ≤ _; exact Nat.le_of_eq rfl) (hb hby d7_1) (fun _ _ => ⟨rfl, e0, (by decide : 0 + 0 ≤ _), (by decide : 0 + 0 ≤ _)⟩)
  dsimp only [Pt.U, Pt.locs, Pt.cells, Pt.slots] at X7 l7 y7 z7 st7 hQ7
  subst l7 y7 z7
  obtain ⟨h7, e7⟩ : ∃ h, T7.heap = h := ⟨_, rfl⟩
  rw [e7] at hQ7
  obtain ⟨rfl, Nq7, hs7⟩ := hQ7
  have N7 := Fr.app N0 Nq7
  rw [hs7] at e7
  refine Go.trans st7 ?_
  show Go _ _ _ _ _ _ _ T7 (mkF m 4 #[.val (.ref ao), .val (.ref as_), .val (.ref ad), .val (.double dq), .second, .val (.double dp), .second, .val (.double dv), .second] [])
  refine Go.step (fun _ k => XS.aloadN X7.here hx rfl (hb hby d7_4) rfl rfl k) ?_
  show Go _ _ _ _ _ _ _ T7 (mkF m 5 #[.val (.ref ao), .val (.ref as_), .val (.ref ad), .val (.double dq), .second, .val (.double dp), .second, .val (.double dv), .second] [(.ref as_)])
  obtain ⟨cq8, kq8, q8a, q8b, q8c⟩ := isOf hZ e7 Es
  obtain ⟨_, _, ⟨T8, L8, k8, n8⟩, -, X8, ⟨Lc8, hQ8, l8, y8, z8⟩, st8⟩ := X7.virtualBack hx (y := (⟨"java/lang/String", "isEmpty", "()Z"⟩ : MethodName)) (z := (⟨"java/lang/String", "isEmpty", "()Z"⟩ : MethodName)) hown (mvT hZ (hw _ (List.mem_of_getElem? (i := 46) rfl))) (mvT hZ (hw _ (List.mem_of_getElem? (i := 47) rfl))) (notFace_of_selects (args := #[]) (mvT hZ (hw _ (List.mem_of_getElem? (i := 49) rfl)))) (mvT hZ (hw _ (List.mem_of_getElem? (i := 49) rfl))) (mvT hZ (hw _ (List.mem_of_getElem? (i := 48) rfl))) (by decide) (backOf (W := 0) (rmIe l Z a0 hw [] as_ at_ kt vt h0 n0 Z0 Fv Vt) hZ (hw _ (List.mem_of_getElem? (i := 50) rfl)) (hw _ (List.mem_of_getElem? (i := 10) rfl)) (by decide) (by decide)) q8a q8c (g := (mkF m 5 #[.val (.ref ao), .val (.ref as_), .val (.ref ad), .val (.double dq), .second, .val (.double dp), .second, .val (.double dv), .second] [(.ref as_)])) rfl (by rw [hml]; rfl) (Steps.refl _) (argsL := []) (rest := []) (lenOf pd___Z rfl) rfl (by show 2 * 0 + _ ≤ _; exact Nat.le_of_eq rfl) (hb hby d7_5) (fun _ _ => ⟨rfl, e7, (by decide : 0 + 0 ≤ _), (by decide : 0 + 0 ≤ _)⟩)
  dsimp only [Pt.U, Pt.locs, Pt.cells, Pt.slots] at X8 l8 y8 z8 st8 hQ8
  subst l8 y8 z8
  obtain ⟨h8, e8⟩ : ∃ h, T8.heap = h := ⟨_, rfl⟩
  rw [e8] at hQ8
  obtain ⟨rfl, Nq8, hs8⟩ := hQ8
  have N8 := Fr.app N7 Nq8
  rw [hs8] at e8
  refine Go.trans st8 ?_
  show Go _ _ _ _ _ _ _ T8 (mkF m 8 #[.val (.ref ao), .val (.ref as_), .val (.ref ad), .val (.double dq), .second, .val (.double dp), .second, .val (.double dv), .second] [(.int (0 : Int32))])
  have hc8_9 : (0 : Int32) = (0 : Int32) := (by decide)
  refine Go.step (fun _ k => XS.ifYes X8.here hx rfl (pc0 := 8) (pc' := 21) rfl (hb hby d7_8) rfl ((if0 _ _).trans (teq hc8_9).1) (by decide) (by decide) k) ?_
  show Go _ _ _ _ _ _ _ T8 (mkF m 21 #[.val (.ref ao), .val (.ref as_), .val (.ref ad), .val (.double dq), .second, .val (.double dp), .second, .val (.double dv), .second] [])
  refine Go.step (fun _ k => XS.aloadN X8.here hx rfl (hb hby d7_21) rfl rfl k) ?_
  show Go _ _ _ _ _ _ _ T8 (mkF m 22 #[.val (.ref ao), .val (.ref as_), .val (.ref ad), .val (.double dq), .second, .val (.double dp), .second, .val (.double dv), .second] [(.ref ad)])
  refine Go.step (fun _ k => XS.ifnonnullYes X8.here hx rfl (pc0 := 22) (pc' := 35) rfl (hb hby d7_22) rfl (by decide) (by decide) k) ?_
  show Go _ _ _ _ _ _ _ T8 (mkF m 35 #[.val (.ref ao), .val (.ref as_), .val (.ref ad), .val (.double dq), .second, .val (.double dp), .second, .val (.double dv), .second] [])
  refine Go.step (fun _ k => XS.dloadN X8.here hx rfl (hb hby d7_35) rfl k) ?_
  show Go _ _ _ _ _ _ _ T8 (mkF m 36 #[.val (.ref ao), .val (.ref as_), .val (.ref ad), .val (.double dq), .second, .val (.double dp), .second, .val (.double dv), .second] [(.double dq)])
  obtain ⟨_, _, ⟨T10, L10, k10, n10⟩, -, X10, ⟨Lc10, hQ10, l10, y10, z10⟩, st10⟩ := Jvm.LawKit.callS X8 hx (y := (⟨"java/lang/Double", "isFinite", "(D)Z"⟩ : MethodName)) hown (mvT hZ (hw _ (List.mem_of_getElem? (i := 51) rfl))) (mvT hZ (hw _ (List.mem_of_getElem? (i := 52) rfl))) (mvT hZ (hw _ (List.mem_of_getElem? (i := 53) rfl))) (mvT hZ (hw _ (List.mem_of_getElem? (i := 54) rfl))) (by decide) (backOf (W := 0) (rmFi l Z a0 hw [] dq jq h0 n0 Z0 hq bq) hZ (hw _ (List.mem_of_getElem? (i := 54) rfl)) (hw _ (List.mem_of_getElem? (i := 53) rfl)) (by decide) (by decide)) (g := (mkF m 36 #[.val (.ref ao), .val (.ref as_), .val (.ref ad), .val (.double dq), .second, .val (.double dp), .second, .val (.double dv), .second] [(.double dq)])) rfl (by rw [hml]; rfl) (argsL := [(.double dq)]) (rest := []) (lenOf pd__D_Z rfl) rfl (by show 2 * 0 + _ ≤ _; exact Nat.le_of_eq rfl) (hb hby d7_36) (fun _ _ => ⟨rfl, e8, (by decide : 0 + 0 ≤ _), (by decide : 0 + 0 ≤ _)⟩)
  dsimp only [Pt.U, Pt.locs, Pt.cells, Pt.slots] at X10 l10 y10 z10 st10 hQ10
  subst l10 y10 z10
  obtain ⟨h10, e10⟩ : ∃ h, T10.heap = h := ⟨_, rfl⟩
  rw [e10] at hQ10
  obtain ⟨rfl, Nq10, hs10⟩ := hQ10
  have N10 := Fr.app N8 Nq10
  rw [hs10] at e10
  refine Go.step st10 ?_
  show Go _ _ _ _ _ _ _ T10 (mkF m 39 #[.val (.ref ao), .val (.ref as_), .val (.ref ad), .val (.double dq), .second, .val (.double dp), .second, .val (.double dv), .second] [(.int (1 : Int32))])
  have hc39_11 : ¬ ((1 : Int32) = (0 : Int32)) := (by decide)
  refine Go.step (fun _ k => XS.ifNo X10.here hx rfl (hb hby d7_39) rfl ((if0 _ _).trans (feq hc39_11).1) k) ?_
  show Go _ _ _ _ _ _ _ T10 (mkF m 42 #[.val (.ref ao), .val (.ref as_), .val (.ref ad), .val (.double dq), .second, .val (.double dp), .second, .val (.double dv), .second] [])
  refine Go.step (fun _ k => XS.dload X10.here hx rfl (hb hby d7_42) rfl k) ?_
  show Go _ _ _ _ _ _ _ T10 (mkF m 44 #[.val (.ref ao), .val (.ref as_), .val (.ref ad), .val (.double dq), .second, .val (.double dp), .second, .val (.double dv), .second] [(.double dp)])
  obtain ⟨_, _, ⟨T12, L12, k12, n12⟩, -, X12, ⟨Lc12, hQ12, l12, y12, z12⟩, st12⟩ := Jvm.LawKit.callS X10 hx (y := (⟨"java/lang/Double", "isFinite", "(D)Z"⟩ : MethodName)) hown (mvT hZ (hw _ (List.mem_of_getElem? (i := 51) rfl))) (mvT hZ (hw _ (List.mem_of_getElem? (i := 52) rfl))) (mvT hZ (hw _ (List.mem_of_getElem? (i := 53) rfl))) (mvT hZ (hw _ (List.mem_of_getElem? (i := 54) rfl))) (by decide) (backOf (W := 0) (rmFi l Z a0 hw [] dp jp h0 n0 Z0 hp bp) hZ (hw _ (List.mem_of_getElem? (i := 54) rfl)) (hw _ (List.mem_of_getElem? (i := 53) rfl)) (by decide) (by decide)) (g := (mkF m 44 #[.val (.ref ao), .val (.ref as_), .val (.ref ad), .val (.double dq), .second, .val (.double dp), .second, .val (.double dv), .second] [(.double dp)])) rfl (by rw [hml]; rfl) (argsL := [(.double dp)]) (rest := []) (lenOf pd__D_Z rfl) rfl (by show 2 * 0 + _ ≤ _; exact Nat.le_of_eq rfl) (hb hby d7_44) (fun _ _ => ⟨rfl, e10, (by decide : 0 + 0 ≤ _), (by decide : 0 + 0 ≤ _)⟩)
  dsimp only [Pt.U, Pt.locs, Pt.cells, Pt.slots] at X12 l12 y12 z12 st12 hQ12
  subst l12 y12 z12
  obtain ⟨h12, e12⟩ : ∃ h, T12.heap = h := ⟨_, rfl⟩
  rw [e12] at hQ12
  obtain ⟨rfl, Nq12, hs12⟩ := hQ12
  have N12 := Fr.app N10 Nq12
  rw [hs12] at e12
  refine Go.step st12 ?_
  show Go _ _ _ _ _ _ _ T12 (mkF m 47 #[.val (.ref ao), .val (.ref as_), .val (.ref ad), .val (.double dq), .second, .val (.double dp), .second, .val (.double dv), .second] [(.int (1 : Int32))])
  have hc47_13 : ¬ ((1 : Int32) = (0 : Int32)) := (by decide)
  refine Go.step (fun _ k => XS.ifNo X12.here hx rfl (hb hby d7_47) rfl ((if0 _ _).trans (feq hc47_13).1) k) ?_
  show Go _ _ _ _ _ _ _ T12 (mkF m 50 #[.val (.ref ao), .val (.ref as_), .val (.ref ad), .val (.double dq), .second, .val (.double dp), .second, .val (.double dv), .second] [])
  refine Go.step (fun _ k => XS.dload X12.here hx rfl (hb hby d7_50) rfl k) ?_
  show Go _ _ _ _ _ _ _ T12 (mkF m 52 #[.val (.ref ao), .val (.ref as_), .val (.ref ad), .val (.double dq), .second, .val (.double dp), .second, .val (.double dv), .second] [(.double dv)])
  obtain ⟨_, _, ⟨T14, L14, k14, n14⟩, -, X14, ⟨Lc14, hQ14, l14, y14, z14⟩, st14⟩ := Jvm.LawKit.callS X12 hx (y := (⟨"java/lang/Double", "isFinite", "(D)Z"⟩ : MethodName)) hown (mvT hZ (hw _ (List.mem_of_getElem? (i := 51) rfl))) (mvT hZ (hw _ (List.mem_of_getElem? (i := 52) rfl))) (mvT hZ (hw _ (List.mem_of_getElem? (i := 53) rfl))) (mvT hZ (hw _ (List.mem_of_getElem? (i := 54) rfl))) (by decide) (backOf (W := 0) (rmFi l Z a0 hw [] dv jv h0 n0 Z0 hv bv) hZ (hw _ (List.mem_of_getElem? (i := 54) rfl)) (hw _ (List.mem_of_getElem? (i := 53) rfl)) (by decide) (by decide)) (g := (mkF m 52 #[.val (.ref ao), .val (.ref as_), .val (.ref ad), .val (.double dq), .second, .val (.double dp), .second, .val (.double dv), .second] [(.double dv)])) rfl (by rw [hml]; rfl) (argsL := [(.double dv)]) (rest := []) (lenOf pd__D_Z rfl) rfl (by show 2 * 0 + _ ≤ _; exact Nat.le_of_eq rfl) (hb hby d7_52) (fun _ _ => ⟨rfl, e12, (by decide : 0 + 0 ≤ _), (by decide : 0 + 0 ≤ _)⟩)
  dsimp only [Pt.U, Pt.locs, Pt.cells, Pt.slots] at X14 l14 y14 z14 st14 hQ14
  subst l14 y14 z14
  obtain ⟨h14, e14⟩ : ∃ h, T14.heap = h := ⟨_, rfl⟩
  rw [e14] at hQ14
  obtain ⟨rfl, Nq14, hs14⟩ := hQ14
  have N14 := Fr.app N12 Nq14
  rw [hs14] at e14
  refine Go.step st14 ?_
  show Go _ _ _ _ _ _ _ T14 (mkF m 55 #[.val (.ref ao), .val (.ref as_), .val (.ref ad), .val (.double dq), .second, .val (.double dp), .second, .val (.double dv), .second] [(.int (1 : Int32))])
  have hc55_15 : ¬ ((1 : Int32) = (0 : Int32)) := (by decide)
  refine Go.step (fun _ k => XS.ifYes X14.here hx rfl (pc0 := 55) (pc' := 72) rfl (hb hby d7_55) rfl ((if0 _ _).trans (feq hc55_15).2) (by decide) (by decide) k) ?_
  show Go _ _ _ _ _ _ _ T14 (mkF m 72 #[.val (.ref ao), .val (.ref as_), .val (.ref ad), .val (.double dq), .second, .val (.double dp), .second, .val (.double dv), .second] [])
  refine Go.step (fun _ k => XS.dconst0 X14.here hx rfl (v := (0 : UInt64)) (hb hby d7_72) (by decide +kernel) k) ?_
  show Go _ _ _ _ _ _ _ T14 (mkF m 73 #[.val (.ref ao), .val (.ref as_), .val (.ref ad), .val (.double dq), .second, .val (.double dp), .second, .val (.double dv), .second] [(.double (0 : UInt64))])
  refine Go.step (fun _ k => XS.dloadN X14.here hx rfl (hb hby d7_73) rfl k) ?_
  show Go _ _ _ _ _ _ _ T14 (mkF m 74 #[.val (.ref ao), .val (.ref as_), .val (.ref ad), .val (.double dq), .second, .val (.double dp), .second, .val (.double dv), .second] [(.double dq), (.double (0 : UInt64))])
  refine Go.step (fun _ k => XS.dcmpS X14.here hx rfl (hb hby d7_74) rfl rfl k) ?_
  show Go _ _ _ _ _ _ _ T14 (mkF m 75 #[.val (.ref ao), .val (.ref as_), .val (.ref ad), .val (.double dq), .second, .val (.double dp), .second, .val (.double dv), .second] [(.int (cmpValue (FP.dcmp (0 : UInt64) dq) .g))])
  have hc75_16 : ¬ ((0 : Int32) < (cmpValue (FP.dcmp (0 : UInt64) dq) .g)) := c1
  refine Go.step (fun _ k => XS.ifNo X14.here hx rfl (hb hby d7_75) rfl ((if0 _ _).trans (flt hc75_16).2.2.1) k) ?_
  show Go _ _ _ _ _ _ _ T14 (mkF m 78 #[.val (.ref ao), .val (.ref as_), .val (.ref ad), .val (.double dq), .second, .val (.double dp), .second, .val (.double dv), .second] [])
  refine Go.step (fun _ k => XS.dloadN X14.here hx rfl (hb hby d7_78) rfl k) ?_
  show Go _ _ _ _ _ _ _ T14 (mkF m 79 #[.val (.ref ao), .val (.ref as_), .val (.ref ad), .val (.double dq), .second, .val (.double dp), .second, .val (.double dv), .second] [(.double dq)])
  refine Go.step (fun _ k => XS.dload X14.here hx rfl (hb hby d7_79) rfl k) ?_
  show Go _ _ _ _ _ _ _ T14 (mkF m 81 #[.val (.ref ao), .val (.ref as_), .val (.ref ad), .val (.double dq), .second, .val (.double dp), .second, .val (.double dv), .second] [(.double dp), (.double dq)])
  refine Go.step (fun _ k => XS.dcmpS X14.here hx rfl (hb hby d7_81) rfl rfl k) ?_
  show Go _ _ _ _ _ _ _ T14 (mkF m 82 #[.val (.ref ao), .val (.ref as_), .val (.ref ad), .val (.double dq), .second, .val (.double dp), .second, .val (.double dv), .second] [(.int (cmpValue (FP.dcmp dq dp) .g))])
  have hc82_17 : ¬ ((0 : Int32) < (cmpValue (FP.dcmp dq dp) .g)) := c2
  refine Go.step (fun _ k => XS.ifNo X14.here hx rfl (hb hby d7_82) rfl ((if0 _ _).trans (flt hc82_17).2.2.1) k) ?_
  show Go _ _ _ _ _ _ _ T14 (mkF m 85 #[.val (.ref ao), .val (.ref as_), .val (.ref ad), .val (.double dq), .second, .val (.double dp), .second, .val (.double dv), .second] [])
  refine Go.step (fun _ k => XS.dload X14.here hx rfl (hb hby d7_85) rfl k) ?_
  show Go _ _ _ _ _ _ _ T14 (mkF m 87 #[.val (.ref ao), .val (.ref as_), .val (.ref ad), .val (.double dq), .second, .val (.double dp), .second, .val (.double dv), .second] [(.double dp)])
  refine Go.step (fun _ k => XS.dload X14.here hx rfl (hb hby d7_87) rfl k) ?_
  show Go _ _ _ _ _ _ _ T14 (mkF m 89 #[.val (.ref ao), .val (.ref as_), .val (.ref ad), .val (.double dq), .second, .val (.double dp), .second, .val (.double dv), .second] [(.double dv), (.double dp)])
  refine Go.step (fun _ k => XS.dcmpS X14.here hx rfl (hb hby d7_89) rfl rfl k) ?_
  show Go _ _ _ _ _ _ _ T14 (mkF m 90 #[.val (.ref ao), .val (.ref as_), .val (.ref ad), .val (.double dq), .second, .val (.double dp), .second, .val (.double dv), .second] [(.int (cmpValue (FP.dcmp dp dv) .g))])
  have hc90_18 : ¬ ((0 : Int32) < (cmpValue (FP.dcmp dp dv) .g)) := c3
  refine Go.step (fun _ k => XS.ifYes X14.here hx rfl (pc0 := 90) (pc' := 112) rfl (hb hby d7_90) rfl ((if0 _ _).trans (flt hc90_18).2.2.2) (by decide) (by decide) k) ?_
  show Go _ _ _ _ _ _ _ T14 (mkF m 112 #[.val (.ref ao), .val (.ref as_), .val (.ref ad), .val (.double dq), .second, .val (.double dp), .second, .val (.double dv), .second] [])
  refine Go.step (fun _ k => XS.aloadN X14.here hx rfl (hb hby d7_112) rfl rfl k) ?_
  show Go _ _ _ _ _ _ _ T14 (mkF m 113 #[.val (.ref ao), .val (.ref as_), .val (.ref ad), .val (.double dq), .second, .val (.double dp), .second, .val (.double dv), .second] [(.ref ao)])
  refine Go.step (fun _ k => XS.aloadN X14.here hx rfl (hb hby d7_113) rfl rfl k) ?_
  show Go _ _ _ _ _ _ _ T14 (mkF m 114 #[.val (.ref ao), .val (.ref as_), .val (.ref ad), .val (.double dq), .second, .val (.double dp), .second, .val (.double dv), .second] [(.ref as_), (.ref ao)])
  obtain ⟨T19, h19, X19, e19, W19, st19⟩ := putF X14 hx hZ hown (host := "") (Or.inl (hw _ (List.mem_of_getElem? (i := 60) rfl))) Via.refl e14 F_name E0 (Or.inr ⟨(hw _ (List.mem_of_getElem? (i := 61) rfl)), rfl, hnm⟩) (hw _ (List.mem_of_getElem? (i := 6) rfl)) (ty := (.object "java/lang/String")) (by decide) rfl rfl (g := (mkF m 114 #[.val (.ref ao), .val (.ref as_), .val (.ref ad), .val (.double dq), .second, .val (.double dp), .second, .val (.double dv), .second] [(.ref as_), (.ref ao)])) rfl rfl (hb hby d7_114)
  refine Go.step st19 ?_
  have Fw19 := F_name.same W19
  have N19 := Fr.snoc X19 N14 g0
  have Z19 : n0 ≤ h19.size := Nat.le_trans Z0 (Keep.of_wr W19).1
  have KK19 : Keep h0 h19 [ao] := (Keep.refl h0 [ao]).wr W19 (Or.inl (List.mem_of_getElem? (i := 0) rfl))
  show Go _ _ _ _ _ _ _ T19 (mkF m 117 #[.val (.ref ao), .val (.ref as_), .val (.ref ad), .val (.double dq), .second, .val (.double dp), .second, .val (.double dv), .second] [])
  refine Go.step (fun _ k => XS.aloadN X19.here hx rfl (hb hby d7_117) rfl rfl k) ?_
  show Go _ _ _ _ _ _ _ T19 (mkF m 118 #[.val (.ref ao), .val (.ref as_), .val (.ref ad), .val (.double dq), .second, .val (.double dp), .second, .val (.double dv), .second] [(.ref ao)])
  refine Go.step (fun _ k => XS.aloadN X19.here hx rfl (hb hby d7_118) rfl rfl k) ?_
  show Go _ _ _ _ _ _ _ T19 (mkF m 119 #[.val (.ref ao), .val (.ref as_), .val (.ref ad), .val (.double dq), .second, .val (.double dp), .second, .val (.double dv), .second] [(.ref ad), (.ref ao)])
  have f20 : Fld Z h19 ao "com/example/wayfront/wayfront/decision/Criterion" "direction" "Lcom/example/wayfront/wayfront/decision/Criterion$Direction;" .null := (F_direction.other W19 (Or.inr (slot_ne (a0 := a0) (C := "com/example/wayfront/wayfront/decision/Criterion") (Or.inr (hw _ (List.mem_of_getElem? (i := 63) rfl))) (Or.inr (hw _ (List.mem_of_getElem? (i := 61) rfl))) (by decide) (t := (.object "com/example/wayfront/wayfront/decision/Criterion$Direction")) (t' := (.object "java/lang/String")) (by decide) (by decide))))
  have f21 : Exa Z h19 ao "com/example/wayfront/wayfront/decision/Criterion" := (E0.wr W19)
  obtain ⟨T22, h22, X22, e22, W22, st22⟩ := putF X19 hx hZ hown (host := "") (Or.inl (hw _ (List.mem_of_getElem? (i := 62) rfl))) Via.refl e19 f20 f21 (Or.inr ⟨(hw _ (List.mem_of_getElem? (i := 63) rfl)), rfl, hnm⟩) (hw _ (List.mem_of_getElem? (i := 6) rfl)) (ty := (.object "com/example/wayfront/wayfront/decision/Criterion$Direction")) (by decide) rfl rfl (g := (mkF m 119 #[.val (.ref ao), .val (.ref as_), .val (.ref ad), .val (.double dq), .second, .val (.double dp), .second, .val (.double dv), .second] [(.ref ad), (.ref ao)])) rfl rfl (hb hby d7_119)
  refine Go.step st22 ?_
  have Fw22 := f20.same W22
  have N22 := Fr.snoc X22 N19 g0
  have Z22 : n0 ≤ h22.size := Nat.le_trans Z19 (Keep.of_wr W22).1
  have KK22 : Keep h0 h22 [ao] := KK19.wr W22 (Or.inl (List.mem_of_getElem? (i := 0) rfl))
  show Go _ _ _ _ _ _ _ T22 (mkF m 122 #[.val (.ref ao), .val (.ref as_), .val (.ref ad), .val (.double dq), .second, .val (.double dp), .second, .val (.double dv), .second] [])
  refine Go.step (fun _ k => XS.aloadN X22.here hx rfl (hb hby d7_122) rfl rfl k) ?_
  show Go _ _ _ _ _ _ _ T22 (mkF m 123 #[.val (.ref ao), .val (.ref as_), .val (.ref ad), .val (.double dq), .second, .val (.double dp), .second, .val (.double dv), .second] [(.ref ao)])
  refine Go.step (fun _ k => XS.dloadN X22.here hx rfl (hb hby d7_123) rfl k) ?_
  show Go _ _ _ _ _ _ _ T22 (mkF m 124 #[.val (.ref ao), .val (.ref as_), .val (.ref ad), .val (.double dq), .second, .val (.double dp), .second, .val (.double dv), .second] [(.double dq), (.ref ao)])
  have f23 : Fld Z h22 ao "com/example/wayfront/wayfront/decision/Criterion" "indifference" "D" (.double (0 : UInt64)) := ((F_indifference.other W19 (Or.inr (slot_ne (a0 := a0) (C := "com/example/wayfront/wayfront/decision/Criterion") (Or.inr (hw _ (List.mem_of_getElem? (i := 65) rfl))) (Or.inr (hw _ (List.mem_of_getElem? (i := 61) rfl))) (by decide) (t := .double) (t' := (.object "java/lang/String")) (by decide) (by decide)))).other W22 (Or.inr (slot_ne (a0 := a0) (C := "com/example/wayfront/wayfront/decision/Criterion") (Or.inr (hw _ (List.mem_of_getElem? (i := 65) rfl))) (Or.inr (hw _ (List.mem_of_getElem? (i := 63) rfl))) (by decide) (t := .double) (t' := (.object "com/example/wayfront/wayfront/decision/Criterion$Direction")) (by decide) (by decide))))
  have f24 : Exa Z h22 ao "com/example/wayfront/wayfront/decision/Criterion" := (f21.wr W22)
  obtain ⟨T25, h25, X25, e25, W25, st25⟩ := putF X22 hx hZ hown (host := "") (Or.inl (hw _ (List.mem_of_getElem? (i := 64) rfl))) Via.refl e22 f23 f24 (Or.inr ⟨(hw _ (List.mem_of_getElem? (i := 65) rfl)), rfl, hnm⟩) (hw _ (List.mem_of_getElem? (i := 6) rfl)) (ty := .double) (by decide) rfl rfl (g := (mkF m 124 #[.val (.ref ao), .val (.ref as_), .val (.ref ad), .val (.double dq), .second, .val (.double dp), .second, .val (.double dv), .second] [(.double dq), (.ref ao)])) rfl rfl (hb hby d7_124)
  refine Go.step st25 ?_
  have Fw25 := f23.same W25
  have N25 := Fr.snoc X25 N22 g0
  have Z25 : n0 ≤ h25.size := Nat.le_trans Z22 (Keep.of_wr W25).1
  have KK25 : Keep h0 h25 [ao] := KK22.wr W25 (Or.inl (List.mem_of_getElem? (i := 0) rfl))
  show Go _ _ _ _ _ _ _ T25 (mkF m 127 #[.val (.ref ao), .val (.ref as_), .val (.ref ad), .val (.double dq), .second, .val (.double dp), .second, .val (.double dv), .second] [])
  refine Go.step (fun _ k => XS.aloadN X25.here hx rfl (hb hby d7_127) rfl rfl k) ?_
  show Go _ _ _ _ _ _ _ T25 (mkF m 128 #[.val (.ref ao), .val (.ref as_), .val (.ref ad), .val (.double dq), .second, .val (.double dp), .second, .val (.double dv), .second] [(.ref ao)])
  refine Go.step (fun _ k => XS.dload X25.here hx rfl (hb hby d7_128) rfl k) ?_
  show Go _ _ _ _ _ _ _ T25 (mkF m 130 #[.val (.ref ao), .val (.ref as_), .val (.ref ad), .val (.double dq), .second, .val (.double dp), .second, .val (.double dv), .second] [(.double dp), (.ref ao)])
  have f26 : Fld Z h25 ao "com/example/wayfront/wayfront/decision/Criterion" "preference" "D" (.double (0 : UInt64)) := (((F_preference.other W19 (Or.inr (slot_ne (a0 := a0) (C := "com/example/wayfront/wayfront/decision/Criterion") (Or.inr (hw _ (List.mem_of_getElem? (i := 67) rfl))) (Or.inr (hw _ (List.mem_of_getElem? (i := 61) rfl))) (by decide) (t := .double) (t' := (.object "java/lang/String")) (by decide) (by decide)))).other W22 (Or.inr (slot_ne (a0 := a0) (C := "com/example/wayfront/wayfront/decision/Criterion") (Or.inr (hw _ (List.mem_of_getElem? (i := 67) rfl))) (Or.inr (hw _ (List.mem_of_getElem? (i := 63) rfl))) (by decide) (t := .double) (t' := (.object "com/example/wayfront/wayfront/decision/Criterion$Direction")) (by decide) (by decide)))).other W25 (Or.inr (slot_ne (a0 := a0) (C := "com/example/wayfront/wayfront/decision/Criterion") (Or.inr (hw _ (List.mem_of_getElem? (i := 67) rfl))) (Or.inr (hw _ (List.mem_of_getElem? (i := 65) rfl))) (by decide) (t := .double) (t' := .double) (by decide) (by decide))))
  have f27 : Exa Z h25 ao "com/example/wayfront/wayfront/decision/Criterion" := (f24.wr W25)
  obtain ⟨T28, h28, X28, e28, W28, st28⟩ := putF X25 hx hZ hown (host := "") (Or.inl (hw _ (List.mem_of_getElem? (i := 66) rfl))) Via.refl e25 f26 f27 (Or.inr ⟨(hw _ (List.mem_of_getElem? (i := 67) rfl)), rfl, hnm⟩) (hw _ (List.mem_of_getElem? (i := 6) rfl)) (ty := .double) (by decide) rfl rfl (g := (mkF m 130 #[.val (.ref ao), .val (.ref as_), .val (.ref ad), .val (.double dq), .second, .val (.double dp), .second, .val (.double dv), .second] [(.double dp), (.ref ao)])) rfl rfl (hb hby d7_130)
  refine Go.step st28 ?_
  have Fw28 := f26.same W28
  have N28 := Fr.snoc X28 N25 g0
  have Z28 : n0 ≤ h28.size := Nat.le_trans Z25 (Keep.of_wr W28).1
  have KK28 : Keep h0 h28 [ao] := KK25.wr W28 (Or.inl (List.mem_of_getElem? (i := 0) rfl))
  show Go _ _ _ _ _ _ _ T28 (mkF m 133 #[.val (.ref ao), .val (.ref as_), .val (.ref ad), .val (.double dq), .second, .val (.double dp), .second, .val (.double dv), .second] [])
  refine Go.step (fun _ k => XS.aloadN X28.here hx rfl (hb hby d7_133) rfl rfl k) ?_
  show Go _ _ _ _ _ _ _ T28 (mkF m 134 #[.val (.ref ao), .val (.ref as_), .val (.ref ad), .val (.double dq), .second, .val (.double dp), .second, .val (.double dv), .second] [(.ref ao)])
  refine Go.step (fun _ k => XS.dload X28.here hx rfl (hb hby d7_134) rfl k) ?_
  show Go _ _ _ _ _ _ _ T28 (mkF m 136 #[.val (.ref ao), .val (.ref as_), .val (.ref ad), .val (.double dq), .second, .val (.double dp), .second, .val (.double dv), .second] [(.double dv), (.ref ao)])
  have f29 : Fld Z h28 ao "com/example/wayfront/wayfront/decision/Criterion" "veto" "D" (.double (0 : UInt64)) := ((((F_veto.other W19 (Or.inr (slot_ne (a0 := a0) (C := "com/example/wayfront/wayfront/decision/Criterion") (Or.inr (hw _ (List.mem_of_getElem? (i := 69) rfl))) (Or.inr (hw _ (List.mem_of_getElem? (i := 61) rfl))) (by decide) (t := .double) (t' := (.object "java/lang/String")) (by decide) (by decide)))).other W22 (Or.inr (slot_ne (a0 := a0) (C := "com/example/wayfront/wayfront/decision/Criterion") (Or.inr (hw _ (List.mem_of_getElem? (i := 69) rfl))) (Or.inr (hw _ (List.mem_of_getElem? (i := 63) rfl))) (by decide) (t := .double) (t' := (.object "com/example/wayfront/wayfront/decision/Criterion$Direction")) (by decide) (by decide)))).other W25 (Or.inr (slot_ne (a0 := a0) (C := "com/example/wayfront/wayfront/decision/Criterion") (Or.inr (hw _ (List.mem_of_getElem? (i := 69) rfl))) (Or.inr (hw _ (List.mem_of_getElem? (i := 65) rfl))) (by decide) (t := .double) (t' := .double) (by decide) (by decide)))).other W28 (Or.inr (slot_ne (a0 := a0) (C := "com/example/wayfront/wayfront/decision/Criterion") (Or.inr (hw _ (List.mem_of_getElem? (i := 69) rfl))) (Or.inr (hw _ (List.mem_of_getElem? (i := 67) rfl))) (by decide) (t := .double) (t' := .double) (by decide) (by decide))))
  have f30 : Exa Z h28 ao "com/example/wayfront/wayfront/decision/Criterion" := (f27.wr W28)
  obtain ⟨T31, h31, X31, e31, W31, st31⟩ := putF X28 hx hZ hown (host := "") (Or.inl (hw _ (List.mem_of_getElem? (i := 68) rfl))) Via.refl e28 f29 f30 (Or.inr ⟨(hw _ (List.mem_of_getElem? (i := 69) rfl)), rfl, hnm⟩) (hw _ (List.mem_of_getElem? (i := 6) rfl)) (ty := .double) (by decide) rfl rfl (g := (mkF m 136 #[.val (.ref ao), .val (.ref as_), .val (.ref ad), .val (.double dq), .second, .val (.double dp), .second, .val (.double dv), .second] [(.double dv), (.ref ao)])) rfl rfl (hb hby d7_136)
  refine Go.step st31 ?_
  have Fw31 := f29.same W31
  have N31 := Fr.snoc X31 N28 g0
  have Z31 : n0 ≤ h31.size := Nat.le_trans Z28 (Keep.of_wr W31).1
  have KK31 : Keep h0 h31 [ao] := KK28.wr W31 (Or.inl (List.mem_of_getElem? (i := 0) rfl))
  show Go _ _ _ _ _ _ _ T31 (mkF m 139 #[.val (.ref ao), .val (.ref as_), .val (.ref ad), .val (.double dq), .second, .val (.double dp), .second, .val (.double dv), .second] [])
  have f32 : Fld Z h31 ao "com/example/wayfront/wayfront/decision/Criterion" "preference" "D" (.double dp) := (Fw28.other W31 (Or.inr (slot_ne (a0 := a0) (C := "com/example/wayfront/wayfront/decision/Criterion") (Or.inr (hw _ (List.mem_of_getElem? (i := 67) rfl))) (Or.inr (hw _ (List.mem_of_getElem? (i := 69) rfl))) (by decide) (t := .double) (t' := .double) (by decide) (by decide))))
  exact Go.ret0 X31 hx hret hlk (hb hby d7_139) e31 (by decide) (by decide) ⟨rfl, N31, KK31, f32, Fw31⟩
theorem d12_0 : decode prog_21_method_4_code 0 = .ok (.dload_n 1, 1) := by decide +kernel
theorem d12_1 : decode prog_21_method_4_code 1 = .ok (.aload_n 0, 1) := by decide +kernel
theorem d12_2 : decode prog_21_method_4_code 2 = .ok (.getfield 49, 3) := by decide +kernel
theorem d12_5 : decode prog_21_method_4_code 5 = .ok (.dcmp .g, 1) := by decide +kernel
theorem d12_6 : decode prog_21_method_4_code 6 = .ok (.ifCond .gt 5, 3) := by decide +kernel
theorem d12_9 : decode prog_21_method_4_code 9 = .ok (.dconst 0, 1) := by decide +kernel
theorem d12_10 : decode prog_21_method_4_code 10 = .ok (.dreturn, 1) := by decide +kernel
theorem d12_11 : decode prog_21_method_4_code 11 = .ok (.dload_n 1, 1) := by decide +kernel
theorem d12_12 : decode prog_21_method_4_code 12 = .ok (.aload_n 0, 1) := by decide +kernel
theorem d12_13 : decode prog_21_method_4_code 13 = .ok (.getfield 52, 3) := by decide +kernel
theorem d12_16 : decode prog_21_method_4_code 16 = .ok (.dcmp .l, 1) := by decide +kernel
theorem d12_17 : decode prog_21_method_4_code 17 = .ok (.ifCond .le 5, 3) := by decide +kernel
theorem d12_20 : decode prog_21_method_4_code 20 = .ok (.dconst 1, 1) := by decide +kernel
theorem d12_21 : decode prog_21_method_4_code 21 = .ok (.dreturn, 1) := by decide +kernel
theorem d12_22 : decode prog_21_method_4_code 22 = .ok (.dload_n 1, 1) := by decide +kernel
theorem d12_23 : decode prog_21_method_4_code 23 = .ok (.aload_n 0, 1) := by decide +kernel
theorem d12_24 : decode prog_21_method_4_code 24 = .ok (.getfield 49, 3) := by decide +kernel
theorem d12_27 : decode prog_21_method_4_code 27 = .ok (.dsub, 1) := by decide +kernel
theorem d12_28 : decode prog_21_method_4_code 28 = .ok (.aload_n 0, 1) := by decide +kernel
theorem d12_29 : decode prog_21_method_4_code 29 = .ok (.getfield 52, 3) := by decide +kernel
theorem d12_32 : decode prog_21_method_4_code 32 = .ok (.aload_n 0, 1) := by decide +kernel
theorem d12_33 : decode prog_21_method_4_code 33 = .ok (.getfield 49, 3) := by decide +kernel
theorem d12_36 : decode prog_21_method_4_code 36 = .ok (.dsub, 1) := by decide +kernel
theorem d12_37 : decode prog_21_method_4_code 37 = .ok (.ddiv, 1) := by decide +kernel
theorem d12_38 : decode prog_21_method_4_code 38 = .ok (.dreturn, 1) := by decide +kernel
theorem ef_rmDa (m : MethodId) (ao : Addr) (da : UInt64) : entryFrame m #[(.ref ao), (.double da)] 3 = mkF m 0 #[.val (.ref ao), .val (.double da), .second] [] := by first | (simp [entryFrame, mkF, argsToLocals, Value.category]; done) | rfl
def Q_rmDa (Z : State) (ao : Addr) (da : UInt64) (pv : UInt64) (ve : UInt64) (h0 : Heap) (n0 : Nat) (v : Option Value) (h : Heap) (L : List Loc) : Prop := (v = some (.double (0 : UInt64))) ∧ (Fr n0 L) ∧ (h = h0)
set_option maxRecDepth 65536 in
set_option maxHeartbeats 40000000 in
theorem rmDa (l : Launch) (Z : State) (a0 : Array Value) (hw : ∀ d ∈ tables_1, d.before a0 Z = true) (ws : List Jvm.Cond) (ao : Addr) (da : UInt64) (pv : UInt64) (ve : UInt64) (h0 : Heap) (n0 : Nat) (Z0 : n0 ≤ h0.size) (Gp : Fld Z h0 ao "com/example/wayfront/wayfront/decision/Criterion" "preference" "D" (.double pv)) (Gv : Fld Z h0 ao "com/example/wayfront/wayfront/decision/Criterion" "veto" "D" (.double ve)) (h1 : ¬ ((0 : Int32) < (cmpValue (FP.dcmp da pv) .g))) :
    MetFree l (⟨"com/example/wayfront/wayfront/decision/Criterion", "discordance", "(D)D"⟩ : MethodName) (head1 (Jvm.Cond.code (⟨"com/example/wayfront/wayfront/decision/Criterion", "discordance", "(D)D"⟩ : MethodName) prog_21_method_4_code 3 (some .double) :: ws) ({ frames := 0, cells := 0, slots := 0, locals := 0 } : Room)) (fun aA U => aA = #[(.ref ao), (.double da)] ∧ Z.Warmed39 U.vm ∧ U.heap = h0) (fun _ _ _ _ _ => True) (fun _ U o U' => ∃ v L, o = .returned v ∧ Q_rmDa Z ao da pv ve h0 n0 v U'.heap L ∧ FrameEnd U o U' L ({ frames := 0, cells := 0, slots := 0, locals := 0 } : Room).cells ({ frames := 0, cells := 0, slots := 0, locals := 0 } : Room).slots) := by
  refine MetFree.of_bodySF (plainFor_of_name pn_com_example_wayfront_wayfront_decision_Criterion) hisR ?_
  intro p e s m args below meth c s₁ Bd hml0 hP hK
  obtain ⟨rfl, hZ, hh⟩ := hP
  have hx := Bd.exec
  have hby := Bd.bytes
  have hml : c.maxLocals = 3 := hml0
  have hown : s.vm.findClass "com/example/wayfront/wayfront/decision/Criterion" = some m.cls := findClass_of_methodNamed Bd.named
  have hnm := (name_of_methodNamed Bd.named Bd.method).1
  have hret := Bd.returns
  have hlk : meth.locks = false := BodyLoose.notSynchronized Bd
  have X0 : Stand p l e ({ frames := 0, cells := 0, slots := 0, locals := 0 } : Room) s m #[(.ref ao), (.double da)] below meth c s₁ [] 0 0 := Stand.of_body Bd
  have e0 : s₁.heap = h0 := by rw [← hh, Bd.state]; rfl
  have N0 := Fr.nil n0
  suffices hgo : Go p e below s ({ frames := 0, cells := 0, slots := 0, locals := 0 } : Room).cells ({ frames := 0, cells := 0, slots := 0, locals := 0 } : Room).slots (Q_rmDa Z ao da pv ve h0 n0) s₁ (mkF m 0 #[.val (.ref ao), .val (.double da), .second] []) from hgo.enter (ef_rmDa m ao da)
  refine Go.step (fun _ k => XS.dloadN X0.here hx rfl (hb hby d12_0) rfl k) ?_
  show Go _ _ _ _ _ _ _ s₁ (mkF m 1 #[.val (.ref ao), .val (.double da), .second] [(.double da)])
  refine Go.step (fun _ k => XS.aloadN X0.here hx rfl (hb hby d12_1) rfl rfl k) ?_
  show Go _ _ _ _ _ _ _ s₁ (mkF m 2 #[.val (.ref ao), .val (.double da), .second] [(.ref ao), (.double da)])
  obtain ⟨T33, X33, e33, st33⟩ := getF X0 hx hZ hown (host := "") (Or.inl (hw _ (List.mem_of_getElem? (i := 66) rfl))) Via.refl e0 Gp (g := (mkF m 2 #[.val (.ref ao), .val (.double da), .second] [(.ref ao), (.double da)])) rfl rfl (hb hby d12_2)
  refine Go.step st33 ?_
  show Go _ _ _ _ _ _ _ T33 (mkF m 5 #[.val (.ref ao), .val (.double da), .second] [(.double pv), (.double da)])
  refine Go.step (fun _ k => XS.dcmpS X33.here hx rfl (hb hby d12_5) rfl rfl k) ?_
  show Go _ _ _ _ _ _ _ T33 (mkF m 6 #[.val (.ref ao), .val (.double da), .second] [(.int (cmpValue (FP.dcmp da pv) .g))])
  have hc6_34 : ¬ ((0 : Int32) < (cmpValue (FP.dcmp da pv) .g)) := h1
  refine Go.step (fun _ k => XS.ifNo X33.here hx rfl (hb hby d12_6) rfl ((if0 _ _).trans (flt hc6_34).2.2.1) k) ?_
  show Go _ _ _ _ _ _ _ T33 (mkF m 9 #[.val (.ref ao), .val (.double da), .second] [])
  refine Go.step (fun _ k => XS.dconst0 X33.here hx rfl (v := (0 : UInt64)) (hb hby d12_9) (by decide +kernel) k) ?_
  show Go _ _ _ _ _ _ _ T33 (mkF m 10 #[.val (.ref ao), .val (.double da), .second] [(.double (0 : UInt64))])
  exact Go.ret X33 hx hret hlk rfl (Or.inr (Or.inr (Or.inl ⟨rfl, rfl, _, rfl⟩))) (hb hby d12_10) e33 (by decide) (by decide) ⟨rfl, N0, rfl⟩
theorem ef_rmDb (m : MethodId) (ao : Addr) (da : UInt64) : entryFrame m #[(.ref ao), (.double da)] 3 = mkF m 0 #[.val (.ref ao), .val (.double da), .second] [] := by first | (simp [entryFrame, mkF, argsToLocals, Value.category]; done) | rfl
def Q_rmDb (Z : State) (ao : Addr) (da : UInt64) (pv : UInt64) (ve : UInt64) (h0 : Heap) (n0 : Nat) (v : Option Value) (h : Heap) (L : List Loc) : Prop := (v = some (.double (4607182418800017408 : UInt64))) ∧ (Fr n0 L) ∧ (h = h0)
set_option maxRecDepth 65536 in
set_option maxHeartbeats 40000000 in
theorem rmDb (l : Launch) (Z : State) (a0 : Array Value) (hw : ∀ d ∈ tables_1, d.before a0 Z = true) (ws : List Jvm.Cond) (ao : Addr) (da : UInt64) (pv : UInt64) (ve : UInt64) (h0 : Heap) (n0 : Nat) (Z0 : n0 ≤ h0.size) (Gp : Fld Z h0 ao "com/example/wayfront/wayfront/decision/Criterion" "preference" "D" (.double pv)) (Gv : Fld Z h0 ao "com/example/wayfront/wayfront/decision/Criterion" "veto" "D" (.double ve)) (h1 : (0 : Int32) < (cmpValue (FP.dcmp da pv) .g)) (h2 : (0 : Int32) < (cmpValue (FP.dcmp da ve) .l)) :
    MetFree l (⟨"com/example/wayfront/wayfront/decision/Criterion", "discordance", "(D)D"⟩ : MethodName) (head1 (Jvm.Cond.code (⟨"com/example/wayfront/wayfront/decision/Criterion", "discordance", "(D)D"⟩ : MethodName) prog_21_method_4_code 3 (some .double) :: ws) ({ frames := 0, cells := 0, slots := 0, locals := 0 } : Room)) (fun aA U => aA = #[(.ref ao), (.double da)] ∧ Z.Warmed39 U.vm ∧ U.heap = h0) (fun _ _ _ _ _ => True) (fun _ U o U' => ∃ v L, o = .returned v ∧ Q_rmDb Z ao da pv ve h0 n0 v U'.heap L ∧ FrameEnd U o U' L ({ frames := 0, cells := 0, slots := 0, locals := 0 } : Room).cells ({ frames := 0, cells := 0, slots := 0, locals := 0 } : Room).slots) := by
  refine MetFree.of_bodySF (plainFor_of_name pn_com_example_wayfront_wayfront_decision_Criterion) hisR ?_
  intro p e s m args below meth c s₁ Bd hml0 hP hK
  obtain ⟨rfl, hZ, hh⟩ := hP
  have hx := Bd.exec
  have hby := Bd.bytes
  have hml : c.maxLocals = 3 := hml0
  have hown : s.vm.findClass "com/example/wayfront/wayfront/decision/Criterion" = some m.cls := findClass_of_methodNamed Bd.named
  have hnm := (name_of_methodNamed Bd.named Bd.method).1
  have hret := Bd.returns
  have hlk : meth.locks = false := BodyLoose.notSynchronized Bd
  have X0 : Stand p l e ({ frames := 0, cells := 0, slots := 0, locals := 0 } : Room) s m #[(.ref ao), (.double da)] below meth c s₁ [] 0 0 := Stand.of_body Bd
  have e0 : s₁.heap = h0 := by rw [← hh, Bd.state]; rfl
  have N0 := Fr.nil n0
  suffices hgo : Go p e below s ({ frames := 0, cells := 0, slots := 0, locals := 0 } : Room).cells ({ frames := 0, cells := 0, slots := 0, locals := 0 } : Room).slots (Q_rmDb Z ao da pv ve h0 n0) s₁ (mkF m 0 #[.val (.ref ao), .val (.double da), .second] []) from hgo.enter (ef_rmDb m ao da)
  refine Go.step (fun _ k => XS.dloadN X0.here hx rfl (hb hby d12_0) rfl k) ?_
  show Go _ _ _ _ _ _ _ s₁ (mkF m 1 #[.val (.ref ao), .val (.double da), .second] [(.double da)])
  refine Go.step (fun _ k => XS.aloadN X0.here hx rfl (hb hby d12_1) rfl rfl k) ?_
  show Go _ _ _ _ _ _ _ s₁ (mkF m 2 #[.val (.ref ao), .val (.double da), .second] [(.ref ao), (.double da)])
  obtain ⟨T35, X35, e35, st35⟩ := getF X0 hx hZ hown (host := "") (Or.inl (hw _ (List.mem_of_getElem? (i := 66) rfl))) Via.refl e0 Gp (g := (mkF m 2 #[.val (.ref ao), .val (.double da), .second] [(.ref ao), (.double da)])) rfl rfl (hb hby d12_2)
  refine Go.step st35 ?_
  show Go _ _ _ _ _ _ _ T35 (mkF m 5 #[.val (.ref ao), .val (.double da), .second] [(.double pv), (.double da)])
  refine Go.step (fun _ k => XS.dcmpS X35.here hx rfl (hb hby d12_5) rfl rfl k) ?_
  show Go _ _ _ _ _ _ _ T35 (mkF m 6 #[.val (.ref ao), .val (.double da), .second] [(.int (cmpValue (FP.dcmp da pv) .g))])
  have hc6_36 : (0 : Int32) < (cmpValue (FP.dcmp da pv) .g) := h1
  refine Go.step (fun _ k => XS.ifYes X35.here hx rfl (pc0 := 6) (pc' := 11) rfl (hb hby d12_6) rfl ((if0 _ _).trans (tlt hc6_36).2.2.1) (by decide) (by decide) k) ?_
  show Go _ _ _ _ _ _ _ T35 (mkF m 11 #[.val (.ref ao), .val (.double da), .second] [])
  refine Go.step (fun _ k => XS.dloadN X35.here hx rfl (hb hby d12_11) rfl k) ?_
  show Go _ _ _ _ _ _ _ T35 (mkF m 12 #[.val (.ref ao), .val (.double da), .second] [(.double da)])
  refine Go.step (fun _ k => XS.aloadN X35.here hx rfl (hb hby d12_12) rfl rfl k) ?_
  show Go _ _ _ _ _ _ _ T35 (mkF m 13 #[.val (.ref ao), .val (.double da), .second] [(.ref ao), (.double da)])
  obtain ⟨T37, X37, e37, st37⟩ := getF X35 hx hZ hown (host := "") (Or.inl (hw _ (List.mem_of_getElem? (i := 68) rfl))) Via.refl e35 Gv (g := (mkF m 13 #[.val (.ref ao), .val (.double da), .second] [(.ref ao), (.double da)])) rfl rfl (hb hby d12_13)
  refine Go.step st37 ?_
  show Go _ _ _ _ _ _ _ T37 (mkF m 16 #[.val (.ref ao), .val (.double da), .second] [(.double ve), (.double da)])
  refine Go.step (fun _ k => XS.dcmpS X37.here hx rfl (hb hby d12_16) rfl rfl k) ?_
  show Go _ _ _ _ _ _ _ T37 (mkF m 17 #[.val (.ref ao), .val (.double da), .second] [(.int (cmpValue (FP.dcmp da ve) .l))])
  have hc17_38 : (0 : Int32) < (cmpValue (FP.dcmp da ve) .l) := h2
  refine Go.step (fun _ k => XS.ifNo X37.here hx rfl (hb hby d12_17) rfl ((if0 _ _).trans (tlt hc17_38).2.2.2) k) ?_
  show Go _ _ _ _ _ _ _ T37 (mkF m 20 #[.val (.ref ao), .val (.double da), .second] [])
  refine Go.step (fun _ k => XS.dconst1 X37.here hx rfl (v := (4607182418800017408 : UInt64)) (hb hby d12_20) (by decide +kernel) k) ?_
  show Go _ _ _ _ _ _ _ T37 (mkF m 21 #[.val (.ref ao), .val (.double da), .second] [(.double (4607182418800017408 : UInt64))])
  exact Go.ret X37 hx hret hlk rfl (Or.inr (Or.inr (Or.inl ⟨rfl, rfl, _, rfl⟩))) (hb hby d12_21) e37 (by decide) (by decide) ⟨rfl, N0, rfl⟩
theorem ef_rmDc (m : MethodId) (ao : Addr) (da : UInt64) : entryFrame m #[(.ref ao), (.double da)] 3 = mkF m 0 #[.val (.ref ao), .val (.double da), .second] [] := by first | (simp [entryFrame, mkF, argsToLocals, Value.category]; done) | rfl
def Q_rmDc (Z : State) (ao : Addr) (da : UInt64) (pv : UInt64) (ve : UInt64) (h0 : Heap) (n0 : Nat) (v : Option Value) (h : Heap) (L : List Loc) : Prop := (v = some (.double (FP.ddiv (FP.dsub da pv) (FP.dsub ve pv)))) ∧ (Fr n0 L) ∧ (h = h0)
set_option maxRecDepth 65536 in
set_option maxHeartbeats 40000000 in
theorem rmDc (l : Launch) (Z : State) (a0 : Array Value) (hw : ∀ d ∈ tables_1, d.before a0 Z = true) (ws : List Jvm.Cond) (ao : Addr) (da : UInt64) (pv : UInt64) (ve : UInt64) (h0 : Heap) (n0 : Nat) (Z0 : n0 ≤ h0.size) (Gp : Fld Z h0 ao "com/example/wayfront/wayfront/decision/Criterion" "preference" "D" (.double pv)) (Gv : Fld Z h0 ao "com/example/wayfront/wayfront/decision/Criterion" "veto" "D" (.double ve)) (h1 : (0 : Int32) < (cmpValue (FP.dcmp da pv) .g)) (h2 : ¬ ((0 : Int32) < (cmpValue (FP.dcmp da ve) .l))) (nn1 : NoNaN64 (FP.dsub da pv)) (nn2 : NoNaN64 (FP.dsub ve pv)) (nn3 : NoNaN64 (FP.ddiv (FP.dsub da pv) (FP.dsub ve pv))) :
    MetFree l (⟨"com/example/wayfront/wayfront/decision/Criterion", "discordance", "(D)D"⟩ : MethodName) (head1 (Jvm.Cond.code (⟨"com/example/wayfront/wayfront/decision/Criterion", "discordance", "(D)D"⟩ : MethodName) prog_21_method_4_code 3 (some .double) :: ws) ({ frames := 0, cells := 0, slots := 0, locals := 0 } : Room)) (fun aA U => aA = #[(.ref ao), (.double da)] ∧ Z.Warmed39 U.vm ∧ U.heap = h0) (fun _ _ _ _ _ => True) (fun _ U o U' => ∃ v L, o = .returned v ∧ Q_rmDc Z ao da pv ve h0 n0 v U'.heap L ∧ FrameEnd U o U' L ({ frames := 0, cells := 0, slots := 0, locals := 0 } : Room).cells ({ frames := 0, cells := 0, slots := 0, locals := 0 } : Room).slots) := by
  refine MetFree.of_bodySF (plainFor_of_name pn_com_example_wayfront_wayfront_decision_Criterion) hisR ?_
  intro p e s m args below meth c s₁ Bd hml0 hP hK
  obtain ⟨rfl, hZ, hh⟩ := hP
  have hx := Bd.exec
  have hby := Bd.bytes
  have hml : c.maxLocals = 3 := hml0
  have hown : s.vm.findClass "com/example/wayfront/wayfront/decision/Criterion" = some m.cls := findClass_of_methodNamed Bd.named
  have hnm := (name_of_methodNamed Bd.named Bd.method).1
  have hret := Bd.returns
  have hlk : meth.locks = false := BodyLoose.notSynchronized Bd
  have X0 : Stand p l e ({ frames := 0, cells := 0, slots := 0, locals := 0 } : Room) s m #[(.ref ao), (.double da)] below meth c s₁ [] 0 0 := Stand.of_body Bd
  have e0 : s₁.heap = h0 := by rw [← hh, Bd.state]; rfl
  have N0 := Fr.nil n0
  suffices hgo : Go p e below s ({ frames := 0, cells := 0, slots := 0, locals := 0 } : Room).cells ({ frames := 0, cells := 0, slots := 0, locals := 0 } : Room).slots (Q_rmDc Z ao da pv ve h0 n0) s₁ (mkF m 0 #[.val (.ref ao), .val (.double da), .second] []) from hgo.enter (ef_rmDc m ao da)
  refine Go.step (fun _ k => XS.dloadN X0.here hx rfl (hb hby d12_0) rfl k) ?_
  show Go _ _ _ _ _ _ _ s₁ (mkF m 1 #[.val (.ref ao), .val (.double da), .second] [(.double da)])
  refine Go.step (fun _ k => XS.aloadN X0.here hx rfl (hb hby d12_1) rfl rfl k) ?_
  show Go _ _ _ _ _ _ _ s₁ (mkF m 2 #[.val (.ref ao), .val (.double da), .second] [(.ref ao), (.double da)])
  obtain ⟨T39, X39, e39, st39⟩ := getF X0 hx hZ hown (host := "") (Or.inl (hw _ (List.mem_of_getElem? (i := 66) rfl))) Via.refl e0 Gp (g := (mkF m 2 #[.val (.ref ao), .val (.double da), .second] [(.ref ao), (.double da)])) rfl rfl (hb hby d12_2)
  refine Go.step st39 ?_
  show Go _ _ _ _ _ _ _ T39 (mkF m 5 #[.val (.ref ao), .val (.double da), .second] [(.double pv), (.double da)])
  refine Go.step (fun _ k => XS.dcmpS X39.here hx rfl (hb hby d12_5) rfl rfl k) ?_
  show Go _ _ _ _ _ _ _ T39 (mkF m 6 #[.val (.ref ao), .val (.double da), .second] [(.int (cmpValue (FP.dcmp da pv) .g))])
  have hc6_40 : (0 : Int32) < (cmpValue (FP.dcmp da pv) .g) := h1
  refine Go.step (fun _ k => XS.ifYes X39.here hx rfl (pc0 := 6) (pc' := 11) rfl (hb hby d12_6) rfl ((if0 _ _).trans (tlt hc6_40).2.2.1) (by decide) (by decide) k) ?_
  show Go _ _ _ _ _ _ _ T39 (mkF m 11 #[.val (.ref ao), .val (.double da), .second] [])
  refine Go.step (fun _ k => XS.dloadN X39.here hx rfl (hb hby d12_11) rfl k) ?_
  show Go _ _ _ _ _ _ _ T39 (mkF m 12 #[.val (.ref ao), .val (.double da), .second] [(.double da)])
  refine Go.step (fun _ k => XS.aloadN X39.here hx rfl (hb hby d12_12) rfl rfl k) ?_
  show Go _ _ _ _ _ _ _ T39 (mkF m 13 #[.val (.ref ao), .val (.double da), .second] [(.ref ao), (.double da)])
  obtain ⟨T41, X41, e41, st41⟩ := getF X39 hx hZ hown (host := "") (Or.inl (hw _ (List.mem_of_getElem? (i := 68) rfl))) Via.refl e39 Gv (g := (mkF m 13 #[.val (.ref ao), .val (.double da), .second] [(.ref ao), (.double da)])) rfl rfl (hb hby d12_13)
  refine Go.step st41 ?_
  show Go _ _ _ _ _ _ _ T41 (mkF m 16 #[.val (.ref ao), .val (.double da), .second] [(.double ve), (.double da)])
  refine Go.step (fun _ k => XS.dcmpS X41.here hx rfl (hb hby d12_16) rfl rfl k) ?_
  show Go _ _ _ _ _ _ _ T41 (mkF m 17 #[.val (.ref ao), .val (.double da), .second] [(.int (cmpValue (FP.dcmp da ve) .l))])
  have hc17_42 : ¬ ((0 : Int32) < (cmpValue (FP.dcmp da ve) .l)) := h2
  refine Go.step (fun _ k => XS.ifYes X41.here hx rfl (pc0 := 17) (pc' := 22) rfl (hb hby d12_17) rfl ((if0 _ _).trans (flt hc17_42).2.2.2) (by decide) (by decide) k) ?_
  show Go _ _ _ _ _ _ _ T41 (mkF m 22 #[.val (.ref ao), .val (.double da), .second] [])
  refine Go.step (fun _ k => XS.dloadN X41.here hx rfl (hb hby d12_22) rfl k) ?_
  show Go _ _ _ _ _ _ _ T41 (mkF m 23 #[.val (.ref ao), .val (.double da), .second] [(.double da)])
  refine Go.step (fun _ k => XS.aloadN X41.here hx rfl (hb hby d12_23) rfl rfl k) ?_
  show Go _ _ _ _ _ _ _ T41 (mkF m 24 #[.val (.ref ao), .val (.double da), .second] [(.ref ao), (.double da)])
  obtain ⟨T43, X43, e43, st43⟩ := getF X41 hx hZ hown (host := "") (Or.inl (hw _ (List.mem_of_getElem? (i := 66) rfl))) Via.refl e41 Gp (g := (mkF m 24 #[.val (.ref ao), .val (.double da), .second] [(.ref ao), (.double da)])) rfl rfl (hb hby d12_24)
  refine Go.step st43 ?_
  show Go _ _ _ _ _ _ _ T43 (mkF m 27 #[.val (.ref ao), .val (.double da), .second] [(.double pv), (.double da)])
  refine Go.step (fun _ k => XS.dsubS X43.here hx rfl (hb hby d12_27) rfl nn1 rfl k) ?_
  show Go _ _ _ _ _ _ _ T43 (mkF m 28 #[.val (.ref ao), .val (.double da), .second] [(.double (FP.dsub da pv))])
  refine Go.step (fun _ k => XS.aloadN X43.here hx rfl (hb hby d12_28) rfl rfl k) ?_
  show Go _ _ _ _ _ _ _ T43 (mkF m 29 #[.val (.ref ao), .val (.double da), .second] [(.ref ao), (.double (FP.dsub da pv))])
  obtain ⟨T44, X44, e44, st44⟩ := getF X43 hx hZ hown (host := "") (Or.inl (hw _ (List.mem_of_getElem? (i := 68) rfl))) Via.refl e43 Gv (g := (mkF m 29 #[.val (.ref ao), .val (.double da), .second] [(.ref ao), (.double (FP.dsub da pv))])) rfl rfl (hb hby d12_29)
  refine Go.step st44 ?_
  show Go _ _ _ _ _ _ _ T44 (mkF m 32 #[.val (.ref ao), .val (.double da), .second] [(.double ve), (.double (FP.dsub da pv))])
  refine Go.step (fun _ k => XS.aloadN X44.here hx rfl (hb hby d12_32) rfl rfl k) ?_
  show Go _ _ _ _ _ _ _ T44 (mkF m 33 #[.val (.ref ao), .val (.double da), .second] [(.ref ao), (.double ve), (.double (FP.dsub da pv))])
  obtain ⟨T45, X45, e45, st45⟩ := getF X44 hx hZ hown (host := "") (Or.inl (hw _ (List.mem_of_getElem? (i := 66) rfl))) Via.refl e44 Gp (g := (mkF m 33 #[.val (.ref ao), .val (.double da), .second] [(.ref ao), (.double ve), (.double (FP.dsub da pv))])) rfl rfl (hb hby d12_33)
  refine Go.step st45 ?_
  show Go _ _ _ _ _ _ _ T45 (mkF m 36 #[.val (.ref ao), .val (.double da), .second] [(.double pv), (.double ve), (.double (FP.dsub da pv))])
  refine Go.step (fun _ k => XS.dsubS X45.here hx rfl (hb hby d12_36) rfl nn2 rfl k) ?_
  show Go _ _ _ _ _ _ _ T45 (mkF m 37 #[.val (.ref ao), .val (.double da), .second] [(.double (FP.dsub ve pv)), (.double (FP.dsub da pv))])
  refine Go.step (fun _ k => XS.ddivS X45.here hx rfl (hb hby d12_37) rfl nn3 rfl k) ?_
  show Go _ _ _ _ _ _ _ T45 (mkF m 38 #[.val (.ref ao), .val (.double da), .second] [(.double (FP.ddiv (FP.dsub da pv) (FP.dsub ve pv)))])
  exact Go.ret X45 hx hret hlk rfl (Or.inr (Or.inr (Or.inl ⟨rfl, rfl, _, rfl⟩))) (hb hby d12_38) e45 (by decide) (by decide) ⟨rfl, N0, rfl⟩
theorem pd___C_V : parseMethodDescriptor "([C)V" = some ⟨[(.array .char)], none⟩ := by decide +kernel
theorem pd__Ljava_lang_String_Lcom_example_wayfront_wayfront_decision_Criterion_Direction_DDD_V : parseMethodDescriptor "(Ljava/lang/String;Lcom/example/wayfront/wayfront/decision/Criterion$Direction;DDD)V" = some ⟨[(.object "java/lang/String"), (.object "com/example/wayfront/wayfront/decision/Criterion$Direction"), .double, .double, .double], none⟩ := by decide +kernel
theorem pn_com_example_wayfront_wayfront_decision_CriterionDiscordancePinLaw : plainName "com/example/wayfront/wayfront/decision/CriterionDiscordancePinLaw" = true := by first | (simp [plainName, overriddenIn]; done) | decide +kernel
theorem ef_rm0 (m : MethodId) (iq : Int32) (ipd : Int32) (is_ : Int32) (ij : Int32) (idr : Int32) (inm : Int32) : entryFrame m #[(.int iq), (.int ipd), (.int is_), (.int ij), (.int idr), (.int inm)] maxLocals = mkF m 0 #[.val (.int iq), .val (.int ipd), .val (.int is_), .val (.int ij), .val (.int idr), .val (.int inm), .unset, .unset, .unset, .unset, .unset, .unset, .unset, .unset, .unset, .unset, .unset, .unset, .unset, .unset, .unset] [] := by first | (simp [entryFrame, mkF, argsToLocals, Value.category, maxLocals]; done) | rfl
theorem own_ar1 (iq : Int32) : 0 ≤ (iq &&& (65535 : Int32)).toInt64.toInt ∧ (iq &&& (65535 : Int32)).toInt64.toInt ≤ 65535 := by have := rng32 iq; have : (65535 : Int32).toInt = 65535 := rfl; have := rng32 (iq &&& (65535 : Int32)); have := c_mask iq (65535 : Int32) 16 (by decide) (by decide); have := rng64 (iq &&& (65535 : Int32)).toInt64; have := c_i2l (iq &&& (65535 : Int32)); omega
theorem own_ar2 (ipd : Int32) : 0 ≤ (ipd &&& (255 : Int32)).toInt64.toInt ∧ (ipd &&& (255 : Int32)).toInt64.toInt ≤ 255 := by have := rng32 ipd; have : (255 : Int32).toInt = 255 := rfl; have := rng32 (ipd &&& (255 : Int32)); have := c_mask ipd (255 : Int32) 8 (by decide) (by decide); have := rng64 (ipd &&& (255 : Int32)).toInt64; have := c_i2l (ipd &&& (255 : Int32)); omega
theorem own_ar3 (jq : Int64) (ipd : Int32) (hh0 : 0 ≤ jq.toInt ∧ jq.toInt ≤ 65535) (hh1 : 0 ≤ (ipd &&& (255 : Int32)).toInt64.toInt ∧ (ipd &&& (255 : Int32)).toInt64.toInt ≤ 255) : (0 ≤ (jq + (ipd &&& (255 : Int32)).toInt64).toInt ∧ (jq + (ipd &&& (255 : Int32)).toInt64).toInt ≤ 65790) ∧ jq.toInt ≤ (jq + (ipd &&& (255 : Int32)).toInt64).toInt := by have := rng64 jq; have := rng32 ipd; have : (255 : Int32).toInt = 255 := rfl; have := rng32 (ipd &&& (255 : Int32)); have := c_mask ipd (255 : Int32) 8 (by decide) (by decide); have := rng64 (ipd &&& (255 : Int32)).toInt64; have := c_i2l (ipd &&& (255 : Int32)); have := rng64 (jq + (ipd &&& (255 : Int32)).toInt64); have := c_ladd jq (ipd &&& (255 : Int32)).toInt64; omega
theorem own_ar4 (jp : Int64) (dd : Int32) (hh0 : 0 ≤ jp.toInt ∧ jp.toInt ≤ 65790) (hh1 : 0 ≤ dd.toInt ∧ dd.toInt ≤ 128) : (jp + dd.toInt64).toInt = jp.toInt + dd.toInt := by have := rng64 jp; have := rng32 dd; have := rng64 dd.toInt64; have := c_i2l dd; have := rng64 (jp + dd.toInt64); have := c_ladd jp dd.toInt64; omega
theorem own_ar5 (ij : Int32) (dd : Int32) (hh0 : ij.toInt ≤ 0) : ¬ ((0 : Int32) < ij) := by have := rng32 ij; have : (0 : Int32).toInt = 0 := rfl; have := rng32 dd; simp only [Int32.lt_iff_toInt_lt, Int32.le_iff_toInt_le, ← Int32.toInt_inj, Int64.lt_iff_toInt_lt, Int64.le_iff_toInt_le, ← Int64.toInt_inj] at hh0 ⊢; omega
theorem own_ar6 (ij : Int32) (dd : Int32) (hh0 : 0 < ij.toInt ∧ 4 * dd.toInt < ij.toInt) : (0 : Int32) < ij := by have := rng32 ij; have : (0 : Int32).toInt = 0 := rfl; have := rng32 dd; simp only [Int32.lt_iff_toInt_lt, Int32.le_iff_toInt_le, ← Int32.toInt_inj, Int64.lt_iff_toInt_lt, Int64.le_iff_toInt_le, ← Int64.toInt_inj] at hh0 ⊢; omega
theorem own_ar7 (ij : Int32) (dd : Int32) (hh0 : 0 < ij.toInt ∧ 4 * dd.toInt < ij.toInt) (hh1 : 0 ≤ dd.toInt ∧ dd.toInt ≤ 128) : ((4 : Int32) * dd) < ij := by have := rng32 ij; have : (4 : Int32).toInt = 4 := rfl; have := rng32 dd; have := rng32 ((4 : Int32) * dd); have qm4 := c_imul (4 : Int32) dd; rw [show (4 : Int32).toInt = 4 from rfl] at qm4; simp only [Int32.lt_iff_toInt_lt, Int32.le_iff_toInt_le, ← Int32.toInt_inj, Int64.lt_iff_toInt_lt, Int64.le_iff_toInt_le, ← Int64.toInt_inj] at hh0 hh1 ⊢; omega
theorem own_ar8 (dd : Int32) (hh0 : 0 ≤ dd.toInt ∧ dd.toInt ≤ 128) : ((4 : Int32) * dd).toInt = 4 * dd.toInt := by have : (4 : Int32).toInt = 4 := rfl; have := rng32 dd; have := rng32 ((4 : Int32) * dd); have qm3 := c_imul (4 : Int32) dd; rw [show (4 : Int32).toInt = 4 from rfl] at qm3; omega
theorem own_ar9 (ij : Int32) (dd : Int32) (hh0 : 0 < ij.toInt ∧ ij.toInt ≤ 4 * dd.toInt) : (0 : Int32) < ij := by have := rng32 ij; have : (0 : Int32).toInt = 0 := rfl; have := rng32 dd; simp only [Int32.lt_iff_toInt_lt, Int32.le_iff_toInt_le, ← Int32.toInt_inj, Int64.lt_iff_toInt_lt, Int64.le_iff_toInt_le, ← Int64.toInt_inj] at hh0 ⊢; omega
theorem own_ar10 (ij : Int32) (dd : Int32) (hh0 : 0 < ij.toInt ∧ ij.toInt ≤ 4 * dd.toInt) (hh1 : 0 ≤ dd.toInt ∧ dd.toInt ≤ 128) : ¬ (((4 : Int32) * dd) < ij) := by have := rng32 ij; have : (4 : Int32).toInt = 4 := rfl; have := rng32 dd; have := rng32 ((4 : Int32) * dd); have qm4 := c_imul (4 : Int32) dd; rw [show (4 : Int32).toInt = 4 from rfl] at qm4; simp only [Int32.lt_iff_toInt_lt, Int32.le_iff_toInt_le, ← Int32.toInt_inj, Int64.lt_iff_toInt_lt, Int64.le_iff_toInt_le, ← Int64.toInt_inj] at hh0 hh1 ⊢; omega
def Q_rm0 (Z : State) (iq : Int32) (ipd : Int32) (is_ : Int32) (ij : Int32) (idr : Int32) (inm : Int32) (G1 : Int32) (x1 : Addr) (x2 : Addr) (h0 : Heap) (n0 : Nat) (v : Option Value) (h : Heap) (L : List Loc) : Prop := (v = some (.int (1 : Int32))) ∧ (Fr n0 L) ∧ (True)
set_option maxRecDepth 65536 in
set_option maxHeartbeats 40000000 in
theorem rm0 (l : Launch) (Z : State) (a0 : Array Value) (hw : ∀ d ∈ tables_1, d.before a0 Z = true) (ws : List Jvm.Cond) (iq : Int32) (ipd : Int32) (is_ : Int32) (ij : Int32) (idr : Int32) (inm : Int32) (G1 : Int32) (x1 : Addr) (x2 : Addr) (h0 : Heap) (n0 : Nat) (Z0 : n0 ≤ h0.size) (O0 : Old Z n0 h0) (O2 : Sta Z Z.heap "java/lang/String" "COMPACT_STRINGS" "Z" (.int G1)) (P5 : ¬ (G1 = (0 : Int32))) (SX : Sta Z Z.heap "com/example/wayfront/wayfront/decision/Criterion$Direction" "MAX" "Lcom/example/wayfront/wayfront/decision/Criterion$Direction;" (.ref x1)) (SN : Sta Z Z.heap "com/example/wayfront/wayfront/decision/Criterion$Direction" "MIN" "Lcom/example/wayfront/wayfront/decision/Criterion$Direction;" (.ref x2)) :
    MetFree l x (head1 (Jvm.Cond.code x code maxLocals ret :: ws) room_1) (fun aA U => aA = #[(.int iq), (.int ipd), (.int is_), (.int ij), (.int idr), (.int inm)] ∧ Z.Warmed39 U.vm ∧ U.heap = h0) (fun _ _ _ _ _ => True) (fun _ U o U' => ∃ v L, o = .returned v ∧ Q_rm0 Z iq ipd is_ ij idr inm G1 x1 x2 h0 n0 v U'.heap L ∧ FrameEnd U o U' L room_1.cells room_1.slots) := by
  refine MetFree.of_bodySF (plainFor_of_name pn_com_example_wayfront_wayfront_decision_CriterionDiscordancePinLaw) hisR ?_
  intro p e s m args below meth c s₁ Bd hml0 hP hK
  obtain ⟨rfl, hZ, hh⟩ := hP
  have hx := Bd.exec
  have hby := Bd.bytes
  have hml : c.maxLocals = 21 := hml0
  have hown : s.vm.findClass "com/example/wayfront/wayfront/decision/CriterionDiscordancePinLaw" = some m.cls := findClass_of_methodNamed Bd.named
  have hnm := (name_of_methodNamed Bd.named Bd.method).1
  have hret := Bd.returns
  have hlk : meth.locks = false := BodyLoose.notSynchronized Bd
  have X0 : Stand p l e room_1 s m #[(.int iq), (.int ipd), (.int is_), (.int ij), (.int idr), (.int inm)] below meth c s₁ [] 0 0 := Stand.of_body Bd
  have e0 : s₁.heap = h0 := by rw [← hh, Bd.state]; rfl
  have N0 := Fr.nil n0
  suffices hgo : Go p e below s room_1.cells room_1.slots (Q_rm0 Z iq ipd is_ ij idr inm G1 x1 x2 h0 n0) s₁ (mkF m 0 #[.val (.int iq), .val (.int ipd), .val (.int is_), .val (.int ij), .val (.int idr), .val (.int inm), .unset, .unset, .unset, .unset, .unset, .unset, .unset, .unset, .unset, .unset, .unset, .unset, .unset, .unset, .unset] []) from hgo.enter (ef_rm0 m iq ipd is_ ij idr inm)
  refine Go.step (fun _ k => XS.iloadN X0.here hx rfl (hb hby at_0) rfl k) ?_
  refine Go.step (X0.ldcInt hx hown (mvT hZ (hw _ (List.mem_of_getElem? (i := 0) rfl))) (g := (mkF m 1 #[.val (.int iq), .val (.int ipd), .val (.int is_), .val (.int ij), .val (.int idr), .val (.int inm), .unset, .unset, .unset, .unset, .unset, .unset, .unset, .unset, .unset, .unset, .unset, .unset, .unset, .unset, .unset] [(.int iq)])) rfl (hb hby at_1)) ?_
  refine Go.step (fun _ k => XS.iand X0.here hx rfl (hb hby at_3) rfl k) ?_
  refine Go.step (fun _ k => XS.i2dS X0.here hx rfl (hb hby at_4) rfl rfl k) ?_
  show Go _ _ _ _ _ _ _ s₁ (mkF m 5 #[.val (.int iq), .val (.int ipd), .val (.int is_), .val (.int ij), .val (.int idr), .val (.int inm), .unset, .unset, .unset, .unset, .unset, .unset, .unset, .unset, .unset, .unset, .unset, .unset, .unset, .unset, .unset] [(.double (FP.i2d (iq &&& (65535 : Int32))))])
  obtain ⟨jq, hjq, bq⟩ : ∃ z : Int64, (FP.i2d (iq &&& (65535 : Int32))) = FP.l2d z ∧ (0 ≤ z.toInt ∧ z.toInt ≤ 65535) := ⟨(iq &&& (65535 : Int32)).toInt64, i2d_w _, (own_ar1 iq)⟩
  rw [hjq]
  show Go _ _ _ _ _ _ _ s₁ (mkF m 5 #[.val (.int iq), .val (.int ipd), .val (.int is_), .val (.int ij), .val (.int idr), .val (.int inm), .unset, .unset, .unset, .unset, .unset, .unset, .unset, .unset, .unset, .unset, .unset, .unset, .unset, .unset, .unset] [(.double (FP.l2d jq))])
  refine Go.step (fun _ k => XS.dstore X0.here hx rfl (hb hby at_5) rfl (l' := #[.val (.int iq), .val (.int ipd), .val (.int is_), .val (.int ij), .val (.int idr), .val (.int inm), .val (.double (FP.l2d jq)), .second, .unset, .unset, .unset, .unset, .unset, .unset, .unset, .unset, .unset, .unset, .unset, .unset, .unset]) rfl k) ?_
  show Go _ _ _ _ _ _ _ s₁ (mkF m 7 #[.val (.int iq), .val (.int ipd), .val (.int is_), .val (.int ij), .val (.int idr), .val (.int inm), .val (.double (FP.l2d jq)), .second, .unset, .unset, .unset, .unset, .unset, .unset, .unset, .unset, .unset, .unset, .unset, .unset, .unset] [])
  refine Go.step (fun _ k => XS.dload X0.here hx rfl (hb hby at_7) rfl k) ?_
  refine Go.step (fun _ k => XS.iloadN X0.here hx rfl (hb hby at_9) rfl k) ?_
  refine Go.step (fun _ k => XS.sipush X0.here hx rfl (hb hby at_10) k) ?_
  refine Go.step (fun _ k => XS.iand X0.here hx rfl (hb hby at_13) rfl k) ?_
  refine Go.step (fun _ k => XS.i2dS X0.here hx rfl (hb hby at_14) rfl rfl k) ?_
  show Go _ _ _ _ _ _ _ s₁ (mkF m 15 #[.val (.int iq), .val (.int ipd), .val (.int is_), .val (.int ij), .val (.int idr), .val (.int inm), .val (.double (FP.l2d jq)), .second, .unset, .unset, .unset, .unset, .unset, .unset, .unset, .unset, .unset, .unset, .unset, .unset, .unset] [(.double (FP.i2d (ipd &&& (255 : Int32)))), (.double (FP.l2d jq))])
  have by_ : 0 ≤ (ipd &&& (255 : Int32)).toInt64.toInt ∧ (ipd &&& (255 : Int32)).toInt64.toInt ≤ 255 := (own_ar2 ipd)
  refine Go.step (fun _ k => XS.daddS X0.here hx rfl (hb hby at_15) rfl (by rw [i2d_w]; exact nn_w (dadd_w ⟨by omega, by omega⟩ ⟨by omega, by omega⟩)) rfl k) ?_
  show Go _ _ _ _ _ _ _ s₁ (mkF m 16 #[.val (.int iq), .val (.int ipd), .val (.int is_), .val (.int ij), .val (.int idr), .val (.int inm), .val (.double (FP.l2d jq)), .second, .unset, .unset, .unset, .unset, .unset, .unset, .unset, .unset, .unset, .unset, .unset, .unset, .unset] [(.double (FP.dadd (FP.l2d jq) (FP.i2d (ipd &&& (255 : Int32)))))])
  obtain ⟨jp, hjp, bp⟩ : ∃ z : Int64, (FP.dadd (FP.l2d jq) (FP.i2d (ipd &&& (255 : Int32)))) = FP.l2d z ∧ ((0 ≤ z.toInt ∧ z.toInt ≤ 65790) ∧ jq.toInt ≤ z.toInt) := ⟨(jq + (ipd &&& (255 : Int32)).toInt64), (by rw [i2d_w]; exact dadd_w ⟨by omega, by omega⟩ ⟨by omega, by omega⟩), (own_ar3 jq ipd bq by_)⟩
  rw [hjp]
  show Go _ _ _ _ _ _ _ s₁ (mkF m 16 #[.val (.int iq), .val (.int ipd), .val (.int is_), .val (.int ij), .val (.int idr), .val (.int inm), .val (.double (FP.l2d jq)), .second, .unset, .unset, .unset, .unset, .unset, .unset, .unset, .unset, .unset, .unset, .unset, .unset, .unset] [(.double (FP.l2d jp))])
  obtain ⟨bp, bqp⟩ := bp
  refine Go.step (fun _ k => XS.dstore X0.here hx rfl (hb hby at_16) rfl (l' := #[.val (.int iq), .val (.int ipd), .val (.int is_), .val (.int ij), .val (.int idr), .val (.int inm), .val (.double (FP.l2d jq)), .second, .val (.double (FP.l2d jp)), .second, .unset, .unset, .unset, .unset, .unset, .unset, .unset, .unset, .unset, .unset, .unset]) rfl k) ?_
  show Go _ _ _ _ _ _ _ s₁ (mkF m 18 #[.val (.int iq), .val (.int ipd), .val (.int is_), .val (.int ij), .val (.int idr), .val (.int inm), .val (.double (FP.l2d jq)), .second, .val (.double (FP.l2d jp)), .second, .unset, .unset, .unset, .unset, .unset, .unset, .unset, .unset, .unset, .unset, .unset] [])
  have J : ∀ (TJ : State) (hJ : Heap) (LJ : List Loc) (dd : Int32) (ee : Nat), (Stand p l e room_1 s m #[(.int iq), (.int ipd), (.int is_), (.int ij), (.int idr), (.int inm)] below meth c TJ LJ 0 0) → (TJ.heap = hJ) → (Fr n0 LJ) → (n0 ≤ hJ.size) → (Old Z n0 hJ) → (dd.toInt = 0 ∨ (dd.toInt = ((2 ^ ee : Nat) : Int) ∧ ee ≤ 7)) → Go p e below s room_1.cells room_1.slots (Q_rm0 Z iq ipd is_ ij idr inm G1 x1 x2 h0 n0) TJ (mkF m 35 #[.val (.int iq), .val (.int ipd), .val (.int is_), .val (.int ij), .val (.int idr), .val (.int inm), .val (.double (FP.l2d jq)), .second, .val (.double (FP.l2d jp)), .second, .unset, .unset, .unset, .unset, .unset, .unset, .unset, .unset, .unset, .unset, .unset] [(.int dd)]) := by
    intro TJ hJ LJ dd ee XJ eJ NJ ZJ Oj hd
    have bd := own_dr hd
    refine Go.step (fun _ k => XS.istore XJ.here hx rfl (hb hby at_35) rfl (l' := #[.val (.int iq), .val (.int ipd), .val (.int is_), .val (.int ij), .val (.int idr), .val (.int inm), .val (.double (FP.l2d jq)), .second, .val (.double (FP.l2d jp)), .second, .val (.int dd), .unset, .unset, .unset, .unset, .unset, .unset, .unset, .unset, .unset, .unset]) rfl k) ?_
    show Go _ _ _ _ _ _ _ TJ (mkF m 37 #[.val (.int iq), .val (.int ipd), .val (.int is_), .val (.int ij), .val (.int idr), .val (.int inm), .val (.double (FP.l2d jq)), .second, .val (.double (FP.l2d jp)), .second, .val (.int dd), .unset, .unset, .unset, .unset, .unset, .unset, .unset, .unset, .unset, .unset] [])
    refine Go.step (fun _ k => XS.dload XJ.here hx rfl (hb hby at_37) rfl k) ?_
    refine Go.step (fun _ k => XS.iload XJ.here hx rfl (hb hby at_39) rfl k) ?_
    refine Go.step (fun _ k => XS.i2dS XJ.here hx rfl (hb hby at_41) rfl rfl k) ?_
    show Go _ _ _ _ _ _ _ TJ (mkF m 42 #[.val (.int iq), .val (.int ipd), .val (.int is_), .val (.int ij), .val (.int idr), .val (.int inm), .val (.double (FP.l2d jq)), .second, .val (.double (FP.l2d jp)), .second, .val (.int dd), .unset, .unset, .unset, .unset, .unset, .unset, .unset, .unset, .unset, .unset] [(.double (FP.i2d dd)), (.double (FP.l2d jp))])
    refine Go.step (fun _ k => XS.daddS XJ.here hx rfl (hb hby at_42) rfl (by rw [i2d_w]; exact nn_w (dadd_w ⟨by omega, by omega⟩ ⟨by have := c_i2l dd; omega, by have := c_i2l dd; omega⟩)) rfl k) ?_
    show Go _ _ _ _ _ _ _ TJ (mkF m 43 #[.val (.int iq), .val (.int ipd), .val (.int is_), .val (.int ij), .val (.int idr), .val (.int inm), .val (.double (FP.l2d jq)), .second, .val (.double (FP.l2d jp)), .second, .val (.int dd), .unset, .unset, .unset, .unset, .unset, .unset, .unset, .unset, .unset, .unset] [(.double (FP.dadd (FP.l2d jp) (FP.i2d dd)))])
    obtain ⟨jv, hjv, bv⟩ : ∃ z : Int64, (FP.dadd (FP.l2d jp) (FP.i2d dd)) = FP.l2d z ∧ (z.toInt = jp.toInt + dd.toInt) := ⟨(jp + dd.toInt64), (by rw [i2d_w]; exact dadd_w ⟨by omega, by omega⟩ ⟨by have := c_i2l dd; omega, by have := c_i2l dd; omega⟩), (own_ar4 jp dd bp bd)⟩
    rw [hjv]
    show Go _ _ _ _ _ _ _ TJ (mkF m 43 #[.val (.int iq), .val (.int ipd), .val (.int is_), .val (.int ij), .val (.int idr), .val (.int inm), .val (.double (FP.l2d jq)), .second, .val (.double (FP.l2d jp)), .second, .val (.int dd), .unset, .unset, .unset, .unset, .unset, .unset, .unset, .unset, .unset, .unset] [(.double (FP.l2d jv))])
    refine Go.step (fun _ k => XS.dstore XJ.here hx rfl (hb hby at_43) rfl (l' := #[.val (.int iq), .val (.int ipd), .val (.int is_), .val (.int ij), .val (.int idr), .val (.int inm), .val (.double (FP.l2d jq)), .second, .val (.double (FP.l2d jp)), .second, .val (.int dd), .val (.double (FP.l2d jv)), .second, .unset, .unset, .unset, .unset, .unset, .unset, .unset, .unset]) rfl k) ?_
    show Go _ _ _ _ _ _ _ TJ (mkF m 45 #[.val (.int iq), .val (.int ipd), .val (.int is_), .val (.int ij), .val (.int idr), .val (.int inm), .val (.double (FP.l2d jq)), .second, .val (.double (FP.l2d jp)), .second, .val (.int dd), .val (.double (FP.l2d jv)), .second, .unset, .unset, .unset, .unset, .unset, .unset, .unset, .unset] [])
    have K : ∀ (TK : State) (hK : Heap) (LK : List Loc) (ad : Addr), (Stand p l e room_1 s m #[(.int iq), (.int ipd), (.int is_), (.int ij), (.int idr), (.int inm)] below meth c TK LK 0 0) → (TK.heap = hK) → (Fr n0 LK) → (n0 ≤ hK.size) → (Old Z n0 hK) → Go p e below s room_1.cells room_1.slots (Q_rm0 Z iq ipd is_ ij idr inm G1 x1 x2 h0 n0) TK (mkF m 61 #[.val (.int iq), .val (.int ipd), .val (.int is_), .val (.int ij), .val (.int idr), .val (.int inm), .val (.double (FP.l2d jq)), .second, .val (.double (FP.l2d jp)), .second, .val (.int dd), .val (.double (FP.l2d jv)), .second, .unset, .unset, .unset, .unset, .unset, .unset, .unset, .unset] [(.ref ad)]) := by
      intro TK hK LK ad XK eK NK ZK Ok 
      refine Go.step (fun _ k => XS.astore XK.here hx rfl (hb hby at_61) rfl rfl (l' := #[.val (.int iq), .val (.int ipd), .val (.int is_), .val (.int ij), .val (.int idr), .val (.int inm), .val (.double (FP.l2d jq)), .second, .val (.double (FP.l2d jp)), .second, .val (.int dd), .val (.double (FP.l2d jv)), .second, .val (.ref ad), .unset, .unset, .unset, .unset, .unset, .unset, .unset]) rfl k) ?_
      show Go _ _ _ _ _ _ _ TK (mkF m 63 #[.val (.int iq), .val (.int ipd), .val (.int is_), .val (.int ij), .val (.int idr), .val (.int inm), .val (.double (FP.l2d jq)), .second, .val (.double (FP.l2d jp)), .second, .val (.int dd), .val (.double (FP.l2d jv)), .second, .val (.ref ad), .unset, .unset, .unset, .unset, .unset, .unset, .unset] [])
      refine Go.step (fun _ k => XS.iconst XK.here hx rfl (hb hby at_63) k) ?_
      obtain ⟨T46, h46, k46, X46, e46, E46, A46, st46⟩ := newP XK hx hZ (hw _ (List.mem_of_getElem? (i := 4) rfl)) eK (g := (mkF m 64 #[.val (.int iq), .val (.int ipd), .val (.int is_), .val (.int ij), .val (.int idr), .val (.int inm), .val (.double (FP.l2d jq)), .second, .val (.double (FP.l2d jp)), .second, .val (.int dd), .val (.double (FP.l2d jv)), .second, .val (.ref ad), .unset, .unset, .unset, .unset, .unset, .unset, .unset] [(.int (1 : Int32))])) rfl (hb hby at_64) rfl (by decide) (cap := 1) (by decide) (by decide) (by decide) (by decide)
      obtain ⟨b46, g46⟩ : ∃ z, z = hK.size := ⟨_, rfl⟩
      rw [← g46] at A46 st46
      refine Go.step st46 ?_
      have g_b46 : n0 ≤ b46 := Nat.le_trans ZK (Nat.le_of_eq g46.symm)
      have Z46 : n0 ≤ h46.size := Nat.le_trans ZK E46.1
      have V46 : Arv Z h46 b46 k46 .char (1 : Int32) [] (.int (0 : Int32)) := Arv.new A46 (by decide)
      have V47 : Arv Z h46 b46 k46 .char (1 : Int32) [(.int (0 : Int32))] (.int (0 : Int32)) := (V46).pad (pad_rep [] (.int (0 : Int32)) 1)
      show Go _ _ _ _ _ _ _ T46 (mkF m 66 #[.val (.int iq), .val (.int ipd), .val (.int is_), .val (.int ij), .val (.int idr), .val (.int inm), .val (.double (FP.l2d jq)), .second, .val (.double (FP.l2d jp)), .second, .val (.int dd), .val (.double (FP.l2d jv)), .second, .val (.ref ad), .unset, .unset, .unset, .unset, .unset, .unset, .unset] [(.ref b46)])
      refine Go.step (fun _ k => XS.dup X46.here hx rfl (hb hby at_66) rfl rfl k) ?_
      refine Go.step (fun _ k => XS.iconst X46.here hx rfl (hb hby at_67) k) ?_
      refine Go.step (fun _ k => XS.iload X46.here hx rfl (hb hby at_68) rfl k) ?_
      refine Go.step (fun _ k => XS.sipush X46.here hx rfl (hb hby at_70) k) ?_
      refine Go.step (fun _ k => XS.iand X46.here hx rfl (hb hby at_73) rfl k) ?_
      refine Go.step (fun _ k => XS.i2c X46.here hx rfl (hb hby at_74) rfl k) ?_
      obtain ⟨cl48, Ar48, q48, S48, M48, H48, G48⟩ := id (V47)
      have hin48 : ¬ ((0 : Int32) < 0 ∨ cl48.slots.size ≤ ((0 : Int32)).toNatClampNeg) := inb_of S48 ⟨by decide, by decide⟩
      obtain ⟨T48, h48, X48, e48, W48, st48⟩ := stC X46 hx hZ e46 Ar48 (j := (0 : Int32)) hin48 (g := (mkF m 75 #[.val (.int iq), .val (.int ipd), .val (.int is_), .val (.int ij), .val (.int idr), .val (.int inm), .val (.double (FP.l2d jq)), .second, .val (.double (FP.l2d jp)), .second, .val (.int dd), .val (.double (FP.l2d jv)), .second, .val (.ref ad), .unset, .unset, .unset, .unset, .unset, .unset, .unset] [(.int ((inm &&& (255 : Int32)).toUInt32.toUInt16.toUInt32.toInt32)), (.int (0 : Int32)), (.ref b46), (.ref b46)])) rfl rfl (hb hby at_75)
      refine Go.step st48 ?_
      have V48 : Arv Z h48 b46 k46 .char (1 : Int32) [(.int (nar .char ((inm &&& (255 : Int32)).toUInt32.toUInt16.toUInt32.toInt32)))] (.int (0 : Int32)) := Arv.set Ar48 q48 S48 M48 H48 G48 (fits_nar_char _) W48 0 rfl (Nat.le_of_ble_eq_true rfl)
      have N48 := Fr.snoc X48 NK g_b46
      have Z48 : n0 ≤ h48.size := Nat.le_trans Z46 (Keep.of_wr W48).1
      show Go _ _ _ _ _ _ _ T48 (mkF m 76 #[.val (.int iq), .val (.int ipd), .val (.int is_), .val (.int ij), .val (.int idr), .val (.int inm), .val (.double (FP.l2d jq)), .second, .val (.double (FP.l2d jp)), .second, .val (.int dd), .val (.double (FP.l2d jv)), .second, .val (.ref ad), .unset, .unset, .unset, .unset, .unset, .unset, .unset] [(.ref b46)])
      refine Go.step (fun _ k => XS.astore X48.here hx rfl (hb hby at_76) rfl rfl (l' := #[.val (.int iq), .val (.int ipd), .val (.int is_), .val (.int ij), .val (.int idr), .val (.int inm), .val (.double (FP.l2d jq)), .second, .val (.double (FP.l2d jp)), .second, .val (.int dd), .val (.double (FP.l2d jv)), .second, .val (.ref ad), .val (.ref b46), .unset, .unset, .unset, .unset, .unset, .unset]) rfl k) ?_
      show Go _ _ _ _ _ _ _ T48 (mkF m 78 #[.val (.int iq), .val (.int ipd), .val (.int is_), .val (.int ij), .val (.int idr), .val (.int inm), .val (.double (FP.l2d jq)), .second, .val (.double (FP.l2d jp)), .second, .val (.int dd), .val (.double (FP.l2d jv)), .second, .val (.ref ad), .val (.ref b46), .unset, .unset, .unset, .unset, .unset, .unset] [])
      have V49 : Arv Z h48 b46 k46 .char (1 : Int32) (([(nar .char ((inm &&& (255 : Int32)).toUInt32.toUInt16.toUInt32.toInt32))] : List Int32).map Value.int) (.int (0 : Int32)) := V48
      have hl78 : ([(nar .char ((inm &&& (255 : Int32)).toUInt32.toUInt16.toUInt32.toInt32))] : List Int32).length = 1 := rfl
      have hp78 : ∀ c ∈ ([(nar .char ((inm &&& (255 : Int32)).toUInt32.toUInt16.toUInt32.toInt32))] : List Int32), ¬ c < 0 ∧ ¬ (255 : Int32) < c := own_ch inm
      obtain ⟨T50, h50, X50, e50, E50, A50, D50, -, st50⟩ := newO X48 hx hZ hown (hw _ (List.mem_of_getElem? (i := 5) rfl)) (hw _ (List.mem_of_getElem? (i := 6) rfl)) (hw _ (List.mem_of_getElem? (i := 7) rfl)) e48 (g := (mkF m 78 #[.val (.int iq), .val (.int ipd), .val (.int is_), .val (.int ij), .val (.int idr), .val (.int inm), .val (.double (FP.l2d jq)), .second, .val (.double (FP.l2d jp)), .second, .val (.int dd), .val (.double (FP.l2d jv)), .second, .val (.ref ad), .val (.ref b46), .unset, .unset, .unset, .unset, .unset, .unset] [])) rfl (hb hby at_78) (by decide) (by decide)
      obtain ⟨b50, g50⟩ : ∃ z, z = h48.size := ⟨_, rfl⟩
      rw [← g50] at A50 D50 st50
      refine Go.step st50 ?_
      have g_b50 : n0 ≤ b50 := Nat.le_trans Z48 (Nat.le_of_eq g50.symm)
      have ne_b46_b50 : b46 ≠ b50 := Nat.ne_of_lt (Nat.lt_of_lt_of_le V49.lt (Nat.le_of_eq g50.symm))
      have Z50 : n0 ≤ h50.size := Nat.le_trans Z48 E50.1
      have Fname_50 : Fld Z h50 b50 "com/example/wayfront/wayfront/decision/Criterion" "name" "Ljava/lang/String;" .null := D50 (Or.inr (hw _ (List.mem_of_getElem? (i := 61) rfl))) (ty := (.object "java/lang/String")) (by decide)
      have Fdirection_50 : Fld Z h50 b50 "com/example/wayfront/wayfront/decision/Criterion" "direction" "Lcom/example/wayfront/wayfront/decision/Criterion$Direction;" .null := D50 (Or.inr (hw _ (List.mem_of_getElem? (i := 63) rfl))) (ty := (.object "com/example/wayfront/wayfront/decision/Criterion$Direction")) (by decide)
      have Findifference_50 : Fld Z h50 b50 "com/example/wayfront/wayfront/decision/Criterion" "indifference" "D" (.double (0 : UInt64)) := D50 (Or.inr (hw _ (List.mem_of_getElem? (i := 65) rfl))) (ty := .double) (by decide)
      have Fpreference_50 : Fld Z h50 b50 "com/example/wayfront/wayfront/decision/Criterion" "preference" "D" (.double (0 : UInt64)) := D50 (Or.inr (hw _ (List.mem_of_getElem? (i := 67) rfl))) (ty := .double) (by decide)
      have Fveto_50 : Fld Z h50 b50 "com/example/wayfront/wayfront/decision/Criterion" "veto" "D" (.double (0 : UInt64)) := D50 (Or.inr (hw _ (List.mem_of_getElem? (i := 69) rfl))) (ty := .double) (by decide)
      show Go _ _ _ _ _ _ _ T50 (mkF m 81 #[.val (.int iq), .val (.int ipd), .val (.int is_), .val (.int ij), .val (.int idr), .val (.int inm), .val (.double (FP.l2d jq)), .second, .val (.double (FP.l2d jp)), .second, .val (.int dd), .val (.double (FP.l2d jv)), .second, .val (.ref ad), .val (.ref b46), .unset, .unset, .unset, .unset, .unset, .unset] [(.ref b50)])
      refine Go.step (fun _ k => XS.dup X50.here hx rfl (hb hby at_81) rfl rfl k) ?_
      have f52 : Arv Z h50 b46 k46 .char (1 : Int32) (([(nar .char ((inm &&& (255 : Int32)).toUInt32.toUInt16.toUInt32.toInt32))] : List Int32).map Value.int) (.int (0 : Int32)) := (V49.ext E50)
      obtain ⟨T51, h51, X51, e51, E51, A51, D51, -, st51⟩ := newO X50 hx hZ hown (hw _ (List.mem_of_getElem? (i := 8) rfl)) (hw _ (List.mem_of_getElem? (i := 9) rfl)) (hw _ (List.mem_of_getElem? (i := 10) rfl)) e50 (g := (mkF m 82 #[.val (.int iq), .val (.int ipd), .val (.int is_), .val (.int ij), .val (.int idr), .val (.int inm), .val (.double (FP.l2d jq)), .second, .val (.double (FP.l2d jp)), .second, .val (.int dd), .val (.double (FP.l2d jv)), .second, .val (.ref ad), .val (.ref b46), .unset, .unset, .unset, .unset, .unset, .unset] [(.ref b50), (.ref b50)])) rfl (hb hby at_82) (by decide) (by decide)
      obtain ⟨b51, g51⟩ : ∃ z, z = h50.size := ⟨_, rfl⟩
      rw [← g51] at A51 D51 st51
      refine Go.step st51 ?_
      have g_b51 : n0 ≤ b51 := Nat.le_trans Z50 (Nat.le_of_eq g51.symm)
      have ne_b46_b51 : b46 ≠ b51 := Nat.ne_of_lt (Nat.lt_of_lt_of_le f52.lt (Nat.le_of_eq g51.symm))
      have ne_b50_b51 : b50 ≠ b51 := Nat.ne_of_lt (Nat.lt_of_lt_of_le A50.lt (Nat.le_of_eq g51.symm))
      have Z51 : n0 ≤ h51.size := Nat.le_trans Z50 E51.1
      have Fcoder_51 : Fld Z h51 b51 "java/lang/String" "coder" "B" (.int (0 : Int32)) := D51 (Or.inr (hw _ (List.mem_of_getElem? (i := 34) rfl))) (ty := .byte) (by decide)
      have Fvalue_51 : Fld Z h51 b51 "java/lang/String" "value" "[B" .null := D51 (Or.inr (hw _ (List.mem_of_getElem? (i := 36) rfl))) (ty := (.array .byte)) (by decide)
      show Go _ _ _ _ _ _ _ T51 (mkF m 85 #[.val (.int iq), .val (.int ipd), .val (.int is_), .val (.int ij), .val (.int idr), .val (.int inm), .val (.double (FP.l2d jq)), .second, .val (.double (FP.l2d jp)), .second, .val (.int dd), .val (.double (FP.l2d jv)), .second, .val (.ref ad), .val (.ref b46), .unset, .unset, .unset, .unset, .unset, .unset] [(.ref b51), (.ref b50), (.ref b50)])
      refine Go.step (fun _ k => XS.dup X51.here hx rfl (hb hby at_85) rfl rfl k) ?_
      refine Go.step (fun _ k => XS.aload X51.here hx rfl (hb hby at_86) rfl rfl k) ?_
      have f53 : Arv Z h51 b46 k46 .char (1 : Int32) (([(nar .char ((inm &&& (255 : Int32)).toUInt32.toUInt16.toUInt32.toInt32))] : List Int32).map Value.int) (.int (0 : Int32)) := (f52.ext E51)
      have f54 : Old Z n0 h51 := ((((Ok.ext E46).wr W48 g_b46).ext E50).ext E51)
      have f55 : Exa Z h51 b50 "com/example/wayfront/wayfront/decision/Criterion" := (A50.ext E51)
      have hws : ∀ d ∈ StrChars.Road.words, d.before a0 Z = true := fun d hd => hw d ((by decide +kernel : ∀ d ∈ StrChars.Road.words, d ∈ tables_1) d hd)
      obtain ⟨_, _, ⟨T56, L56, k56, n56⟩, -, X56, ⟨Lc56, hQ56, l56, y56, z56⟩, st56⟩ := X51.specialBack hx (y := (⟨"java/lang/String", "<init>", "([C)V"⟩ : MethodName)) rfl hown (mvT hZ (hw _ (List.mem_of_getElem? (i := 11) rfl))) (mvT hZ (hw _ (List.mem_of_getElem? (i := 12) rfl))) (mvT hZ (hw _ (List.mem_of_getElem? (i := 13) rfl))) (by decide) (StrChars.Road.backV (W := 3) hZ hws (kI := 4) (hw _ (List.mem_of_getElem? (i := 9) rfl)) (cs := ([(nar .char ((inm &&& (255 : Int32)).toUInt32.toUInt16.toUInt32.toInt32))] : List Int32)) (bs := (([(nar .char ((inm &&& (255 : Int32)).toUInt32.toUInt16.toUInt32.toInt32))] : List Int32)).map (fun c => c.toInt8.toInt32)) (n := 1) g_b51 Z51 A51 Fvalue_51 Fcoder_51 f53 (O2.ext f54.2) P5 hl78 rfl (by decide) (by decide) hp78 rfl (by decide) (by decide)) (g := (mkF m 88 #[.val (.int iq), .val (.int ipd), .val (.int is_), .val (.int ij), .val (.int idr), .val (.int inm), .val (.double (FP.l2d jq)), .second, .val (.double (FP.l2d jp)), .second, .val (.int dd), .val (.double (FP.l2d jv)), .second, .val (.ref ad), .val (.ref b46), .unset, .unset, .unset, .unset, .unset, .unset] [(.ref b46), (.ref b51), (.ref b51), (.ref b50), (.ref b50)])) rfl (by rw [hml]; rfl) (Steps.refl _) (a := b51) (argsL := [(.ref b46)]) (rest := [(.ref b51), (.ref b50), (.ref b50)]) (lenOf pd___C_V rfl) rfl (by show 2 * 0 + _ ≤ _; exact Nat.le_of_eq rfl) (hb hby at_88) (fun _ _ => ⟨rfl, e51, (by decide : 3 + 1 ≤ _), (by decide : 10 + 1 ≤ _)⟩)
      dsimp only [Pt.U, Pt.locs, Pt.cells, Pt.slots] at X56 l56 y56 z56 st56 hQ56
      subst l56 y56 z56
      obtain ⟨h56, e56⟩ : ∃ h, T56.heap = h := ⟨_, rfl⟩
      rw [e56] at hQ56
      obtain ⟨rfl, Nq56, Kq56, Ex56, Fc56, t56, kt56, gt56, st_56, nt56, Fv56, Vt56⟩ := hQ56
      have N56 := Fr.app N48 Nq56
      have Z56 : n0 ≤ h56.size := Nat.le_trans Z51 Kq56.1
      have ne_b46_t56 : b46 ≠ t56 := Nat.ne_of_lt (Nat.lt_of_lt_of_le f53.lt st_56)
      have ne_b50_t56 : b50 ≠ t56 := Nat.ne_of_lt (Nat.lt_of_lt_of_le f55.lt st_56)
      refine Go.trans st56 ?_
      show Go _ _ _ _ _ _ _ T56 (mkF m 91 #[.val (.int iq), .val (.int ipd), .val (.int is_), .val (.int ij), .val (.int idr), .val (.int inm), .val (.double (FP.l2d jq)), .second, .val (.double (FP.l2d jp)), .second, .val (.int dd), .val (.double (FP.l2d jv)), .second, .val (.ref ad), .val (.ref b46), .unset, .unset, .unset, .unset, .unset, .unset] [(.ref b51), (.ref b50), (.ref b50)])
      refine Go.step (fun _ k => XS.aload X56.here hx rfl (hb hby at_91) rfl rfl k) ?_
      refine Go.step (fun _ k => XS.dload X56.here hx rfl (hb hby at_93) rfl k) ?_
      refine Go.step (fun _ k => XS.dload X56.here hx rfl (hb hby at_95) rfl k) ?_
      refine Go.step (fun _ k => XS.dload X56.here hx rfl (hb hby at_97) rfl k) ?_
      have f58 : Exa Z h56 b50 "com/example/wayfront/wayfront/decision/Criterion" := (f55.keep Kq56)
      have f59 : Fld Z h56 b50 "com/example/wayfront/wayfront/decision/Criterion" "name" "Ljava/lang/String;" .null := ((Fname_50.ext E51).keep Kq56 (ninS ne_b50_b51 nin0))
      have f60 : Fld Z h56 b50 "com/example/wayfront/wayfront/decision/Criterion" "direction" "Lcom/example/wayfront/wayfront/decision/Criterion$Direction;" .null := ((Fdirection_50.ext E51).keep Kq56 (ninS ne_b50_b51 nin0))
      have f61 : Fld Z h56 b50 "com/example/wayfront/wayfront/decision/Criterion" "indifference" "D" (.double (0 : UInt64)) := ((Findifference_50.ext E51).keep Kq56 (ninS ne_b50_b51 nin0))
      have f62 : Fld Z h56 b50 "com/example/wayfront/wayfront/decision/Criterion" "preference" "D" (.double (0 : UInt64)) := ((Fpreference_50.ext E51).keep Kq56 (ninS ne_b50_b51 nin0))
      have f63 : Fld Z h56 b50 "com/example/wayfront/wayfront/decision/Criterion" "veto" "D" (.double (0 : UInt64)) := ((Fveto_50.ext E51).keep Kq56 (ninS ne_b50_b51 nin0))
      obtain ⟨_, _, ⟨T57, L57, k57, n57⟩, -, X57, ⟨Lc57, hQ57, l57, y57, z57⟩, st57⟩ := X56.specialBack hx (y := (⟨"com/example/wayfront/wayfront/decision/Criterion", "<init>", "(Ljava/lang/String;Lcom/example/wayfront/wayfront/decision/Criterion$Direction;DDD)V"⟩ : MethodName)) rfl hown (mvT hZ (hw _ (List.mem_of_getElem? (i := 37) rfl))) (mvT hZ (hw _ (List.mem_of_getElem? (i := 38) rfl))) (mvT hZ (hw _ (List.mem_of_getElem? (i := 39) rfl))) (by decide) (backOf (W := 1) (rmIn l Z a0 hw [] b50 b51 ad (FP.l2d jq) (FP.l2d jp) (FP.l2d jv) t56 kt56 (((([(nar .char ((inm &&& (255 : Int32)).toUInt32.toUInt16.toUInt32.toInt32))] : List Int32)).map (fun c => c.toInt8.toInt32)).map Value.int) jq jp jv h56 n0 Z56 f58 g_b50 f59 f60 f61 f62 f63 Ex56 Fv56 Vt56 rfl ⟨bq.1, by omega⟩ rfl ⟨bp.1, by omega⟩ rfl ⟨by omega, by omega⟩ (by rw [← RoadKit.l2d_zero]; exact own_le (a := 0) ⟨by decide, by decide⟩ ⟨bq.1, by omega⟩ (show (0 : Int64).toInt ≤ jq.toInt from bq.1) .g) (own_le ⟨bq.1, by omega⟩ ⟨bp.1, by omega⟩ bqp .g) (own_le ⟨bp.1, by omega⟩ ⟨by omega, by omega⟩ (by omega) .g)) hZ (hw _ (List.mem_of_getElem? (i := 39) rfl)) (hw _ (List.mem_of_getElem? (i := 7) rfl)) (by decide) (by decide)) (g := (mkF m 99 #[.val (.int iq), .val (.int ipd), .val (.int is_), .val (.int ij), .val (.int idr), .val (.int inm), .val (.double (FP.l2d jq)), .second, .val (.double (FP.l2d jp)), .second, .val (.int dd), .val (.double (FP.l2d jv)), .second, .val (.ref ad), .val (.ref b46), .unset, .unset, .unset, .unset, .unset, .unset] [(.double (FP.l2d jv)), (.double (FP.l2d jp)), (.double (FP.l2d jq)), (.ref ad), (.ref b51), (.ref b50), (.ref b50)])) rfl (by rw [hml]; rfl) (Steps.refl _) (a := b50) (argsL := [(.ref b51), (.ref ad), (.double (FP.l2d jq)), (.double (FP.l2d jp)), (.double (FP.l2d jv))]) (rest := [(.ref b50)]) (lenOf pd__Ljava_lang_String_Lcom_example_wayfront_wayfront_decision_Criterion_Direction_DDD_V rfl) rfl (by show 2 * 0 + _ ≤ _; exact Nat.le_of_eq rfl) (hb hby at_99) (fun _ _ => ⟨rfl, e56, (by decide : 4 + 0 ≤ _), (by decide : 11 + 0 ≤ _)⟩)
      dsimp only [Pt.U, Pt.locs, Pt.cells, Pt.slots] at X57 l57 y57 z57 st57 hQ57
      subst l57 y57 z57
      obtain ⟨h57, e57⟩ : ∃ h, T57.heap = h := ⟨_, rfl⟩
      rw [e57] at hQ57
      obtain ⟨rfl, Nq57, Kq57, Gp_57, Gv_57⟩ := hQ57
      have N57 := Fr.app N56 Nq57
      have Z57 : n0 ≤ h57.size := Nat.le_trans Z56 Kq57.1
      refine Go.trans st57 ?_
      show Go _ _ _ _ _ _ _ T57 (mkF m 102 #[.val (.int iq), .val (.int ipd), .val (.int is_), .val (.int ij), .val (.int idr), .val (.int inm), .val (.double (FP.l2d jq)), .second, .val (.double (FP.l2d jp)), .second, .val (.int dd), .val (.double (FP.l2d jv)), .second, .val (.ref ad), .val (.ref b46), .unset, .unset, .unset, .unset, .unset, .unset] [(.ref b50)])
      refine Go.step (fun _ k => XS.astore X57.here hx rfl (hb hby at_102) rfl rfl (l' := #[.val (.int iq), .val (.int ipd), .val (.int is_), .val (.int ij), .val (.int idr), .val (.int inm), .val (.double (FP.l2d jq)), .second, .val (.double (FP.l2d jp)), .second, .val (.int dd), .val (.double (FP.l2d jv)), .second, .val (.ref ad), .val (.ref b46), .val (.ref b50), .unset, .unset, .unset, .unset, .unset]) rfl k) ?_
      show Go _ _ _ _ _ _ _ T57 (mkF m 104 #[.val (.int iq), .val (.int ipd), .val (.int is_), .val (.int ij), .val (.int idr), .val (.int inm), .val (.double (FP.l2d jq)), .second, .val (.double (FP.l2d jp)), .second, .val (.int dd), .val (.double (FP.l2d jv)), .second, .val (.ref ad), .val (.ref b46), .val (.ref b50), .unset, .unset, .unset, .unset, .unset] [])
      refine Go.step (fun _ k => XS.dload X57.here hx rfl (hb hby at_104) rfl k) ?_
      refine Go.step (fun _ k => XS.iloadN X57.here hx rfl (hb hby at_106) rfl k) ?_
      refine Go.step (fun _ k => XS.i2dS X57.here hx rfl (hb hby at_107) rfl rfl k) ?_
      show Go _ _ _ _ _ _ _ T57 (mkF m 108 #[.val (.int iq), .val (.int ipd), .val (.int is_), .val (.int ij), .val (.int idr), .val (.int inm), .val (.double (FP.l2d jq)), .second, .val (.double (FP.l2d jp)), .second, .val (.int dd), .val (.double (FP.l2d jv)), .second, .val (.ref ad), .val (.ref b46), .val (.ref b50), .unset, .unset, .unset, .unset, .unset] [(.double (FP.i2d ij)), (.double (FP.l2d jp))])
      refine Go.step (X57.ldc2DoubleC hx hown (mvT hZ (hw _ (List.mem_of_getElem? (i := 70) rfl))) (g := (mkF m 108 #[.val (.int iq), .val (.int ipd), .val (.int is_), .val (.int ij), .val (.int idr), .val (.int inm), .val (.double (FP.l2d jq)), .second, .val (.double (FP.l2d jp)), .second, .val (.int dd), .val (.double (FP.l2d jv)), .second, .val (.ref ad), .val (.ref b46), .val (.ref b50), .unset, .unset, .unset, .unset, .unset] [(.double (FP.i2d ij)), (.double (FP.l2d jp))])) rfl (hb hby at_108)) ?_
      show Go _ _ _ _ _ _ _ T57 (mkF m 111 #[.val (.int iq), .val (.int ipd), .val (.int is_), .val (.int ij), .val (.int idr), .val (.int inm), .val (.double (FP.l2d jq)), .second, .val (.double (FP.l2d jp)), .second, .val (.int dd), .val (.double (FP.l2d jv)), .second, .val (.ref ad), .val (.ref b46), .val (.ref b50), .unset, .unset, .unset, .unset, .unset] [(.double (4616189618054758400 : UInt64)), (.double (FP.i2d ij)), (.double (FP.l2d jp))])
      refine Go.step (fun _ k => XS.ddivS X57.here hx rfl (hb hby at_111) rfl (own_quart ij).nn rfl k) ?_
      show Go _ _ _ _ _ _ _ T57 (mkF m 112 #[.val (.int iq), .val (.int ipd), .val (.int is_), .val (.int ij), .val (.int idr), .val (.int inm), .val (.double (FP.l2d jq)), .second, .val (.double (FP.l2d jp)), .second, .val (.int dd), .val (.double (FP.l2d jv)), .second, .val (.ref ad), .val (.ref b46), .val (.ref b50), .unset, .unset, .unset, .unset, .unset] [(.double (FP.ddiv (FP.i2d ij) (4616189618054758400 : UInt64))), (.double (FP.l2d jp))])
      refine Go.step (fun _ k => XS.daddS X57.here hx rfl (hb hby at_112) rfl (own_adv bp).nn rfl k) ?_
      show Go _ _ _ _ _ _ _ T57 (mkF m 113 #[.val (.int iq), .val (.int ipd), .val (.int is_), .val (.int ij), .val (.int idr), .val (.int inm), .val (.double (FP.l2d jq)), .second, .val (.double (FP.l2d jp)), .second, .val (.int dd), .val (.double (FP.l2d jv)), .second, .val (.ref ad), .val (.ref b46), .val (.ref b50), .unset, .unset, .unset, .unset, .unset] [(.double (FP.dadd (FP.l2d jp) (FP.ddiv (FP.i2d ij) (4616189618054758400 : UInt64))))])
      obtain ⟨da, hda, ZA⟩ : ∃ z, (FP.dadd (FP.l2d jp) (FP.ddiv (FP.i2d ij) (4616189618054758400 : UInt64))) = z ∧ own_Z z ((4 * jp.toInt + ij.toInt) * (own_Q : Int)) := ⟨_, rfl, own_adv bp⟩
      rw [hda]
      show Go _ _ _ _ _ _ _ T57 (mkF m 113 #[.val (.int iq), .val (.int ipd), .val (.int is_), .val (.int ij), .val (.int idr), .val (.int inm), .val (.double (FP.l2d jq)), .second, .val (.double (FP.l2d jp)), .second, .val (.int dd), .val (.double (FP.l2d jv)), .second, .val (.ref ad), .val (.ref b46), .val (.ref b50), .unset, .unset, .unset, .unset, .unset] [(.double da)])
      refine Go.step (fun _ k => XS.dstore X57.here hx rfl (hb hby at_113) rfl (l' := #[.val (.int iq), .val (.int ipd), .val (.int is_), .val (.int ij), .val (.int idr), .val (.int inm), .val (.double (FP.l2d jq)), .second, .val (.double (FP.l2d jp)), .second, .val (.int dd), .val (.double (FP.l2d jv)), .second, .val (.ref ad), .val (.ref b46), .val (.ref b50), .val (.double da), .second, .unset, .unset, .unset]) rfl k) ?_
      show Go _ _ _ _ _ _ _ T57 (mkF m 115 #[.val (.int iq), .val (.int ipd), .val (.int is_), .val (.int ij), .val (.int idr), .val (.int inm), .val (.double (FP.l2d jq)), .second, .val (.double (FP.l2d jp)), .second, .val (.int dd), .val (.double (FP.l2d jv)), .second, .val (.ref ad), .val (.ref b46), .val (.ref b50), .val (.double da), .second, .unset, .unset, .unset] [])
      refine Go.step (fun _ k => XS.aload X57.here hx rfl (hb hby at_115) rfl rfl k) ?_
      refine Go.step (fun _ k => XS.dload X57.here hx rfl (hb hby at_117) rfl k) ?_
      rcases own_j3 ij dd.toInt with q | q | q
      · show Go _ _ _ _ _ _ _ T57 (mkF m 119 #[.val (.int iq), .val (.int ipd), .val (.int is_), .val (.int ij), .val (.int idr), .val (.int inm), .val (.double (FP.l2d jq)), .second, .val (.double (FP.l2d jp)), .second, .val (.int dd), .val (.double (FP.l2d jv)), .second, .val (.ref ad), .val (.ref b46), .val (.ref b50), .val (.double da), .second, .unset, .unset, .unset] [(.double da), (.ref b50)])
        have f65 : Exa Z h57 b50 "com/example/wayfront/wayfront/decision/Criterion" := (f58.keep Kq57)
        obtain ⟨cq64, kq64, q64a, q64b, q64c⟩ := isOf hZ e57 f65
        obtain ⟨_, _, ⟨T64, L64, k64, n64⟩, -, X64, ⟨Lc64, hQ64, l64, y64, z64⟩, st64⟩ := X57.virtualBack hx (y := (⟨"com/example/wayfront/wayfront/decision/Criterion", "discordance", "(D)D"⟩ : MethodName)) (z := (⟨"com/example/wayfront/wayfront/decision/Criterion", "discordance", "(D)D"⟩ : MethodName)) hown (mvT hZ (hw _ (List.mem_of_getElem? (i := 71) rfl))) (mvT hZ (hw _ (List.mem_of_getElem? (i := 72) rfl))) (notFace_of_selects (args := #[]) (mvT hZ (hw _ (List.mem_of_getElem? (i := 74) rfl)))) (mvT hZ (hw _ (List.mem_of_getElem? (i := 74) rfl))) (mvT hZ (hw _ (List.mem_of_getElem? (i := 73) rfl))) (by decide) (backOf (W := 0) (rmDa l Z a0 hw [] b50 da (FP.l2d jp) (FP.l2d jv) h57 n0 Z57 Gp_57 Gv_57 (mt (own_g1 bp ZA .g).mp (by omega))) hZ (hw _ (List.mem_of_getElem? (i := 75) rfl)) (hw _ (List.mem_of_getElem? (i := 7) rfl)) (by decide) (by decide)) q64a q64c (g := (mkF m 119 #[.val (.int iq), .val (.int ipd), .val (.int is_), .val (.int ij), .val (.int idr), .val (.int inm), .val (.double (FP.l2d jq)), .second, .val (.double (FP.l2d jp)), .second, .val (.int dd), .val (.double (FP.l2d jv)), .second, .val (.ref ad), .val (.ref b46), .val (.ref b50), .val (.double da), .second, .unset, .unset, .unset] [(.double da), (.ref b50)])) rfl (by rw [hml]; rfl) (Steps.refl _) (argsL := [(.double da)]) (rest := []) (lenOf pd__D_D rfl) rfl (by show 2 * 0 + _ ≤ _; exact Nat.le_of_eq rfl) (hb hby at_119) (fun _ _ => ⟨rfl, e57, (by decide : 4 + 0 ≤ _), (by decide : 11 + 0 ≤ _)⟩)
        dsimp only [Pt.U, Pt.locs, Pt.cells, Pt.slots] at X64 l64 y64 z64 st64 hQ64
        subst l64 y64 z64
        obtain ⟨h64, e64⟩ : ∃ h, T64.heap = h := ⟨_, rfl⟩
        rw [e64] at hQ64
        obtain ⟨rfl, Nq64, hs64⟩ := hQ64
        have N64 := Fr.app N57 Nq64
        rw [hs64] at e64
        refine Go.trans st64 ?_
        show Go _ _ _ _ _ _ _ T64 (mkF m 122 #[.val (.int iq), .val (.int ipd), .val (.int is_), .val (.int ij), .val (.int idr), .val (.int inm), .val (.double (FP.l2d jq)), .second, .val (.double (FP.l2d jp)), .second, .val (.int dd), .val (.double (FP.l2d jv)), .second, .val (.ref ad), .val (.ref b46), .val (.ref b50), .val (.double da), .second, .unset, .unset, .unset] [(.double (0 : UInt64))])
        refine Go.step (fun _ k => XS.dstore X64.here hx rfl (hb hby at_122) rfl (l' := #[.val (.int iq), .val (.int ipd), .val (.int is_), .val (.int ij), .val (.int idr), .val (.int inm), .val (.double (FP.l2d jq)), .second, .val (.double (FP.l2d jp)), .second, .val (.int dd), .val (.double (FP.l2d jv)), .second, .val (.ref ad), .val (.ref b46), .val (.ref b50), .val (.double da), .second, .val (.double (0 : UInt64)), .second, .unset]) rfl k) ?_
        show Go _ _ _ _ _ _ _ T64 (mkF m 124 #[.val (.int iq), .val (.int ipd), .val (.int is_), .val (.int ij), .val (.int idr), .val (.int inm), .val (.double (FP.l2d jq)), .second, .val (.double (FP.l2d jp)), .second, .val (.int dd), .val (.double (FP.l2d jv)), .second, .val (.ref ad), .val (.ref b46), .val (.ref b50), .val (.double da), .second, .val (.double (0 : UInt64)), .second, .unset] [])
        refine Go.step (fun _ k => XS.iconst X64.here hx rfl (hb hby at_124) k) ?_
        refine Go.step (fun _ k => XS.iload X64.here hx rfl (hb hby at_125) rfl k) ?_
        refine Go.step (fun _ k => XS.imul X64.here hx rfl (hb hby at_127) rfl k) ?_
        refine Go.step (fun _ k => XS.istore X64.here hx rfl (hb hby at_128) rfl (l' := #[.val (.int iq), .val (.int ipd), .val (.int is_), .val (.int ij), .val (.int idr), .val (.int inm), .val (.double (FP.l2d jq)), .second, .val (.double (FP.l2d jp)), .second, .val (.int dd), .val (.double (FP.l2d jv)), .second, .val (.ref ad), .val (.ref b46), .val (.ref b50), .val (.double da), .second, .val (.double (0 : UInt64)), .second, .val (.int ((4 : Int32) * dd))]) rfl k) ?_
        show Go _ _ _ _ _ _ _ T64 (mkF m 130 #[.val (.int iq), .val (.int ipd), .val (.int is_), .val (.int ij), .val (.int idr), .val (.int inm), .val (.double (FP.l2d jq)), .second, .val (.double (FP.l2d jp)), .second, .val (.int dd), .val (.double (FP.l2d jv)), .second, .val (.ref ad), .val (.ref b46), .val (.ref b50), .val (.double da), .second, .val (.double (0 : UInt64)), .second, .val (.int ((4 : Int32) * dd))] [])
        refine Go.step (fun _ k => XS.iloadN X64.here hx rfl (hb hby at_130) rfl k) ?_
        have hc131_66 : ¬ ((0 : Int32) < ij) := (own_ar5 ij dd q)
        refine Go.step (fun _ k => XS.ifNo X64.here hx rfl (hb hby at_131) rfl ((if0 _ _).trans (flt hc131_66).2.2.1) k) ?_
        show Go _ _ _ _ _ _ _ T64 (mkF m 134 #[.val (.int iq), .val (.int ipd), .val (.int is_), .val (.int ij), .val (.int idr), .val (.int inm), .val (.double (FP.l2d jq)), .second, .val (.double (FP.l2d jp)), .second, .val (.int dd), .val (.double (FP.l2d jv)), .second, .val (.ref ad), .val (.ref b46), .val (.ref b50), .val (.double da), .second, .val (.double (0 : UInt64)), .second, .val (.int ((4 : Int32) * dd))] [])
        refine Go.step (fun _ k => XS.dload X64.here hx rfl (hb hby at_134) rfl k) ?_
        refine Go.step (fun _ k => XS.dconst0 X64.here hx rfl (v := (0 : UInt64)) (hb hby at_136) (by decide +kernel) k) ?_
        refine Go.step (fun _ k => XS.dcmpS X64.here hx rfl (hb hby at_137) rfl rfl k) ?_
        show Go _ _ _ _ _ _ _ T64 (mkF m 138 #[.val (.int iq), .val (.int ipd), .val (.int is_), .val (.int ij), .val (.int idr), .val (.int inm), .val (.double (FP.l2d jq)), .second, .val (.double (FP.l2d jp)), .second, .val (.int dd), .val (.double (FP.l2d jv)), .second, .val (.ref ad), .val (.ref b46), .val (.ref b50), .val (.double da), .second, .val (.double (0 : UInt64)), .second, .val (.int ((4 : Int32) * dd))] [(.int (cmpValue (FP.dcmp (0 : UInt64) (0 : UInt64)) .l))])
        have hc138_67 : (cmpValue (FP.dcmp (0 : UInt64) (0 : UInt64)) .l) = (0 : Int32) := (by decide +kernel)
        refine Go.step (fun _ k => XS.ifNo X64.here hx rfl (hb hby at_138) rfl ((if0 _ _).trans (teq hc138_67).2) k) ?_
        show Go _ _ _ _ _ _ _ T64 (mkF m 141 #[.val (.int iq), .val (.int ipd), .val (.int is_), .val (.int ij), .val (.int idr), .val (.int inm), .val (.double (FP.l2d jq)), .second, .val (.double (FP.l2d jp)), .second, .val (.int dd), .val (.double (FP.l2d jv)), .second, .val (.ref ad), .val (.ref b46), .val (.ref b50), .val (.double da), .second, .val (.double (0 : UInt64)), .second, .val (.int ((4 : Int32) * dd))] [])
        refine Go.step (fun _ k => XS.iconst X64.here hx rfl (hb hby at_141) k) ?_
        refine Go.step (fun _ k => XS.goto X64.here hx rfl (pc0 := 142) (pc' := 146) rfl (hb hby at_142) (by decide) (by decide) k) ?_
        show Go _ _ _ _ _ _ _ T64 (mkF m 146 #[.val (.int iq), .val (.int ipd), .val (.int is_), .val (.int ij), .val (.int idr), .val (.int inm), .val (.double (FP.l2d jq)), .second, .val (.double (FP.l2d jp)), .second, .val (.int dd), .val (.double (FP.l2d jv)), .second, .val (.ref ad), .val (.ref b46), .val (.ref b50), .val (.double da), .second, .val (.double (0 : UInt64)), .second, .val (.int ((4 : Int32) * dd))] [(.int (1 : Int32))])
        exact Go.retN X64 hx (t := .boolean) hret hlk (by simp) (hb hby at_146) e64 (by decide) (by decide) ⟨rfl, N64, trivial⟩
      · show Go _ _ _ _ _ _ _ T57 (mkF m 119 #[.val (.int iq), .val (.int ipd), .val (.int is_), .val (.int ij), .val (.int idr), .val (.int inm), .val (.double (FP.l2d jq)), .second, .val (.double (FP.l2d jp)), .second, .val (.int dd), .val (.double (FP.l2d jv)), .second, .val (.ref ad), .val (.ref b46), .val (.ref b50), .val (.double da), .second, .unset, .unset, .unset] [(.double da), (.ref b50)])
        have f69 : Exa Z h57 b50 "com/example/wayfront/wayfront/decision/Criterion" := (f58.keep Kq57)
        obtain ⟨cq68, kq68, q68a, q68b, q68c⟩ := isOf hZ e57 f69
        obtain ⟨_, _, ⟨T68, L68, k68, n68⟩, -, X68, ⟨Lc68, hQ68, l68, y68, z68⟩, st68⟩ := X57.virtualBack hx (y := (⟨"com/example/wayfront/wayfront/decision/Criterion", "discordance", "(D)D"⟩ : MethodName)) (z := (⟨"com/example/wayfront/wayfront/decision/Criterion", "discordance", "(D)D"⟩ : MethodName)) hown (mvT hZ (hw _ (List.mem_of_getElem? (i := 71) rfl))) (mvT hZ (hw _ (List.mem_of_getElem? (i := 72) rfl))) (notFace_of_selects (args := #[]) (mvT hZ (hw _ (List.mem_of_getElem? (i := 74) rfl)))) (mvT hZ (hw _ (List.mem_of_getElem? (i := 74) rfl))) (mvT hZ (hw _ (List.mem_of_getElem? (i := 73) rfl))) (by decide) (backOf (W := 0) (rmDb l Z a0 hw [] b50 da (FP.l2d jp) (FP.l2d jv) h57 n0 Z57 Gp_57 Gv_57 ((own_g1 bp ZA .g).mpr q.1) ((own_g2 bp bd bv ZA .l).mpr q.2)) hZ (hw _ (List.mem_of_getElem? (i := 75) rfl)) (hw _ (List.mem_of_getElem? (i := 7) rfl)) (by decide) (by decide)) q68a q68c (g := (mkF m 119 #[.val (.int iq), .val (.int ipd), .val (.int is_), .val (.int ij), .val (.int idr), .val (.int inm), .val (.double (FP.l2d jq)), .second, .val (.double (FP.l2d jp)), .second, .val (.int dd), .val (.double (FP.l2d jv)), .second, .val (.ref ad), .val (.ref b46), .val (.ref b50), .val (.double da), .second, .unset, .unset, .unset] [(.double da), (.ref b50)])) rfl (by rw [hml]; rfl) (Steps.refl _) (argsL := [(.double da)]) (rest := []) (lenOf pd__D_D rfl) rfl (by show 2 * 0 + _ ≤ _; exact Nat.le_of_eq rfl) (hb hby at_119) (fun _ _ => ⟨rfl, e57, (by decide : 4 + 0 ≤ _), (by decide : 11 + 0 ≤ _)⟩)
        dsimp only [Pt.U, Pt.locs, Pt.cells, Pt.slots] at X68 l68 y68 z68 st68 hQ68
        subst l68 y68 z68
        obtain ⟨h68, e68⟩ : ∃ h, T68.heap = h := ⟨_, rfl⟩
        rw [e68] at hQ68
        obtain ⟨rfl, Nq68, hs68⟩ := hQ68
        have N68 := Fr.app N57 Nq68
        rw [hs68] at e68
        refine Go.trans st68 ?_
        show Go _ _ _ _ _ _ _ T68 (mkF m 122 #[.val (.int iq), .val (.int ipd), .val (.int is_), .val (.int ij), .val (.int idr), .val (.int inm), .val (.double (FP.l2d jq)), .second, .val (.double (FP.l2d jp)), .second, .val (.int dd), .val (.double (FP.l2d jv)), .second, .val (.ref ad), .val (.ref b46), .val (.ref b50), .val (.double da), .second, .unset, .unset, .unset] [(.double (4607182418800017408 : UInt64))])
        refine Go.step (fun _ k => XS.dstore X68.here hx rfl (hb hby at_122) rfl (l' := #[.val (.int iq), .val (.int ipd), .val (.int is_), .val (.int ij), .val (.int idr), .val (.int inm), .val (.double (FP.l2d jq)), .second, .val (.double (FP.l2d jp)), .second, .val (.int dd), .val (.double (FP.l2d jv)), .second, .val (.ref ad), .val (.ref b46), .val (.ref b50), .val (.double da), .second, .val (.double (4607182418800017408 : UInt64)), .second, .unset]) rfl k) ?_
        show Go _ _ _ _ _ _ _ T68 (mkF m 124 #[.val (.int iq), .val (.int ipd), .val (.int is_), .val (.int ij), .val (.int idr), .val (.int inm), .val (.double (FP.l2d jq)), .second, .val (.double (FP.l2d jp)), .second, .val (.int dd), .val (.double (FP.l2d jv)), .second, .val (.ref ad), .val (.ref b46), .val (.ref b50), .val (.double da), .second, .val (.double (4607182418800017408 : UInt64)), .second, .unset] [])
        refine Go.step (fun _ k => XS.iconst X68.here hx rfl (hb hby at_124) k) ?_
        refine Go.step (fun _ k => XS.iload X68.here hx rfl (hb hby at_125) rfl k) ?_
        refine Go.step (fun _ k => XS.imul X68.here hx rfl (hb hby at_127) rfl k) ?_
        refine Go.step (fun _ k => XS.istore X68.here hx rfl (hb hby at_128) rfl (l' := #[.val (.int iq), .val (.int ipd), .val (.int is_), .val (.int ij), .val (.int idr), .val (.int inm), .val (.double (FP.l2d jq)), .second, .val (.double (FP.l2d jp)), .second, .val (.int dd), .val (.double (FP.l2d jv)), .second, .val (.ref ad), .val (.ref b46), .val (.ref b50), .val (.double da), .second, .val (.double (4607182418800017408 : UInt64)), .second, .val (.int ((4 : Int32) * dd))]) rfl k) ?_
        show Go _ _ _ _ _ _ _ T68 (mkF m 130 #[.val (.int iq), .val (.int ipd), .val (.int is_), .val (.int ij), .val (.int idr), .val (.int inm), .val (.double (FP.l2d jq)), .second, .val (.double (FP.l2d jp)), .second, .val (.int dd), .val (.double (FP.l2d jv)), .second, .val (.ref ad), .val (.ref b46), .val (.ref b50), .val (.double da), .second, .val (.double (4607182418800017408 : UInt64)), .second, .val (.int ((4 : Int32) * dd))] [])
        refine Go.step (fun _ k => XS.iloadN X68.here hx rfl (hb hby at_130) rfl k) ?_
        have hc131_70 : (0 : Int32) < ij := (own_ar6 ij dd q)
        refine Go.step (fun _ k => XS.ifYes X68.here hx rfl (pc0 := 131) (pc' := 147) rfl (hb hby at_131) rfl ((if0 _ _).trans (tlt hc131_70).2.2.1) (by decide) (by decide) k) ?_
        show Go _ _ _ _ _ _ _ T68 (mkF m 147 #[.val (.int iq), .val (.int ipd), .val (.int is_), .val (.int ij), .val (.int idr), .val (.int inm), .val (.double (FP.l2d jq)), .second, .val (.double (FP.l2d jp)), .second, .val (.int dd), .val (.double (FP.l2d jv)), .second, .val (.ref ad), .val (.ref b46), .val (.ref b50), .val (.double da), .second, .val (.double (4607182418800017408 : UInt64)), .second, .val (.int ((4 : Int32) * dd))] [])
        refine Go.step (fun _ k => XS.iloadN X68.here hx rfl (hb hby at_147) rfl k) ?_
        refine Go.step (fun _ k => XS.iload X68.here hx rfl (hb hby at_148) rfl k) ?_
        have hc150_71 : ((4 : Int32) * dd) < ij := (own_ar7 ij dd q bd)
        refine Go.step (fun _ k => XS.icmpNo X68.here hx rfl (hb hby at_150) rfl (tlt hc150_71).2.2.2 k) ?_
        show Go _ _ _ _ _ _ _ T68 (mkF m 153 #[.val (.int iq), .val (.int ipd), .val (.int is_), .val (.int ij), .val (.int idr), .val (.int inm), .val (.double (FP.l2d jq)), .second, .val (.double (FP.l2d jp)), .second, .val (.int dd), .val (.double (FP.l2d jv)), .second, .val (.ref ad), .val (.ref b46), .val (.ref b50), .val (.double da), .second, .val (.double (4607182418800017408 : UInt64)), .second, .val (.int ((4 : Int32) * dd))] [])
        refine Go.step (fun _ k => XS.dload X68.here hx rfl (hb hby at_153) rfl k) ?_
        refine Go.step (fun _ k => XS.dconst1 X68.here hx rfl (v := (4607182418800017408 : UInt64)) (hb hby at_155) (by decide +kernel) k) ?_
        refine Go.step (fun _ k => XS.dcmpS X68.here hx rfl (hb hby at_156) rfl rfl k) ?_
        show Go _ _ _ _ _ _ _ T68 (mkF m 157 #[.val (.int iq), .val (.int ipd), .val (.int is_), .val (.int ij), .val (.int idr), .val (.int inm), .val (.double (FP.l2d jq)), .second, .val (.double (FP.l2d jp)), .second, .val (.int dd), .val (.double (FP.l2d jv)), .second, .val (.ref ad), .val (.ref b46), .val (.ref b50), .val (.double da), .second, .val (.double (4607182418800017408 : UInt64)), .second, .val (.int ((4 : Int32) * dd))] [(.int (cmpValue (FP.dcmp (4607182418800017408 : UInt64) (4607182418800017408 : UInt64)) .l))])
        have hc157_72 : (cmpValue (FP.dcmp (4607182418800017408 : UInt64) (4607182418800017408 : UInt64)) .l) = (0 : Int32) := (by decide +kernel)
        refine Go.step (fun _ k => XS.ifNo X68.here hx rfl (hb hby at_157) rfl ((if0 _ _).trans (teq hc157_72).2) k) ?_
        show Go _ _ _ _ _ _ _ T68 (mkF m 160 #[.val (.int iq), .val (.int ipd), .val (.int is_), .val (.int ij), .val (.int idr), .val (.int inm), .val (.double (FP.l2d jq)), .second, .val (.double (FP.l2d jp)), .second, .val (.int dd), .val (.double (FP.l2d jv)), .second, .val (.ref ad), .val (.ref b46), .val (.ref b50), .val (.double da), .second, .val (.double (4607182418800017408 : UInt64)), .second, .val (.int ((4 : Int32) * dd))] [])
        refine Go.step (fun _ k => XS.iconst X68.here hx rfl (hb hby at_160) k) ?_
        refine Go.step (fun _ k => XS.goto X68.here hx rfl (pc0 := 161) (pc' := 165) rfl (hb hby at_161) (by decide) (by decide) k) ?_
        show Go _ _ _ _ _ _ _ T68 (mkF m 165 #[.val (.int iq), .val (.int ipd), .val (.int is_), .val (.int ij), .val (.int idr), .val (.int inm), .val (.double (FP.l2d jq)), .second, .val (.double (FP.l2d jp)), .second, .val (.int dd), .val (.double (FP.l2d jv)), .second, .val (.ref ad), .val (.ref b46), .val (.ref b50), .val (.double da), .second, .val (.double (4607182418800017408 : UInt64)), .second, .val (.int ((4 : Int32) * dd))] [(.int (1 : Int32))])
        exact Go.retN X68 hx (t := .boolean) hret hlk (by simp) (hb hby at_165) e68 (by decide) (by decide) ⟨rfl, N68, trivial⟩
      · show Go _ _ _ _ _ _ _ T57 (mkF m 119 #[.val (.int iq), .val (.int ipd), .val (.int is_), .val (.int ij), .val (.int idr), .val (.int inm), .val (.double (FP.l2d jq)), .second, .val (.double (FP.l2d jp)), .second, .val (.int dd), .val (.double (FP.l2d jv)), .second, .val (.ref ad), .val (.ref b46), .val (.ref b50), .val (.double da), .second, .unset, .unset, .unset] [(.double da), (.ref b50)])
        obtain ⟨nf1, nf2, nf3, nf4, nf5⟩ := own_fin3 (sp := ((4 : Int32) * dd)) bp (hd.resolve_left (by omega)).1 (hd.resolve_left (by omega)).2 bv (own_ar8 dd bd) q ZA
        have f74 : Exa Z h57 b50 "com/example/wayfront/wayfront/decision/Criterion" := (f58.keep Kq57)
        obtain ⟨cq73, kq73, q73a, q73b, q73c⟩ := isOf hZ e57 f74
        obtain ⟨_, _, ⟨T73, L73, k73, n73⟩, -, X73, ⟨Lc73, hQ73, l73, y73, z73⟩, st73⟩ := X57.virtualBack hx (y := (⟨"com/example/wayfront/wayfront/decision/Criterion", "discordance", "(D)D"⟩ : MethodName)) (z := (⟨"com/example/wayfront/wayfront/decision/Criterion", "discordance", "(D)D"⟩ : MethodName)) hown (mvT hZ (hw _ (List.mem_of_getElem? (i := 71) rfl))) (mvT hZ (hw _ (List.mem_of_getElem? (i := 72) rfl))) (notFace_of_selects (args := #[]) (mvT hZ (hw _ (List.mem_of_getElem? (i := 74) rfl)))) (mvT hZ (hw _ (List.mem_of_getElem? (i := 74) rfl))) (mvT hZ (hw _ (List.mem_of_getElem? (i := 73) rfl))) (by decide) (backOf (W := 0) (rmDc l Z a0 hw [] b50 da (FP.l2d jp) (FP.l2d jv) h57 n0 Z57 Gp_57 Gv_57 ((own_g1 bp ZA .g).mpr q.1) (mt (own_g2 bp bd bv ZA .l).mp (by omega)) nf1 nf2 nf3) hZ (hw _ (List.mem_of_getElem? (i := 75) rfl)) (hw _ (List.mem_of_getElem? (i := 7) rfl)) (by decide) (by decide)) q73a q73c (g := (mkF m 119 #[.val (.int iq), .val (.int ipd), .val (.int is_), .val (.int ij), .val (.int idr), .val (.int inm), .val (.double (FP.l2d jq)), .second, .val (.double (FP.l2d jp)), .second, .val (.int dd), .val (.double (FP.l2d jv)), .second, .val (.ref ad), .val (.ref b46), .val (.ref b50), .val (.double da), .second, .unset, .unset, .unset] [(.double da), (.ref b50)])) rfl (by rw [hml]; rfl) (Steps.refl _) (argsL := [(.double da)]) (rest := []) (lenOf pd__D_D rfl) rfl (by show 2 * 0 + _ ≤ _; exact Nat.le_of_eq rfl) (hb hby at_119) (fun _ _ => ⟨rfl, e57, (by decide : 4 + 0 ≤ _), (by decide : 11 + 0 ≤ _)⟩)
        dsimp only [Pt.U, Pt.locs, Pt.cells, Pt.slots] at X73 l73 y73 z73 st73 hQ73
        subst l73 y73 z73
        obtain ⟨h73, e73⟩ : ∃ h, T73.heap = h := ⟨_, rfl⟩
        rw [e73] at hQ73
        obtain ⟨rfl, Nq73, hs73⟩ := hQ73
        have N73 := Fr.app N57 Nq73
        rw [hs73] at e73
        refine Go.trans st73 ?_
        show Go _ _ _ _ _ _ _ T73 (mkF m 122 #[.val (.int iq), .val (.int ipd), .val (.int is_), .val (.int ij), .val (.int idr), .val (.int inm), .val (.double (FP.l2d jq)), .second, .val (.double (FP.l2d jp)), .second, .val (.int dd), .val (.double (FP.l2d jv)), .second, .val (.ref ad), .val (.ref b46), .val (.ref b50), .val (.double da), .second, .unset, .unset, .unset] [(.double (FP.ddiv (FP.dsub da (FP.l2d jp)) (FP.dsub (FP.l2d jv) (FP.l2d jp))))])
        refine Go.step (fun _ k => XS.dstore X73.here hx rfl (hb hby at_122) rfl (l' := #[.val (.int iq), .val (.int ipd), .val (.int is_), .val (.int ij), .val (.int idr), .val (.int inm), .val (.double (FP.l2d jq)), .second, .val (.double (FP.l2d jp)), .second, .val (.int dd), .val (.double (FP.l2d jv)), .second, .val (.ref ad), .val (.ref b46), .val (.ref b50), .val (.double da), .second, .val (.double (FP.ddiv (FP.dsub da (FP.l2d jp)) (FP.dsub (FP.l2d jv) (FP.l2d jp)))), .second, .unset]) rfl k) ?_
        show Go _ _ _ _ _ _ _ T73 (mkF m 124 #[.val (.int iq), .val (.int ipd), .val (.int is_), .val (.int ij), .val (.int idr), .val (.int inm), .val (.double (FP.l2d jq)), .second, .val (.double (FP.l2d jp)), .second, .val (.int dd), .val (.double (FP.l2d jv)), .second, .val (.ref ad), .val (.ref b46), .val (.ref b50), .val (.double da), .second, .val (.double (FP.ddiv (FP.dsub da (FP.l2d jp)) (FP.dsub (FP.l2d jv) (FP.l2d jp)))), .second, .unset] [])
        refine Go.step (fun _ k => XS.iconst X73.here hx rfl (hb hby at_124) k) ?_
        refine Go.step (fun _ k => XS.iload X73.here hx rfl (hb hby at_125) rfl k) ?_
        refine Go.step (fun _ k => XS.imul X73.here hx rfl (hb hby at_127) rfl k) ?_
        refine Go.step (fun _ k => XS.istore X73.here hx rfl (hb hby at_128) rfl (l' := #[.val (.int iq), .val (.int ipd), .val (.int is_), .val (.int ij), .val (.int idr), .val (.int inm), .val (.double (FP.l2d jq)), .second, .val (.double (FP.l2d jp)), .second, .val (.int dd), .val (.double (FP.l2d jv)), .second, .val (.ref ad), .val (.ref b46), .val (.ref b50), .val (.double da), .second, .val (.double (FP.ddiv (FP.dsub da (FP.l2d jp)) (FP.dsub (FP.l2d jv) (FP.l2d jp)))), .second, .val (.int ((4 : Int32) * dd))]) rfl k) ?_
        show Go _ _ _ _ _ _ _ T73 (mkF m 130 #[.val (.int iq), .val (.int ipd), .val (.int is_), .val (.int ij), .val (.int idr), .val (.int inm), .val (.double (FP.l2d jq)), .second, .val (.double (FP.l2d jp)), .second, .val (.int dd), .val (.double (FP.l2d jv)), .second, .val (.ref ad), .val (.ref b46), .val (.ref b50), .val (.double da), .second, .val (.double (FP.ddiv (FP.dsub da (FP.l2d jp)) (FP.dsub (FP.l2d jv) (FP.l2d jp)))), .second, .val (.int ((4 : Int32) * dd))] [])
        refine Go.step (fun _ k => XS.iloadN X73.here hx rfl (hb hby at_130) rfl k) ?_
        have hc131_75 : (0 : Int32) < ij := (own_ar9 ij dd q)
        refine Go.step (fun _ k => XS.ifYes X73.here hx rfl (pc0 := 131) (pc' := 147) rfl (hb hby at_131) rfl ((if0 _ _).trans (tlt hc131_75).2.2.1) (by decide) (by decide) k) ?_
        show Go _ _ _ _ _ _ _ T73 (mkF m 147 #[.val (.int iq), .val (.int ipd), .val (.int is_), .val (.int ij), .val (.int idr), .val (.int inm), .val (.double (FP.l2d jq)), .second, .val (.double (FP.l2d jp)), .second, .val (.int dd), .val (.double (FP.l2d jv)), .second, .val (.ref ad), .val (.ref b46), .val (.ref b50), .val (.double da), .second, .val (.double (FP.ddiv (FP.dsub da (FP.l2d jp)) (FP.dsub (FP.l2d jv) (FP.l2d jp)))), .second, .val (.int ((4 : Int32) * dd))] [])
        refine Go.step (fun _ k => XS.iloadN X73.here hx rfl (hb hby at_147) rfl k) ?_
        refine Go.step (fun _ k => XS.iload X73.here hx rfl (hb hby at_148) rfl k) ?_
        have hc150_76 : ¬ (((4 : Int32) * dd) < ij) := (own_ar10 ij dd q bd)
        refine Go.step (fun _ k => XS.icmpYes X73.here hx rfl (pc0 := 150) (pc' := 166) rfl (hb hby at_150) rfl (flt hc150_76).2.2.2 (by decide) (by decide) k) ?_
        show Go _ _ _ _ _ _ _ T73 (mkF m 166 #[.val (.int iq), .val (.int ipd), .val (.int is_), .val (.int ij), .val (.int idr), .val (.int inm), .val (.double (FP.l2d jq)), .second, .val (.double (FP.l2d jp)), .second, .val (.int dd), .val (.double (FP.l2d jv)), .second, .val (.ref ad), .val (.ref b46), .val (.ref b50), .val (.double da), .second, .val (.double (FP.ddiv (FP.dsub da (FP.l2d jp)) (FP.dsub (FP.l2d jv) (FP.l2d jp)))), .second, .val (.int ((4 : Int32) * dd))] [])
        refine Go.step (fun _ k => XS.dload X73.here hx rfl (hb hby at_166) rfl k) ?_
        refine Go.step (fun _ k => XS.iload X73.here hx rfl (hb hby at_168) rfl k) ?_
        refine Go.step (fun _ k => XS.i2dS X73.here hx rfl (hb hby at_170) rfl rfl k) ?_
        show Go _ _ _ _ _ _ _ T73 (mkF m 171 #[.val (.int iq), .val (.int ipd), .val (.int is_), .val (.int ij), .val (.int idr), .val (.int inm), .val (.double (FP.l2d jq)), .second, .val (.double (FP.l2d jp)), .second, .val (.int dd), .val (.double (FP.l2d jv)), .second, .val (.ref ad), .val (.ref b46), .val (.ref b50), .val (.double da), .second, .val (.double (FP.ddiv (FP.dsub da (FP.l2d jp)) (FP.dsub (FP.l2d jv) (FP.l2d jp)))), .second, .val (.int ((4 : Int32) * dd))] [(.double (FP.i2d ((4 : Int32) * dd))), (.double (FP.ddiv (FP.dsub da (FP.l2d jp)) (FP.dsub (FP.l2d jv) (FP.l2d jp))))])
        refine Go.step (fun _ k => XS.dmulS X73.here hx rfl (hb hby at_171) rfl nf4 rfl k) ?_
        show Go _ _ _ _ _ _ _ T73 (mkF m 172 #[.val (.int iq), .val (.int ipd), .val (.int is_), .val (.int ij), .val (.int idr), .val (.int inm), .val (.double (FP.l2d jq)), .second, .val (.double (FP.l2d jp)), .second, .val (.int dd), .val (.double (FP.l2d jv)), .second, .val (.ref ad), .val (.ref b46), .val (.ref b50), .val (.double da), .second, .val (.double (FP.ddiv (FP.dsub da (FP.l2d jp)) (FP.dsub (FP.l2d jv) (FP.l2d jp)))), .second, .val (.int ((4 : Int32) * dd))] [(.double (FP.dmul (FP.ddiv (FP.dsub da (FP.l2d jp)) (FP.dsub (FP.l2d jv) (FP.l2d jp))) (FP.i2d ((4 : Int32) * dd))))])
        refine Go.step (fun _ k => XS.iloadN X73.here hx rfl (hb hby at_172) rfl k) ?_
        refine Go.step (fun _ k => XS.i2dS X73.here hx rfl (hb hby at_173) rfl rfl k) ?_
        show Go _ _ _ _ _ _ _ T73 (mkF m 174 #[.val (.int iq), .val (.int ipd), .val (.int is_), .val (.int ij), .val (.int idr), .val (.int inm), .val (.double (FP.l2d jq)), .second, .val (.double (FP.l2d jp)), .second, .val (.int dd), .val (.double (FP.l2d jv)), .second, .val (.ref ad), .val (.ref b46), .val (.ref b50), .val (.double da), .second, .val (.double (FP.ddiv (FP.dsub da (FP.l2d jp)) (FP.dsub (FP.l2d jv) (FP.l2d jp)))), .second, .val (.int ((4 : Int32) * dd))] [(.double (FP.i2d ij)), (.double (FP.dmul (FP.ddiv (FP.dsub da (FP.l2d jp)) (FP.dsub (FP.l2d jv) (FP.l2d jp))) (FP.i2d ((4 : Int32) * dd))))])
        refine Go.step (fun _ k => XS.dcmpS X73.here hx rfl (hb hby at_174) rfl rfl k) ?_
        show Go _ _ _ _ _ _ _ T73 (mkF m 175 #[.val (.int iq), .val (.int ipd), .val (.int is_), .val (.int ij), .val (.int idr), .val (.int inm), .val (.double (FP.l2d jq)), .second, .val (.double (FP.l2d jp)), .second, .val (.int dd), .val (.double (FP.l2d jv)), .second, .val (.ref ad), .val (.ref b46), .val (.ref b50), .val (.double da), .second, .val (.double (FP.ddiv (FP.dsub da (FP.l2d jp)) (FP.dsub (FP.l2d jv) (FP.l2d jp)))), .second, .val (.int ((4 : Int32) * dd))] [(.int (cmpValue (FP.dcmp (FP.dmul (FP.ddiv (FP.dsub da (FP.l2d jp)) (FP.dsub (FP.l2d jv) (FP.l2d jp))) (FP.i2d ((4 : Int32) * dd))) (FP.i2d ij)) .l))])
        have hc175_77 : (cmpValue (FP.dcmp (FP.dmul (FP.ddiv (FP.dsub da (FP.l2d jp)) (FP.dsub (FP.l2d jv) (FP.l2d jp))) (FP.i2d ((4 : Int32) * dd))) (FP.i2d ij)) .l) = (0 : Int32) := nf5
        refine Go.step (fun _ k => XS.ifNo X73.here hx rfl (hb hby at_175) rfl ((if0 _ _).trans (teq hc175_77).2) k) ?_
        show Go _ _ _ _ _ _ _ T73 (mkF m 178 #[.val (.int iq), .val (.int ipd), .val (.int is_), .val (.int ij), .val (.int idr), .val (.int inm), .val (.double (FP.l2d jq)), .second, .val (.double (FP.l2d jp)), .second, .val (.int dd), .val (.double (FP.l2d jv)), .second, .val (.ref ad), .val (.ref b46), .val (.ref b50), .val (.double da), .second, .val (.double (FP.ddiv (FP.dsub da (FP.l2d jp)) (FP.dsub (FP.l2d jv) (FP.l2d jp)))), .second, .val (.int ((4 : Int32) * dd))] [])
        refine Go.step (fun _ k => XS.iconst X73.here hx rfl (hb hby at_178) k) ?_
        refine Go.step (fun _ k => XS.goto X73.here hx rfl (pc0 := 179) (pc' := 183) rfl (hb hby at_179) (by decide) (by decide) k) ?_
        show Go _ _ _ _ _ _ _ T73 (mkF m 183 #[.val (.int iq), .val (.int ipd), .val (.int is_), .val (.int ij), .val (.int idr), .val (.int inm), .val (.double (FP.l2d jq)), .second, .val (.double (FP.l2d jp)), .second, .val (.int dd), .val (.double (FP.l2d jv)), .second, .val (.ref ad), .val (.ref b46), .val (.ref b50), .val (.double da), .second, .val (.double (FP.ddiv (FP.dsub da (FP.l2d jp)) (FP.dsub (FP.l2d jv) (FP.l2d jp)))), .second, .val (.int ((4 : Int32) * dd))] [(.int (1 : Int32))])
        exact Go.retN X73 hx (t := .boolean) hret hlk (by simp) (hb hby at_183) e73 (by decide) (by decide) ⟨rfl, N73, trivial⟩
    show Go _ _ _ _ _ _ _ TJ (mkF m 45 #[.val (.int iq), .val (.int ipd), .val (.int is_), .val (.int ij), .val (.int idr), .val (.int inm), .val (.double (FP.l2d jq)), .second, .val (.double (FP.l2d jp)), .second, .val (.int dd), .val (.double (FP.l2d jv)), .second, .unset, .unset, .unset, .unset, .unset, .unset, .unset, .unset] [])
    refine Go.step (fun _ k => XS.iload XJ.here hx rfl (hb hby at_45) rfl k) ?_
    refine Go.step (fun _ k => XS.iconst XJ.here hx rfl (hb hby at_47) k) ?_
    refine Go.step (fun _ k => XS.iand XJ.here hx rfl (hb hby at_48) rfl k) ?_
    by_cases hc49_78 : (idr &&& (1 : Int32)) = (0 : Int32)
    · refine Go.step (fun _ k => XS.ifNo XJ.here hx rfl (hb hby at_49) rfl ((if0 _ _).trans (teq hc49_78).2) k) ?_
      show Go _ _ _ _ _ _ _ TJ (mkF m 52 #[.val (.int iq), .val (.int ipd), .val (.int is_), .val (.int ij), .val (.int idr), .val (.int inm), .val (.double (FP.l2d jq)), .second, .val (.double (FP.l2d jp)), .second, .val (.int dd), .val (.double (FP.l2d jv)), .second, .unset, .unset, .unset, .unset, .unset, .unset, .unset, .unset] [])
      obtain ⟨T79, X79, e79, st79⟩ := getS2 XJ hx hZ hown (host := "") (Or.inl (hw _ (List.mem_of_getElem? (i := 1) rfl))) Via.refl eJ (SX.ext Oj.2) (g := (mkF m 52 #[.val (.int iq), .val (.int ipd), .val (.int is_), .val (.int ij), .val (.int idr), .val (.int inm), .val (.double (FP.l2d jq)), .second, .val (.double (FP.l2d jp)), .second, .val (.int dd), .val (.double (FP.l2d jv)), .second, .unset, .unset, .unset, .unset, .unset, .unset, .unset, .unset] [])) rfl (hb hby at_52)
      refine Go.step st79 ?_
      show Go _ _ _ _ _ _ _ T79 (mkF m 55 #[.val (.int iq), .val (.int ipd), .val (.int is_), .val (.int ij), .val (.int idr), .val (.int inm), .val (.double (FP.l2d jq)), .second, .val (.double (FP.l2d jp)), .second, .val (.int dd), .val (.double (FP.l2d jv)), .second, .unset, .unset, .unset, .unset, .unset, .unset, .unset, .unset] [(.ref x1)])
      refine Go.step (fun _ k => XS.goto X79.here hx rfl (pc0 := 55) (pc' := 61) rfl (hb hby at_55) (by decide) (by decide) k) ?_
      show Go _ _ _ _ _ _ _ T79 (mkF m 61 #[.val (.int iq), .val (.int ipd), .val (.int is_), .val (.int ij), .val (.int idr), .val (.int inm), .val (.double (FP.l2d jq)), .second, .val (.double (FP.l2d jp)), .second, .val (.int dd), .val (.double (FP.l2d jv)), .second, .unset, .unset, .unset, .unset, .unset, .unset, .unset, .unset] [(.ref x1)])
      exact K T79 hJ _ x1 (X79.more (by decide) (by decide)) e79 NJ ZJ Oj
    · refine Go.step (fun _ k => XS.ifYes XJ.here hx rfl (pc0 := 49) (pc' := 58) rfl (hb hby at_49) rfl ((if0 _ _).trans (feq hc49_78).2) (by decide) (by decide) k) ?_
      show Go _ _ _ _ _ _ _ TJ (mkF m 58 #[.val (.int iq), .val (.int ipd), .val (.int is_), .val (.int ij), .val (.int idr), .val (.int inm), .val (.double (FP.l2d jq)), .second, .val (.double (FP.l2d jp)), .second, .val (.int dd), .val (.double (FP.l2d jv)), .second, .unset, .unset, .unset, .unset, .unset, .unset, .unset, .unset] [])
      obtain ⟨T80, X80, e80, st80⟩ := getS2 XJ hx hZ hown (host := "") (Or.inl (hw _ (List.mem_of_getElem? (i := 76) rfl))) Via.refl eJ (SN.ext Oj.2) (g := (mkF m 58 #[.val (.int iq), .val (.int ipd), .val (.int is_), .val (.int ij), .val (.int idr), .val (.int inm), .val (.double (FP.l2d jq)), .second, .val (.double (FP.l2d jp)), .second, .val (.int dd), .val (.double (FP.l2d jv)), .second, .unset, .unset, .unset, .unset, .unset, .unset, .unset, .unset] [])) rfl (hb hby at_58)
      refine Go.step st80 ?_
      show Go _ _ _ _ _ _ _ T80 (mkF m 61 #[.val (.int iq), .val (.int ipd), .val (.int is_), .val (.int ij), .val (.int idr), .val (.int inm), .val (.double (FP.l2d jq)), .second, .val (.double (FP.l2d jp)), .second, .val (.int dd), .val (.double (FP.l2d jv)), .second, .unset, .unset, .unset, .unset, .unset, .unset, .unset, .unset] [(.ref x2)])
      exact K T80 hJ _ x2 (X80.more (by decide) (by decide)) e80 NJ ZJ Oj
  show Go _ _ _ _ _ _ _ s₁ (mkF m 18 #[.val (.int iq), .val (.int ipd), .val (.int is_), .val (.int ij), .val (.int idr), .val (.int inm), .val (.double (FP.l2d jq)), .second, .val (.double (FP.l2d jp)), .second, .unset, .unset, .unset, .unset, .unset, .unset, .unset, .unset, .unset, .unset, .unset] [])
  refine Go.step (fun _ k => XS.iloadN X0.here hx rfl (hb hby at_18) rfl k) ?_
  refine Go.step (fun _ k => XS.bipush X0.here hx rfl (hb hby at_19) k) ?_
  refine Go.step (fun _ k => XS.iand X0.here hx rfl (hb hby at_21) rfl k) ?_
  by_cases hc22_81 : (is_ &&& (8 : Int32)) = (0 : Int32)
  · refine Go.step (fun _ k => XS.ifYes X0.here hx rfl (pc0 := 22) (pc' := 29) rfl (hb hby at_22) rfl ((if0 _ _).trans (teq hc22_81).1) (by decide) (by decide) k) ?_
    show Go _ _ _ _ _ _ _ s₁ (mkF m 29 #[.val (.int iq), .val (.int ipd), .val (.int is_), .val (.int ij), .val (.int idr), .val (.int inm), .val (.double (FP.l2d jq)), .second, .val (.double (FP.l2d jp)), .second, .unset, .unset, .unset, .unset, .unset, .unset, .unset, .unset, .unset, .unset, .unset] [])
    refine Go.step (fun _ k => XS.iconst X0.here hx rfl (hb hby at_29) k) ?_
    refine Go.step (fun _ k => XS.iloadN X0.here hx rfl (hb hby at_30) rfl k) ?_
    refine Go.step (fun _ k => XS.bipush X0.here hx rfl (hb hby at_31) k) ?_
    refine Go.step (fun _ k => XS.iand X0.here hx rfl (hb hby at_33) rfl k) ?_
    refine Go.step (fun _ k => XS.ishl X0.here hx rfl (hb hby at_34) rfl k) ?_
    show Go _ _ _ _ _ _ _ s₁ (mkF m 35 #[.val (.int iq), .val (.int ipd), .val (.int is_), .val (.int ij), .val (.int idr), .val (.int inm), .val (.double (FP.l2d jq)), .second, .val (.double (FP.l2d jp)), .second, .unset, .unset, .unset, .unset, .unset, .unset, .unset, .unset, .unset, .unset, .unset] [(.int ((1 : Int32) <<< ((is_ &&& (7 : Int32)) &&& 31)))])
    obtain ⟨e0_, he1, he2⟩ := own_k8 is_
    exact J s₁ h0 _ ((1 : Int32) <<< ((is_ &&& (7 : Int32)) &&& 31)) e0_ (X0.more (by decide) (by decide)) e0 N0 Z0 O0 (Or.inr ⟨he2, he1⟩)
  · refine Go.step (fun _ k => XS.ifNo X0.here hx rfl (hb hby at_22) rfl ((if0 _ _).trans (feq hc22_81).1) k) ?_
    show Go _ _ _ _ _ _ _ s₁ (mkF m 25 #[.val (.int iq), .val (.int ipd), .val (.int is_), .val (.int ij), .val (.int idr), .val (.int inm), .val (.double (FP.l2d jq)), .second, .val (.double (FP.l2d jp)), .second, .unset, .unset, .unset, .unset, .unset, .unset, .unset, .unset, .unset, .unset, .unset] [])
    refine Go.step (fun _ k => XS.iconst X0.here hx rfl (hb hby at_25) k) ?_
    refine Go.step (fun _ k => XS.goto X0.here hx rfl (pc0 := 26) (pc' := 35) rfl (hb hby at_26) (by decide) (by decide) k) ?_
    show Go _ _ _ _ _ _ _ s₁ (mkF m 35 #[.val (.int iq), .val (.int ipd), .val (.int is_), .val (.int ij), .val (.int idr), .val (.int inm), .val (.double (FP.l2d jq)), .second, .val (.double (FP.l2d jp)), .second, .unset, .unset, .unset, .unset, .unset, .unset, .unset, .unset, .unset, .unset, .unset] [(.int (0 : Int32))])
    exact J s₁ h0 _ (0 : Int32) 0 (X0.more (by decide) (by decide)) e0 N0 Z0 O0 (Or.inl rfl)
set_option maxRecDepth 65536 in
set_option maxHeartbeats 40000000 in
theorem comes_1 {Post : Tables → Env → Array Value → State → Outcome → State → Prop} (hpost : ∀ tb e args s v u, (limb_1_1.after args s (.returned v) u = true ∧ limb_1_2.after args s (.returned v) u = true ∧ True) → FrameEnd s (.returned v) u (Jvm.fieldLocs frame_1_writes args s ++ Jvm.arrayLocs frame_1_arrays args s ++ Jvm.staticLocs frame_1_statics s) 16 128 → Post tb e args s (.returned v) u) :
    ArmFor flags0 classFile x code maxLocals ret World_1 tables_1 room_1 Calls_1 rest_1 Pre_1 Post := by
  intro l hfl _ _ p e ha hc hk s m args below hf hA hF happ hP
  obtain ⟨hcalls, hrest, hpre⟩ := hP
  obtain ⟨-, -, -, hnamed, -, -, -, hat⟩ := (Spec.applies_iff hf).mp happ
  obtain ⟨hg, hn⟩ := and_e (Cond.before_iff.mp (show (Jvm.Cond.and given_1 narrow_1).before args s = true from hpre))
  obtain ⟨gg1, gg2⟩ := and_e hg
  obtain ⟨gg3, gg4⟩ := and_e gg2
  obtain ⟨gg5, gg6⟩ := and_e gg4
  obtain ⟨gg7, gg8⟩ := and_e gg6
  obtain ⟨gg9, gg10⟩ := and_e gg8
  obtain ⟨gg11, gg12⟩ := and_e gg10
  obtain ⟨w0, w1, w2, w3, w4, w5, rfl⟩ : ∃ w0 w1 w2 w3 w4 w5 : Value, args = #[w0, w1, w2, w3, w4, w5] := by
    have hs : args.size = 6 := by simpa [Cond.value, given_1] using gg1
    obtain ⟨L⟩ := args
    match L, hs with
    | [w0, w1, w2, w3, w4, w5], _ => exact ⟨w0, w1, w2, w3, w4, w5, rfl⟩
  have hw := fun d (hd : d ∈ tables_1) => atoms_spec (ws := Jvm.Cond.code x code maxLocals ret :: tables_1) hat d (List.mem_cons_of_mem _ hd)
  have hfit : Fit s := fun {y c} hc i hi => by
    obtain ⟨ha, rfl⟩ := Array.getElem?_eq_some_iff.mp hc
    have q := List.all_eq_true.mp ((Array.all_eq_true_iff_forall_mem.mp hF) _ (Array.getElem_mem ha)) i (List.mem_range.mpr hi)
    simpa [Array.getElem?_eq_getElem hi] using q
  obtain ⟨hsets, hown0⟩ := atoms_of _ (rest_1_c_eq ▸ (show rest_1_c.before _ s = true from hrest))
  have hr0 := Cond.before_iff.mp hown0
  obtain ⟨iq, ei0⟩ := is_v gg3
  obtain rfl : w0 = (.int iq) := Option.some.inj ei0
  obtain ⟨ipd, ei1⟩ := is_v gg5
  obtain rfl : w1 = (.int ipd) := Option.some.inj ei1
  obtain ⟨is_, ei2⟩ := is_v gg7
  obtain rfl : w2 = (.int is_) := Option.some.inj ei2
  obtain ⟨ij, ei3⟩ := is_v gg9
  obtain rfl : w3 = (.int ij) := Option.some.inj ei3
  obtain ⟨idr, ei4⟩ := is_v gg11
  obtain rfl : w4 = (.int idr) := Option.some.inj ei4
  obtain ⟨inm, ei5⟩ := is_v gg12
  obtain rfl : w5 = (.int inm) := Option.some.inj ei5
  obtain ⟨G1, eG1⟩ := is_v (Cond.before_iff.mp (hsets _ (List.mem_of_getElem? (i := 1) rfl)))
  have O2 := Sta.start eG1 (Or.inl (hsets _ (List.mem_of_getElem? (i := 0) rfl)))
  have P5 : ¬ (G1 = (0 : Int32)) := gotF (Cond.eq_ints eG1 (Term.int_eval (0))) (not_v (Cond.before_iff.mp (hsets _ (List.mem_of_getElem? (i := 2) rfl))))
  obtain ⟨nn1, nn2⟩ := and_e hn
  obtain ⟨x1, ex1⟩ := exa_v nn1
  obtain ⟨x2, ex2⟩ := exa_v nn2
  have SX := Sta.start ex1 (Or.inr ⟨(hw _ (List.mem_of_getElem? (i := 2) rfl)), (hw _ (List.mem_of_getElem? (i := 3) rfl))⟩)
  have SN := Sta.start ex2 (Or.inr ⟨(hw _ (List.mem_of_getElem? (i := 2) rfl)), (hw _ (List.mem_of_getElem? (i := 77) rfl))⟩)
  obtain ⟨n, o, h1, h2, h3, _, L, rfl, ⟨rfl, N, -⟩, hq⟩ := rm0 l s _ hw tables_1 iq ipd is_ ij idr inm G1 x1 x2 s.heap s.heap.size (Nat.le_refl _) (Old.start s) O2 P5 SX SN p e ha hc hk s m _ below hf ((Spec.applies_iff_loose hf).mp happ).1 ⟨rfl, State.Warmed39.refl s, rfl⟩ trivial
  refine ⟨n, _, h1, h2, h3, hpost _ _ _ _ _ _ ⟨Cond.after_iff.mpr rfl, Cond.after_iff.mpr (eq_i res_at (Term.int_eval (1)) rfl), trivial⟩ ⟨hq.1, hq.2.1, (hq.2.2.sift fun y hy => Or.inr (N y hy)).mono (by decide) (by decide)⟩⟩
theorem main_1_1 : Claimed_1_1 := comes_1 fun _ _ _ _ _ _ h hF => ⟨h.1, hF⟩
theorem main_1_2 : Claimed_1_2 := comes_1 fun _ _ _ _ _ _ h hF => ⟨h.2.1, hF⟩
end Jvm.Pilot.@@N@@
namespace Jvm.Pilot.@@N@@
open Jvm Jvm.ClassFile Sem Op Lib Jvm.Free Jvm.Stand Jvm.Pilot.@@N@@.Jvm.D
/-! MADE BY PROGRAM (witnessworld.py) out of the Statement's table words and the real class files: 26 classes; the members and pool entries that the words name. The judged class is class 1, her method 1. -/
namespace start1
open Jvm.ClassFile
def u (s : String) : CpInfo := .utf8 (stringToUtf16 s)
/-- a pool by its gaps: so many unusable entries, then the entry; so many at the end -/
def gap : Nat → List CpInfo → List CpInfo
  | 0, r => r
  | n + 1, r => .unusable :: gap n r
def poolList (es : List (Nat × CpInfo)) (last : Nat) : List CpInfo := es.foldr (fun e r => gap e.1 (e.2 :: r)) (gap last [])
def pool (es : List (Nat × CpInfo)) (last : Nat) : Array CpInfo := ⟨poolList es last⟩
def fileOf (pool : Array CpInfo) (this : Nat) (attrs : Array Attribute := #[]) (ms : Array MethodInfo := #[]) (fl : Nat := 33) (sup : Nat := 0) (ifs : Array Nat := #[]) (fds : Array FieldInfo := #[]) : ClassFile where
  minorVersion := 0
  majorVersion := 65
  constantPool := pool
  accessFlags := fl
  thisClass := this
  superClass := sup
  interfaces := ifs
  fields := fds
  methods := ms
  attributes := attrs
def plain (name : String) (sup : Option ClassId) : Class where
  name := name
  kind := .ordinary
  loader := none
  accessFlags := 33
  super := sup
  interfaces := #[]
  cf := none
  fields := #[]
  methods := #[]
  instanceTypes := #[]
  staticTypes := #[]
  resolved := #[]
  callSites := []
  init := .initialized
  statics := none
  mirror := none

def pool0 : Array CpInfo := pool [(5, u "<init>"), (0, u "()V"), (1, .class_ 10), (1, u "java/lang/Object")] 113

def k0c0 : Code := { maxStack := 0, maxLocals := 1, code := object_method_1_code, exceptionTable := #[], attributes := #[] }
def k0m0 : Method := { name := "<init>", desc := "()V", sig := { parameters := [], returnType := none }, accessFlags := 1, code := some k0c0 }
/-- java/lang/Object -/
def k0 : Class := { plain "java/lang/Object" none with
  accessFlags := 33
  interfaces := #[]
  cf := some (fileOf pool0 8 #[] #[{ accessFlags := 1, nameIndex := 5, descriptorIndex := 6, attributes := #[] }] 33 0 #[] #[])
  fields := #[]
  methods := #[k0m0]
  instanceTypes := #[]
  staticTypes := #[]
  resolved := Array.replicate 124 none
  statics := none }

def pool1 : Array CpInfo := pool [(2, .class_ 4), (1, u "java/lang/Object"), (0, u "<init>"), (0, u "()V"), (0, .integer 65535), (0, .fieldref 9 10), (0, .class_ 11), (0, .nameAndType 12 13), (0, u "com/example/wayfront/wayfront/decision/Criterion$Direction"), (0, u "MAX"), (0, u "Lcom/example/wayfront/wayfront/decision/Criterion$Direction;"), (0, .fieldref 9 15), (0, .nameAndType 16 13), (0, u "MIN"), (0, .class_ 18), (0, u "com/example/wayfront/wayfront/decision/Criterion"), (0, .class_ 20), (0, u "java/lang/String"), (0, .methodref 19 22), (0, .nameAndType 5 23), (0, u "([C)V"), (0, .methodref 17 25), (0, .nameAndType 5 26), (0, u "(Ljava/lang/String;Lcom/example/wayfront/wayfront/decision/Criterion$Direction;DDD)V"), (0, .double 4616189618054758400), (1, .methodref 17 30), (0, .nameAndType 31 32), (0, u "discordance"), (0, u "(D)D"), (0, .class_ 34), (0, u "com/example/wayfront/wayfront/decision/CriterionDiscordancePinLaw"), (2, u "law"), (0, u "(IIIIII)Z")] 7

def k1m0 : Method := { name := "<init>", desc := "()V", sig := { parameters := [], returnType := none }, accessFlags := 1, code := none }
def k1c1 : Code := { maxStack := 10, maxLocals := 21, code := code, exceptionTable := #[], attributes := #[] }
def k1m1 : Method := { name := "law", desc := "(IIIIII)Z", sig := { parameters := [.int, .int, .int, .int, .int, .int], returnType := some .boolean }, accessFlags := 9, code := some k1c1 }
/-- com/example/wayfront/wayfront/decision/CriterionDiscordancePinLaw -/
def k1 : Class := { plain "com/example/wayfront/wayfront/decision/CriterionDiscordancePinLaw" (some 0) with
  accessFlags := 49
  interfaces := #[]
  cf := some (fileOf pool1 33 #[] #[{ accessFlags := 1, nameIndex := 5, descriptorIndex := 6, attributes := #[] }, { accessFlags := 9, nameIndex := 37, descriptorIndex := 38, attributes := #[] }] 49 2 #[] #[])
  fields := #[]
  methods := #[k1m0, k1m1]
  instanceTypes := #[]
  staticTypes := #[]
  resolved := Array.replicate 46 none
  statics := none }

def pool2 : Array CpInfo := pool [(1, .class_ 2), (0, u "java/lang/constant/Constable"), (0, .class_ 4), (0, u "java/lang/Object")] 6

/-- java/lang/constant/Constable -/
def k2 : Class := { plain "java/lang/constant/Constable" (some 0) with
  accessFlags := 1537
  interfaces := #[]
  cf := some (fileOf pool2 1 #[] #[] 1537 3 #[] #[])
  fields := #[]
  methods := #[]
  instanceTypes := #[]
  staticTypes := #[]
  resolved := Array.replicate 11 none
  statics := none }

def pool3 : Array CpInfo := pool [(1, .class_ 2), (0, u "java/lang/Comparable"), (0, .class_ 4), (0, u "java/lang/Object")] 7

/-- java/lang/Comparable -/
def k3 : Class := { plain "java/lang/Comparable" (some 0) with
  accessFlags := 1537
  interfaces := #[]
  cf := some (fileOf pool3 1 #[] #[] 1537 3 #[] #[])
  fields := #[]
  methods := #[]
  instanceTypes := #[]
  staticTypes := #[]
  resolved := Array.replicate 12 none
  statics := none }

def pool4 : Array CpInfo := pool [(1, .class_ 2), (0, u "java/io/Serializable"), (0, .class_ 4), (0, u "java/lang/Object")] 2

/-- java/io/Serializable -/
def k4 : Class := { plain "java/io/Serializable" (some 0) with
  accessFlags := 1537
  interfaces := #[]
  cf := some (fileOf pool4 1 #[] #[] 1537 3 #[] #[])
  fields := #[]
  methods := #[]
  instanceTypes := #[]
  staticTypes := #[]
  resolved := Array.replicate 7 none
  statics := none }

def pool5 : Array CpInfo := pool [(2, .class_ 4), (1, u "java/lang/Enum"), (0, u "name"), (0, u "Ljava/lang/String;"), (2, u "ordinal"), (0, u "I"), (1, .class_ 14), (1, u "java/lang/Object"), (4, u "hash"), (86, .class_ 108), (1, u "java/lang/Enum$EnumDesc"), (2, .class_ 112), (0, u "java/lang/constant/Constable"), (0, .class_ 114), (0, u "java/lang/Comparable"), (0, .class_ 116), (0, u "java/io/Serializable")] 87

/-- java/lang/Enum -/
def k5 : Class := { plain "java/lang/Enum" (some 0) with
  accessFlags := 1057
  interfaces := #[2, 3, 4]
  cf := some (fileOf pool5 2 #[.nestMembers #[106]] #[] 1057 12 #[111, 113, 115] #[{ accessFlags := 18, nameIndex := 5, descriptorIndex := 6, attributes := #[] }, { accessFlags := 18, nameIndex := 9, descriptorIndex := 10, attributes := #[] }, { accessFlags := 2, nameIndex := 19, descriptorIndex := 10, attributes := #[] }])
  fields := #[{ name := "name", type := (.object "java/lang/String"), accessFlags := 18, slot := 0, constantValue := 0 }, { name := "ordinal", type := .int, accessFlags := 18, slot := 1, constantValue := 0 }, { name := "hash", type := .int, accessFlags := 2, slot := 2, constantValue := 0 }]
  methods := #[]
  instanceTypes := #[(.object "java/lang/String"), .int, .int]
  staticTypes := #[]
  resolved := Array.replicate 204 none
  statics := none }

def pool6 : Array CpInfo := pool [(1, .class_ 2), (0, u "com/example/wayfront/wayfront/decision/Criterion$Direction"), (2, u "MAX"), (0, u "Lcom/example/wayfront/wayfront/decision/Criterion$Direction;"), (2, u "MIN"), (2, u "$VALUES"), (0, u "[Lcom/example/wayfront/wayfront/decision/Criterion$Direction;"), (6, .class_ 22), (1, u "java/lang/Enum"), (25, .class_ 49), (0, u "com/example/wayfront/wayfront/decision/Criterion")] 2

/-- com/example/wayfront/wayfront/decision/Criterion$Direction -/
def k6 : Class := { plain "com/example/wayfront/wayfront/decision/Criterion$Direction" (some 5) with
  accessFlags := 16433
  interfaces := #[]
  cf := some (fileOf pool6 1 #[.nestHost 48] #[] 16433 20 #[] #[{ accessFlags := 16409, nameIndex := 5, descriptorIndex := 6, attributes := #[] }, { accessFlags := 16409, nameIndex := 9, descriptorIndex := 6, attributes := #[] }, { accessFlags := 4122, nameIndex := 12, descriptorIndex := 13, attributes := #[] }])
  fields := #[{ name := "MAX", type := (.object "com/example/wayfront/wayfront/decision/Criterion$Direction"), accessFlags := 16409, slot := 0, constantValue := 0 }, { name := "MIN", type := (.object "com/example/wayfront/wayfront/decision/Criterion$Direction"), accessFlags := 16409, slot := 1, constantValue := 0 }, { name := "$VALUES", type := (.array (.object "com/example/wayfront/wayfront/decision/Criterion$Direction")), accessFlags := 4122, slot := 2, constantValue := 0 }]
  methods := #[]
  instanceTypes := #[(.object "java/lang/String"), .int, .int]
  staticTypes := #[(.object "com/example/wayfront/wayfront/decision/Criterion$Direction"), (.object "com/example/wayfront/wayfront/decision/Criterion$Direction"), (.array (.object "com/example/wayfront/wayfront/decision/Criterion$Direction"))]
  resolved := Array.replicate 52 none
  statics := some 0 }

def pool7 : Array CpInfo := pool [(1, .methodref 2 3), (0, .class_ 4), (0, .nameAndType 5 6), (0, u "java/lang/Object"), (0, u "<init>"), (0, u "()V"), (0, .class_ 8), (0, u "java/lang/Record")] 13

def k7c0 : Code := { maxStack := 1, maxLocals := 1, code := jdk_30_method_1_code, exceptionTable := #[], attributes := #[] }
def k7m0 : Method := { name := "<init>", desc := "()V", sig := { parameters := [], returnType := none }, accessFlags := 4, code := some k7c0 }
/-- java/lang/Record -/
def k7 : Class := { plain "java/lang/Record" (some 0) with
  accessFlags := 1057
  interfaces := #[]
  cf := some (fileOf pool7 7 #[] #[{ accessFlags := 4, nameIndex := 5, descriptorIndex := 6, attributes := #[] }] 1057 2 #[] #[])
  fields := #[]
  methods := #[k7m0]
  instanceTypes := #[]
  staticTypes := #[]
  resolved := Array.replicate 22 none
  statics := none }

def pool8 : Array CpInfo := pool [(1, .methodref 2 3), (0, .class_ 4), (0, .nameAndType 5 6), (0, u "java/lang/Record"), (0, u "<init>"), (0, u "()V"), (0, .methodref 8 9), (0, .class_ 10), (0, .nameAndType 11 12), (0, u "java/lang/String"), (0, u "isEmpty"), (0, u "()Z"), (9, .methodref 23 24), (0, .class_ 25), (0, .nameAndType 26 27), (0, u "java/lang/Double"), (0, u "isFinite"), (0, u "(D)Z"), (7, .fieldref 36 37), (0, .class_ 38), (0, .nameAndType 39 40), (0, u "com/example/wayfront/wayfront/decision/Criterion"), (0, u "name"), (0, u "Ljava/lang/String;"), (0, .fieldref 36 42), (0, .nameAndType 43 44), (0, u "direction"), (0, u "Lcom/example/wayfront/wayfront/decision/Criterion$Direction;"), (0, .fieldref 36 46), (0, .nameAndType 47 48), (0, u "indifference"), (0, u "D"), (0, .fieldref 36 50), (0, .nameAndType 51 48), (0, u "preference"), (0, .fieldref 36 53), (0, .nameAndType 54 48), (0, u "veto"), (1, .class_ 58), (1, u "com/example/wayfront/wayfront/decision/Criterion$Direction"), (13, u "(Ljava/lang/String;Lcom/example/wayfront/wayfront/decision/Criterion$Direction;DDD)V"), (7, u "(D)D"), (0, u "discordance")] 41

def k8c0 : Code := { maxStack := 9, maxLocals := 9, code := prog_21_method_1_code, exceptionTable := #[], attributes := #[] }
def k8m0 : Method := { name := "<init>", desc := "(Ljava/lang/String;Lcom/example/wayfront/wayfront/decision/Criterion$Direction;DDD)V", sig := { parameters := [(.object "java/lang/String"), (.object "com/example/wayfront/wayfront/decision/Criterion$Direction"), .double, .double, .double], returnType := none }, accessFlags := 1, code := some k8c0 }
def k8c1 : Code := { maxStack := 6, maxLocals := 3, code := prog_21_method_4_code, exceptionTable := #[], attributes := #[] }
def k8m1 : Method := { name := "discordance", desc := "(D)D", sig := { parameters := [.double], returnType := some .double }, accessFlags := 1, code := some k8c1 }
/-- com/example/wayfront/wayfront/decision/Criterion -/
def k8 : Class := { plain "com/example/wayfront/wayfront/decision/Criterion" (some 7) with
  accessFlags := 49
  interfaces := #[]
  cf := some (fileOf pool8 36 #[.nestMembers #[56]] #[{ accessFlags := 1, nameIndex := 5, descriptorIndex := 72, attributes := #[] }, { accessFlags := 1, nameIndex := 81, descriptorIndex := 80, attributes := #[] }] 49 2 #[] #[{ accessFlags := 18, nameIndex := 39, descriptorIndex := 40, attributes := #[] }, { accessFlags := 18, nameIndex := 43, descriptorIndex := 44, attributes := #[] }, { accessFlags := 18, nameIndex := 47, descriptorIndex := 48, attributes := #[] }, { accessFlags := 18, nameIndex := 51, descriptorIndex := 48, attributes := #[] }, { accessFlags := 18, nameIndex := 54, descriptorIndex := 48, attributes := #[] }])
  fields := #[{ name := "name", type := (.object "java/lang/String"), accessFlags := 18, slot := 0, constantValue := 0 }, { name := "direction", type := (.object "com/example/wayfront/wayfront/decision/Criterion$Direction"), accessFlags := 18, slot := 1, constantValue := 0 }, { name := "indifference", type := .double, accessFlags := 18, slot := 2, constantValue := 0 }, { name := "preference", type := .double, accessFlags := 18, slot := 3, constantValue := 0 }, { name := "veto", type := .double, accessFlags := 18, slot := 4, constantValue := 0 }]
  methods := #[k8m0, k8m1]
  instanceTypes := #[(.object "java/lang/String"), (.object "com/example/wayfront/wayfront/decision/Criterion$Direction"), .double, .double, .double]
  staticTypes := #[]
  resolved := Array.replicate 123 none
  statics := none }

def pool9 : Array CpInfo := pool [(2, .class_ 4), (1, u "java/lang/CharSequence"), (42, .class_ 48), (0, u "java/lang/CharSequence$1CodePointIterator"), (10, .class_ 60), (0, u "java/lang/CharSequence$1CharIterator"), (5, .class_ 67), (0, u "java/lang/Object")] 63

/-- java/lang/CharSequence -/
def k9 : Class := { plain "java/lang/CharSequence" (some 0) with
  accessFlags := 1537
  interfaces := #[]
  cf := some (fileOf pool9 2 #[.nestMembers #[47, 59]] #[] 1537 66 #[] #[])
  fields := #[]
  methods := #[]
  instanceTypes := #[]
  staticTypes := #[]
  resolved := Array.replicate 131 none
  statics := none }

def pool10 : Array CpInfo := pool [(1, .class_ 2), (0, u "java/lang/constant/ConstantDesc"), (0, .class_ 4), (0, u "java/lang/Object")] 32

/-- java/lang/constant/ConstantDesc -/
def k10 : Class := { plain "java/lang/constant/ConstantDesc" (some 0) with
  accessFlags := 1537
  interfaces := #[]
  cf := some (fileOf pool10 1 #[] #[] 1537 3 #[] #[])
  fields := #[]
  methods := #[]
  instanceTypes := #[]
  staticTypes := #[]
  resolved := Array.replicate 37 none
  statics := none }

def pool11 : Array CpInfo := pool [(1, .methodref 2 3), (0, .class_ 4), (0, .nameAndType 5 6), (0, u "java/lang/Object"), (0, u "<init>"), (0, u "()V"), (2, .fieldref 10 11), (0, .class_ 12), (0, .nameAndType 13 14), (0, u "java/lang/String"), (0, u "value"), (0, u "[B"), (0, .fieldref 10 16), (0, .nameAndType 17 18), (0, u "coder"), (0, u "B"), (2, u "hash"), (0, u "I"), (2, u "hashIsZero"), (0, u "Z"), (0, .methodref 10 28), (0, .nameAndType 5 29), (0, u "([CIILjava/lang/Void;)V"), (8, .fieldref 10 39), (0, .nameAndType 40 26), (0, u "COMPACT_STRINGS"), (1, .class_ 44), (1, u "java/lang/StringUTF16"), (0, u "compress"), (1, .methodref 42 48), (0, .nameAndType 49 50), (0, u "coderFromArrayLen"), (0, u "([BI)B"), (91, u "()Z"), (34, .methodref 42 178), (0, .nameAndType 45 179), (0, u "([CII)[B"), (395, .class_ 576), (0, u "java/lang/CharSequence"), (22, u "CASE_INSENSITIVE_ORDER"), (0, u "Ljava/util/Comparator;"), (91, u "isEmpty"), (317, u "([C)V"), (90, u "serialPersistentFields"), (0, u "[Ljava/io/ObjectStreamField;"), (0, .class_ 1104), (0, u "java/lang/String$CaseInsensitiveComparator"), (1, .class_ 1107), (0, u "java/io/Serializable"), (0, .class_ 1109), (0, u "java/lang/Comparable"), (0, .class_ 1111), (0, u "java/lang/constant/Constable"), (0, .class_ 1113), (0, u "java/lang/constant/ConstantDesc"), (2, u "serialVersionUID"), (0, u "J"), (3, u "REPL"), (0, u "C"), (2, u "LATIN1"), (1, u "UTF16")] 323

def k11m0 : Method := { name := "<init>", desc := "()V", sig := { parameters := [], returnType := none }, accessFlags := 1, code := none }
def k11c1 : Code := { maxStack := 5, maxLocals := 2, code := jdk_42_method_3_code, exceptionTable := #[], attributes := #[] }
def k11m1 : Method := { name := "<init>", desc := "([C)V", sig := { parameters := [(.array .char)], returnType := none }, accessFlags := 1, code := some k11c1 }
def k11c2 : Code := { maxStack := 1, maxLocals := 1, code := jdk_42_method_55_code, exceptionTable := #[], attributes := #[] }
def k11m2 : Method := { name := "isEmpty", desc := "()Z", sig := { parameters := [], returnType := some .boolean }, accessFlags := 1, code := some k11c2 }
def k11c3 : Code := { maxStack := 4, maxLocals := 6, code := jdk_42_method_149_code, exceptionTable := #[], attributes := #[] }
def k11m3 : Method := { name := "<init>", desc := "([CIILjava/lang/Void;)V", sig := { parameters := [(.array .char), .int, .int, (.object "java/lang/Void")], returnType := none }, accessFlags := 2, code := some k11c3 }
/-- java/lang/String -/
def k11 : Class := { plain "java/lang/String" (some 0) with
  accessFlags := 49
  interfaces := #[4, 3, 9, 2, 10]
  cf := some (fileOf pool11 10 #[.nestMembers #[1103]] #[{ accessFlags := 1, nameIndex := 5, descriptorIndex := 6, attributes := #[] }, { accessFlags := 1, nameIndex := 5, descriptorIndex := 1010, attributes := #[] }, { accessFlags := 1, nameIndex := 692, descriptorIndex := 142, attributes := #[] }, { accessFlags := 2, nameIndex := 5, descriptorIndex := 29, attributes := #[] }] 49 2 #[1106, 1108, 575, 1110, 1112] #[{ accessFlags := 18, nameIndex := 13, descriptorIndex := 14, attributes := #[] }, { accessFlags := 18, nameIndex := 17, descriptorIndex := 18, attributes := #[] }, { accessFlags := 2, nameIndex := 21, descriptorIndex := 22, attributes := #[] }, { accessFlags := 2, nameIndex := 25, descriptorIndex := 26, attributes := #[] }, { accessFlags := 26, nameIndex := 1116, descriptorIndex := 1117, attributes := #[] }, { accessFlags := 24, nameIndex := 40, descriptorIndex := 26, attributes := #[] }, { accessFlags := 26, nameIndex := 1101, descriptorIndex := 1102, attributes := #[] }, { accessFlags := 26, nameIndex := 1121, descriptorIndex := 1122, attributes := #[] }, { accessFlags := 25, nameIndex := 599, descriptorIndex := 600, attributes := #[] }, { accessFlags := 24, nameIndex := 1125, descriptorIndex := 18, attributes := #[] }, { accessFlags := 24, nameIndex := 1127, descriptorIndex := 18, attributes := #[] }])
  fields := #[{ name := "value", type := (.array .byte), accessFlags := 18, slot := 0, constantValue := 0 }, { name := "coder", type := .byte, accessFlags := 18, slot := 1, constantValue := 0 }, { name := "hash", type := .int, accessFlags := 2, slot := 2, constantValue := 0 }, { name := "hashIsZero", type := .boolean, accessFlags := 2, slot := 3, constantValue := 0 }, { name := "serialVersionUID", type := .long, accessFlags := 26, slot := 0, constantValue := 0 }, { name := "COMPACT_STRINGS", type := .boolean, accessFlags := 24, slot := 1, constantValue := 0 }, { name := "serialPersistentFields", type := (.array (.object "java/io/ObjectStreamField")), accessFlags := 26, slot := 2, constantValue := 0 }, { name := "REPL", type := .char, accessFlags := 26, slot := 3, constantValue := 0 }, { name := "CASE_INSENSITIVE_ORDER", type := (.object "java/util/Comparator"), accessFlags := 25, slot := 4, constantValue := 0 }, { name := "LATIN1", type := .byte, accessFlags := 24, slot := 5, constantValue := 0 }, { name := "UTF16", type := .byte, accessFlags := 24, slot := 6, constantValue := 0 }]
  methods := #[k11m0, k11m1, k11m2, k11m3]
  instanceTypes := #[(.array .byte), .byte, .int, .boolean]
  staticTypes := #[.long, .boolean, (.array (.object "java/io/ObjectStreamField")), .char, (.object "java/util/Comparator"), .byte, .byte]
  resolved := Array.replicate 1451 none
  statics := some 1 }

def pool12 : Array CpInfo := pool [(6, .class_ 8), (1, u "java/lang/Object"), (0, u "<init>"), (0, u "()V"), (1, .class_ 14), (1, u "java/lang/StringUTF16"), (31, u "$assertionsDisabled"), (0, u "Z"), (13, u "HI_BYTE_SHIFT"), (0, u "I"), (2, u "LO_BYTE_SHIFT"), (49, .methodref 12 116), (0, .nameAndType 117 118), (0, u "compress"), (0, u "([CI[BII)I"), (3, u "([CII)[B"), (138, u "coderFromArrayLen"), (0, u "([BI)B"), (106, .class_ 371), (1, u "java/lang/StringUTF16$LinesSpliterator"), (58, u "MAX_LENGTH"), (196, .class_ 628), (0, u "java/lang/StringUTF16$CodePointsSpliterator"), (0, .class_ 630), (0, u "java/lang/StringUTF16$CharsSpliterator")] 4

def k12m0 : Method := { name := "<init>", desc := "()V", sig := { parameters := [], returnType := none }, accessFlags := 0, code := none }
def k12c1 : Code := { maxStack := 2, maxLocals := 2, code := jdk_52_method_15_code, exceptionTable := #[], attributes := #[] }
def k12m1 : Method := { name := "coderFromArrayLen", desc := "([BI)B", sig := { parameters := [(.array .byte), .int], returnType := some .byte }, accessFlags := 8, code := some k12c1 }
def k12c2 : Code := { maxStack := 5, maxLocals := 6, code := jdk_52_method_16_code, exceptionTable := #[], attributes := #[] }
def k12m2 : Method := { name := "compress", desc := "([CII)[B", sig := { parameters := [(.array .char), .int, .int], returnType := some (.array .byte) }, accessFlags := 9, code := some k12c2 }
def k12c3 : Code := { maxStack := 3, maxLocals := 7, code := jdk_52_method_21_code, exceptionTable := #[], attributes := #[] }
def k12m3 : Method := { name := "compress", desc := "([CI[BII)I", sig := { parameters := [(.array .char), .int, (.array .byte), .int, .int], returnType := some .int }, accessFlags := 9, code := some k12c3 }
/-- java/lang/StringUTF16 -/
def k12 : Class := { plain "java/lang/StringUTF16" (some 0) with
  accessFlags := 48
  interfaces := #[]
  cf := some (fileOf pool12 12 #[.nestMembers #[627, 629, 369]] #[{ accessFlags := 0, nameIndex := 9, descriptorIndex := 10, attributes := #[] }, { accessFlags := 8, nameIndex := 261, descriptorIndex := 262, attributes := #[] }, { accessFlags := 9, nameIndex := 117, descriptorIndex := 122, attributes := #[] }, { accessFlags := 9, nameIndex := 117, descriptorIndex := 118, attributes := #[] }] 48 6 #[] #[{ accessFlags := 26, nameIndex := 61, descriptorIndex := 62, attributes := #[] }, { accessFlags := 26, nameIndex := 65, descriptorIndex := 62, attributes := #[] }, { accessFlags := 24, nameIndex := 430, descriptorIndex := 62, attributes := #[] }, { accessFlags := 4120, nameIndex := 46, descriptorIndex := 47, attributes := #[] }])
  fields := #[{ name := "HI_BYTE_SHIFT", type := .int, accessFlags := 26, slot := 0, constantValue := 0 }, { name := "LO_BYTE_SHIFT", type := .int, accessFlags := 26, slot := 1, constantValue := 0 }, { name := "MAX_LENGTH", type := .int, accessFlags := 24, slot := 2, constantValue := 0 }, { name := "$assertionsDisabled", type := .boolean, accessFlags := 4120, slot := 3, constantValue := 0 }]
  methods := #[k12m0, k12m1, k12m2, k12m3]
  instanceTypes := #[]
  staticTypes := #[.int, .int, .int, .boolean]
  resolved := Array.replicate 635 none
  statics := none }

def pool13 : Array CpInfo := pool [(2, .class_ 4), (1, u "java/lang/Object"), (0, u "<init>"), (0, u "()V"), (1, .class_ 10), (1, u "java/lang/Number"), (2, .class_ 14), (0, u "java/io/Serializable"), (0, u "serialVersionUID"), (0, u "J")] 20

def k13m0 : Method := { name := "<init>", desc := "()V", sig := { parameters := [], returnType := none }, accessFlags := 1, code := none }
/-- java/lang/Number -/
def k13 : Class := { plain "java/lang/Number" (some 0) with
  accessFlags := 1057
  interfaces := #[4]
  cf := some (fileOf pool13 8 #[] #[{ accessFlags := 1, nameIndex := 5, descriptorIndex := 6, attributes := #[] }] 1057 2 #[13] #[{ accessFlags := 26, nameIndex := 15, descriptorIndex := 16, attributes := #[] }])
  fields := #[{ name := "serialVersionUID", type := .long, accessFlags := 26, slot := 0, constantValue := 0 }]
  methods := #[k13m0]
  instanceTypes := #[]
  staticTypes := #[.long]
  resolved := Array.replicate 37 none
  statics := none }

def pool14 : Array CpInfo := pool [(1, .class_ 2), (0, u "java/lang/Double"), (10, u "isFinite"), (0, u "(D)Z"), (8, .class_ 25), (1, u "java/lang/Math"), (12, .methodref 23 39), (0, .nameAndType 40 41), (0, u "abs"), (0, u "(D)D"), (69, .double 9218868437227405311), (2, .class_ 116), (1, u "java/lang/Number"), (3, u "value"), (0, u "D"), (51, u "TYPE"), (0, u "Ljava/lang/Class;"), (0, .class_ 176), (0, u "java/lang/Comparable"), (0, .class_ 178), (0, u "java/lang/constant/Constable"), (0, .class_ 180), (0, u "java/lang/constant/ConstantDesc"), (0, u "POSITIVE_INFINITY"), (3, u "NEGATIVE_INFINITY"), (2, u "NaN"), (2, u "MAX_VALUE"), (0, u "MIN_NORMAL"), (0, u "MIN_VALUE"), (2, u "SIZE"), (0, u "I"), (1, u "PRECISION"), (1, u "MAX_EXPONENT"), (1, u "MIN_EXPONENT"), (1, u "BYTES"), (3, u "serialVersionUID"), (0, u "J")] 79

def k14c0 : Code := { maxStack := 4, maxLocals := 2, code := jdk_117_method_8_code, exceptionTable := #[], attributes := #[] }
def k14m0 : Method := { name := "isFinite", desc := "(D)Z", sig := { parameters := [.double], returnType := some .boolean }, accessFlags := 9, code := some k14c0 }
/-- java/lang/Double -/
def k14 : Class := { plain "java/lang/Double" (some 13) with
  accessFlags := 49
  interfaces := #[3, 2, 10]
  cf := some (fileOf pool14 1 #[] #[{ accessFlags := 9, nameIndex := 13, descriptorIndex := 14, attributes := #[] }] 49 114 #[175, 177, 179] #[{ accessFlags := 25, nameIndex := 181, descriptorIndex := 121, attributes := #[] }, { accessFlags := 25, nameIndex := 185, descriptorIndex := 121, attributes := #[] }, { accessFlags := 25, nameIndex := 188, descriptorIndex := 121, attributes := #[] }, { accessFlags := 25, nameIndex := 191, descriptorIndex := 121, attributes := #[] }, { accessFlags := 25, nameIndex := 192, descriptorIndex := 121, attributes := #[] }, { accessFlags := 25, nameIndex := 193, descriptorIndex := 121, attributes := #[] }, { accessFlags := 25, nameIndex := 196, descriptorIndex := 197, attributes := #[] }, { accessFlags := 25, nameIndex := 199, descriptorIndex := 197, attributes := #[] }, { accessFlags := 25, nameIndex := 201, descriptorIndex := 197, attributes := #[] }, { accessFlags := 25, nameIndex := 203, descriptorIndex := 197, attributes := #[] }, { accessFlags := 25, nameIndex := 205, descriptorIndex := 197, attributes := #[] }, { accessFlags := 25, nameIndex := 173, descriptorIndex := 174, attributes := #[] }, { accessFlags := 18, nameIndex := 120, descriptorIndex := 121, attributes := #[] }, { accessFlags := 26, nameIndex := 209, descriptorIndex := 210, attributes := #[] }])
  fields := #[{ name := "POSITIVE_INFINITY", type := .double, accessFlags := 25, slot := 0, constantValue := 0 }, { name := "NEGATIVE_INFINITY", type := .double, accessFlags := 25, slot := 1, constantValue := 0 }, { name := "NaN", type := .double, accessFlags := 25, slot := 2, constantValue := 0 }, { name := "MAX_VALUE", type := .double, accessFlags := 25, slot := 3, constantValue := 0 }, { name := "MIN_NORMAL", type := .double, accessFlags := 25, slot := 4, constantValue := 0 }, { name := "MIN_VALUE", type := .double, accessFlags := 25, slot := 5, constantValue := 0 }, { name := "SIZE", type := .int, accessFlags := 25, slot := 6, constantValue := 0 }, { name := "PRECISION", type := .int, accessFlags := 25, slot := 7, constantValue := 0 }, { name := "MAX_EXPONENT", type := .int, accessFlags := 25, slot := 8, constantValue := 0 }, { name := "MIN_EXPONENT", type := .int, accessFlags := 25, slot := 9, constantValue := 0 }, { name := "BYTES", type := .int, accessFlags := 25, slot := 10, constantValue := 0 }, { name := "TYPE", type := (.object "java/lang/Class"), accessFlags := 25, slot := 11, constantValue := 0 }, { name := "value", type := .double, accessFlags := 18, slot := 0, constantValue := 0 }, { name := "serialVersionUID", type := .long, accessFlags := 26, slot := 12, constantValue := 0 }]
  methods := #[k14m0]
  instanceTypes := #[.double]
  staticTypes := #[.double, .double, .double, .double, .double, .double, .int, .int, .int, .int, .int, (.object "java/lang/Class"), .long]
  resolved := Array.replicate 290 none
  statics := none }

def pool15 : Array CpInfo := pool [(1, .class_ 2), (0, u "java/lang/Math"), (1, .class_ 6), (1, u "java/lang/Object"), (0, u "<init>"), (0, u "()V"), (5, u "(D)D"), (83, .class_ 100), (1, u "java/lang/Math$RandomNumberGeneratorHolder"), (23, u "abs"), (47, u "negativeZeroFloatBits"), (0, u "J"), (2, u "negativeZeroDoubleBits"), (68, u "$assertionsDisabled"), (0, u "Z"), (91, u "twoToTheDoubleScaleDown"), (0, u "D"), (4, u "twoToTheDoubleScaleUp"), (9, u "E"), (3, u "PI"), (2, u "TAU"), (2, u "DEGREES_TO_RADIANS"), (0, u "RADIANS_TO_DEGREES")] 94

def k15m0 : Method := { name := "<init>", desc := "()V", sig := { parameters := [], returnType := none }, accessFlags := 2, code := none }
def k15c1 : Code := { maxStack := 4, maxLocals := 2, code := jdk_29_method_64_code, exceptionTable := #[], attributes := #[] }
def k15m1 : Method := { name := "abs", desc := "(D)D", sig := { parameters := [.double], returnType := some .double }, accessFlags := 9, code := some k15c1 }
/-- java/lang/Math -/
def k15 : Class := { plain "java/lang/Math" (some 0) with
  accessFlags := 49
  interfaces := #[]
  cf := some (fileOf pool15 1 #[.nestMembers #[98]] #[{ accessFlags := 2, nameIndex := 7, descriptorIndex := 8, attributes := #[] }, { accessFlags := 9, nameIndex := 124, descriptorIndex := 14, attributes := #[] }] 49 4 #[] #[{ accessFlags := 25, nameIndex := 354, descriptorIndex := 339, attributes := #[] }, { accessFlags := 25, nameIndex := 358, descriptorIndex := 339, attributes := #[] }, { accessFlags := 25, nameIndex := 361, descriptorIndex := 339, attributes := #[] }, { accessFlags := 26, nameIndex := 364, descriptorIndex := 339, attributes := #[] }, { accessFlags := 26, nameIndex := 365, descriptorIndex := 339, attributes := #[] }, { accessFlags := 26, nameIndex := 172, descriptorIndex := 173, attributes := #[] }, { accessFlags := 26, nameIndex := 176, descriptorIndex := 173, attributes := #[] }, { accessFlags := 8, nameIndex := 344, descriptorIndex := 339, attributes := #[] }, { accessFlags := 8, nameIndex := 338, descriptorIndex := 339, attributes := #[] }, { accessFlags := 4120, nameIndex := 245, descriptorIndex := 246, attributes := #[] }])
  fields := #[{ name := "E", type := .double, accessFlags := 25, slot := 0, constantValue := 0 }, { name := "PI", type := .double, accessFlags := 25, slot := 1, constantValue := 0 }, { name := "TAU", type := .double, accessFlags := 25, slot := 2, constantValue := 0 }, { name := "DEGREES_TO_RADIANS", type := .double, accessFlags := 26, slot := 3, constantValue := 0 }, { name := "RADIANS_TO_DEGREES", type := .double, accessFlags := 26, slot := 4, constantValue := 0 }, { name := "negativeZeroFloatBits", type := .long, accessFlags := 26, slot := 5, constantValue := 0 }, { name := "negativeZeroDoubleBits", type := .long, accessFlags := 26, slot := 6, constantValue := 0 }, { name := "twoToTheDoubleScaleUp", type := .double, accessFlags := 8, slot := 7, constantValue := 0 }, { name := "twoToTheDoubleScaleDown", type := .double, accessFlags := 8, slot := 8, constantValue := 0 }, { name := "$assertionsDisabled", type := .boolean, accessFlags := 4120, slot := 9, constantValue := 0 }]
  methods := #[k15m0, k15m1]
  instanceTypes := #[]
  staticTypes := #[.double, .double, .double, .double, .double, .long, .long, .double, .double, .boolean]
  resolved := Array.replicate 460 none
  statics := none }

def pool16 : Array CpInfo := pool [(4, .class_ 6), (1, u "java/lang/Object"), (0, u "<init>"), (0, u "()V"), (5, .class_ 16), (1, u "java/lang/StringLatin1"), (104, u "$assertionsDisabled"), (0, u "Z"), (98, .class_ 223), (1, u "java/lang/StringLatin1$LinesSpliterator"), (166, .class_ 391), (0, u "java/lang/StringLatin1$CharsSpliterator")] 3

def k16m0 : Method := { name := "<init>", desc := "()V", sig := { parameters := [], returnType := none }, accessFlags := 0, code := none }
/-- java/lang/StringLatin1 -/
def k16 : Class := { plain "java/lang/StringLatin1" (some 0) with
  accessFlags := 48
  interfaces := #[]
  cf := some (fileOf pool16 14 #[.nestMembers #[390, 221]] #[{ accessFlags := 0, nameIndex := 7, descriptorIndex := 8, attributes := #[] }] 48 4 #[] #[{ accessFlags := 4120, nameIndex := 121, descriptorIndex := 122, attributes := #[] }])
  fields := #[{ name := "$assertionsDisabled", type := .boolean, accessFlags := 4120, slot := 0, constantValue := 0 }]
  methods := #[k16m0]
  instanceTypes := #[]
  staticTypes := #[.boolean]
  resolved := Array.replicate 395 none
  statics := none }

def pool17 : Array CpInfo := pool [(2, .class_ 4), (1, u "java/lang/Object"), (0, u "<init>"), (0, u "()V"), (17, .class_ 26), (1, u "jdk/internal/util/Preconditions"), (28, .class_ 56), (0, u "jdk/internal/util/Preconditions$4"), (57, .class_ 115), (0, u "jdk/internal/util/Preconditions$1"), (7, u "SIOOBE_FORMATTER"), (0, u "Ljava/util/function/BiFunction;"), (0, .class_ 126), (0, u "jdk/internal/util/Preconditions$2"), (3, u "AIOOBE_FORMATTER"), (0, .class_ 132), (0, u "jdk/internal/util/Preconditions$3"), (3, u "IOOBE_FORMATTER")] 57

def k17m0 : Method := { name := "<init>", desc := "()V", sig := { parameters := [], returnType := none }, accessFlags := 1, code := none }
/-- jdk/internal/util/Preconditions -/
def k17 : Class := { plain "jdk/internal/util/Preconditions" (some 0) with
  accessFlags := 33
  interfaces := #[]
  cf := some (fileOf pool17 24 #[.nestMembers #[55, 131, 125, 114]] #[{ accessFlags := 1, nameIndex := 5, descriptorIndex := 6, attributes := #[] }] 33 2 #[] #[{ accessFlags := 25, nameIndex := 123, descriptorIndex := 124, attributes := #[] }, { accessFlags := 25, nameIndex := 130, descriptorIndex := 124, attributes := #[] }, { accessFlags := 25, nameIndex := 136, descriptorIndex := 124, attributes := #[] }])
  fields := #[{ name := "SIOOBE_FORMATTER", type := (.object "java/util/function/BiFunction"), accessFlags := 25, slot := 0, constantValue := 0 }, { name := "AIOOBE_FORMATTER", type := (.object "java/util/function/BiFunction"), accessFlags := 25, slot := 1, constantValue := 0 }, { name := "IOOBE_FORMATTER", type := (.object "java/util/function/BiFunction"), accessFlags := 25, slot := 2, constantValue := 0 }]
  methods := #[k17m0]
  instanceTypes := #[]
  staticTypes := #[(.object "java/util/function/BiFunction"), (.object "java/util/function/BiFunction"), (.object "java/util/function/BiFunction")]
  resolved := Array.replicate 194 none
  statics := some 2 }

def pool18 : Array CpInfo := pool [(9, u "<init>"), (6, .class_ 18), (1, u "java/lang/Object"), (0, u "()V"), (1, .class_ 23), (1, u "jdk/internal/util/ArraysSupport"), (0, u "LOG2_ARRAY_LONG_INDEX_SCALE"), (0, u "I"), (2, u "U"), (0, u "Ljdk/internal/misc/Unsafe;"), (8, u "BIG_ENDIAN"), (0, u "Z"), (8, u "LOG2_BYTE_BIT_SIZE"), (4, u "LOG2_ARRAY_INT_INDEX_SCALE"), (54, u "JLA"), (0, u "Ljdk/internal/access/JavaLangAccess;"), (11, u "LOG2_ARRAY_BOOLEAN_INDEX_SCALE"), (9, u "LOG2_ARRAY_BYTE_INDEX_SCALE"), (5, u "LOG2_ARRAY_CHAR_INDEX_SCALE"), (5, u "LOG2_ARRAY_SHORT_INDEX_SCALE"), (18, u "LOG2_ARRAY_FLOAT_INDEX_SCALE"), (24, u "LOG2_ARRAY_DOUBLE_INDEX_SCALE"), (89, u "T_BOOLEAN"), (2, u "T_CHAR"), (1, u "T_FLOAT"), (1, u "T_DOUBLE"), (1, u "T_BYTE"), (1, u "T_SHORT"), (1, u "T_INT"), (1, u "T_LONG"), (1, u "SOFT_MAX_ARRAY_LENGTH")] 83

def k18m0 : Method := { name := "<init>", desc := "()V", sig := { parameters := [], returnType := none }, accessFlags := 2, code := none }
/-- jdk/internal/util/ArraysSupport -/
def k18 : Class := { plain "jdk/internal/util/ArraysSupport" (some 0) with
  accessFlags := 33
  interfaces := #[]
  cf := some (fileOf pool18 21 #[] #[{ accessFlags := 2, nameIndex := 9, descriptorIndex := 19, attributes := #[] }] 33 16 #[] #[{ accessFlags := 24, nameIndex := 28, descriptorIndex := 29, attributes := #[] }, { accessFlags := 26, nameIndex := 38, descriptorIndex := 39, attributes := #[] }, { accessFlags := 25, nameIndex := 121, descriptorIndex := 25, attributes := #[] }, { accessFlags := 25, nameIndex := 131, descriptorIndex := 25, attributes := #[] }, { accessFlags := 25, nameIndex := 137, descriptorIndex := 25, attributes := #[] }, { accessFlags := 25, nameIndex := 143, descriptorIndex := 25, attributes := #[] }, { accessFlags := 25, nameIndex := 53, descriptorIndex := 25, attributes := #[] }, { accessFlags := 25, nameIndex := 24, descriptorIndex := 25, attributes := #[] }, { accessFlags := 25, nameIndex := 162, descriptorIndex := 25, attributes := #[] }, { accessFlags := 25, nameIndex := 187, descriptorIndex := 25, attributes := #[] }, { accessFlags := 26, nameIndex := 48, descriptorIndex := 25, attributes := #[] }, { accessFlags := 25, nameIndex := 277, descriptorIndex := 25, attributes := #[] }, { accessFlags := 25, nameIndex := 280, descriptorIndex := 25, attributes := #[] }, { accessFlags := 25, nameIndex := 282, descriptorIndex := 25, attributes := #[] }, { accessFlags := 25, nameIndex := 284, descriptorIndex := 25, attributes := #[] }, { accessFlags := 25, nameIndex := 286, descriptorIndex := 25, attributes := #[] }, { accessFlags := 25, nameIndex := 288, descriptorIndex := 25, attributes := #[] }, { accessFlags := 25, nameIndex := 290, descriptorIndex := 25, attributes := #[] }, { accessFlags := 25, nameIndex := 292, descriptorIndex := 25, attributes := #[] }, { accessFlags := 26, nameIndex := 108, descriptorIndex := 109, attributes := #[] }, { accessFlags := 25, nameIndex := 294, descriptorIndex := 25, attributes := #[] }])
  fields := #[{ name := "U", type := (.object "jdk/internal/misc/Unsafe"), accessFlags := 24, slot := 0, constantValue := 0 }, { name := "BIG_ENDIAN", type := .boolean, accessFlags := 26, slot := 1, constantValue := 0 }, { name := "LOG2_ARRAY_BOOLEAN_INDEX_SCALE", type := .int, accessFlags := 25, slot := 2, constantValue := 0 }, { name := "LOG2_ARRAY_BYTE_INDEX_SCALE", type := .int, accessFlags := 25, slot := 3, constantValue := 0 }, { name := "LOG2_ARRAY_CHAR_INDEX_SCALE", type := .int, accessFlags := 25, slot := 4, constantValue := 0 }, { name := "LOG2_ARRAY_SHORT_INDEX_SCALE", type := .int, accessFlags := 25, slot := 5, constantValue := 0 }, { name := "LOG2_ARRAY_INT_INDEX_SCALE", type := .int, accessFlags := 25, slot := 6, constantValue := 0 }, { name := "LOG2_ARRAY_LONG_INDEX_SCALE", type := .int, accessFlags := 25, slot := 7, constantValue := 0 }, { name := "LOG2_ARRAY_FLOAT_INDEX_SCALE", type := .int, accessFlags := 25, slot := 8, constantValue := 0 }, { name := "LOG2_ARRAY_DOUBLE_INDEX_SCALE", type := .int, accessFlags := 25, slot := 9, constantValue := 0 }, { name := "LOG2_BYTE_BIT_SIZE", type := .int, accessFlags := 26, slot := 10, constantValue := 0 }, { name := "T_BOOLEAN", type := .int, accessFlags := 25, slot := 11, constantValue := 0 }, { name := "T_CHAR", type := .int, accessFlags := 25, slot := 12, constantValue := 0 }, { name := "T_FLOAT", type := .int, accessFlags := 25, slot := 13, constantValue := 0 }, { name := "T_DOUBLE", type := .int, accessFlags := 25, slot := 14, constantValue := 0 }, { name := "T_BYTE", type := .int, accessFlags := 25, slot := 15, constantValue := 0 }, { name := "T_SHORT", type := .int, accessFlags := 25, slot := 16, constantValue := 0 }, { name := "T_INT", type := .int, accessFlags := 25, slot := 17, constantValue := 0 }, { name := "T_LONG", type := .int, accessFlags := 25, slot := 18, constantValue := 0 }, { name := "JLA", type := (.object "jdk/internal/access/JavaLangAccess"), accessFlags := 26, slot := 19, constantValue := 0 }, { name := "SOFT_MAX_ARRAY_LENGTH", type := .int, accessFlags := 25, slot := 20, constantValue := 0 }]
  methods := #[k18m0]
  instanceTypes := #[]
  staticTypes := #[(.object "jdk/internal/misc/Unsafe"), .boolean, .int, .int, .int, .int, .int, .int, .int, .int, .int, .int, .int, .int, .int, .int, .int, .int, .int, (.object "jdk/internal/access/JavaLangAccess"), .int]
  resolved := Array.replicate 378 none
  statics := none }

def pool19 : Array CpInfo := pool [(1, u "java/lang/Cloneable"), (0, .class_ 1), (0, u "java/lang/Object"), (0, .class_ 3)] 3

/-- java/lang/Cloneable -/
def k19 : Class := { plain "java/lang/Cloneable" (some 0) with
  accessFlags := 1537
  interfaces := #[]
  cf := some (fileOf pool19 2 #[] #[] 1537 4 #[] #[])
  fields := #[]
  methods := #[]
  instanceTypes := #[]
  staticTypes := #[]
  resolved := Array.replicate 8 none
  statics := none }

/-- the primitive byte -/
def k20 : Class := { plain "byte" none with kind := .primitive 'B', accessFlags := 0x411 }
/-- [B -/
def k21 : Class := { plain "[B" (some 0) with kind := .array 20 .byte, interfaces := #[19, 4], accessFlags := 1041 }

/-- the primitive char -/
def k22 : Class := { plain "char" none with kind := .primitive 'C', accessFlags := 0x411 }
/-- [C -/
def k23 : Class := { plain "[C" (some 0) with kind := .array 22 .char, interfaces := #[19, 4], accessFlags := 1041 }

/-- the primitive int -/
def k24 : Class := { plain "int" none with kind := .primitive 'I', accessFlags := 0x411 }
/-- [I -/
def k25 : Class := { plain "[I" (some 0) with kind := .array 24 .int, interfaces := #[19, 4], accessFlags := 1041 }

def heap : Heap := #[{ cls := 6, slots := #[.ref 3, .ref 4, .null], vm := .statics 6 },
  { cls := 11, slots := #[.long 0, .int 1, .null, .int 0, .null, .int 0, .int 0], vm := .statics 11 },
  { cls := 17, slots := #[.null, .null, .null], vm := .statics 17 },
  { cls := 6, slots := #[.null, .int 0, .int 0], vm := .none },
  { cls := 6, slots := #[.null, .int 1, .int 0], vm := .none }]
def classes : Array Class := #[k0, k1, k2, k3, k4, k5, k6, k7, k8, k9, k10, k11, k12, k13, k14, k15, k16, k17, k18, k19, k20, k21, k22, k23, k24, k25]
def interned : List (Array UInt16 × Addr) := []
def slotsUsed : Nat := 19
def theMethod : MethodId := ⟨1, 1⟩
def args0 : Array Value := #[.int 5, .int 7, .int 3, .int 2, .int 1, .int 65]
def aboutOver (below : List Frame) : State where
  vm := { classes := classes, interned := interned.toArray }
  heap := heap
  slotsUsed := slotsUsed
  threads := #[{ frames := .invoking theMethod args0 :: below }]
def below0 : List Frame := [.native { method := ⟨0, 0⟩, args := #[] }]
def about1 : State := aboutOver below0
def p0 : Program := .bare "" "" ""
def e0 : Env := launch0.env 0 0 0
theorem w_frames : about1.frames = Frame.invoking theMethod args0 :: below0 := rfl
set_option maxRecDepth 65536 in
theorem w_args : argsFit about1.vm theMethod args0 = true := by decide +kernel
set_option maxRecDepth 65536 in
theorem w_heap : heapFits about1 = true := by decide +kernel
set_option maxRecDepth 65536 in
theorem w_runnable : about1.curStatus? = some .runnable := by decide +kernel
set_option maxRecDepth 65536 in
theorem w_alone : about1.alone = true := by decide +kernel
set_option maxRecDepth 65536 in
theorem w_named : about1.methodNamed? x = some theMethod := by decide +kernel
set_option maxRecDepth 65536 in
theorem w_hears : about1.hears theMethod below0 = true := by decide +kernel
set_option maxRecDepth 65536 in
theorem w_ripe : about1.ripe theMethod args0 below0 = true := by decide +kernel
theorem w_running : about1.status = .running := rfl
set_option maxRecDepth 65536 in
theorem w_room : about1.hasRoom e0.platform room_1 = true :=
  launch0.hasRoom_least _ room_1 (by decide +kernel) (by decide +kernel) (by decide +kernel) (by decide +kernel) (by decide +kernel) (by decide +kernel)
theorem allAtoms_all (ts : List Jvm.Cond) (a : Array Jvm.Value) (st : Jvm.State) : (allAtoms ts).before a st = ts.all (fun c => c.before a st) := by
  induction ts with
  | nil => rfl
  | cons c t ih =>
    show (Jvm.Cond.and c (allAtoms t)).before a st = _
    rw [Jvm.Cond.before_and, ih, List.all_cons]
def words1 : List Jvm.Cond := Jvm.Cond.code x code maxLocals ret :: tables_1
/-- a 'code' word, met by the world's own term for the bytes: nothing is compared byte by byte -/
theorem code_word {y : MethodName} {bytes : ByteArray} {mx : Nat} {rt : Option FieldType} {a : Array Value} {s : State} {m : MethodId} {meth : Method} {c : Code} (h1 : s.methodNamed? y = some m) (h2 : s.vm.method? m = some meth) (h3 : meth.code = some c) (h4 : c.code = bytes)
    (h5 : (c.maxLocals == mx && c.exceptionTable.isEmpty && decide (c.maxStack ≤ mostOperands) && decide (meth.sig.returnType = rt) && !meth.locks && decide (parseMethodDescriptor y.desc = some meth.sig)) = true) : (Jvm.Cond.code y bytes mx rt).before a s = true := by
  simp only [Bool.and_eq_true, beq_iff_eq, Bool.not_eq_true', decide_eq_true_eq] at h5
  obtain ⟨⟨⟨⟨⟨g1, g2⟩, g3⟩, g4⟩, g5⟩, g6⟩ := h5
  simp [Cond.before, Cond.holds, Cond.value, h1, h2, h3, h4, g1, g2, g3, g4, g5, g6]
def isCode : Jvm.Cond → Bool
  | .code _ _ _ _ => true
  | _ => false
theorem all_split {L : List Jvm.Cond} {P : Jvm.Cond → Bool} (h1 : L.all (fun c => isCode c || P c) = true) (h2 : ∀ c ∈ L.filter isCode, P c = true) : L.all P = true := by
  refine List.all_eq_true.mpr fun c hc => ?_
  have h := List.all_eq_true.mp h1 c hc
  rcases Bool.eq_false_or_eq_true (isCode c) with hi | hi
  · exact h2 c (List.mem_filter.mpr ⟨hc, hi⟩)
  · simpa [hi] using h
set_option maxRecDepth 65536 in
theorem w_c0 : (Jvm.Cond.code x code maxLocals ret).before args0 about1 = true := code_word (m := ⟨1, 1⟩) (meth := k1m1) (c := k1c1) (by decide +kernel) rfl rfl rfl (by decide +kernel)
set_option maxRecDepth 65536 in
theorem w_c1 : (Jvm.Cond.code ({ cls := "java/lang/String", name := "<init>", desc := "([C)V" } : Jvm.MethodName) jdk_42_method_3_code (2 : Nat) (Option.none : Option Jvm.ClassFile.FieldType)).before args0 about1 = true := code_word (m := ⟨11, 1⟩) (meth := k11m1) (c := k11c1) (by decide +kernel) rfl rfl rfl (by decide +kernel)
set_option maxRecDepth 65536 in
theorem w_c2 : (Jvm.Cond.code ({ cls := "java/lang/String", name := "<init>", desc := "([CIILjava/lang/Void;)V" } : Jvm.MethodName) jdk_42_method_149_code (6 : Nat) (Option.none : Option Jvm.ClassFile.FieldType)).before args0 about1 = true := code_word (m := ⟨11, 3⟩) (meth := k11m3) (c := k11c3) (by decide +kernel) rfl rfl rfl (by decide +kernel)
set_option maxRecDepth 65536 in
theorem w_c3 : (Jvm.Cond.code ({ cls := "java/lang/Object", name := "<init>", desc := "()V" } : Jvm.MethodName) object_method_1_code (1 : Nat) (Option.none : Option Jvm.ClassFile.FieldType)).before args0 about1 = true := code_word (m := ⟨0, 0⟩) (meth := k0m0) (c := k0c0) (by decide +kernel) rfl rfl rfl (by decide +kernel)
set_option maxRecDepth 65536 in
theorem w_c4 : (Jvm.Cond.code ({ cls := "java/lang/StringUTF16", name := "compress", desc := "([CII)[B" } : Jvm.MethodName) jdk_52_method_16_code (6 : Nat) (Option.some (Jvm.ClassFile.FieldType.array Jvm.ClassFile.FieldType.byte))).before args0 about1 = true := code_word (m := ⟨12, 2⟩) (meth := k12m2) (c := k12c2) (by decide +kernel) rfl rfl rfl (by decide +kernel)
set_option maxRecDepth 65536 in
theorem w_c5 : (Jvm.Cond.code ({ cls := "java/lang/StringUTF16", name := "compress", desc := "([CI[BII)I" } : Jvm.MethodName) jdk_52_method_21_code (7 : Nat) (Option.some Jvm.ClassFile.FieldType.int)).before args0 about1 = true := code_word (m := ⟨12, 3⟩) (meth := k12m3) (c := k12c3) (by decide +kernel) rfl rfl rfl (by decide +kernel)
set_option maxRecDepth 65536 in
theorem w_c6 : (Jvm.Cond.code ({ cls := "java/lang/StringUTF16", name := "coderFromArrayLen", desc := "([BI)B" } : Jvm.MethodName) jdk_52_method_15_code (2 : Nat) (Option.some Jvm.ClassFile.FieldType.byte)).before args0 about1 = true := code_word (m := ⟨12, 1⟩) (meth := k12m1) (c := k12c1) (by decide +kernel) rfl rfl rfl (by decide +kernel)
set_option maxRecDepth 65536 in
theorem w_c7 : (Jvm.Cond.code ({ cls := "com/example/wayfront/wayfront/decision/Criterion", name := "<init>", desc := "(Ljava/lang/String;Lcom/example/wayfront/wayfront/decision/Criterion$Direction;DDD)V" } : Jvm.MethodName) prog_21_method_1_code (9 : Nat) (Option.none : Option Jvm.ClassFile.FieldType)).before args0 about1 = true := code_word (m := ⟨8, 0⟩) (meth := k8m0) (c := k8c0) (by decide +kernel) rfl rfl rfl (by decide +kernel)
set_option maxRecDepth 65536 in
theorem w_c8 : (Jvm.Cond.code ({ cls := "java/lang/Record", name := "<init>", desc := "()V" } : Jvm.MethodName) jdk_30_method_1_code (1 : Nat) (Option.none : Option Jvm.ClassFile.FieldType)).before args0 about1 = true := code_word (m := ⟨7, 0⟩) (meth := k7m0) (c := k7c0) (by decide +kernel) rfl rfl rfl (by decide +kernel)
set_option maxRecDepth 65536 in
theorem w_c9 : (Jvm.Cond.code ({ cls := "java/lang/String", name := "isEmpty", desc := "()Z" } : Jvm.MethodName) jdk_42_method_55_code (1 : Nat) (Option.some Jvm.ClassFile.FieldType.boolean)).before args0 about1 = true := code_word (m := ⟨11, 2⟩) (meth := k11m2) (c := k11c2) (by decide +kernel) rfl rfl rfl (by decide +kernel)
set_option maxRecDepth 65536 in
theorem w_c10 : (Jvm.Cond.code ({ cls := "java/lang/Double", name := "isFinite", desc := "(D)Z" } : Jvm.MethodName) jdk_117_method_8_code (2 : Nat) (Option.some Jvm.ClassFile.FieldType.boolean)).before args0 about1 = true := code_word (m := ⟨14, 0⟩) (meth := k14m0) (c := k14c0) (by decide +kernel) rfl rfl rfl (by decide +kernel)
set_option maxRecDepth 65536 in
theorem w_c11 : (Jvm.Cond.code ({ cls := "java/lang/Math", name := "abs", desc := "(D)D" } : Jvm.MethodName) jdk_29_method_64_code (2 : Nat) (Option.some Jvm.ClassFile.FieldType.double)).before args0 about1 = true := code_word (m := ⟨15, 1⟩) (meth := k15m1) (c := k15c1) (by decide +kernel) rfl rfl rfl (by decide +kernel)
set_option maxRecDepth 65536 in
theorem w_c12 : (Jvm.Cond.code ({ cls := "com/example/wayfront/wayfront/decision/Criterion", name := "discordance", desc := "(D)D" } : Jvm.MethodName) prog_21_method_4_code (3 : Nat) (Option.some Jvm.ClassFile.FieldType.double)).before args0 about1 = true := code_word (m := ⟨8, 1⟩) (meth := k8m1) (c := k8c1) (by decide +kernel) rfl rfl rfl (by decide +kernel)
def codes1 : List Jvm.Cond := [Jvm.Cond.code x code maxLocals ret, Jvm.Cond.code ({ cls := "java/lang/String", name := "<init>", desc := "([C)V" } : Jvm.MethodName) jdk_42_method_3_code (2 : Nat) (Option.none : Option Jvm.ClassFile.FieldType), Jvm.Cond.code ({ cls := "java/lang/String", name := "<init>", desc := "([CIILjava/lang/Void;)V" } : Jvm.MethodName) jdk_42_method_149_code (6 : Nat) (Option.none : Option Jvm.ClassFile.FieldType), Jvm.Cond.code ({ cls := "java/lang/Object", name := "<init>", desc := "()V" } : Jvm.MethodName) object_method_1_code (1 : Nat) (Option.none : Option Jvm.ClassFile.FieldType), Jvm.Cond.code ({ cls := "java/lang/StringUTF16", name := "compress", desc := "([CII)[B" } : Jvm.MethodName) jdk_52_method_16_code (6 : Nat) (Option.some (Jvm.ClassFile.FieldType.array Jvm.ClassFile.FieldType.byte)), Jvm.Cond.code ({ cls := "java/lang/StringUTF16", name := "compress", desc := "([CI[BII)I" } : Jvm.MethodName) jdk_52_method_21_code (7 : Nat) (Option.some Jvm.ClassFile.FieldType.int), Jvm.Cond.code ({ cls := "java/lang/StringUTF16", name := "coderFromArrayLen", desc := "([BI)B" } : Jvm.MethodName) jdk_52_method_15_code (2 : Nat) (Option.some Jvm.ClassFile.FieldType.byte), Jvm.Cond.code ({ cls := "com/example/wayfront/wayfront/decision/Criterion", name := "<init>", desc := "(Ljava/lang/String;Lcom/example/wayfront/wayfront/decision/Criterion$Direction;DDD)V" } : Jvm.MethodName) prog_21_method_1_code (9 : Nat) (Option.none : Option Jvm.ClassFile.FieldType), Jvm.Cond.code ({ cls := "java/lang/Record", name := "<init>", desc := "()V" } : Jvm.MethodName) jdk_30_method_1_code (1 : Nat) (Option.none : Option Jvm.ClassFile.FieldType), Jvm.Cond.code ({ cls := "java/lang/String", name := "isEmpty", desc := "()Z" } : Jvm.MethodName) jdk_42_method_55_code (1 : Nat) (Option.some Jvm.ClassFile.FieldType.boolean), Jvm.Cond.code ({ cls := "java/lang/Double", name := "isFinite", desc := "(D)Z" } : Jvm.MethodName) jdk_117_method_8_code (2 : Nat) (Option.some Jvm.ClassFile.FieldType.boolean), Jvm.Cond.code ({ cls := "java/lang/Math", name := "abs", desc := "(D)D" } : Jvm.MethodName) jdk_29_method_64_code (2 : Nat) (Option.some Jvm.ClassFile.FieldType.double), Jvm.Cond.code ({ cls := "com/example/wayfront/wayfront/decision/Criterion", name := "discordance", desc := "(D)D" } : Jvm.MethodName) prog_21_method_4_code (3 : Nat) (Option.some Jvm.ClassFile.FieldType.double)]
set_option maxRecDepth 65536 in
theorem codes_eq : words1.filter isCode = codes1 := rfl
theorem w_codes : ∀ c ∈ words1.filter isCode, c.before args0 about1 = true := by
  rw [codes_eq]
  intro c hc
  simp only [codes1, List.mem_cons, List.not_mem_nil, or_false] at hc
  rcases hc with rfl | rfl | rfl | rfl | rfl | rfl | rfl | rfl | rfl | rfl | rfl | rfl | rfl
  · exact w_c0
  · exact w_c1
  · exact w_c2
  · exact w_c3
  · exact w_c4
  · exact w_c5
  · exact w_c6
  · exact w_c7
  · exact w_c8
  · exact w_c9
  · exact w_c10
  · exact w_c11
  · exact w_c12
set_option maxRecDepth 65536 in
theorem w_t1 : (words1.take 24).all (fun c => isCode c || c.before args0 about1) = true := by decide +kernel
set_option maxRecDepth 65536 in
theorem w_t2 : ((words1.drop 24).take 24).all (fun c => isCode c || c.before args0 about1) = true := by decide +kernel
set_option maxRecDepth 65536 in
theorem w_t3 : (((words1.drop 24).drop 24).take 24).all (fun c => isCode c || c.before args0 about1) = true := by decide +kernel
set_option maxRecDepth 65536 in
theorem w_t4 : (((words1.drop 24).drop 24).drop 24).all (fun c => isCode c || c.before args0 about1) = true := by decide +kernel
theorem w_tables : (allAtoms (Jvm.Cond.code x code maxLocals ret :: tables_1)).before args0 about1 = true := by
  rw [allAtoms_all]
  show words1.all (fun c => c.before args0 about1) = true
  refine all_split ?_ w_codes
  rw [← List.take_append_drop 24 words1, List.all_append, w_t1, ← List.take_append_drop 24 (words1.drop 24), List.all_append, w_t2, ← List.take_append_drop 24 ((words1.drop 24).drop 24), List.all_append, w_t3, w_t4]
  rfl
set_option maxRecDepth 65536 in
theorem w_rest : rest_1_c.before args0 about1 = true := by decide +kernel
set_option maxRecDepth 65536 in
theorem w_case : (Jvm.Cond.and given_1 narrow_1).before args0 about1 = true := by decide +kernel
theorem w_applies : (headSpec (Jvm.Cond.code x code maxLocals ret :: tables_1) room_1).applies x e0.platform about1 = true :=
  (Spec.applies_iff w_frames).mpr ⟨w_running, w_runnable, w_alone, w_named, w_hears, w_ripe, w_room, w_tables⟩
theorem atStart : AtStart classFile x code maxLocals ret World_1 tables_1 room_1 Calls_1 rest_1 Pre_1 launch0 p0 e0 about1 theMethod args0 below0 :=
  ⟨lists_1, trivial, launch0.admits_env _ _ _, launch0.least_env, fairChoices_fair.cas, fairChoices_fair.clock, w_frames, w_args, w_heap, w_applies, trivial, w_rest, w_case⟩
end start1
theorem witness_1 : WitnessClaimed_1 := ⟨start1.p0, start1.e0, start1.about1, start1.theMethod, start1.args0, start1.below0, start1.atStart⟩
end Jvm.Pilot.@@N@@
