import JvmDerived
import JvmDerived.Pilot.@@N@@Statement
import JvmDerived.Pilot.@@N@@Code
set_option linter.unusedVariables false
set_option linter.unusedSimpArgs false
/- laws to paste: Road.backV, Road.chN, Road.codOf (cut by pick.py; bodies as the Statement names them) -/
namespace Jvm.Pilot.@@N@@
namespace StrChars
open Jvm Sem ClassFile Op Lib Jvm.Stand Jvm.Free.XT Jvm.Free.ALB Jvm.Free.JM Jvm.Free
open Jvm.Lib.Cold (StaticIs)
/-- a char array whose places are chars -/
def Ch (a : Addr) (A : Cell) (U : State) : Prop := Arr .char a A U ∧ Typed .char A
theorem Ch.mv {a : Addr} {A : Cell} {U U' : State} (h : Ch a A U) (hal : U.vm.Alike U'.vm) (hh : U'.heap = U.heap) : Ch a A U' := ⟨h.1.mv hal hh, h.2⟩
theorem Ch.keep {a : Addr} {A : Cell} {U U' : State} (h : Ch a A U) (hal : U.vm.Alike U'.vm) (hk : U'.heap[a]? = some A) : Ch a A U' := ⟨h.1.keep hal hk, h.2⟩
/-- what place i of a char[]'s cell holds -/
def cv (A : Cell) (i : Nat) : Int32 := match A.slots[i]? with | some (.int x) => x | _ => 0
theorem Ch.get {a : Addr} {A : Cell} {U : State} (h : Ch a A U) {i : Nat} (hi : i < A.slots.size) : A.slots[i]? = some (.int (cv A i)) := by
  have e := Array.getElem?_eq_getElem hi
  have f := h.2 i _ e
  unfold cv; rw [e]
  generalize A.slots[i] = v at f
  cases v <;> simp [fits] at f ⊢
/-- the byte that i2b leaves of a char -/
def lo8 (x : Int32) : Int32 := x.toInt8.toInt32
theorem fits_lo8 (y : Int32) : fits .byte (.int (lo8 y)) = true := by
  have h1 := y.toInt8.le_toInt
  have h2 := y.toInt8.toInt_lt
  simp only [lo8, fits, Bool.and_eq_true, decide_eq_true_eq, Int32.le_iff_toInt_le, Int8.toInt_toInt32, show (-128 : Int32).toInt = -128 from by decide, show (127 : Int32).toInt = 127 from by decide]
  omega
/-- A' is A but that each place j of lo .. hi - 1 holds f j -/
def Laid (A A' : Cell) (lo hi : Nat) (f : Nat → Value) : Prop := A'.cls = A.cls ∧ A'.vm = A.vm ∧ A'.slots.size = A.slots.size ∧ ∀ i, A'.slots[i]? = if lo ≤ i ∧ i < hi then some (f i) else A.slots[i]?
theorem Laid.zero (A : Cell) (lo : Nat) (f : Nat → Value) : Laid A A lo (lo + 0) f := ⟨rfl, rfl, rfl, fun i => by rw [if_neg (by omega)]⟩
theorem Laid.step {A Ak : Cell} {lo k : Nat} {f : Nat → Value} {v : Value} (h : Laid A Ak lo k f) (hlo : lo ≤ k) (hk : k < Ak.slots.size) (hv : v = f k) : Laid A (Ak.setSlot k v) lo (k + 1) f := by
  refine ⟨h.1, h.2.1, by simpa [Cell.setSlot] using h.2.2.1, fun i => ?_⟩
  by_cases e : k = i
  · subst e; rw [Cell.slots_setSlot_self v hk, if_pos (by omega), hv]
  · rw [Cell.slots_setSlot_ne v e, h.2.2.2 i]
    by_cases q : lo ≤ i ∧ i < k
    · rw [if_pos q, if_pos (by omega)]
    · rw [if_neg q, if_neg (by omega)]
def U16 : String := "java/lang/StringUTF16"
namespace Cmp5
def yN : MethodName := ⟨"java/lang/StringUTF16", "compress", "([CI[BII)I"⟩
abbrev yB : ByteArray := jdk_52_method_21_code
theorem d0 : decode yB 0 = .ok (.iconst 0, 1) := by decide +kernel
theorem d1 : decode yB 1 = .ok (.istore 5, 2) := by decide +kernel
theorem d3 : decode yB 3 = .ok (.iload 5, 2) := by decide +kernel
theorem d5 : decode yB 5 = .ok (.iload 4, 2) := by decide +kernel
theorem d7 : decode yB 7 = .ok (.if_icmp (.ge) 37, 3) := by decide +kernel
theorem d10 : decode yB 10 = .ok (.aload_n 0, 1) := by decide +kernel
theorem d11 : decode yB 11 = .ok (.iload_n 1, 1) := by decide +kernel
theorem d12 : decode yB 12 = .ok (.caload, 1) := by decide +kernel
theorem d13 : decode yB 13 = .ok (.istore 6, 2) := by decide +kernel
theorem d15 : decode yB 15 = .ok (.iload 6, 2) := by decide +kernel
theorem d17 : decode yB 17 = .ok (.sipush 255, 3) := by decide +kernel
theorem d20 : decode yB 20 = .ok (.if_icmp (.le) 6, 3) := by decide +kernel
theorem d26 : decode yB 26 = .ok (.aload_n 2, 1) := by decide +kernel
theorem d27 : decode yB 27 = .ok (.iload_n 3, 1) := by decide +kernel
theorem d28 : decode yB 28 = .ok (.iload 6, 2) := by decide +kernel
theorem d30 : decode yB 30 = .ok (.i2b, 1) := by decide +kernel
theorem d31 : decode yB 31 = .ok (.bastore, 1) := by decide +kernel
theorem d32 : decode yB 32 = .ok (.iinc 1 1, 3) := by decide +kernel
theorem d35 : decode yB 35 = .ok (.iinc 3 1, 3) := by decide +kernel
theorem d38 : decode yB 38 = .ok (.iinc 5 1, 3) := by decide +kernel
theorem d41 : decode yB 41 = .ok (.goto (-38), 3) := by decide +kernel
theorem d44 : decode yB 44 = .ok (.iload 4, 2) := by decide +kernel
theorem d46 : decode yB 46 = .ok (.ireturn, 1) := by decide +kernel
def site : List Cond := []
def tab : Cond := tabOf yN yB 7 (some .int) site
def P (b : Addr) (A : Cell) (d : Addr) (B : Cell) (o q len : Nat) (args : Array Value) (s : State) : Prop := args = #[.ref b, .int (Int32.ofNat o), .ref d, .int (Int32.ofNat q), .int (Int32.ofNat len)] ∧ Ch b A s ∧ Arr .byte d B s ∧ b ≠ d ∧ o + len ≤ A.slots.size ∧ q + len ≤ B.slots.size ∧ ∀ i, i < len → ¬ 255 < cv A (o + i)
def E (b : Addr) (A : Cell) (d : Addr) (B : Cell) (o q len : Nat) (r : Option Value) (s u : State) : Prop := r = some (.int (Int32.ofNat len)) ∧ ∃ B', Put d B' s u ∧ Laid B B' q (q + len) (fun j => Value.int (lo8 (cv A (o + (j - q)))))
/-- no char of the range above 255: len; the places written hold each char's low byte -/
theorem law (l : Launch) (b : Addr) (A : Cell) (d : Addr) (B : Cell) (o q len : Nat) : Law l yN 5 5 0 0 yB 7 (some .int) site (P b A d B o q len) (E b A d B o q len) (copyLocs d q len) 0 0 := by
  refine Law.of_walk (plainFor_of_name (by decide +kernel)) (by decide +kernel) (by decide +kernel) (by decide) (fun _ _ h => by rw [h.1]; rfl) (fun _ U U' hal hh h => ⟨h.1, h.2.1.mv hal hh, h.2.2.1.mv hal hh, h.2.2.2⟩) (fun r U U' V V' h1 hal h2 h => ⟨h.1, h.2.elim fun B' q => ⟨B', q.1.mv h1 h2, q.2⟩⟩) ?_
  intro p e s m args below meth c s₁ X0 hexec hbytes hml hret hlk hnm hown hh0 W hP
  obtain ⟨rfl, hA, hB, hne, l1, l2, hp⟩ := hP
  have c1 : Steps p.tables e below (s₁.setTop (entryFrame m #[.ref b, .int (Int32.ofNat o), .ref d, .int (Int32.ofNat q), .int (Int32.ofNat len)] 7)) (s₁.setTop (mkF m 0 #[.val (.ref b), .val (.int (Int32.ofNat o)), .val (.ref d), .val (.int (Int32.ofNat q)), .val (.int (Int32.ofNat len)), .unset, .unset] [])) := entry rfl
  have hA0 := hA.1.mv X0.warmed.alike hh0
  have hB0 := hB.mv X0.warmed.alike hh0
  have a31 := hA.1.2.2.2
  have c2 : Steps p.tables e below (s₁.setTop (entryFrame m #[.ref b, .int (Int32.ofNat o), .ref d, .int (Int32.ofNat q), .int (Int32.ofNat len)] 7)) (s₁.setTop (mkF m 3 #[.val (.ref b), .val (.int (Int32.ofNat o)), .val (.ref d), .val (.int (Int32.ofNat q)), .val (.int (Int32.ofNat len)), .val (.int 0), .unset] [])) := c1.trans (by
    refine iconstV X0.here hexec rfl 0 (hb hbytes d0) (by decide) ?_
    refine XS.istore X0.here hexec rfl (hb hbytes d1) rfl rfl ?_
    exact Steps.refl _)
  have loop : ∀ (r i : Nat), i + r = len → ∀ (z : Slot), (z = .unset ∨ ∃ w, z = .val w ∧ w.category = 1) → ∀ (Tl : State) (Bk : Cell), Stand p l e { frames := 0, locals := 0, cells := 0, slots := 0 } s m #[.ref b, .int (Int32.ofNat o), .ref d, .int (Int32.ofNat q), .int (Int32.ofNat len)] below meth c Tl ([] ++ copyLocs d q i) 0 0 → Put d Bk s₁ Tl → Laid B Bk q (q + i) (fun j => Value.int (lo8 (cv A (o + (j - q))))) →
      Steps p.tables e below (s₁.setTop (entryFrame m #[.ref b, .int (Int32.ofNat o), .ref d, .int (Int32.ofNat q), .int (Int32.ofNat len)] 7)) (Tl.setTop (mkF m 3 #[.val (.ref b), .val (.int (Int32.ofNat (o + i))), .val (.ref d), .val (.int (Int32.ofNat (q + i))), .val (.int (Int32.ofNat len)), .val (.int (Int32.ofNat i)), z] [])) → ∃ (T' : State) (B' : Cell) (z' : Slot), Stand p l e { frames := 0, locals := 0, cells := 0, slots := 0 } s m #[.ref b, .int (Int32.ofNat o), .ref d, .int (Int32.ofNat q), .int (Int32.ofNat len)] below meth c T' ([] ++ copyLocs d q len) 0 0 ∧ Put d B' s₁ T' ∧ Laid B B' q (q + len) (fun j => Value.int (lo8 (cv A (o + (j - q))))) ∧
      Steps p.tables e below (s₁.setTop (entryFrame m #[.ref b, .int (Int32.ofNat o), .ref d, .int (Int32.ofNat q), .int (Int32.ofNat len)] 7)) (T'.setTop (mkF m 3 #[.val (.ref b), .val (.int (Int32.ofNat (o + len))), .val (.ref d), .val (.int (Int32.ofNat (q + len))), .val (.int (Int32.ofNat len)), .val (.int (Int32.ofNat len)), z'] [])) := by
    intro r
    induction r with
    | zero =>
      intro i hi z hz Tl Bk Xl pl fl cl
      have hil : i = len := by omega
      rw [hil] at Xl fl cl
      exact ⟨Tl, Bk, z, Xl, pl, fl, cl⟩
    | succ r ih =>
      intro i hi z hz Tl Bk Xl pl fl cl
      have all := X0.warmed.alike.symm.trans Xl.warmed.alike
      have hAl := hA0.keep all (pl.other hne hA0.1)
      have hBk := hB0.like all pl.1 fl.1 fl.2.1 fl.2.2.1
      have hlt : q + i < Bk.slots.size := by rw [fl.2.2.1]; omega
      have c3 : Steps p.tables e below (s₁.setTop (entryFrame m #[.ref b, .int (Int32.ofNat o), .ref d, .int (Int32.ofNat q), .int (Int32.ofNat len)] 7)) (Tl.setTop (mkF m 12 #[.val (.ref b), .val (.int (Int32.ofNat (o + i))), .val (.ref d), .val (.int (Int32.ofNat (q + i))), .val (.int (Int32.ofNat len)), .val (.int (Int32.ofNat i)), z] [.int (Int32.ofNat (o + i)), .ref b])) := cl.trans (by
        refine XS.iload Xl.here hexec rfl (hb hbytes d3) rfl ?_
        refine XS.iload Xl.here hexec rfl (hb hbytes d5) rfl ?_
        refine XS.icmpNo Xl.here hexec rfl (hb hbytes d7) rfl (ii_ge_f (lt32 (by omega) (by omega))) ?_
        refine XS.aloadN Xl.here hexec rfl (hb hbytes d10) rfl rfl ?_
        refine XS.iloadN Xl.here hexec rfl (hb hbytes d11) rfl ?_
        exact Steps.refl _)
      have c4 : Steps p.tables e below (s₁.setTop (entryFrame m #[.ref b, .int (Int32.ofNat o), .ref d, .int (Int32.ofNat q), .int (Int32.ofNat len)] 7)) (Tl.setTop (mkF m 13 #[.val (.ref b), .val (.int (Int32.ofNat (o + i))), .val (.ref d), .val (.int (Int32.ofNat (q + i))), .val (.int (Int32.ofNat len)), .val (.int (Int32.ofNat i)), z] [.int (cv A (o + i))])) := c3.trans (by
        refine Xl.aget hexec hAl rfl (hA.get (i := o + i) (by omega)) rfl rfl (hb hbytes d12) ?_
        exact Steps.refl _)
      have c5 : Steps p.tables e below (s₁.setTop (entryFrame m #[.ref b, .int (Int32.ofNat o), .ref d, .int (Int32.ofNat q), .int (Int32.ofNat len)] 7)) (Tl.setTop (mkF m 15 #[.val (.ref b), .val (.int (Int32.ofNat (o + i))), .val (.ref d), .val (.int (Int32.ofNat (q + i))), .val (.int (Int32.ofNat len)), .val (.int (Int32.ofNat i)), .val (.int (cv A (o + i)))] [])) := c4.trans (by
        refine XS.istoreS Xl.here hexec rfl (hb hbytes d13) rfl rfl hz ?_
        exact Steps.refl _)
      have c6 : Steps p.tables e below (s₁.setTop (entryFrame m #[.ref b, .int (Int32.ofNat o), .ref d, .int (Int32.ofNat q), .int (Int32.ofNat len)] 7)) (Tl.setTop (mkF m 31 #[.val (.ref b), .val (.int (Int32.ofNat (o + i))), .val (.ref d), .val (.int (Int32.ofNat (q + i))), .val (.int (Int32.ofNat len)), .val (.int (Int32.ofNat i)), .val (.int (cv A (o + i)))] [.int (lo8 (cv A (o + i))), .int (Int32.ofNat (q + i)), .ref d])) := c5.trans (by
        refine XS.iload Xl.here hexec rfl (hb hbytes d15) rfl ?_
        refine sipushV Xl.here hexec rfl 255 (hb hbytes d17) (by decide) ?_
        refine XS.icmpYes Xl.here hexec rfl (pc0 := 20) rfl (hb hbytes d20) rfl (ii_le_t (hp i (by omega))) (by decide) rfl ?_
        refine XS.aloadN Xl.here hexec rfl (hb hbytes d26) rfl rfl ?_
        refine XS.iloadN Xl.here hexec rfl (hb hbytes d27) rfl ?_
        refine XS.iload Xl.here hexec rfl (hb hbytes d28) rfl ?_
        refine i2b Xl.here hexec rfl (hb hbytes d30) rfl ?_
        exact Steps.refl _)
      obtain ⟨T7, X7, p7, st7⟩ := Xl.aput hexec hBk rfl hlt rfl (fits_lo8 (cv A (o + i))) (g := (mkF m 31 #[.val (.ref b), .val (.int (Int32.ofNat (o + i))), .val (.ref d), .val (.int (Int32.ofNat (q + i))), .val (.int (Int32.ofNat len)), .val (.int (Int32.ofNat i)), .val (.int (cv A (o + i)))] [.int (lo8 (cv A (o + i))), .int (Int32.ofNat (q + i)), .ref d])) rfl (rest := []) rfl (hb hbytes d31)
      have c8 : Steps p.tables e below (s₁.setTop (entryFrame m #[.ref b, .int (Int32.ofNat o), .ref d, .int (Int32.ofNat q), .int (Int32.ofNat len)] 7)) (T7.setTop (mkF m 32 #[.val (.ref b), .val (.int (Int32.ofNat (o + i))), .val (.ref d), .val (.int (Int32.ofNat (q + i))), .val (.int (Int32.ofNat len)), .val (.int (Int32.ofNat i)), .val (.int (cv A (o + i)))] [])) := c6.trans (st7 _ (Steps.refl _))
      have c9 : Steps p.tables e below (s₁.setTop (entryFrame m #[.ref b, .int (Int32.ofNat o), .ref d, .int (Int32.ofNat q), .int (Int32.ofNat len)] 7)) (T7.setTop (mkF m 3 #[.val (.ref b), .val (.int (Int32.ofNat (o + i) + 1)), .val (.ref d), .val (.int (Int32.ofNat (q + i) + 1)), .val (.int (Int32.ofNat len)), .val (.int (Int32.ofNat i + 1)), .val (.int (cv A (o + i)))] [])) := c8.trans (by
        refine iincV X7.here hexec rfl 1 (hb hbytes d32) (by decide) rfl rfl ?_
        refine iincV X7.here hexec rfl 1 (hb hbytes d35) (by decide) rfl rfl ?_
        refine iincV X7.here hexec rfl 1 (hb hbytes d38) (by decide) rfl rfl ?_
        refine XS.goto X7.here hexec rfl (pc0 := 41) rfl (hb hbytes d41) (by decide) rfl ?_
        exact Steps.refl _)
      have c10 : Steps p.tables e below (s₁.setTop (entryFrame m #[.ref b, .int (Int32.ofNat o), .ref d, .int (Int32.ofNat q), .int (Int32.ofNat len)] 7)) (T7.setTop (mkF m 3 #[.val (.ref b), .val (.int (Int32.ofNat (o + (i + 1)))), .val (.ref d), .val (.int (Int32.ofNat (q + (i + 1)))), .val (.int (Int32.ofNat len)), .val (.int (Int32.ofNat (i + 1))), .val (.int (cv A (o + i)))] [])) := by
        have := c9
        rw [succ32, succ32, succ32] at this
        exact this
      exact ih (i + 1) (by omega) _ (Or.inr ⟨_, rfl, rfl⟩) T7 _ (by rw [copyLocs_step, ← List.append_assoc]; exact X7) (pl.trans p7) (fl.step (by omega) hlt (by simp)) c10
  obtain ⟨T9, B9, z9, X9, p9, f9, g9⟩ := loop len 0 (by omega) .unset (Or.inl rfl) s₁ B (by simpa [copyLocs] using X0) ⟨hB0.1, fun _ _ => rfl, rfl⟩ (Laid.zero _ _ _) c2
  have c11 : Steps p.tables e below (s₁.setTop (entryFrame m #[.ref b, .int (Int32.ofNat o), .ref d, .int (Int32.ofNat q), .int (Int32.ofNat len)] 7)) (T9.setTop (mkF m 46 #[.val (.ref b), .val (.int (Int32.ofNat (o + len))), .val (.ref d), .val (.int (Int32.ofNat (q + len))), .val (.int (Int32.ofNat len)), .val (.int (Int32.ofNat len)), z9] [.int (Int32.ofNat len)])) := g9.trans (by
    refine XS.iload X9.here hexec rfl (hb hbytes d3) rfl ?_
    refine XS.iload X9.here hexec rfl (hb hbytes d5) rfl ?_
    refine XS.icmpYes X9.here hexec rfl (pc0 := 7) rfl (hb hbytes d7) rfl (ii_ge_t (nlt32 (by omega) (Nat.le_refl _))) (by decide) rfl ?_
    refine XS.iload X9.here hexec rfl (hb hbytes d44) rfl ?_
    exact Steps.refl _)
  exact ⟨T9, some (.int (Int32.ofNat len)), _, _, _, X9, by simp, rfl, rfl, (fun h => by cases h), ⟨rfl, B9, p9.from hh0, f9⟩, fun fs hl => c11.trans (X9.ireturnOut hexec hret rfl (Or.inl rfl) (hb hbytes d46) hl)⟩
end Cmp5
namespace Cmp3
def yN : MethodName := ⟨"java/lang/StringUTF16", "compress", "([CII)[B"⟩
abbrev yB : ByteArray := jdk_52_method_16_code
theorem d0 : decode yB 0 = .ok (.iload_n 2, 1) := by decide +kernel
theorem d1 : decode yB 1 = .ok (.newarray .byte, 2) := by decide +kernel
theorem d3 : decode yB 3 = .ok (.astore_n 3, 1) := by decide +kernel
theorem d4 : decode yB 4 = .ok (.aload_n 0, 1) := by decide +kernel
theorem d5 : decode yB 5 = .ok (.iload_n 1, 1) := by decide +kernel
theorem d6 : decode yB 6 = .ok (.aload_n 3, 1) := by decide +kernel
theorem d7 : decode yB 7 = .ok (.iconst 0, 1) := by decide +kernel
theorem d8 : decode yB 8 = .ok (.iload_n 2, 1) := by decide +kernel
theorem d9 : decode yB 9 = .ok (.invokestatic 115, 3) := by decide +kernel
theorem d12 : decode yB 12 = .ok (.istore 4, 2) := by decide +kernel
theorem d14 : decode yB 14 = .ok (.iload 4, 2) := by decide +kernel
theorem d16 : decode yB 16 = .ok (.iload_n 2, 1) := by decide +kernel
theorem d17 : decode yB 17 = .ok (.if_icmp (.eq) 40, 3) := by decide +kernel
theorem d57 : decode yB 57 = .ok (.aload_n 3, 1) := by decide +kernel
theorem d58 : decode yB 58 = .ok (.areturn, 1) := by decide +kernel
def site : List Cond := [.arrayClass .byte, Cmp5.tab] ++ staticW U16 115 Cmp5.yN
def tab : Cond := tabOf yN yB 6 (some (.array .byte)) site
def P (b : Addr) (A : Cell) (o len : Nat) (args : Array Value) (s : State) : Prop := args = #[.ref b, .int (Int32.ofNat o), .int (Int32.ofNat len)] ∧ Ch b A s ∧ o + len ≤ A.slots.size ∧ len ≤ 536870912 ∧ ∀ i, i < len → ¬ 255 < cv A (o + i)
def E (b : Addr) (A : Cell) (o len : Nat) (r : Option Value) (s u : State) : Prop := NewArr .byte "[B" len (fun j => .int (lo8 (cv A (o + j)))) r s u ∧ u.heap.size = s.heap.size + 1
/-- no char of the range above 255: a new byte[] of their low bytes -/
theorem law (l : Launch) (b : Addr) (A : Cell) (o len : Nat) : Law l yN 3 3 1 18 yB 6 (some (.array .byte)) site (P b A o len) (E b A o len) [] 1 len := by
  refine Law.of_walk (plainFor_of_name (by decide +kernel)) (by decide +kernel) (by decide +kernel) (by decide) (fun _ _ h => by rw [h.1]; rfl) (fun _ U U' hal hh h => ⟨h.1, h.2.1.mv hal hh, h.2.2⟩) (fun r U U' V V' h1 hal h2 h => ⟨NewArr.mv r U U' V V' h1 hal h2 h.1, by rw [h1, h2]; exact h.2⟩) ?_
  intro p e s m args below meth c s₁ X0 hexec hbytes hml hret hlk hnm hown hh0 W hP
  obtain ⟨rfl, hA, l1, l2, hp⟩ := hP
  have a31 := hA.1.2.2.2
  have c1 : Steps p.tables e below (s₁.setTop (entryFrame m #[.ref b, .int (Int32.ofNat o), .int (Int32.ofNat len)] 6)) (s₁.setTop (mkF m 0 #[.val (.ref b), .val (.int (Int32.ofNat o)), .val (.int (Int32.ofNat len)), .unset, .unset, .unset] [])) := entry rfl
  have c2 : Steps p.tables e below (s₁.setTop (entryFrame m #[.ref b, .int (Int32.ofNat o), .int (Int32.ofNat len)] 6)) (s₁.setTop (mkF m 1 #[.val (.ref b), .val (.int (Int32.ofNat o)), .val (.int (Int32.ofNat len)), .unset, .unset, .unset] [.int (Int32.ofNat len)])) := c1.trans (by
    refine XS.iloadN X0.here hexec rfl (hb hbytes d0) rfl ?_
    exact Steps.refl _)
  obtain ⟨T3, B3, X3, ba3, bs3, bv3, bh3, bf3, st3⟩ := X0.anew hexec (atype := .byte) (wk W (.arrayClass .byte)) rfl (by show len * 1 ≤ _; omega) (by omega) (g := (mkF m 1 #[.val (.ref b), .val (.int (Int32.ofNat o)), .val (.int (Int32.ofNat len)), .unset, .unset, .unset] [.int (Int32.ofNat len)])) rfl (hb hbytes d1) (rest := []) rfl (Nat.le_refl _) (by show 0 + len ≤ len; omega)
  rw [hh0] at ba3 st3
  have kp3 : XT.Kept s T3 := (XT.Kept.of_eq hh0).push bh3
  have hA3 := hA.keep X3.warmed.alike (kp3 _ _ hA.1.1)
  have hne : b ≠ s.heap.size := hA.1.ne
  have c4 : Steps p.tables e below (s₁.setTop (entryFrame m #[.ref b, .int (Int32.ofNat o), .int (Int32.ofNat len)] 6)) (T3.setTop (mkF m 3 #[.val (.ref b), .val (.int (Int32.ofNat o)), .val (.int (Int32.ofNat len)), .unset, .unset, .unset] [.ref s.heap.size])) := c2.trans (st3 _ (Steps.refl _))
  have c5 : Steps p.tables e below (s₁.setTop (entryFrame m #[.ref b, .int (Int32.ofNat o), .int (Int32.ofNat len)] 6)) (T3.setTop (mkF m 9 #[.val (.ref b), .val (.int (Int32.ofNat o)), .val (.int (Int32.ofNat len)), .val (.ref s.heap.size), .unset, .unset] [.int (Int32.ofNat len), .int 0, .ref s.heap.size, .int (Int32.ofNat o), .ref b])) := c4.trans (by
    refine XS.astoreN X3.here hexec rfl (hb hbytes d3) rfl rfl rfl ?_
    refine XS.aloadN X3.here hexec rfl (hb hbytes d4) rfl rfl ?_
    refine XS.iloadN X3.here hexec rfl (hb hbytes d5) rfl ?_
    refine XS.aloadN X3.here hexec rfl (hb hbytes d6) rfl rfl ?_
    refine iconstV X3.here hexec rfl 0 (hb hbytes d7) (by decide) ?_
    refine XS.iloadN X3.here hexec rfl (hb hbytes d8) rfl ?_
    exact Steps.refl _)
  obtain ⟨v6, T6, X6, E6, g6⟩ := X3.callS hexec (Cmp5.law l b A s.heap.size B3 o 0 len) hown (wks W (staticW U16 115 Cmp5.yN)) (wk W Cmp5.tab) (W := 0) (Nat.le_of_ble_eq_true rfl) (Nat.le_of_ble_eq_true rfl) (Nat.le_refl _) (by show 0 + len + 0 ≤ len; omega) (g := (mkF m 9 #[.val (.ref b), .val (.int (Int32.ofNat o)), .val (.int (Int32.ofNat len)), .val (.ref s.heap.size), .unset, .unset] [.int (Int32.ofNat len), .int (Int32.ofNat 0), .ref s.heap.size, .int (Int32.ofNat o), .ref b])) rfl (by rw [hml]; rfl) c5 (argsL := [.ref b, .int (Int32.ofNat o), .ref s.heap.size, .int (Int32.ofNat 0), .int (Int32.ofNat len)]) (rest := []) rfl rfl (by show 2 * 0 + 0 ≤ _; decide) (hb hbytes d9) (⟨rfl, hA3, ba3, hne, l1, by rw [bs3]; simp, hp⟩)
  obtain ⟨rfl, B6, p6, f6⟩ := E6
  have c7 : Steps p.tables e below (s₁.setTop (entryFrame m #[.ref b, .int (Int32.ofNat o), .int (Int32.ofNat len)] 6)) (T6.setTop (mkF m 12 #[.val (.ref b), .val (.int (Int32.ofNat o)), .val (.int (Int32.ofNat len)), .val (.ref s.heap.size), .unset, .unset] [.int (Int32.ofNat len)])) := g6
  have c8 : Steps p.tables e below (s₁.setTop (entryFrame m #[.ref b, .int (Int32.ofNat o), .int (Int32.ofNat len)] 6)) (T6.setTop (mkF m 58 #[.val (.ref b), .val (.int (Int32.ofNat o)), .val (.int (Int32.ofNat len)), .val (.ref s.heap.size), .val (.int (Int32.ofNat len)), .unset] [.ref s.heap.size])) := c7.trans (by
    refine XS.istore X6.here hexec rfl (hb hbytes d12) rfl rfl ?_
    refine XS.iload X6.here hexec rfl (hb hbytes d14) rfl ?_
    refine XS.iloadN X6.here hexec rfl (hb hbytes d16) rfl ?_
    refine XS.icmpYes X6.here hexec rfl (pc0 := 17) rfl (hb hbytes d17) rfl (ii_eq_t rfl) (by decide) rfl ?_
    refine XS.aloadN X6.here hexec rfl (hb hbytes d57) rfl rfl ?_
    exact Steps.refl _)
  have X8 := X6.wide (L' := []) (cells' := 1) (slots' := len) (fun x hx hlt => by
    simp only [List.nil_append, copyLocs, List.mem_map, List.mem_range] at hx
    obtain ⟨i, -, rfl⟩ := hx
    exact absurd hlt (Nat.lt_irrefl _)) (Nat.le_refl _) (by omega)
  exact ⟨T6, some (.ref s.heap.size), _, _, _, X8, rfl, rfl, rfl, (fun h => by cases h), ⟨⟨rfl, B6, ba3.like (X3.warmed.alike.symm.trans X6.warmed.alike) p6.1 f6.1 f6.2.1 f6.2.2.1, f6.2.1.trans bv3, by rw [X6.warmed.alike.findClass, f6.1]; exact bf3, by rw [f6.2.2.1, bs3]; simp, fun j hj => by rw [f6.2.2.2 j, if_pos (by omega)]; rfl, kp3.put p6 (Nat.le_refl _)⟩, by rw [p6.2.2, bh3, hh0]; simp⟩, fun fs hl => c8.trans (X8.areturnOut hexec rfl hret rfl (hb hbytes d58) hl)⟩
end Cmp3
namespace CodL
def yN : MethodName := ⟨"java/lang/StringUTF16", "coderFromArrayLen", "([BI)B"⟩
abbrev yB : ByteArray := jdk_52_method_15_code
theorem d0 : decode yB 0 = .ok (.iload_n 1, 1) := by decide +kernel
theorem d1 : decode yB 1 = .ok (.aload_n 0, 1) := by decide +kernel
theorem d2 : decode yB 2 = .ok (.arraylength, 1) := by decide +kernel
theorem d3 : decode yB 3 = .ok (.isub, 1) := by decide +kernel
theorem d4 : decode yB 4 = .ok (.bipush 31, 2) := by decide +kernel
theorem d6 : decode yB 6 = .ok (.iushr, 1) := by decide +kernel
theorem d7 : decode yB 7 = .ok (.i2b, 1) := by decide +kernel
theorem d8 : decode yB 8 = .ok (.ireturn, 1) := by decide +kernel
def site : List Cond := []
def tab : Cond := tabOf yN yB 2 (some .byte) site
def P (d : Addr) (B : Cell) (args : Array Value) (s : State) : Prop := args = #[.ref d, .int (Int32.ofNat B.slots.size)] ∧ Arr .byte d B s
def E (r : Option Value) (s u : State) : Prop := XT.PureE (some (.int 0)) r s u
/-- an array as long as the number of chars: LATIN1 -/
theorem law (l : Launch) (d : Addr) (B : Cell) : Law l yN 2 2 0 0 yB 2 (some .byte) site (P d B) E [] 0 0 := by
  refine Law.of_walk (plainFor_of_name (by decide +kernel)) (by decide +kernel) (by decide +kernel) (by decide) (fun _ _ h => by rw [h.1]; rfl) (fun _ U U' hal hh h => ⟨h.1, h.2.mv hal hh⟩) (fun r U U' V V' h1 hal h2 h => XT.PureE.mv r U U' V V' h1 hal h2 h) ?_
  intro p e s m args below meth c s₁ X0 hexec hbytes hml hret hlk hnm hown hh0 W hP
  obtain ⟨rfl, hB⟩ := hP
  have hB0 := hB.mv X0.warmed.alike hh0
  have c1 : Steps p.tables e below (s₁.setTop (entryFrame m #[.ref d, .int (Int32.ofNat B.slots.size)] 2)) (s₁.setTop (mkF m 0 #[.val (.ref d), .val (.int (Int32.ofNat B.slots.size))] [])) := entry rfl
  have c2 : Steps p.tables e below (s₁.setTop (entryFrame m #[.ref d, .int (Int32.ofNat B.slots.size)] 2)) (s₁.setTop (mkF m 2 #[.val (.ref d), .val (.int (Int32.ofNat B.slots.size))] [.ref d, .int (Int32.ofNat B.slots.size)])) := c1.trans (by
    refine XS.iloadN X0.here hexec rfl (hb hbytes d0) rfl ?_
    refine XS.aloadN X0.here hexec rfl (hb hbytes d1) rfl rfl ?_
    exact Steps.refl _)
  have c3 : Steps p.tables e below (s₁.setTop (entryFrame m #[.ref d, .int (Int32.ofNat B.slots.size)] 2)) (s₁.setTop (mkF m 8 #[.val (.ref d), .val (.int (Int32.ofNat B.slots.size))] [.int (lo8 (ushr (Int32.ofNat B.slots.size - Int32.ofNat B.slots.size) 31))])) := c2.trans (by
    refine X0.alen hexec hB0 rfl rfl (hb hbytes d2) ?_
    refine XS.isub X0.here hexec rfl (hb hbytes d3) rfl ?_
    refine bipushV X0.here hexec rfl 31 (hb hbytes d4) (by decide) ?_
    refine iushr X0.here hexec rfl (hb hbytes d6) rfl ?_
    refine i2b X0.here hexec rfl (hb hbytes d7) rfl ?_
    exact Steps.refl _)
  have e0 : lo8 (ushr (Int32.ofNat B.slots.size - Int32.ofNat B.slots.size) 31) = 0 := by rw [Int32.sub_self]; decide
  rw [e0] at c3
  exact ⟨s₁, some (.int 0), _, _, _, X0, rfl, rfl, rfl, (fun h => by cases h), ⟨rfl, hh0⟩, fun fs hl => c3.trans (X0.ireturnOut hexec hret rfl (Or.inr (Or.inr (Or.inl rfl))) (hb hbytes d8) hl)⟩
end CodL
/-- the String at a is Latin-1 over a new byte[] (the heap's one new cell): the low bytes of the len chars of A from o on; every cell but a is kept -/
def Got (a : Addr) (D : Cell) (fV fC : Field) (A : Cell) (o len : Nat) (r : Option Value) (s u : State) : Prop := r = none ∧ ∃ D' V : Cell, Blank "java/lang/String" a D' u ∧ Same D D' [fV.slot, fC.slot] ∧ D'.slots[fV.slot]? = some (.ref s.heap.size) ∧ D'.slots[fC.slot]? = some (.int 0) ∧ Arr .byte s.heap.size V u ∧ V.vm = .none ∧ u.vm.findClass "[B" = some V.cls ∧ V.slots.size = len ∧ (∀ j, j < len → V.slots[j]? = some (.int (lo8 (cv A (o + j))))) ∧ (∀ (y : Addr) (c : Cell), y ≠ a → s.heap[y]? = some c → u.heap[y]? = some c) ∧ u.heap.size = s.heap.size + 1
theorem Got.mv {a : Addr} {D A : Cell} {fV fC : Field} {o len : Nat} : ∀ r (U U' V V' : State), U'.heap = U.heap → V.vm.Alike V'.vm → V'.heap = V.heap → Got a D fV fC A o len r U V → Got a D fV fC A o len r U' V' :=
  fun r U U' V V' h1 hal h2 ⟨e0, D', X, a1, a2, a3, a4, a5, a6, a7, a8, a9, a10, a11⟩ => ⟨e0, D', X, a1.mv hal h2, a2, by rw [h1]; exact a3, a4, by rw [h1]; exact a5.mv hal h2, a6, by rw [hal.findClass]; exact a7, a8, a9, by rw [h1, h2]; exact a10, by rw [h1, h2]; exact a11⟩
namespace New4
def yN : MethodName := ⟨"java/lang/String", "<init>", "([CIILjava/lang/Void;)V"⟩
abbrev yB : ByteArray := jdk_42_method_149_code
theorem d0 : decode yB 0 = .ok (.aload_n 0, 1) := by decide +kernel
theorem d1 : decode yB 1 = .ok (.invokespecial 1, 3) := by decide +kernel
theorem d4 : decode yB 4 = .ok (.iload_n 3, 1) := by decide +kernel
theorem d5 : decode yB 5 = .ok (.ifCond (.ne) 22, 3) := by decide +kernel
theorem d27 : decode yB 27 = .ok (.getstatic 38, 3) := by decide +kernel
theorem d30 : decode yB 30 = .ok (.ifCond (.eq) 28, 3) := by decide +kernel
theorem d33 : decode yB 33 = .ok (.aload_n 1, 1) := by decide +kernel
theorem d34 : decode yB 34 = .ok (.iload_n 2, 1) := by decide +kernel
theorem d35 : decode yB 35 = .ok (.iload_n 3, 1) := by decide +kernel
theorem d36 : decode yB 36 = .ok (.invokestatic 177, 3) := by decide +kernel
theorem d39 : decode yB 39 = .ok (.astore 5, 2) := by decide +kernel
theorem d41 : decode yB 41 = .ok (.aload_n 0, 1) := by decide +kernel
theorem d42 : decode yB 42 = .ok (.aload 5, 2) := by decide +kernel
theorem d44 : decode yB 44 = .ok (.iload_n 3, 1) := by decide +kernel
theorem d45 : decode yB 45 = .ok (.invokestatic 47, 3) := by decide +kernel
theorem d48 : decode yB 48 = .ok (.putfield 15, 3) := by decide +kernel
theorem d51 : decode yB 51 = .ok (.aload_n 0, 1) := by decide +kernel
theorem d52 : decode yB 52 = .ok (.aload 5, 2) := by decide +kernel
theorem d54 : decode yB 54 = .ok (.putfield 9, 3) := by decide +kernel
theorem d57 : decode yB 57 = .ok (.return_, 1) := by decide +kernel
def site : List Cond := [.fieldLink "java/lang/String" 38 "java/lang/String" "COMPACT_STRINGS" "Z", Cmp3.tab, CodL.tab, .laysFinal "java/lang/String" "java/lang/String" "value" "[B", .fieldLink "java/lang/String" 9 "java/lang/String" "value" "[B", .laysFinal "java/lang/String" "java/lang/String" "coder" "B", .fieldLink "java/lang/String" 15 "java/lang/String" "coder" "B"] ++ objW "java/lang/String" 1 ++ staticW "java/lang/String" 177 Cmp3.yN ++ staticW "java/lang/String" 47 CodL.yN
def tab : Cond := tabOf yN yB 6 none site
def P (a : Addr) (D : Cell) (fV fC : Field) (b : Addr) (A : Cell) (z : Int32) (o len : Nat) (args : Array Value) (s : State) : Prop := args = #[.ref a, .ref b, .int (Int32.ofNat o), .int (Int32.ofNat len), .null] ∧ Blank "java/lang/String" a D s ∧ Found "java/lang/String" "value" "[B" fV s ∧ Found "java/lang/String" "coder" "B" fC s ∧ Ch b A s ∧ StaticIs s "java/lang/String" "COMPACT_STRINGS" "Z" (.int z) ∧ ¬ z = 0 ∧ 0 < len ∧ o + len ≤ A.slots.size ∧ len ≤ 536870912 ∧ ∀ i, i < len → ¬ 255 < cv A (o + i)
def E (a : Addr) (D : Cell) (fV fC : Field) (A : Cell) (o len : Nat) (r : Option Value) (s u : State) : Prop := Got a D fV fC A o len r s u
/-- len > 0, no char of the range above 255: a Latin-1 String of their low bytes -/
theorem law (l : Launch) (a : Addr) (D : Cell) (fV fC : Field) (b : Addr) (A : Cell) (z : Int32) (o len : Nat) : Law l yN 5 4 2 35 yB 6 none site (P a D fV fC b A z o len) (E a D fV fC A o len) [⟨a, fC.slot⟩, ⟨a, fV.slot⟩] 1 len := by
  refine Law.of_walk (plainFor_of_name (by decide +kernel)) (by decide +kernel) (by decide +kernel) (by decide) (fun _ _ h => by rw [h.1]; rfl) (fun _ U U' hal hh h => ⟨h.1, h.2.1.mv hal hh, h.2.2.1.al hal, h.2.2.2.1.al hal, h.2.2.2.2.1.mv hal hh, h.2.2.2.2.2.1.there hal hh, h.2.2.2.2.2.2⟩) (fun r U U' V V' h1 hal h2 h => Got.mv r U U' V V' h1 hal h2 h) ?_
  intro p e s m args below meth c s₁ X0 hexec hbytes hml hret hlk hnm hown hh0 W hP
  obtain ⟨rfl, hB, f1, f2, hA, s1, hz, l0, l1, l2, hp⟩ := hP
  have a31 := hA.1.2.2.2
  have c1 : Steps p.tables e below (s₁.setTop (entryFrame m #[.ref a, .ref b, .int (Int32.ofNat o), .int (Int32.ofNat len), .null] 6)) (s₁.setTop (mkF m 0 #[.val (.ref a), .val (.ref b), .val (.int (Int32.ofNat o)), .val (.int (Int32.ofNat len)), .val .null, .unset] [])) := entry rfl
  have c2 : Steps p.tables e below (s₁.setTop (entryFrame m #[.ref a, .ref b, .int (Int32.ofNat o), .int (Int32.ofNat len), .null] 6)) (s₁.setTop (mkF m 1 #[.val (.ref a), .val (.ref b), .val (.int (Int32.ofNat o)), .val (.int (Int32.ofNat len)), .val .null, .unset] [.ref a])) := c1.trans (by
    refine XS.aloadN X0.here hexec rfl (hb hbytes d0) rfl rfl ?_
    exact Steps.refl _)
  obtain ⟨T3, X3, q3, st3⟩ := X0.oinit hexec hown (wks W (objW "java/lang/String" 1)) (g := (mkF m 1 #[.val (.ref a), .val (.ref b), .val (.int (Int32.ofNat o)), .val (.int (Int32.ofNat len)), .val .null, .unset] [.ref a])) rfl (by rw [hml]; rfl) (rest := []) rfl (hb hbytes d1) (W := 0) (by show 2 * 0 + 0 ≤ _; decide) (Nat.le_of_ble_eq_true rfl) (Nat.le_of_ble_eq_true rfl)
  have hh3 := q3.trans hh0
  have c4 : Steps p.tables e below (s₁.setTop (entryFrame m #[.ref a, .ref b, .int (Int32.ofNat o), .int (Int32.ofNat len), .null] 6)) (T3.setTop (mkF m 27 #[.val (.ref a), .val (.ref b), .val (.int (Int32.ofNat o)), .val (.int (Int32.ofNat len)), .val .null, .unset] [])) := (c2.trans (st3 _ (Steps.refl _))).trans (by
    refine XS.iloadN X3.here hexec rfl (hb hbytes d4) rfl ?_
    refine XS.ifYes X3.here hexec rfl (pc0 := 5) rfl (hb hbytes d5) rfl (i0_ne_t (nz32 (by omega) l0)) (by decide) rfl ?_
    exact Steps.refl _)
  obtain ⟨T5, X5, q5, st5⟩ := X3.sget hexec hown (wk W (.fieldLink "java/lang/String" 38 "java/lang/String" "COMPACT_STRINGS" "Z")) s1 (fun _ _ h => by rw [hh3]; exact h) (g := (mkF m 27 #[.val (.ref a), .val (.ref b), .val (.int (Int32.ofNat o)), .val (.int (Int32.ofNat len)), .val .null, .unset] [])) rfl (hb hbytes d27)
  have hh5 := q5.trans hh3
  have c6 : Steps p.tables e below (s₁.setTop (entryFrame m #[.ref a, .ref b, .int (Int32.ofNat o), .int (Int32.ofNat len), .null] 6)) (T5.setTop (mkF m 30 #[.val (.ref a), .val (.ref b), .val (.int (Int32.ofNat o)), .val (.int (Int32.ofNat len)), .val .null, .unset] [.int z])) := c4.trans (st5 _ (Steps.refl _))
  have c7 : Steps p.tables e below (s₁.setTop (entryFrame m #[.ref a, .ref b, .int (Int32.ofNat o), .int (Int32.ofNat len), .null] 6)) (T5.setTop (mkF m 36 #[.val (.ref a), .val (.ref b), .val (.int (Int32.ofNat o)), .val (.int (Int32.ofNat len)), .val .null, .unset] [.int (Int32.ofNat len), .int (Int32.ofNat o), .ref b])) := c6.trans (by
    refine XS.ifNo X5.here hexec rfl (hb hbytes d30) rfl (i0_eq_f hz) ?_
    refine XS.aloadN X5.here hexec rfl (hb hbytes d33) rfl rfl ?_
    refine XS.iloadN X5.here hexec rfl (hb hbytes d34) rfl ?_
    refine XS.iloadN X5.here hexec rfl (hb hbytes d35) rfl ?_
    exact Steps.refl _)
  obtain ⟨v8, T8, X8, E8, g8⟩ := X5.callS hexec (Cmp3.law l b A o len) hown (wks W (staticW "java/lang/String" 177 Cmp3.yN)) (wk W Cmp3.tab) (W := 0) (Nat.le_of_ble_eq_true rfl) (Nat.le_of_ble_eq_true rfl) (Nat.le_refl _) (by show 0 + len ≤ len; omega) (g := (mkF m 36 #[.val (.ref a), .val (.ref b), .val (.int (Int32.ofNat o)), .val (.int (Int32.ofNat len)), .val .null, .unset] [.int (Int32.ofNat len), .int (Int32.ofNat o), .ref b])) rfl (by rw [hml]; rfl) c7 (argsL := [.ref b, .int (Int32.ofNat o), .int (Int32.ofNat len)]) (rest := []) rfl rfl (by show 2 * 0 + 0 ≤ _; decide) (hb hbytes d36) (⟨rfl, hA.mv X5.warmed.alike hh5, l1, l2, hp⟩)
  obtain ⟨e8, z8⟩ := E8
  obtain ⟨rfl, N, n1, n2, n3, n4, n5, n6⟩ := NewArr.mv _ T5 s _ _ hh5.symm (Vm.Alike.refl _) rfl e8
  rw [hh5] at z8
  have hB1 := hB.keep X8.warmed.alike (n6 _ _ hB.1)
  have hne : s.heap.size ≠ a := (Nat.ne_of_lt (Array.getElem?_eq_some_iff.mp hB.1).1).symm
  have c9 : Steps p.tables e below (s₁.setTop (entryFrame m #[.ref a, .ref b, .int (Int32.ofNat o), .int (Int32.ofNat len), .null] 6)) (T8.setTop (mkF m 39 #[.val (.ref a), .val (.ref b), .val (.int (Int32.ofNat o)), .val (.int (Int32.ofNat len)), .val .null, .unset] [.ref s.heap.size])) := g8
  have c10 : Steps p.tables e below (s₁.setTop (entryFrame m #[.ref a, .ref b, .int (Int32.ofNat o), .int (Int32.ofNat len), .null] 6)) (T8.setTop (mkF m 45 #[.val (.ref a), .val (.ref b), .val (.int (Int32.ofNat o)), .val (.int (Int32.ofNat len)), .val .null, .val (.ref s.heap.size)] [.int (Int32.ofNat N.slots.size), .ref s.heap.size, .ref a])) := by
    have hc : Steps p.tables e below (s₁.setTop (entryFrame m #[.ref a, .ref b, .int (Int32.ofNat o), .int (Int32.ofNat len), .null] 6)) (T8.setTop (mkF m 45 #[.val (.ref a), .val (.ref b), .val (.int (Int32.ofNat o)), .val (.int (Int32.ofNat len)), .val .null, .val (.ref s.heap.size)] [.int (Int32.ofNat len), .ref s.heap.size, .ref a])) := c9.trans (by
      refine XS.astore X8.here hexec rfl (hb hbytes d39) rfl rfl rfl ?_
      refine XS.aloadN X8.here hexec rfl (hb hbytes d41) rfl rfl ?_
      refine XS.aload X8.here hexec rfl (hb hbytes d42) rfl rfl ?_
      refine XS.iloadN X8.here hexec rfl (hb hbytes d44) rfl ?_
      exact Steps.refl _)
    rw [n4]; exact hc
  obtain ⟨v11, T11, X11, E11, g11⟩ := X8.callS hexec (CodL.law l s.heap.size N) hown (wks W (staticW "java/lang/String" 47 CodL.yN)) (wk W CodL.tab) (W := 1) (Nat.le_of_ble_eq_true rfl) (Nat.le_of_ble_eq_true rfl) (Nat.le_refl _) (by show 0 + len + 0 ≤ len; omega) (g := (mkF m 45 #[.val (.ref a), .val (.ref b), .val (.int (Int32.ofNat o)), .val (.int (Int32.ofNat len)), .val .null, .val (.ref s.heap.size)] [.int (Int32.ofNat N.slots.size), .ref s.heap.size, .ref a])) rfl (by rw [hml]; rfl) c10 (argsL := [.ref s.heap.size, .int (Int32.ofNat N.slots.size)]) (rest := [.ref a]) rfl rfl (by show 2 * 0 + (1 + 0) ≤ _; decide) (hb hbytes d45) (⟨rfl, n1⟩)
  obtain ⟨rfl, q11⟩ := E11
  have hB11 := hB1.mv (X8.warmed.alike.symm.trans X11.warmed.alike) q11
  have c12 : Steps p.tables e below (s₁.setTop (entryFrame m #[.ref a, .ref b, .int (Int32.ofNat o), .int (Int32.ofNat len), .null] 6)) (T11.setTop (mkF m 48 #[.val (.ref a), .val (.ref b), .val (.int (Int32.ofNat o)), .val (.int (Int32.ofNat len)), .val .null, .val (.ref s.heap.size)] [.int 0, .ref a])) := g11
  obtain ⟨T13, X13, p13, bl13, sl13, st13⟩ := X11.finit hexec hown (wk W (.fieldLink "java/lang/String" 15 "java/lang/String" "coder" "B")) (Or.inr ⟨_, (wk W (.laysFinal "java/lang/String" "java/lang/String" "coder" "B"))⟩) (Or.inl ⟨rfl, hnm⟩) f2 (Or.inl rfl) hB11 (t := .byte) (by decide +kernel) rfl (g := (mkF m 48 #[.val (.ref a), .val (.ref b), .val (.int (Int32.ofNat o)), .val (.int (Int32.ofNat len)), .val .null, .val (.ref s.heap.size)] [.int 0, .ref a])) rfl (rest := []) rfl (hb hbytes d48)
  have c14 : Steps p.tables e below (s₁.setTop (entryFrame m #[.ref a, .ref b, .int (Int32.ofNat o), .int (Int32.ofNat len), .null] 6)) (T13.setTop (mkF m 54 #[.val (.ref a), .val (.ref b), .val (.int (Int32.ofNat o)), .val (.int (Int32.ofNat len)), .val .null, .val (.ref s.heap.size)] [.ref s.heap.size, .ref a])) := (c12.trans (st13 _ (Steps.refl _))).trans (by
    refine XS.aloadN X13.here hexec rfl (hb hbytes d51) rfl rfl ?_
    refine XS.aload X13.here hexec rfl (hb hbytes d52) rfl rfl ?_
    exact Steps.refl _)
  obtain ⟨T15, X15, p15, bl15, sl15, st15⟩ := X13.finit hexec hown (wk W (.fieldLink "java/lang/String" 9 "java/lang/String" "value" "[B")) (Or.inr ⟨_, (wk W (.laysFinal "java/lang/String" "java/lang/String" "value" "[B"))⟩) (Or.inl ⟨rfl, hnm⟩) f1 (Or.inl rfl) bl13 (t := (.array .byte)) (by decide +kernel) rfl (g := (mkF m 54 #[.val (.ref a), .val (.ref b), .val (.int (Int32.ofNat o)), .val (.int (Int32.ofNat len)), .val .null, .val (.ref s.heap.size)] [.ref s.heap.size, .ref a])) rfl (rest := []) rfl (hb hbytes d54)
  have c16 : Steps p.tables e below (s₁.setTop (entryFrame m #[.ref a, .ref b, .int (Int32.ofNat o), .int (Int32.ofNat len), .null] 6)) (T15.setTop (mkF m 57 #[.val (.ref a), .val (.ref b), .val (.int (Int32.ofNat o)), .val (.int (Int32.ofNat len)), .val .null, .val (.ref s.heap.size)] [])) := c14.trans (st15 _ (Steps.refl _))
  have ap := apart (Or.inr ⟨_, (wk W (.laysFinal "java/lang/String" "java/lang/String" "value" "[B"))⟩) (Or.inr ⟨_, (wk W (.laysFinal "java/lang/String" "java/lang/String" "coder" "B"))⟩) f1 f2 (t₁ := .array .byte) (t₂ := .byte) (by decide +kernel) (by decide +kernel) (by decide)
  have al := X8.warmed.alike.symm.trans X15.warmed.alike
  have n7 : T11.heap[s.heap.size]? = some N := by rw [q11]; exact n1.1
  exact ⟨T15, none, _, _, _, X15, by simp, rfl, by omega, (fun _ => rfl), ⟨rfl, _, N, bl15, ((Same.refl D _).set _ (by simp)).set _ (by simp), sl15, (Cell.slots_setSlot_ne _ ap).trans sl13, n1.keep al (p15.other hne (p13.other hne n7)), n2, by rw [al.findClass]; exact n3, n4, n5, fun y c h1 h2 => p15.other h1 (p13.other h1 (by rw [q11]; exact n6 y c h2)), by rw [p15.2.2, p13.2.2, q11]; exact z8⟩, fun fs hl => c16.trans (X15.returnOut hexec hret (hb hbytes d57) hl)⟩
end New4
namespace New1
def yN : MethodName := ⟨"java/lang/String", "<init>", "([C)V"⟩
abbrev yB : ByteArray := jdk_42_method_3_code
theorem d0 : decode yB 0 = .ok (.aload_n 0, 1) := by decide +kernel
theorem d1 : decode yB 1 = .ok (.aload_n 1, 1) := by decide +kernel
theorem d2 : decode yB 2 = .ok (.iconst 0, 1) := by decide +kernel
theorem d3 : decode yB 3 = .ok (.aload_n 1, 1) := by decide +kernel
theorem d4 : decode yB 4 = .ok (.arraylength, 1) := by decide +kernel
theorem d5 : decode yB 5 = .ok (.aconst_null, 1) := by decide +kernel
theorem d6 : decode yB 6 = .ok (.invokespecial 27, 3) := by decide +kernel
theorem d9 : decode yB 9 = .ok (.return_, 1) := by decide +kernel
def site : List Cond := [New4.tab] ++ initW "java/lang/String" 27 New4.yN
def tab : Cond := tabOf yN yB 2 none site
def P (a : Addr) (D : Cell) (fV fC : Field) (b : Addr) (A : Cell) (z : Int32) (args : Array Value) (s : State) : Prop := args = #[.ref a, .ref b] ∧ Blank "java/lang/String" a D s ∧ Found "java/lang/String" "value" "[B" fV s ∧ Found "java/lang/String" "coder" "B" fC s ∧ Ch b A s ∧ StaticIs s "java/lang/String" "COMPACT_STRINGS" "Z" (.int z) ∧ ¬ z = 0 ∧ 0 < A.slots.size ∧ A.slots.size ≤ 536870912 ∧ ∀ i, i < A.slots.size → ¬ 255 < cv A i
def E (a : Addr) (D : Cell) (fV fC : Field) (A : Cell) (r : Option Value) (s u : State) : Prop := Got a D fV fC A 0 A.slots.size r s u
/-- new String(chars), not empty, no char above 255: a Latin-1 String of their low bytes -/
theorem law (l : Launch) (a : Addr) (D : Cell) (fV fC : Field) (b : Addr) (A : Cell) (z : Int32) : Law l yN 2 1 3 52 yB 2 none site (P a D fV fC b A z) (E a D fV fC A) [⟨a, fC.slot⟩, ⟨a, fV.slot⟩] 1 A.slots.size := by
  refine Law.of_walk (plainFor_of_name (by decide +kernel)) (by decide +kernel) (by decide +kernel) (by decide) (fun _ _ h => by rw [h.1]; rfl) (fun _ U U' hal hh h => ⟨h.1, h.2.1.mv hal hh, h.2.2.1.al hal, h.2.2.2.1.al hal, h.2.2.2.2.1.mv hal hh, h.2.2.2.2.2.1.there hal hh, h.2.2.2.2.2.2⟩) (fun r U U' V V' h1 hal h2 h => Got.mv r U U' V V' h1 hal h2 h) ?_
  intro p e s m args below meth c s₁ X0 hexec hbytes hml hret hlk hnm hown hh0 W hP
  obtain ⟨rfl, hB, f1, f2, hA, s1, hz, l0, l2, hp⟩ := hP
  have c1 : Steps p.tables e below (s₁.setTop (entryFrame m #[.ref a, .ref b] 2)) (s₁.setTop (mkF m 0 #[.val (.ref a), .val (.ref b)] [])) := entry rfl
  have c2 : Steps p.tables e below (s₁.setTop (entryFrame m #[.ref a, .ref b] 2)) (s₁.setTop (mkF m 6 #[.val (.ref a), .val (.ref b)] [.null, .int (Int32.ofNat A.slots.size), .int 0, .ref b, .ref a])) := c1.trans (by
    refine XS.aloadN X0.here hexec rfl (hb hbytes d0) rfl rfl ?_
    refine XS.aloadN X0.here hexec rfl (hb hbytes d1) rfl rfl ?_
    refine iconstV X0.here hexec rfl 0 (hb hbytes d2) (by decide) ?_
    refine XS.aloadN X0.here hexec rfl (hb hbytes d3) rfl rfl ?_
    refine X0.alen hexec (hA.1.mv X0.warmed.alike hh0) rfl rfl (hb hbytes d4) ?_
    refine XS.aconstNull X0.here hexec rfl (hb hbytes d5) ?_
    exact Steps.refl _)
  obtain ⟨v3, T3, X3, E3, g3⟩ := X0.callN hexec (New4.law l a D fV fC b A z 0 A.slots.size) rfl hown (wks W (initW "java/lang/String" 27 New4.yN)) (W New4.tab (by simp only [site, List.mem_cons, List.mem_append, true_or, or_true])) (W := 0) (Nat.le_of_ble_eq_true rfl) (Nat.le_of_ble_eq_true rfl) (Nat.le_refl _) (by show 0 + A.slots.size ≤ A.slots.size; omega) (g := (mkF m 6 #[.val (.ref a), .val (.ref b)] [.null, .int (Int32.ofNat A.slots.size), .int (Int32.ofNat 0), .ref b, .ref a])) rfl (by rw [hml]; rfl) c2 (argsL := [.ref b, .int (Int32.ofNat 0), .int (Int32.ofNat A.slots.size), .null]) (rest := []) rfl rfl (by show 2 * 0 + 0 ≤ _; decide) (hb hbytes d6) (⟨rfl, hB.mv X0.warmed.alike hh0, f1.al X0.warmed.alike, f2.al X0.warmed.alike, hA.mv X0.warmed.alike hh0, s1.there X0.warmed.alike hh0, hz, l0, by omega, l2, fun i hi => by rw [Nat.zero_add]; exact hp i hi⟩)
  have e0 := Got.mv _ s₁ s _ _ hh0.symm (Vm.Alike.refl _) rfl E3
  obtain rfl := e0.1
  have c4 : Steps p.tables e below (s₁.setTop (entryFrame m #[.ref a, .ref b] 2)) (T3.setTop (mkF m 9 #[.val (.ref a), .val (.ref b)] [])) := g3
  exact ⟨T3, none, _, _, _, X3, by simp, rfl, by omega, (fun _ => rfl), e0, fun fs hl => c4.trans (X3.returnOut hexec hret (hb hbytes d9) hl)⟩
theorem pays {l : Launch} {R : Room} {p : Program} {e : Env} {below : List Frame} {s : State} {sargs : Array Value} {len W : Nat} (a : Addr) (D : Cell) (fV fC : Field) (b : Addr) (A : Cell) (z : Int32) (htab : tab.before sargs s = true) (hfr : 4 ≤ R.frames) (hlo : W + 65 ≤ R.locals) :
    Back l R p e below s sargs yN len W (fun A₁ a₁ => A₁.cells + 1 ≤ R.cells ∧ A₁.slots + A.slots.size ≤ R.slots ∧ P a D fV fC b A z a₁ A₁.U) (fun A₁ _ v₁ B₁ => E a D fV fC A v₁ A₁.U B₁.U ∧ B₁.locs = A₁.locs ++ [⟨a, fC.slot⟩, ⟨a, fV.slot⟩] ∧ B₁.cells = A₁.cells + 1 ∧ B₁.slots = A₁.slots + A.slots.size) :=
  (law l a D fV fC b A z).pays htab hfr (by omega)
end New1
/-- the byte, read back as charAt reads it, is the char -/
theorem lo8_mask {x : Int32} (h0 : ¬ x < 0) (h1 : ¬ 255 < x) : lo8 x &&& 255 = x := by
  have t : ∀ k : Fin 256, lo8 (Int32.ofNat k.val) &&& 255 = Int32.ofNat k.val := by decide +kernel
  rw [Int32.lt_iff_toInt_lt] at h0 h1
  have e0 : (0 : Int32).toInt = 0 := rfl
  have e1 : (255 : Int32).toInt = 255 := rfl
  obtain ⟨k, hk⟩ : ∃ k : Nat, x.toInt = k := ⟨x.toInt.toNat, by omega⟩
  have hx : x = Int32.ofNat k := Int32.toInt_inj.mp (by rw [hk, Int32.toInt_ofNat_small (by omega)])
  rw [hx]
  exact t ⟨k, by omega⟩
end StrChars
namespace StrChars.Road
open Jvm Sem ClassFile Op Lib Jvm.Stand Jvm.Free Jvm.Free.XT
open Jvm.Lib.Cold (StaticIs)
abbrev ST : String := "java/lang/String"
/-- every table word that New1's law asks, flat -/
abbrev words : List Jvm.Cond := [.code New1.yN New1.yB 2 none, .initialized ST, .methodLink ST 27 New4.yN, .instanceMethod New4.yN,
  .code New4.yN New4.yB 6 none, .fieldLink ST 38 ST "COMPACT_STRINGS" "Z", .laysFinal ST ST "value" "[B", .fieldLink ST 9 ST "value" "[B", .laysFinal ST ST "coder" "B", .fieldLink ST 15 ST "coder" "B",
  .methodLink ST 1 Lib.objectInit, .instanceMethod Lib.objectInit, .code Lib.objectInit ⟨#[0xb1]⟩ 1 none, .methodLink ST 177 Cmp3.yN, .static Cmp3.yN, .methodLink ST 47 CodL.yN, .static CodL.yN,
  .code Cmp3.yN Cmp3.yB 6 (some (.array .byte)), .initialized U16, .arrayClass .byte, .methodLink U16 115 Cmp5.yN, .static Cmp5.yN, .code Cmp5.yN Cmp5.yB 7 (some .int), .code CodL.yN CodL.yB 2 (some .byte)]
theorem tab_of {a : Array Value} {s : State} (h : ∀ w ∈ words, w.before a s = true) : New1.tab.before a s = true := by
  have h5 : Cmp5.tab.before a s = true := unparts (wk h (.code Cmp5.yN Cmp5.yB 7 (some .int))) (wks h (.initialized Cmp5.yN.cls :: Cmp5.site))
  have hc : CodL.tab.before a s = true := unparts (wk h (.code CodL.yN CodL.yB 2 (some .byte))) (wks h (.initialized CodL.yN.cls :: CodL.site))
  have q5 : ∀ w ∈ Cmp5.tab :: words, w.before a s = true := fun w hw => (List.mem_cons.mp hw).elim (fun e => e ▸ h5) (h w)
  have h3 : Cmp3.tab.before a s = true := unparts (wk q5 (.code Cmp3.yN Cmp3.yB 6 (some (.array .byte)))) (wks q5 (.initialized Cmp3.yN.cls :: Cmp3.site))
  have q3 : ∀ w ∈ Cmp3.tab :: CodL.tab :: words, w.before a s = true := fun w hw => (List.mem_cons.mp hw).elim (fun e => e ▸ h3) fun hw => (List.mem_cons.mp hw).elim (fun e => e ▸ hc) (h w)
  have h4 : New4.tab.before a s = true := unparts (wk q3 (.code New4.yN New4.yB 6 none)) (wks q3 (.initialized New4.yN.cls :: New4.site))
  have q4 : ∀ w ∈ New4.tab :: words, w.before a s = true := fun w hw => (List.mem_cons.mp hw).elim (fun e => e ▸ h4) (h w)
  exact unparts (wk q4 (.code New1.yN New1.yB 2 none)) (wks q4 (.initialized New1.yN.cls :: New1.site))
/-- the words ride from the start Z to the walk's own state -/
theorem moved {Z s : State} {a0 args : Array Value} (hZ : Z.Warmed39 s.vm) (hw : ∀ d ∈ words, d.before a0 Z = true) : ∀ d ∈ words, d.before args s = true := fun d hd => by
  have q := hw d hd
  have t : ∀ d ∈ words, d = .arrayClass .byte ∨ (d.onTables && d.keepsFace) = true := by decide +kernel
  rcases t d hd with rfl | t
  · exact RoadKit.mvA hZ q
  · exact RoadKit.mv hZ q t
/-- WHAT COMES BACK, over the tables of the start Z: h the heap at the call, h' behind it -/
def Q (Z : State) (x : Addr) (A : Cell) (h : Heap) (v : Option Value) (h' : Heap) (L : List Loc) : Prop := v = none ∧ (∀ y ∈ L, y.base = x) ∧ RoadKit.Keep h h' [x] ∧ h'.size = h.size + 1 ∧ RoadKit.Exa Z h' x ST ∧ RoadKit.Fld Z h' x ST "value" "[B" (.ref h.size) ∧ RoadKit.Fld Z h' x ST "coder" "B" (.int 0) ∧
  (∃ V : Cell, RoadKit.Arr Z h' h.size V .byte ∧ V.vm = .none ∧ Z.vm.findClass "[B" = some V.cls ∧ V.slots.size = A.slots.size ∧ ∀ j, j < A.slots.size → V.slots[j]? = some (.int (lo8 (cv A j)))) ∧
  ∀ (O n d : String) (w : Value), RoadKit.Fld Z h x O n d w → RoadKit.slotOf Z O n d ≠ RoadKit.slotOf Z ST "value" "[B" → RoadKit.slotOf Z O n d ≠ RoadKit.slotOf Z ST "coder" "B" → RoadKit.Fld Z h' x O n d w
/-- **new String(chars) AT A CALL, IN THE ROAD'S FORM**: for specialBack behind newO: x the fresh String, b the char[] with the cell A -/
theorem back {p : Program} {l : Launch} {e : Env} {R : Room} {s : State} {args : Array Value} {below : List Frame} {len W : Nat} {Z : State} {a0 : Array Value} {h : Heap} (hZ : Z.Warmed39 s.vm) (hw : ∀ d ∈ words, d.before a0 Z = true) {kI : Nat} (wi : (Jvm.Cond.instantiable ST kI).before a0 Z = true)
    {x b : Addr} {A : Cell} {z : Int32} {v0 c0 : Value} (E : RoadKit.Exa Z h x ST) (V : RoadKit.Fld Z h x ST "value" "[B" v0) (C : RoadKit.Fld Z h x ST "coder" "B" c0) (K : RoadKit.Arr Z h b A .char) (hty : Typed .char A) (S : RoadKit.Sta Z h ST "COMPACT_STRINGS" "Z" (.int z)) (hz : ¬ z = 0)
    (l0 : 0 < A.slots.size) (l2 : A.slots.size ≤ 536870912) (hp : ∀ i, i < A.slots.size → ¬ 255 < cv A i) (hfr : 4 ≤ R.frames) (hlo : W + 65 ≤ R.locals) :
    Back l R p e below s args New1.yN len W (fun P a => a = #[.ref x, .ref b] ∧ P.U.heap = h ∧ P.cells + 1 ≤ R.cells ∧ P.slots + A.slots.size ≤ R.slots)
      (fun P _ v B => ∃ L, Q Z x A h v B.U.heap L ∧ B.locs = P.locs ++ L ∧ B.cells = P.cells + 1 ∧ B.slots = P.slots + A.slots.size) := by
  intro m meth c P g ig mk a X hg hsize hdg hW hn hp'
  obtain ⟨rfl, rfl, r1, r2⟩ := hp'
  have al : Z.vm.Alike P.U.vm := hZ.alike.trans X.warmed.alike
  obtain ⟨D, cfV, kV, iV, fV, hD, gV, stV, knV, obV, asV, slV⟩ := id V
  obtain ⟨D', cfC, kC, iC, fC, hD', gC, stC, -, -, asC, slC⟩ := id C
  cases hD.symm.trans hD'
  obtain ⟨D2, kD, e1, e2, e3, e4, e5⟩ := id E
  cases hD.symm.trans e1
  obtain ⟨c2, k2, i1, i2, i3, -⟩ := Cond.instantiable_spec wi
  cases e2.symm.trans i1
  cases e3.symm.trans i2
  obtain ⟨kU, u1, u2⟩ := al.2.2 _ _ e3
  have hB : Blank ST x D P.U := ⟨hD, ⟨knV, fun q hq => by rw [hq] at obV; cases obV⟩, by rw [al.findClass]; exact e2, kU, u1, by rw [u2]; exact i3, by rw [u2]; exact e5 i3⟩
  have F1 : Found ST "value" "[B" fV P.U := ⟨SBG.found_only al ⟨cfV, kV, iV, gV⟩, stV⟩
  have F2 : Found ST "coder" "B" fC P.U := ⟨SBG.found_only al ⟨cfC, kC, iC, gC⟩, stC⟩
  have hA : Ch b A P.U := ⟨⟨K.1, State.isArrayOf_alike al K.2.1, K.2.2, by omega⟩, hty⟩
  have hS : StaticIs P.U ST "COMPACT_STRINGS" "Z" (.int z) := by
    obtain ⟨cfS, iS, kS, fS, st, cS, t1, t2, t3, t4, t5, t6, t7⟩ := S
    exact StaticIs.there (s := { Z with heap := P.U.heap }) ⟨cfS, iS, kS, fS, st, cS, t1, t2, t3, t4, t5, (fun q => by rw [q] at t6; cases t6), t7⟩ al rfl
  obtain ⟨v, B, X', ⟨⟨hv, E', V', q1, q2, q3, q4, q5, q6, q7, q8, q9, q10, q11⟩, hl, hc, hs⟩, st⟩ := New1.pays x D fV fC b A z (tab_of (moved hZ hw)) hfr hlo m meth c P g ig mk _ X hg hsize hdg hW hn ⟨r1, r2, rfl, hB, F1, F2, hA, hS, hz, l0, l2, hp⟩
  have al' : Z.vm.Alike B.U.vm := hZ.alike.trans X'.warmed.alike
  have hsz : E'.slots.size = D.slots.size := by
    obtain ⟨-, -, -, kB, w1, w2, w3⟩ := q1
    obtain ⟨kB', y1, y2⟩ := al'.2.2 _ _ e3
    rw [q2.2.1] at w1
    cases w1.symm.trans y1
    rw [w3, e5 i3, y2]
  refine ⟨v, B, X', ⟨_, ⟨hv, ?_, ⟨by omega, fun y cy hy hn' => q10 y cy (by simpa using hn') hy, fun y cy hy => ?_⟩, q11, ⟨E', _, q1.1, by rw [q2.2.1]; exact e2, by rw [q2.2.1]; exact e3, by rw [q2.1]; exact obV, fun _ => by rw [hsz]; exact e5 i3⟩,
    ⟨E', cfV, kV, iV, fV, q1.1, gV, stV, by rw [q2.1]; exact knV, by rw [q2.1]; exact obV, by rw [q2.2.1]; exact asV, q3⟩, ⟨E', cfC, kC, iC, fC, q1.1, gC, stC, by rw [q2.1]; exact knV, by rw [q2.1]; exact obV, by rw [q2.2.1]; exact asC, q4⟩,
    ⟨V', ⟨q5.1, State.isArrayOf_alike al'.symm q5.2.1, q5.2.2.1⟩, q6, by rw [← al'.findClass]; exact q7, q8, fun j hj => by have := q9 j hj; rwa [Nat.zero_add] at this⟩, fun O n d w F n1 n2 => ?_⟩, hl, hc, hs⟩, st⟩
  · intro y hy
    simp only [List.mem_cons, List.not_mem_nil, or_false] at hy
    rcases hy with rfl | rfl <;> rfl
  · by_cases q : y = x
    · subst q
      cases hD.symm.trans hy
      exact ⟨E', q1.1, q2.2.1, q2.1, hsz⟩
    · exact ⟨cy, q10 y cy q hy, rfl, rfl, rfl⟩
  · obtain ⟨D3, cf, k, i, f, g1, g2, g3, g4, g5, g6, g7⟩ := F
    cases hD.symm.trans g1
    simp only [RoadKit.slotOf, g2, gV, gC, Option.map_some, Option.getD_some] at n1 n2
    exact ⟨E', cf, k, i, f, q1.1, g2, g3, by rw [q2.1]; exact g4, by rw [q2.1]; exact g5, by rw [q2.2.1]; exact g6, by rw [q2.2.2 f.slot (by simp [n1, n2])]; exact g7⟩
end StrChars.Road
namespace StrChars.Road
open Jvm Sem ClassFile Op Lib Jvm.Stand Jvm.Free Jvm.Free.XT
/-- WHAT COMES BACK, the byte[] as a list of values -/
def QA (Z : State) (x : Addr) (zn : Int32) (cs : List Int32) (h : Heap) (v : Option Value) (h' : Heap) (L : List Loc) : Prop := v = none ∧ (∀ y ∈ L, y.base = x) ∧ RoadKit.Keep h h' [x] ∧ h'.size = h.size + 1 ∧ RoadKit.Exa Z h' x ST ∧ RoadKit.Fld Z h' x ST "value" "[B" (.ref h.size) ∧ RoadKit.Fld Z h' x ST "coder" "B" (.int 0) ∧
  (∃ kb, Z.vm.findClass "[B" = some kb ∧ RoadKit.Arv Z h' h.size kb .byte zn (cs.map fun c => .int (lo8 c)) (.int 0)) ∧
  ∀ (O n d : String) (w : Value), RoadKit.Fld Z h x O n d w → RoadKit.slotOf Z O n d ≠ RoadKit.slotOf Z ST "value" "[B" → RoadKit.slotOf Z O n d ≠ RoadKit.slotOf Z ST "coder" "B" → RoadKit.Fld Z h' x O n d w
/-- **new String(chars) AT A CALL, THE ARRAYS AS LISTS**: the char[] at b holds cs, not empty, no char above 255 -/
theorem backArv {p : Program} {l : Launch} {e : Env} {R : Room} {s : State} {args : Array Value} {below : List Frame} {len W : Nat} {Z : State} {a0 : Array Value} {h : Heap} (hZ : Z.Warmed39 s.vm) (hw : ∀ d ∈ words, d.before a0 Z = true) {kI : Nat} (wi : (Jvm.Cond.instantiable ST kI).before a0 Z = true)
    {x b : Addr} {k : ClassId} {zn z : Int32} {cs : List Int32} {dv v0 c0 : Value} (E : RoadKit.Exa Z h x ST) (V : RoadKit.Fld Z h x ST "value" "[B" v0) (C : RoadKit.Fld Z h x ST "coder" "B" c0) (K : RoadKit.Arv Z h b k .char zn (cs.map Value.int) dv) (S : RoadKit.Sta Z h ST "COMPACT_STRINGS" "Z" (.int z)) (hz : ¬ z = 0)
    (hlen : zn.toNatClampNeg = cs.length) (h0 : 0 < cs.length) (hbig : cs.length ≤ 536870912) (hall : ∀ c ∈ cs, ¬ 255 < c) (hfr : 4 ≤ R.frames) (hlo : W + 65 ≤ R.locals) :
    Back l R p e below s args New1.yN len W (fun P a => a = #[.ref x, .ref b] ∧ P.U.heap = h ∧ P.cells + 1 ≤ R.cells ∧ P.slots + cs.length ≤ R.slots)
      (fun P _ v B => ∃ L, QA Z x zn cs h v B.U.heap L ∧ B.locs = P.locs ++ L ∧ B.cells = P.cells + 1 ∧ B.slots = P.slots + cs.length) := by
  obtain ⟨A, K1, K2, K3, K4, K5, K6⟩ := K
  have e : A.slots.size = cs.length := K3.trans hlen
  have hat : ∀ (i : Nat) (hi : i < cs.length), A.slots[i]? = some (.int cs[i]) := fun i hi => by rw [K5 i (by omega)]; simp [List.getD_eq_getElem?_getD, hi]
  have hcv : ∀ (i : Nat) (hi : i < cs.length), cv A i = cs[i] := fun i hi => by unfold cv; rw [hat i hi]
  have hty : Typed .char A := fun i v hv => by
    have hi : i < A.slots.size := (Array.getElem?_eq_some_iff.mp hv).1
    have q := K5 i hi
    rw [hv] at q
    rw [Option.some.inj q]
    exact K6 i hi
  refine Back.mono (back hZ hw wi E V C K1 hty S hz (by omega) (by omega) (fun i hi => by rw [hcv i (by omega)]; exact hall _ (List.getElem_mem _)) hfr hlo) (fun P a hp => ⟨hp.1, hp.2.1, hp.2.2.1, by rw [e]; exact hp.2.2.2⟩) (fun P a v B hp hq => ?_)
  obtain ⟨L, ⟨q1, q2, q3, q4, q5, q6, q7, ⟨V', v1, v2, v3, v4, v5⟩, q9⟩, hl, hc, hs⟩ := hq
  refine ⟨L, ⟨q1, q2, q3, q4, q5, q6, q7, ⟨V'.cls, v3, V', v1, rfl, by rw [v4, e, hlen], K4, fun i hi => ?_, fun i hi => ?_⟩, q9⟩, hl, hc, by rw [hs, e]⟩
  · have hi' : i < cs.length := by omega
    rw [v5 i (by omega), hcv i hi']; simp [List.getD_eq_getElem?_getD, hi']
  · have hi' : i < cs.length := by omega
    simp only [List.getD_eq_getElem?_getD, List.getElem?_map, List.getElem?_eq_getElem hi', Option.map_some, Option.getD_some]
    exact fits_lo8 _
end StrChars.Road
namespace StrChars.Road
open Jvm Sem ClassFile Op Lib Jvm.Stand Jvm.Free Jvm.Free.XT
/-- WHAT COMES BACK, in the writer's own shape -/
def QV (Z : State) (x : Addr) (N : Int32) (bs : List Int32) (h : Heap) (n0 : Nat) (v : Option Value) (h' : Heap) (L : List Loc) : Prop := v = none ∧ RoadKit.Fr n0 L ∧ RoadKit.Keep h h' [x] ∧ RoadKit.Exa Z h' x ST ∧ RoadKit.Fld Z h' x ST "coder" "B" (.int 0) ∧
  ∃ (t : Addr) (kb : ClassId), n0 ≤ t ∧ h.size ≤ t ∧ ¬ t = x ∧ RoadKit.Fld Z h' x ST "value" "[B" (.ref t) ∧ RoadKit.Arv Z h' t kb .byte N (bs.map Value.int) (.int 0)
/-- **new String(chars) AT A CALL, FOR THE WRITER**: a char[] of n known ints, each 0 to 255 -/
theorem backV {p : Program} {l : Launch} {e : Env} {R : Room} {s : State} {args : Array Value} {below : List Frame} {len W : Nat} {Z : State} {a0 : Array Value} {h : Heap} (hZ : Z.Warmed39 s.vm) (hw : ∀ d ∈ words, d.before a0 Z = true) {kI : Nat} (wi : (Jvm.Cond.instantiable ST kI).before a0 Z = true)
    {x b : Addr} {kC : ClassId} {cs bs : List Int32} {d v0 c0 : Value} {z N : Int32} {n n0 : Nat} (hx0 : n0 ≤ x) (hh0 : n0 ≤ h.size) (E : RoadKit.Exa Z h x ST) (V : RoadKit.Fld Z h x ST "value" "[B" v0) (C : RoadKit.Fld Z h x ST "coder" "B" c0) (K : RoadKit.Arv Z h b kC .char N (cs.map Value.int) d) (S : RoadKit.Sta Z h ST "COMPACT_STRINGS" "Z" (.int z)) (hz : ¬ z = 0)
    (hn : cs.length = n) (hN : N = Int32.ofNat n) (l0 : 0 < n) (l2 : n ≤ 4000) (hp : ∀ c ∈ cs, ¬ c < 0 ∧ ¬ (255 : Int32) < c) (hb : bs = cs.map (fun c => c.toInt8.toInt32)) (hfr : 4 ≤ R.frames) (hlo : W + 65 ≤ R.locals) :
    Back l R p e below s args (⟨"java/lang/String", "<init>", "([C)V"⟩ : MethodName) len W (fun P a => a = #[.ref x, .ref b] ∧ P.U.heap = h ∧ P.cells + 1 ≤ R.cells ∧ P.slots + n ≤ R.slots)
      (fun P _ v B => ∃ L, QV Z x N bs h n0 v B.U.heap L ∧ B.locs = P.locs ++ L ∧ B.cells = P.cells + 1 ∧ B.slots = P.slots + n) := by
  subst hn hN hb
  refine Back.mono (backArv hZ hw wi E V C K S hz (n32 (by omega)) l0 (by omega) (fun c hc => (hp c hc).2) hfr hlo) (fun P a hp => hp) (fun P a v B hp hq => ?_)
  obtain ⟨L, ⟨q1, q2, q3, q4, q5, q6, q7, ⟨kb, v1, v2⟩, q9⟩, hl, hc, hs⟩ := hq
  exact ⟨L, ⟨q1, fun y hy => by rw [q2 y hy]; exact hx0, q3, q5, q7, h.size, kb, hh0, Nat.le_refl _, Nat.ne_of_gt E.lt, q6, by rw [List.map_map]; exact v2⟩, hl, hc, hs⟩
end StrChars.Road
namespace StrChars
open Jvm Sem ClassFile Op Lib Jvm.Stand Jvm.Free.XT Jvm.Free.ALB Jvm.Free.JM Jvm.Free
open Jvm.Lib.Cold (StaticIs)
def hi8 (x : Int32) : Int32 := lo8 (x >>> ((8 : Int32) &&& 31))
/-- what StringUTF16.getChar makes of two bytes -/
def pairCh (u v : Int32) : Int32 := (((u &&& 255) <<< ((0 : Int32) &&& 31)) ||| ((v &&& 255) <<< ((8 : Int32) &&& 31))).toUInt32.toUInt16.toUInt32.toInt32
theorem lo8_and (x : Int32) : (lo8 x &&& 255).toBitVec.toNat = x.toBitVec.toNat % 256 := by
  have h : (lo8 x).toBitVec = (x.toBitVec.signExtend 8).signExtend 32 := by rw [lo8, Int8.toBitVec_toInt32, Int32.toBitVec_toInt8]
  rw [Int32.toBitVec_and, BitVec.toNat_and, h]
  have e : ((x.toBitVec.signExtend 8).signExtend 32).toNat % 256 = x.toBitVec.toNat % 256 := by
    rw [BitVec.toNat_signExtend]
    have hlt := x.toBitVec.isLt
    simp only [BitVec.toNat_setWidth, BitVec.toNat_signExtend]
    split <;> split <;> omega
  rw [← e]
  exact Nat.and_two_pow_sub_one_eq_mod _ 8
theorem pair_says {c : Int32} (h0 : ¬ c < 0) (h1 : ¬ 65535 < c) : pairCh (lo8 c) (hi8 c) = c := by
  rw [Int32.lt_iff_toInt_lt] at h0 h1
  have e0 : (0 : Int32).toInt = 0 := rfl
  have e1 : (65535 : Int32).toInt = 65535 := rfl
  have hc : c.toInt = c.toBitVec.toNat := by
    have := c.toBitVec.isLt
    have e : c.toInt = c.toBitVec.toInt := rfl
    rw [e] at h0 h1
    rw [e]
    rw [BitVec.toInt_eq_toNat_cond] at h0 h1 ⊢
    split at h0 <;> split <;> omega
  have hn : c.toBitVec.toNat < 65536 := by omega
  have a1 := lo8_and c
  have a2 : (hi8 c &&& 255).toBitVec.toNat = c.toBitVec.toNat / 256 := by
    rw [hi8, lo8_and]
    have e : ((8 : Int32) &&& 31) = 8 := by decide
    rw [e, Int32.toBitVec_shiftRight]
    have e2 : ((8 : Int32).toBitVec.smod 32) = 8#32 := by decide
    rw [e2, BitVec.sshiftRight_eq', BitVec.toNat_sshiftRight_of_msb_false (by rw [BitVec.msb_eq_false_iff_two_mul_lt]; omega)]
    show c.toBitVec.toNat >>> 8 % 256 = _
    rw [Nat.shiftRight_eq_div_pow]
    omega
  unfold pairCh
  apply Int32.toBitVec_inj.mp
  apply BitVec.eq_of_toNat_eq
  have f0 : ((0 : Int32) &&& 31) = 0 := by decide
  have f8 : ((8 : Int32) &&& 31) = 8 := by decide
  rw [f0, f8]
  have g : (((lo8 c &&& 255) <<< (0 : Int32)) ||| ((hi8 c &&& 255) <<< (8 : Int32))).toBitVec.toNat = c.toBitVec.toNat := by
    rw [Int32.toBitVec_or, Int32.toBitVec_shiftLeft, Int32.toBitVec_shiftLeft]
    have s0 : ((0 : Int32).toBitVec.smod 32) = 0#32 := by decide
    have s8 : ((8 : Int32).toBitVec.smod 32) = 8#32 := by decide
    rw [s0, s8, BitVec.toNat_or]
    simp only [BitVec.shiftLeft_eq', BitVec.toNat_shiftLeft, a1, a2]
    show (c.toBitVec.toNat % 256) <<< 0 % 2 ^ 32 ||| (c.toBitVec.toNat / 256) <<< 8 % 2 ^ 32 = _
    rw [Nat.shiftLeft_zero, Nat.mod_eq_of_lt (show c.toBitVec.toNat % 256 < 2 ^ 32 by omega), Nat.mod_eq_of_lt (show (c.toBitVec.toNat / 256) <<< 8 < 2 ^ 32 by rw [Nat.shiftLeft_eq]; omega), Nat.or_comm, ← Nat.shiftLeft_add_eq_or_of_lt (by omega), Nat.shiftLeft_eq]
    omega
  show BitVec.toNat (((((lo8 c &&& 255) <<< (0 : Int32)) ||| ((hi8 c &&& 255) <<< (8 : Int32))).toBitVec.setWidth 16).setWidth 32) = _
  rw [BitVec.toNat_setWidth, BitVec.toNat_setWidth, g]
  omega
end StrChars
namespace StrChars
open Jvm Sem ClassFile Op Lib Jvm.Stand Jvm.Free.XT Jvm.Free.ALB Jvm.Free.JM Jvm.Free
open Jvm.Lib.Cold (StaticIs)
/-- charAt's cast of a byte read back -/
def chr8 (u : Int32) : Int32 := (u &&& 255).toUInt32.toUInt16.toUInt32.toInt32
theorem chr8_lo8 {c : Int32} (h0 : ¬ c < 0) (h1 : ¬ 255 < c) : chr8 (lo8 c) = c := by
  have t : ∀ k : Fin 256, (Int32.ofNat k.val).toUInt32.toUInt16.toUInt32.toInt32 = Int32.ofNat k.val := by decide +kernel
  unfold chr8
  rw [lo8_mask h0 h1]
  rw [Int32.lt_iff_toInt_lt] at h0 h1
  have e0 : (0 : Int32).toInt = 0 := rfl
  have e1 : (255 : Int32).toInt = 255 := rfl
  obtain ⟨k, hk⟩ : ∃ k : Nat, c.toInt = k := ⟨c.toInt.toNat, by omega⟩
  have hx : c = Int32.ofNat k := Int32.toInt_inj.mp (by rw [hk, Int32.toInt_ofNat_small (by omega)])
  rw [hx]
  exact t ⟨k, by omega⟩
theorem narrow_ch {c : Int32} (h0 : ¬ c < 0) (h1 : ¬ 65535 < c) : narrow .char (.int c) = .int c := by
  have q : narrow .char (.int (pairCh (lo8 c) (hi8 c))) = .int (pairCh (lo8 c) (hi8 c)) := narrow_c _
  rwa [pair_says h0 h1] at q
/-- the array's cell V codes the n chars f 0 .. f (n - 1) by the coder cd, as the JDK does: coder 1 just where some char is above 255 -/
def Cod (cd : Int32) (n : Nat) (f : Nat → Int32) (V : Cell) : Prop := (cd = 0 ∧ V.slots.size = n ∧ ∀ j, j < n → V.slots[j]? = some (.int (lo8 (f j))) ∧ ¬ 255 < f j) ∨ (cd = 1 ∧ V.slots.size = 2 * n ∧ (∀ j, j < n → V.slots[2 * j]? = some (.int (lo8 (f j))) ∧ V.slots[2 * j + 1]? = some (.int (hi8 (f j)))) ∧ ∃ j, j < n ∧ 255 < f j)
theorem Cod.cd {cd : Int32} {n : Nat} {f : Nat → Int32} {V : Cell} (h : Cod cd n f V) : cd = 0 ∨ cd = 1 := h.imp (fun q => q.1) fun q => q.1
/-- **x is a String of the n chars f 0 .. f (n - 1)**, Latin-1 or UTF-16; its array at t has the cell V -/
def Txt (x t : Addr) (V : Cell) (cd : Int32) (n : Nat) (f : Nat → Int32) (U : State) : Prop := Exact "java/lang/String" x U ∧ Has x "java/lang/String" "value" "[B" (.ref t) U ∧ Has x "java/lang/String" "coder" "B" (.int cd) U ∧ XT.Arr .byte t V U ∧ Cod cd n f V ∧ ∀ j, j < n → ¬ f j < 0 ∧ ¬ 65535 < f j
theorem Txt.mv {x t : Addr} {V : Cell} {cd : Int32} {n : Nat} {f : Nat → Int32} {U U' : State} (h : Txt x t V cd n f U) (hal : U.vm.Alike U'.vm) (hh : U'.heap = U.heap) : Txt x t V cd n f U' := ⟨h.1.mv hal hh, h.2.1.mv hal hh, h.2.2.1.mv hal hh, h.2.2.2.1.mv hal hh, h.2.2.2.2⟩
namespace IsL
def yN : MethodName := ⟨"java/lang/String", "isLatin1", "()Z"⟩
abbrev yB : ByteArray := jdk_42_method_154_code
theorem d0 : decode yB 0 = .ok (.getstatic 38, 3) := by decide +kernel
theorem d3 : decode yB 3 = .ok (.ifCond (.eq) 14, 3) := by decide +kernel
theorem d6 : decode yB 6 = .ok (.aload_n 0, 1) := by decide +kernel
theorem d7 : decode yB 7 = .ok (.getfield 15, 3) := by decide +kernel
theorem d10 : decode yB 10 = .ok (.ifCond (.ne) 7, 3) := by decide +kernel
theorem d13 : decode yB 13 = .ok (.iconst 1, 1) := by decide +kernel
theorem d14 : decode yB 14 = .ok (.goto 4, 3) := by decide +kernel
theorem d17 : decode yB 17 = .ok (.iconst 0, 1) := by decide +kernel
theorem d18 : decode yB 18 = .ok (.ireturn, 1) := by decide +kernel
def site : List Cond := [.fieldLink "java/lang/String" 38 "java/lang/String" "COMPACT_STRINGS" "Z", .fieldLink "java/lang/String" 15 "java/lang/String" "coder" "B"]
def tab : Cond := tabOf yN yB 1 (some .boolean) site
def P (x : Addr) (cd z : Int32) (args : Array Value) (s : State) : Prop := args = #[.ref x] ∧ Has x "java/lang/String" "coder" "B" (.int cd) s ∧ (cd = 0 ∨ cd = 1) ∧ StaticIs s "java/lang/String" "COMPACT_STRINGS" "Z" (.int z) ∧ ¬ z = 0
def E (cd : Int32) (r : Option Value) (s u : State) : Prop := XT.PureE (some (.int (1 - cd))) r s u
theorem law (l : Launch) (x : Addr) (cd z : Int32) : Law l yN 1 0 0 0 yB 1 (some .boolean) site (P x cd z) (E cd) [] 0 0 := by
  refine Law.of_walk (plainFor_of_name (by decide +kernel)) (by decide +kernel) (by decide +kernel) (by decide) (fun _ _ h => by rw [h.1]; rfl) (fun _ U U' hal hh h => ⟨h.1, h.2.1.mv hal hh, h.2.2.1, h.2.2.2.1.there hal hh, h.2.2.2.2⟩) (fun r U U' V V' h1 hal h2 h => XT.PureE.mv r U U' V V' h1 hal h2 h) ?_
  intro p e s m args below meth c s₁ X0 hexec hbytes hml hret hlk hnm hown hh0 W hP
  obtain ⟨rfl, hx, hc, s1, hz⟩ := hP
  have c1 : Steps p.tables e below (s₁.setTop (entryFrame m #[.ref x] 1)) (s₁.setTop (mkF m 0 #[.val (.ref x)] [])) := entry rfl
  obtain ⟨T2, X2, q2, st2⟩ := X0.sget hexec hown (wk W (.fieldLink "java/lang/String" 38 "java/lang/String" "COMPACT_STRINGS" "Z")) s1 (fun _ _ h => by rw [hh0]; exact h) (g := (mkF m 0 #[.val (.ref x)] [])) rfl (hb hbytes d0)
  have hh2 := q2.trans hh0
  have c3 : Steps p.tables e below (s₁.setTop (entryFrame m #[.ref x] 1)) (T2.setTop (mkF m 7 #[.val (.ref x)] [.ref x])) := (c1.trans (st2 _ (Steps.refl _))).trans (by
    refine XS.ifNo X2.here hexec rfl (hb hbytes d3) rfl (i0_eq_f hz) ?_
    refine XS.aloadN X2.here hexec rfl (hb hbytes d6) rfl rfl ?_
    exact Steps.refl _)
  obtain ⟨T4, X4, q4, st4⟩ := X2.hget hexec hown (wk W (.fieldLink "java/lang/String" 15 "java/lang/String" "coder" "B")) (hx.mv X2.warmed.alike hh2) (g := (mkF m 7 #[.val (.ref x)] [.ref x])) rfl (rest := []) rfl (hb hbytes d7)
  have c5 : Steps p.tables e below (s₁.setTop (entryFrame m #[.ref x] 1)) (T4.setTop (mkF m 10 #[.val (.ref x)] [.int cd])) := c3.trans (st4 _ (Steps.refl _))
  have c6 : Steps p.tables e below (s₁.setTop (entryFrame m #[.ref x] 1)) (T4.setTop (mkF m 18 #[.val (.ref x)] [.int (1 - cd)])) := by
    rcases hc with rfl | rfl
    · exact c5.trans (by
        refine XS.ifNo X4.here hexec rfl (hb hbytes d10) rfl (i0_ne_f rfl) ?_
        refine iconstV X4.here hexec rfl 1 (hb hbytes d13) (by decide) ?_
        refine XS.goto X4.here hexec rfl (pc0 := 14) rfl (hb hbytes d14) (by decide) rfl ?_
        exact Steps.refl _)
    · exact c5.trans (by
        refine XS.ifYes X4.here hexec rfl (pc0 := 10) rfl (hb hbytes d10) rfl (i0_ne_t (by decide)) (by decide) rfl ?_
        refine iconstV X4.here hexec rfl 0 (hb hbytes d17) (by decide) ?_
        exact Steps.refl _)
  exact ⟨T4, some (.int (1 - cd)), _, _, _, X4, rfl, rfl, rfl, (fun h => by cases h), ⟨rfl, q4.trans hh2⟩, fun fs hl => c6.trans (X4.ireturnOut hexec hret (by rcases hc with rfl | rfl <;> rfl) (Or.inr (Or.inl rfl)) (hb hbytes d18) hl)⟩
end IsL
namespace LChA
def yN : MethodName := ⟨"java/lang/StringLatin1", "charAt", "([BI)C"⟩
abbrev yB : ByteArray := jdk_43_method_2_code
theorem d0 : decode yB 0 = .ok (.iload_n 1, 1) := by decide +kernel
theorem d1 : decode yB 1 = .ok (.aload_n 0, 1) := by decide +kernel
theorem d2 : decode yB 2 = .ok (.arraylength, 1) := by decide +kernel
theorem d3 : decode yB 3 = .ok (.invokestatic 9, 3) := by decide +kernel
theorem d6 : decode yB 6 = .ok (.aload_n 0, 1) := by decide +kernel
theorem d7 : decode yB 7 = .ok (.iload_n 1, 1) := by decide +kernel
theorem d8 : decode yB 8 = .ok (.baload, 1) := by decide +kernel
theorem d9 : decode yB 9 = .ok (.sipush 255, 3) := by decide +kernel
theorem d12 : decode yB 12 = .ok (.iand, 1) := by decide +kernel
theorem d13 : decode yB 13 = .ok (.i2c, 1) := by decide +kernel
theorem d14 : decode yB 14 = .ok (.ireturn, 1) := by decide +kernel
def site : List Cond := [JO.Str_checkIndex.tab] ++ staticW "java/lang/StringLatin1" 9 JO.Str_checkIndex.yN
def tab : Cond := tabOf yN yB 2 (some .char) site
def P (t : Addr) (V : Cell) (i : Nat) (u : Int32) (fm : Value) (args : Array Value) (s : State) : Prop := args = #[.ref t, .int (Int32.ofNat i)] ∧ XT.Arr .byte t V s ∧ V.slots[i]? = some (.int u) ∧ (StaticIs s "jdk/internal/util/Preconditions" "SIOOBE_FORMATTER" "Ljava/util/function/BiFunction;" fm ∧ fm.isRef = true)
def E (u : Int32) (r : Option Value) (s w : State) : Prop := XT.PureE (some (.int (chr8 u))) r s w
theorem law (l : Launch) (t : Addr) (V : Cell) (i : Nat) (u : Int32) (fm : Value) : Law l yN 2 2 2 27 yB 2 (some .char) site (P t V i u fm) (E u) [] 0 0 := by
  refine Law.of_walk (plainFor_of_name (by decide +kernel)) (by decide +kernel) (by decide +kernel) (by decide) (fun _ _ h => by rw [h.1]; rfl) (fun _ U U' hal hh h => ⟨h.1, h.2.1.mv hal hh, h.2.2.1, h.2.2.2.1.there hal hh, h.2.2.2.2⟩) (fun r U U' V V' h1 hal h2 h => XT.PureE.mv r U U' V V' h1 hal h2 h) ?_
  intro p e s m args below meth c s₁ X0 hexec hbytes hml hret hlk hnm hown hh0 W hP
  obtain ⟨rfl, hV, hu, s1, rf⟩ := hP
  have v31 := hV.2.2.2
  have hi : i < V.slots.size := (Array.getElem?_eq_some_iff.mp hu).1
  have c1 : Steps p.tables e below (s₁.setTop (entryFrame m #[.ref t, .int (Int32.ofNat i)] 2)) (s₁.setTop (mkF m 0 #[.val (.ref t), .val (.int (Int32.ofNat i))] [])) := entry rfl
  have c2 : Steps p.tables e below (s₁.setTop (entryFrame m #[.ref t, .int (Int32.ofNat i)] 2)) (s₁.setTop (mkF m 3 #[.val (.ref t), .val (.int (Int32.ofNat i))] [.int (Int32.ofNat V.slots.size), .int (Int32.ofNat i)])) := c1.trans (by
    refine XS.iloadN X0.here hexec rfl (hb hbytes d0) rfl ?_
    refine XS.aloadN X0.here hexec rfl (hb hbytes d1) rfl rfl ?_
    refine X0.alen hexec (hV.mv X0.warmed.alike hh0) rfl rfl (hb hbytes d2) ?_
    exact Steps.refl _)
  obtain ⟨v3, T3, X3, E3, g3⟩ := X0.callS hexec (JO.Str_checkIndex.law l (Int32.ofNat i) (Int32.ofNat V.slots.size) fm) hown (wks W (staticW "java/lang/StringLatin1" 9 JO.Str_checkIndex.yN)) (wk W JO.Str_checkIndex.tab) (W := 0) (Nat.le_of_ble_eq_true rfl) (Nat.le_of_ble_eq_true rfl) (Nat.le_refl _) (Nat.le_refl _) (g := (mkF m 3 #[.val (.ref t), .val (.int (Int32.ofNat i))] [.int (Int32.ofNat V.slots.size), .int (Int32.ofNat i)])) rfl (by rw [hml]; rfl) c2 (argsL := [.int (Int32.ofNat i), .int (Int32.ofNat V.slots.size)]) (rest := []) rfl rfl (by show 2 * 0 + 0 ≤ _; decide) (hb hbytes d3) (⟨rfl, rf, s1.there X0.warmed.alike hh0, Int32.ofNat_not_neg (by omega), lt32 v31 hi⟩)
  obtain ⟨rfl, q3⟩ := E3
  have hh3 := q3.trans hh0
  have c4 : Steps p.tables e below (s₁.setTop (entryFrame m #[.ref t, .int (Int32.ofNat i)] 2)) (T3.setTop (mkF m 14 #[.val (.ref t), .val (.int (Int32.ofNat i))] [.int (chr8 u)])) := Steps.trans g3 (by
    refine XS.aloadN X3.here hexec rfl (hb hbytes d6) rfl rfl ?_
    refine XS.iloadN X3.here hexec rfl (hb hbytes d7) rfl ?_
    refine X3.aget hexec (hV.mv X3.warmed.alike hh3) rfl hu rfl rfl (hb hbytes d8) ?_
    refine sipushV X3.here hexec rfl 255 (hb hbytes d9) (by decide) ?_
    refine XS.iand X3.here hexec rfl (hb hbytes d12) rfl ?_
    refine i2c X3.here hexec rfl (hb hbytes d13) rfl ?_
    exact Steps.refl _)
  exact ⟨T3, some (.int (chr8 u)), _, _, _, X3, rfl, rfl, rfl, (fun h => by cases h), ⟨rfl, hh3⟩, fun fs hl => c4.trans (X3.ireturnOut hexec hret (narrow_c _) (Or.inr (Or.inr (Or.inr (Or.inl rfl)))) (hb hbytes d14) hl)⟩
end LChA
end StrChars
namespace StrChars.Road
open Jvm Sem ClassFile Op Lib Jvm.Stand Jvm.Free Jvm.Free.XT
open Jvm.Lib.Cold (StaticIs)
theorem consq {a : Array Value} {s : State} {c : Jvm.Cond} {L : List Jvm.Cond} (h0 : c.before a s = true) (h : ∀ w ∈ L, w.before a s = true) : ∀ w ∈ c :: L, w.before a s = true := fun w hw => (List.mem_cons.mp hw).elim (fun e => e ▸ h0) (h w)
/-- the bytes of the chars cs, low before high -/
def wideBytes : List Int32 → List Value
  | [] => []
  | c :: cs => .int (lo8 c) :: .int (hi8 c) :: wideBytes cs
theorem wide_lo (d : Value) : ∀ (cs : List Int32) (j : Nat), j < cs.length → (wideBytes cs).getD (2 * j) d = .int (lo8 (cs.getD j 0))
  | [], j, h => absurd h (Nat.not_lt_zero j)
  | c :: cs, 0, _ => rfl
  | c :: cs, j + 1, h => by
    have q := wide_lo d cs j (by simpa using h)
    rw [show 2 * (j + 1) = 2 * j + 1 + 1 from by omega]
    simpa [wideBytes] using q
theorem wide_hi (d : Value) : ∀ (cs : List Int32) (j : Nat), j < cs.length → (wideBytes cs).getD (2 * j + 1) d = .int (hi8 (cs.getD j 0))
  | [], j, h => absurd h (Nat.not_lt_zero j)
  | c :: cs, 0, _ => rfl
  | c :: cs, j + 1, h => by
    have q := wide_hi d cs j (by simpa using h)
    rw [show 2 * (j + 1) + 1 = 2 * j + 1 + 1 + 1 from by omega]
    simpa [wideBytes] using q
theorem low_at (d : Value) (cs : List Int32) (j : Nat) (h : j < cs.length) : (cs.map fun c => Value.int (lo8 c)).getD j d = .int (lo8 (cs.getD j 0)) := by
  simp [List.getD_eq_getElem?_getD, h]
/-- an array of N2 bytes vs codes the chars cs by the coder cd -/
def CodA (cs : List Int32) (cd N2 : Int32) (vs : List Value) : Prop := (cd = 0 ∧ N2 = Int32.ofNat cs.length ∧ vs = (cs.map fun c => Value.int (lo8 c)) ∧ ∀ c ∈ cs, ¬ 255 < c) ∨ (cd = 1 ∧ N2 = Int32.ofNat (2 * cs.length) ∧ vs = wideBytes cs ∧ ∃ c ∈ cs, 255 < c)
theorem CodA.cod {cs : List Int32} {cd N2 : Int32} {vs : List Value} {V : Cell} (h : CodA cs cd N2 vs) (hn : 2 * cs.length < 2 ^ 31) (hs : V.slots.size = N2.toNatClampNeg) (hv : RoadKit.Has V vs (.int 0)) : Cod cd cs.length (fun j => cs.getD j 0) V := by
  rcases h with ⟨rfl, rfl, rfl, h⟩ | ⟨rfl, rfl, rfl, c, hc, hw⟩
  · rw [n32 (by omega)] at hs
    exact Or.inl ⟨rfl, hs, fun j hj => ⟨by rw [hv j (by omega), low_at _ _ _ hj], by
      have e : cs.getD j 0 = cs[j] := by simp [List.getD_eq_getElem?_getD, hj]
      show ¬ 255 < cs.getD j 0
      rw [e]; exact h _ (List.getElem_mem _)⟩⟩
  · rw [n32 (by omega)] at hs
    obtain ⟨j, hj, rfl⟩ := List.getElem_of_mem hc
    exact Or.inr ⟨rfl, hs, fun j hj => ⟨by rw [hv _ (by omega), wide_lo _ _ _ hj], by rw [hv _ (by omega), wide_hi _ _ _ hj]⟩, j, hj, by
      have e : cs.getD j 0 = cs[j] := by simp [List.getD_eq_getElem?_getD, hj]
      show 255 < cs.getD j 0
      rw [e]; exact hw⟩
/-- an object of exactly java/lang/String, its two fields found: as the laws ask it -/
theorem strObj {Z U : State} {a0 : Array Value} {kI : Nat} (wi : (Jvm.Cond.instantiable ST kI).before a0 Z = true) (al : Z.vm.Alike U.vm) {x : Addr} {v0 c0 : Value} (E : RoadKit.Exa Z U.heap x ST) (V : RoadKit.Fld Z U.heap x ST "value" "[B" v0) (C : RoadKit.Fld Z U.heap x ST "coder" "B" c0) :
    ∃ (D : Cell) (fV fC : Field), Blank ST x D U ∧ Found ST "value" "[B" fV U ∧ Found ST "coder" "B" fC U ∧ D.slots[fV.slot]? = some v0 ∧ D.slots[fC.slot]? = some c0 ∧ RoadKit.slotOf Z ST "value" "[B" = fV.slot ∧ RoadKit.slotOf Z ST "coder" "B" = fC.slot := by
  obtain ⟨D, cfV, kV, iV, fV, hD, gV, stV, knV, obV, asV, slV⟩ := V
  obtain ⟨D', cfC, kC, iC, fC, hD', gC, stC, -, -, asC, slC⟩ := C
  cases hD.symm.trans hD'
  obtain ⟨D2, kD, e1, e2, e3, e4, e5⟩ := E
  cases hD.symm.trans e1
  obtain ⟨c2, k2, i1, i2, i3, -⟩ := Cond.instantiable_spec wi
  cases e2.symm.trans i1
  cases e3.symm.trans i2
  obtain ⟨kU, u1, u2⟩ := al.2.2 _ _ e3
  exact ⟨D, fV, fC, ⟨hD, ⟨knV, fun q hq => by rw [hq] at obV; cases obV⟩, by rw [al.findClass]; exact e2, kU, u1, by rw [u2]; exact i3, by rw [u2]; exact e5 i3⟩, ⟨SBG.found_only al ⟨cfV, kV, iV, gV⟩, stV⟩, ⟨SBG.found_only al ⟨cfC, kC, iC, gC⟩, stC⟩, slV, slC, by simp [RoadKit.slotOf, gV], by simp [RoadKit.slotOf, gC]⟩
theorem sta_is {Z U : State} (al : Z.vm.Alike U.vm) {C n d : String} {v : Value} (S : RoadKit.Sta Z U.heap C n d v) : StaticIs U C n d v := by
  obtain ⟨cfS, iS, kS, fS, st, cS, t1, t2, t3, t4, t5, t6, t7⟩ := S
  exact StaticIs.there (s := { Z with heap := U.heap }) ⟨cfS, iS, kS, fS, st, cS, t1, t2, t3, t4, t5, (fun q => by rw [q] at t6; cases t6), t7⟩ al rfl
end StrChars.Road
namespace StrChars.Road
open Jvm Sem ClassFile Op Lib Jvm.Stand Jvm.Free Jvm.Free.XT
open Jvm.Lib.Cold (StaticIs)
/-- the road's facts of a String, as the laws ask it -/
theorem txt_of {Z U : State} {a0 : Array Value} {kI : Nat} (wi : (Jvm.Cond.instantiable ST kI).before a0 Z = true) (al : Z.vm.Alike U.vm) {x t : Addr} {kb : ClassId} {cs : List Int32} {cd N2 : Int32} {vs : List Value} (E : RoadKit.Exa Z U.heap x ST) (V : RoadKit.Fld Z U.heap x ST "value" "[B" (.ref t)) (C : RoadKit.Fld Z U.heap x ST "coder" "B" (.int cd)) (K : RoadKit.Arv Z U.heap t kb .byte N2 vs (.int 0)) (hc : CodA cs cd N2 vs) (hb : ∀ c ∈ cs, ¬ c < 0 ∧ ¬ (65535 : Int32) < c) (l2 : cs.length ≤ 4000) :
    ∃ A, Txt x t A cd cs.length (fun j => cs.getD j 0) U := by
  obtain ⟨A, K1, K2, K3, K4, K5, K6⟩ := K
  have hcod := hc.cod (by omega) K3 K5
  obtain ⟨D, fV, fC, hB, F1, F2, g1, g2, -, -⟩ := strObj wi al E V C
  exact ⟨A, ⟨_, hB.2.2.1, D, hB.1, rfl, by cases q : D.vm <;> first | rfl | exact absurd q (hB.2.1.2 _)⟩, Has.of hB F1 g1, Has.of hB F2 g2, ⟨K1.1, State.isArrayOf_alike al K1.2.1, K1.2.2, by rcases hcod with ⟨-, q, -⟩ | ⟨-, q, -⟩ <;> omega⟩, hcod, fun j hj => by
    have e : cs.getD j 0 = cs[j] := by simp [List.getD_eq_getElem?_getD, hj]
    show ¬ cs.getD j 0 < 0 ∧ ¬ 65535 < cs.getD j 0
    rw [e]; exact hb _ (List.getElem_mem _)⟩
end StrChars.Road
namespace StrChars
open Jvm Sem ClassFile Op Lib Jvm.Stand Jvm.Free.XT Jvm.Free.ALB Jvm.Free.JM Jvm.Free
open Jvm.Lib.Cold (StaticIs)
namespace ChN
def yN : MethodName := ⟨"java/lang/String", "charAt", "(I)C"⟩
abbrev yB : ByteArray := jdk_42_method_56_code
theorem d0 : decode yB 0 = .ok (.aload_n 0, 1) := by decide +kernel
theorem d1 : decode yB 1 = .ok (.invokevirtual 492, 3) := by decide +kernel
theorem d4 : decode yB 4 = .ok (.ifCond (.eq) 12, 3) := by decide +kernel
theorem d7 : decode yB 7 = .ok (.aload_n 0, 1) := by decide +kernel
theorem d8 : decode yB 8 = .ok (.getfield 9, 3) := by decide +kernel
theorem d11 : decode yB 11 = .ok (.iload_n 1, 1) := by decide +kernel
theorem d12 : decode yB 12 = .ok (.invokestatic 495, 3) := by decide +kernel
theorem d15 : decode yB 15 = .ok (.ireturn, 1) := by decide +kernel
def site : List Cond := [.fieldLink "java/lang/String" 9 "java/lang/String" "value" "[B", IsL.tab, LChA.tab] ++ virtW "java/lang/String" 492 "java/lang/String" IsL.yN IsL.yN ++ staticW "java/lang/String" 495 LChA.yN
def tab : Cond := tabOf yN yB 2 (some .char) site
def P (x t : Addr) (V : Cell) (n : Nat) (f : Nat → Int32) (z : Int32) (fm : Value) (i : Nat) (args : Array Value) (s : State) : Prop := args = #[.ref x, .int (Int32.ofNat i)] ∧ Txt x t V 0 n f s ∧ i < n ∧ StaticIs s "java/lang/String" "COMPACT_STRINGS" "Z" (.int z) ∧ ¬ z = 0 ∧ StaticIs s "jdk/internal/util/Preconditions" "SIOOBE_FORMATTER" "Ljava/util/function/BiFunction;" fm ∧ fm.isRef = true
def E (f : Nat → Int32) (i : Nat) (r : Option Value) (s u : State) : Prop := XT.PureE (some (.int (f i))) r s u
/-- charAt(i) of a Latin-1 String of n chars, i < n: f i -/
theorem law (l : Launch) (x t : Addr) (V : Cell) (n : Nat) (f : Nat → Int32) (z : Int32) (fm : Value) (i : Nat) : Law l yN 2 1 3 40 yB 2 (some .char) site (P x t V n f z fm i) (E f i) [] 0 0 := by
  refine Law.of_walk (plainFor_of_name (by decide +kernel)) (by decide +kernel) (by decide +kernel) (by decide) (fun _ _ h => by rw [h.1]; rfl) (fun _ U U' hal hh h => ⟨h.1, h.2.1.mv hal hh, h.2.2.1, h.2.2.2.1.there hal hh, h.2.2.2.2.1, h.2.2.2.2.2.1.there hal hh, h.2.2.2.2.2.2⟩) (fun r U U' V V' h1 hal h2 h => XT.PureE.mv r U U' V V' h1 hal h2 h) ?_
  intro p e s m args below meth c s₁ X0 hexec hbytes hml hret hlk hnm hown hh0 W hP
  obtain ⟨rfl, hx, hi, s1, hz, s3, rf⟩ := hP
  have v31 := hx.2.2.2.1.2.2.2
  have hr := hx.2.2.2.2.2 i hi
  have hx0 := hx.mv X0.warmed.alike hh0
  have c1 : Steps p.tables e below (s₁.setTop (entryFrame m #[.ref x, .int (Int32.ofNat i)] 2)) (s₁.setTop (mkF m 1 #[.val (.ref x), .val (.int (Int32.ofNat i))] [.ref x])) := Steps.trans (entry rfl) (by
    show Steps p.tables e below (s₁.setTop (mkF m 0 #[.val (.ref x), .val (.int (Int32.ofNat i))] [])) _
    refine XS.aloadN X0.here hexec rfl (hb hbytes d0) rfl rfl ?_
    exact Steps.refl _)
  obtain ⟨v2, T2, X2, E2, g2⟩ := X0.callV hexec (IsL.law l x 0 z) hown (wks W (virtW "java/lang/String" 492 "java/lang/String" IsL.yN IsL.yN)) rfl (by decide) (wk W IsL.tab) (W := 0) (Nat.le_of_ble_eq_true rfl) (Nat.le_of_ble_eq_true rfl) (Nat.le_refl _) (Nat.le_refl _) (hx0.1.fc X0.warmed.alike) hx0.1.is (g := (mkF m 1 #[.val (.ref x), .val (.int (Int32.ofNat i))] [.ref x])) rfl (by rw [hml]; rfl) c1 (argsL := []) (rest := []) rfl rfl (by show 2 * 0 + 0 ≤ _; decide) (hb hbytes d1) (⟨rfl, hx0.2.2.1, hx.2.2.2.2.1.cd, s1.there X0.warmed.alike hh0, hz⟩)
  obtain ⟨rfl, q2⟩ := E2
  have hh2 := q2.trans hh0
  have hx2 := hx.mv X2.warmed.alike hh2
  obtain ⟨-, k1, k2⟩ | ⟨k0, -⟩ := hx.2.2.2.2.1
  · have c3 : Steps p.tables e below (s₁.setTop (entryFrame m #[.ref x, .int (Int32.ofNat i)] 2)) (T2.setTop (mkF m 8 #[.val (.ref x), .val (.int (Int32.ofNat i))] [.ref x])) := Steps.trans g2 (by
      refine XS.ifNo X2.here hexec rfl (hb hbytes d4) rfl (i0_eq_f (by decide)) ?_
      refine XS.aloadN X2.here hexec rfl (hb hbytes d7) rfl rfl ?_
      exact Steps.refl _)
    obtain ⟨T4, X4, q4, st4⟩ := X2.hget hexec hown (wk W (.fieldLink "java/lang/String" 9 "java/lang/String" "value" "[B")) hx2.2.1 (g := (mkF m 8 #[.val (.ref x), .val (.int (Int32.ofNat i))] [.ref x])) rfl (rest := []) rfl (hb hbytes d8)
    have hh4 := q4.trans hh2
    have c5 : Steps p.tables e below (s₁.setTop (entryFrame m #[.ref x, .int (Int32.ofNat i)] 2)) (T4.setTop (mkF m 12 #[.val (.ref x), .val (.int (Int32.ofNat i))] [.int (Int32.ofNat i), .ref t])) := (c3.trans (st4 _ (Steps.refl _))).trans (by
      refine XS.iloadN X4.here hexec rfl (hb hbytes d11) rfl ?_
      exact Steps.refl _)
    obtain ⟨v6, T6, X6, E6, g6⟩ := X4.callS hexec (LChA.law l t V i (lo8 (f i)) fm) hown (wks W (staticW "java/lang/String" 495 LChA.yN)) (wk W LChA.tab) (W := 0) (Nat.le_of_ble_eq_true rfl) (Nat.le_of_ble_eq_true rfl) (Nat.le_refl _) (Nat.le_refl _) (g := (mkF m 12 #[.val (.ref x), .val (.int (Int32.ofNat i))] [.int (Int32.ofNat i), .ref t])) rfl (by rw [hml]; rfl) c5 (argsL := [.ref t, .int (Int32.ofNat i)]) (rest := []) rfl rfl (by show 2 * 0 + 0 ≤ _; decide) (hb hbytes d12) (⟨rfl, hx.2.2.2.1.mv X4.warmed.alike hh4, (k2 i hi).1, s3.there X4.warmed.alike hh4, rf⟩)
    obtain ⟨rfl, q6⟩ := E6
    rw [chr8_lo8 hr.1 (k2 i hi).2] at g6
    exact ⟨T6, some (.int (f i)), _, _, _, X6, rfl, rfl, rfl, (fun h => by cases h), ⟨rfl, q6.trans hh4⟩, fun fs hl => Steps.trans g6 (X6.ireturnOut hexec hret (narrow_ch hr.1 hr.2) (Or.inr (Or.inr (Or.inr (Or.inl rfl)))) (hb hbytes d15) hl)⟩
  · exact absurd k0 (by decide)
theorem pays {l : Launch} {R : Room} {p : Program} {e : Env} {below : List Frame} {s : State} {sargs : Array Value} {len W : Nat} (x t : Addr) (V : Cell) (n : Nat) (f : Nat → Int32) (z : Int32) (fm : Value) (i : Nat) (htab : tab.before sargs s = true) (hfr : 4 ≤ R.frames) (hlo : W + 53 ≤ R.locals) :
    Back l R p e below s sargs yN len W (fun A₁ a₁ => A₁.cells + 0 ≤ R.cells ∧ A₁.slots + 0 ≤ R.slots ∧ P x t V n f z fm i a₁ A₁.U) (fun A₁ _ v₁ B₁ => E f i v₁ A₁.U B₁.U ∧ B₁.locs = A₁.locs ++ [] ∧ B₁.cells = A₁.cells + 0 ∧ B₁.slots = A₁.slots + 0) :=
  (law l x t V n f z fm i).pays htab hfr (by omega)
end ChN
end StrChars
namespace StrChars.Road
open Jvm Sem ClassFile Op Lib Jvm.Stand Jvm.Free Jvm.Free.XT
open Jvm.Lib.Cold (StaticIs)
/-- the words of String.charAt(int), the Latin-1 road alone -/
abbrev wordsChN : List Jvm.Cond := [.code ChN.yN ChN.yB 2 (some .char), .initialized ST, .fieldLink ST 9 ST "value" "[B", .fieldLink ST 38 ST "COMPACT_STRINGS" "Z", .fieldLink ST 15 ST "coder" "B", .code IsL.yN IsL.yB 1 (some .boolean), .methodLink ST 492 IsL.yN, .declares IsL.yN, .selects ST IsL.yN IsL.yN, .instanceMethod IsL.yN,
  .methodLink ST 495 LChA.yN, .static LChA.yN, .code LChA.yN LChA.yB 2 (some .char), .initialized "java/lang/StringLatin1", .methodLink "java/lang/StringLatin1" 9 JO.Str_checkIndex.yN, .static JO.Str_checkIndex.yN, .code JO.Str_checkIndex.yN JO.Str_checkIndex.yB 2 none,
  .fieldLink ST 1053 "jdk/internal/util/Preconditions" "SIOOBE_FORMATTER" "Ljava/util/function/BiFunction;", .methodLink ST 1059 JC.PreCheck.yN, .static JC.PreCheck.yN, .code JC.PreCheck.yN JC.PreCheck.yB 3 (some .int), .initialized "jdk/internal/util/Preconditions"]
theorem tabChN_of {a : Array Value} {s : State} (h : ∀ w ∈ wordsChN, w.before a s = true) : ChN.tab.before a s = true := by
  have hp : JC.PreCheck.tab.before a s = true := unparts (wk h (.code JC.PreCheck.yN JC.PreCheck.yB 3 (some .int))) (wks h (.initialized JC.PreCheck.yN.cls :: JC.PreCheck.site))
  have qk := consq hp h
  have hk : JO.Str_checkIndex.tab.before a s = true := unparts (wk qk (.code JO.Str_checkIndex.yN JO.Str_checkIndex.yB 2 none)) (wks qk (.initialized JO.Str_checkIndex.yN.cls :: JO.Str_checkIndex.site))
  have ql := consq hk h
  have hl : LChA.tab.before a s = true := unparts (wk ql (.code LChA.yN LChA.yB 2 (some .char))) (wks ql (.initialized LChA.yN.cls :: LChA.site))
  have hi : IsL.tab.before a s = true := unparts (wk h (.code IsL.yN IsL.yB 1 (some .boolean))) (wks h (.initialized IsL.yN.cls :: IsL.site))
  have q := consq hi (consq hl h)
  exact unparts (wk q (.code ChN.yN ChN.yB 2 (some .char))) (wks q (.initialized ChN.yN.cls :: ChN.site))
theorem movedChN {Z s : State} {a0 args : Array Value} (hZ : Z.Warmed39 s.vm) (hw : ∀ d ∈ wordsChN, d.before a0 Z = true) : ∀ d ∈ wordsChN, d.before args s = true := fun d hd => by
  have t : ∀ d ∈ wordsChN, (d.onTables && d.keepsFace) = true := by decide +kernel
  exact RoadKit.mv hZ (hw d hd) (t d hd)
/-- **charAt(i) OF A LATIN-1 STRING**, i < n: the char -/
theorem chN {p : Program} {l : Launch} {e : Env} {R : Room} {s : State} {args : Array Value} {below : List Frame} {len W : Nat} {Z : State} {a0 : Array Value} {h : Heap} (hZ : Z.Warmed39 s.vm) (hw : ∀ d ∈ wordsChN, d.before a0 Z = true) {kI : Nat} (wi : (Jvm.Cond.instantiable ST kI).before a0 Z = true)
    {x t : Addr} {kb : ClassId} {cs : List Int32} {N2 z : Int32} {vs : List Value} {fm : Value} {i : Nat} {j : Int32} (E : RoadKit.Exa Z h x ST) (V : RoadKit.Fld Z h x ST "value" "[B" (.ref t)) (C : RoadKit.Fld Z h x ST "coder" "B" (.int 0)) (K : RoadKit.Arv Z h t kb .byte N2 vs (.int 0)) (hc : CodA cs 0 N2 vs) (hb : ∀ c ∈ cs, ¬ c < 0 ∧ ¬ (65535 : Int32) < c)
    (S : RoadKit.Sta Z h ST "COMPACT_STRINGS" "Z" (.int z)) (hz : ¬ z = 0) (F : RoadKit.Sta Z h "jdk/internal/util/Preconditions" "SIOOBE_FORMATTER" "Ljava/util/function/BiFunction;" fm) (rf : fm.isRef = true) (l2 : cs.length ≤ 4000) (hi : i < cs.length) (hj : j = Int32.ofNat i) (hfr : 4 ≤ R.frames) (hlo : W + 53 ≤ R.locals) :
    Back l R p e below s args (⟨"java/lang/String", "charAt", "(I)C"⟩ : MethodName) len W (fun P a => a = #[.ref x, .int j] ∧ P.U.heap = h ∧ P.cells + 0 ≤ R.cells ∧ P.slots + 0 ≤ R.slots)
      (fun P _ v B => ∃ L, (v = some (.int (cs.getD i 0)) ∧ L = [] ∧ B.U.heap = h) ∧ B.locs = P.locs ++ L ∧ B.cells = P.cells + 0 ∧ B.slots = P.slots + 0) := by
  subst hj
  intro m meth c P g ig mk a X hg hsize hdg hW hn hp'
  obtain ⟨rfl, rfl, r1, r2⟩ := hp'
  have al : Z.vm.Alike P.U.vm := hZ.alike.trans X.warmed.alike
  obtain ⟨A, hx⟩ := txt_of wi al E V C K hc hb l2
  obtain ⟨v, B, X', ⟨⟨hv, hh⟩, hl, hk, hs⟩, st⟩ := ChN.pays x t A cs.length (fun j => cs.getD j 0) z fm i (tabChN_of (movedChN hZ hw)) hfr hlo m meth c P g ig mk _ X hg hsize hdg hW hn ⟨r1, r2, rfl, hx, hi, sta_is al S, hz, sta_is al F, rf⟩
  exact ⟨v, B, X', ⟨[], ⟨hv, rfl, hh⟩, hl, hk, hs⟩, st⟩
/-- what backV says of its String, as the contracts of this text ask it: cs's low bytes, coder 0 -/
theorem codOf {cs : List Int32} {n : Nat} (hn : cs.length = n) (hb : ∀ c ∈ cs, ¬ 255 < c) : CodA cs 0 (Int32.ofNat n) ((cs.map lo8).map Value.int) := Or.inl ⟨rfl, by rw [hn], by simp [List.map_map, Function.comp_def], hb⟩
end StrChars.Road
end Jvm.Pilot.@@N@@

namespace Jvm.RoadKit
open Sem ClassFile Op Lib Jvm.Stand Jvm.Free Jvm.LawKit
section OwnGo
variable {p : Program} {l : Launch} {e : Env} {R : Room} {s : State} {m : MethodId} {args : Array Value} {below : List Frame} {meth : Method} {c : Code} {T T' : State} {locs : List Loc} {cells slots kc ks : Nat} {Q : Option Value → Heap → List Loc → Prop} {f f' : JFrame} {h : Heap}
/-- from the state T with the top frame f the body comes to its end, and what it leaves meets Q -/
def Go (p : Program) (e : Env) (below : List Frame) (s : State) (kc ks : Nat) (Q : Option Value → Heap → List Loc → Prop) (T : State) (f : JFrame) : Prop :=
  ∃ (s₂ : State) (o : Outcome), Steps p.tables e below (T.setTop f) s₂ ∧ s₂.status = .running ∧ Ended s₂ below o ∧ ∃ v L, o = .returned v ∧ Q v s₂.heap L ∧ FrameEnd s o s₂ L kc ks
theorem Go.step (h : ∀ target, Steps p.tables e below (T'.setTop f') target → Steps p.tables e below (T.setTop f) target) (k : Go p e below s kc ks Q T' f') : Go p e below s kc ks Q T f := by
  obtain ⟨s₂, o, h1, r⟩ := k
  exact ⟨s₂, o, h _ h1, r⟩
theorem Go.trans (h : Steps p.tables e below (T.setTop f) (T'.setTop f')) (k : Go p e below s kc ks Q T' f') : Go p e below s kc ks Q T f := by
  obtain ⟨s₂, o, h1, r⟩ := k
  exact ⟨s₂, o, h.trans h1, r⟩
theorem Go.cast (q : f = f') (k : Go p e below s kc ks Q T f') : Go p e below s kc ks Q T f := q ▸ k
theorem Go.enter {g : JFrame} {s₁ : State} (k : Go p e below s kc ks Q s₁ f) (q : g = f) :
    ∃ s₂ o, Steps p.tables e below (s₁.setTop g) s₂ ∧ s₂.status = .running ∧ Ended s₂ below o ∧ ∃ v L, o = .returned v ∧ Q v s₂.heap L ∧ FrameEnd s o s₂ L kc ks := by
  subst q; exact k
theorem Go.ret (X : Stand p l e R s m args below meth c T locs cells slots) (hx : p.tables.exec = Jvm.exec) {pc : Nat} {Ls : Array Slot} {w : Value} {t : FieldType} {i : Instr} {rest : List Value} (hret : meth.sig.returnType = some t) (hlk : meth.locks = false) (hn : narrow t w = w)
    (hi : (i = .ireturn ∧ (t = .int ∨ t = .boolean ∨ t = .byte ∨ t = .char ∨ t = .short) ∧ ∃ z, w = .int z) ∨ (i = .lreturn ∧ t = .long ∧ ∃ z, w = .long z) ∨ (i = .dreturn ∧ t = .double ∧ ∃ z, w = .double z) ∨ (i = .freturn ∧ t = .float ∧ ∃ z, w = .float z) ∨ (i = .areturn ∧ t.isReference = true ∧ w.isRef = true))
    (hd : decode c.code pc = .ok (i, 1)) (eT : T.heap = h) (hc : cells ≤ kc) (hs : slots ≤ ks) (hQ : Q (some w) h locs) : Go p e below s kc ks Q T (mkF m pc Ls (w :: rest)) := by
  obtain ⟨fs, hr, hrun, hended, hW, hsame⟩ := X.leave (v := some w) (fun q => by rw [hret] at q; cases q) hlk
  exact ⟨_, _, retOut X hx hret hn hi hd hr, hrun, hended, _, _, rfl, (by subst eT; exact hQ), ⟨_, rfl⟩, hW, hsame.mono hc hs⟩
theorem Go.retI (X : Stand p l e R s m args below meth c T locs cells slots) (hx : p.tables.exec = Jvm.exec) {pc : Nat} {Ls : Array Slot} {z : Int32} {rest : List Value} (hret : meth.sig.returnType = some .int) (hlk : meth.locks = false)
    (hd : decode c.code pc = .ok (.ireturn, 1)) (eT : T.heap = h) (hc : cells ≤ kc) (hs : slots ≤ ks) (hQ : Q (some (.int z)) h locs) : Go p e below s kc ks Q T (mkF m pc Ls (.int z :: rest)) :=
  Go.ret X hx hret hlk rfl (Or.inl ⟨rfl, Or.inl rfl, _, rfl⟩) hd eT hc hs hQ
theorem Go.retJ (X : Stand p l e R s m args below meth c T locs cells slots) (hx : p.tables.exec = Jvm.exec) {pc : Nat} {Ls : Array Slot} {z : Int64} {rest : List Value} (hret : meth.sig.returnType = some .long) (hlk : meth.locks = false)
    (hd : decode c.code pc = .ok (.lreturn, 1)) (eT : T.heap = h) (hc : cells ≤ kc) (hs : slots ≤ ks) (hQ : Q (some (.long z)) h locs) : Go p e below s kc ks Q T (mkF m pc Ls (.long z :: rest)) :=
  Go.ret X hx hret hlk rfl (Or.inr (Or.inl ⟨rfl, rfl, _, rfl⟩)) hd eT hc hs hQ
theorem Go.retA (X : Stand p l e R s m args below meth c T locs cells slots) (hx : p.tables.exec = Jvm.exec) {pc : Nat} {Ls : Array Slot} {w : Value} {t : FieldType} {rest : List Value} (hret : meth.sig.returnType = some t) (hlk : meth.locks = false) (ht : t.isReference = true) (hv : w.isRef = true)
    (hd : decode c.code pc = .ok (.areturn, 1)) (eT : T.heap = h) (hc : cells ≤ kc) (hs : slots ≤ ks) (hQ : Q (some w) h locs) : Go p e below s kc ks Q T (mkF m pc Ls (w :: rest)) :=
  Go.ret X hx hret hlk (by cases t <;> first | (cases ht; done) | (cases w <;> first | (cases hv; done) | rfl)) (Or.inr (Or.inr (Or.inr (Or.inr ⟨rfl, ht, hv⟩)))) hd eT hc hs hQ
theorem Go.retN (X : Stand p l e R s m args below meth c T locs cells slots) (hx : p.tables.exec = Jvm.exec) {pc : Nat} {Ls : Array Slot} {z : Int32} {t : FieldType} {rest : List Value} (hret : meth.sig.returnType = some t) (hlk : meth.locks = false) (ht : t = .boolean ∨ t = .byte ∨ t = .char ∨ t = .short)
    (hd : decode c.code pc = .ok (.ireturn, 1)) (eT : T.heap = h) (hc : cells ≤ kc) (hs : slots ≤ ks) (hQ : Q (some (.int (nar t z))) h locs) : Go p e below s kc ks Q T (mkF m pc Ls (.int z :: rest)) := by
  obtain ⟨fs, hr, hrun, hended, hW, hsame⟩ := X.leave (v := some (.int (nar t z))) (fun q => by rw [hret] at q; cases q) hlk
  exact ⟨_, _, Jvm.RoadKit.retN X hx hret ht hd hr, hrun, hended, _, _, rfl, (by subst eT; exact hQ), ⟨_, rfl⟩, hW, hsame.mono hc hs⟩
theorem Go.ret0 (X : Stand p l e R s m args below meth c T locs cells slots) (hx : p.tables.exec = Jvm.exec) {pc : Nat} {Ls : Array Slot} (hret : meth.sig.returnType = none) (hlk : meth.locks = false)
    (hd : decode c.code pc = .ok (.return_, 1)) (eT : T.heap = h) (hc : cells ≤ kc) (hs : slots ≤ ks) (hQ : Q none h locs) : Go p e below s kc ks Q T (mkF m pc Ls []) := by
  obtain ⟨fs, hr, hrun, hended, hW, hsame⟩ := X.leave (v := none) (fun _ => rfl) hlk
  exact ⟨_, _, X.returnOut hx hret hd hr, hrun, hended, _, _, rfl, (by subst eT; exact hQ), ⟨_, rfl⟩, hW, hsame.mono hc hs⟩
theorem own_selp {args' : Array Value} {y : MethodName} {n : Nat} (wi : (Cond.instantiable y.cls n).before args' s = true) (hpriv : s.PrivateAt y) (hinst : (Cond.instanceMethod y).before args' s = true) (hy : y.cls ≠ "java/lang/invoke/MethodHandle" ∧ y.cls ≠ "java/lang/invoke/VarHandle") : (Cond.selects y.cls y y).before args' s = true := by
  obtain ⟨c, k, h1, h2, -, h4, -⟩ := Cond.instantiable_spec wi
  exact selects_self_of_private h1 h2 (by simp only [Bool.or_eq_false_iff] at h4; exact h4.1) hpriv hinst hy
theorem own_mvMN {Z : State} {a0 args' : Array Value} {own host : String} {y : MethodName} {index : Nat} (hZ : Z.Warmed39 s.vm) (w : (Cond.methodLinkNest own index y host).before a0 Z = true) : (Cond.methodLinkNest own index y host).before args' s = true := (Cond.methodLinkNest_wide hZ w :)
theorem own_nar01 {z : Int32} (h : z = 0 ∨ z = 1) : nar .boolean z = z := by rcases h with rfl | rfl <;> decide
end OwnGo
end Jvm.RoadKit
namespace Jvm.Pilot.@@N@@
open Jvm Jvm.ClassFile Sem Op Lib Jvm.Free Jvm.Stand Jvm.LawKit Jvm.RoadKit Bundle Jvm.Pilot.@@N@@.Jvm.D
theorem own_mset (cs : List Int32) (k : Nat) (x : Int32) : (cs.map Value.int).set k (.int x) = (cs.set k x).map Value.int := by rw [List.map_set]
theorem own_hset {cs : List Int32} {k : Nat} {x : Int32} {P : Int32 → Prop} (h : ∀ c ∈ cs, P c) (hx : P x) : ∀ c ∈ cs.set k x, P c := fun c hc => by
  rcases List.mem_or_eq_of_mem_set hc with q | rfl
  · exact h c q
  · exact hx
theorem own_tn {j : Int32} {n : Nat} (h0 : 0 ≤ j.toInt) (h1 : j.toInt < n) : j.toNatClampNeg < n := by simp only [Int32.toNatClampNeg]; omega
theorem d7_0 : decode prog_4_method_1_code 0 = .ok (.aload_n 0, 1) := by decide +kernel
theorem d7_1 : decode prog_4_method_1_code 1 = .ok (.invokespecial 1, 3) := by decide +kernel
theorem d7_4 : decode prog_4_method_1_code 4 = .ok (.aload_n 0, 1) := by decide +kernel
theorem d7_5 : decode prog_4_method_1_code 5 = .ok (.aload_n 1, 1) := by decide +kernel
theorem d7_6 : decode prog_4_method_1_code 6 = .ok (.putfield 7, 3) := by decide +kernel
theorem d7_9 : decode prog_4_method_1_code 9 = .ok (.aload_n 0, 1) := by decide +kernel
theorem d7_10 : decode prog_4_method_1_code 10 = .ok (.iload_n 2, 1) := by decide +kernel
theorem d7_11 : decode prog_4_method_1_code 11 = .ok (.putfield 13, 3) := by decide +kernel
theorem d7_14 : decode prog_4_method_1_code 14 = .ok (.aload_n 0, 1) := by decide +kernel
theorem d7_15 : decode prog_4_method_1_code 15 = .ok (.iload_n 3, 1) := by decide +kernel
theorem d7_16 : decode prog_4_method_1_code 16 = .ok (.putfield 17, 3) := by decide +kernel
theorem d7_19 : decode prog_4_method_1_code 19 = .ok (.aload_n 0, 1) := by decide +kernel
theorem d7_20 : decode prog_4_method_1_code 20 = .ok (.iload 4, 2) := by decide +kernel
theorem d7_22 : decode prog_4_method_1_code 22 = .ok (.putfield 20, 3) := by decide +kernel
theorem d7_25 : decode prog_4_method_1_code 25 = .ok (.aload_n 0, 1) := by decide +kernel
theorem d7_26 : decode prog_4_method_1_code 26 = .ok (.iload 5, 2) := by decide +kernel
theorem d7_28 : decode prog_4_method_1_code 28 = .ok (.putfield 23, 3) := by decide +kernel
theorem d7_31 : decode prog_4_method_1_code 31 = .ok (.aload_n 0, 1) := by decide +kernel
theorem d7_32 : decode prog_4_method_1_code 32 = .ok (.iload 6, 2) := by decide +kernel
theorem d7_34 : decode prog_4_method_1_code 34 = .ok (.putfield 26, 3) := by decide +kernel
theorem d7_37 : decode prog_4_method_1_code 37 = .ok (.aload_n 0, 1) := by decide +kernel
theorem d7_38 : decode prog_4_method_1_code 38 = .ok (.iload 7, 2) := by decide +kernel
theorem d7_40 : decode prog_4_method_1_code 40 = .ok (.putfield 29, 3) := by decide +kernel
theorem d7_43 : decode prog_4_method_1_code 43 = .ok (.aload_n 0, 1) := by decide +kernel
theorem d7_44 : decode prog_4_method_1_code 44 = .ok (.iload 8, 2) := by decide +kernel
theorem d7_46 : decode prog_4_method_1_code 46 = .ok (.putfield 32, 3) := by decide +kernel
theorem d7_49 : decode prog_4_method_1_code 49 = .ok (.aload_n 0, 1) := by decide +kernel
theorem d7_50 : decode prog_4_method_1_code 50 = .ok (.iload 9, 2) := by decide +kernel
theorem d7_52 : decode prog_4_method_1_code 52 = .ok (.putfield 35, 3) := by decide +kernel
theorem d7_55 : decode prog_4_method_1_code 55 = .ok (.return_, 1) := by decide +kernel
theorem pd___V : parseMethodDescriptor "()V" = some ⟨[], none⟩ := by decide +kernel
theorem pn_com_example_eiri_eiri_Iri : plainName "com/example/eiri/eiri/Iri" = true := by first | (simp [plainName, overriddenIn]; done) | decide +kernel
theorem ef_rmIr (m : MethodId) (ao : Addr) (as_ : Addr) (u0 : Int32) (u1 : Int32) (u2 : Int32) (u3 : Int32) (u4 : Int32) (u5 : Int32) (u6 : Int32) (u7 : Int32) : entryFrame m #[(.ref ao), (.ref as_), (.int u0), (.int u1), (.int u2), (.int u3), (.int u4), (.int u5), (.int u6), (.int u7)] 10 = mkF m 0 #[.val (.ref ao), .val (.ref as_), .val (.int u0), .val (.int u1), .val (.int u2), .val (.int u3), .val (.int u4), .val (.int u5), .val (.int u6), .val (.int u7)] [] := by first | (simp [entryFrame, mkF, argsToLocals, Value.category]; done) | rfl
def Q_rmIr (Z : State) (ao : Addr) (as_ : Addr) (u0 : Int32) (u1 : Int32) (u2 : Int32) (u3 : Int32) (u4 : Int32) (u5 : Int32) (u6 : Int32) (u7 : Int32) (h0 : Heap) (n0 : Nat) (v : Option Value) (h : Heap) (L : List Loc) : Prop := (v = none) ∧ (Fr n0 L) ∧ (Keep h0 h [ao]) ∧ (Exa Z h ao "com/example/eiri/eiri/Iri") ∧ (Fld Z h ao "com/example/eiri/eiri/Iri" "authorityStart" "I" (.int u1)) ∧ (Fld Z h ao "com/example/eiri/eiri/Iri" "userInfoEnd" "I" (.int u2))
set_option maxRecDepth 65536 in
set_option maxHeartbeats 40000000 in
theorem rmIr (l : Launch) (Z : State) (a0 : Array Value) (hw : ∀ d ∈ tables_1, d.before a0 Z = true) (ws : List Jvm.Cond) (ao : Addr) (as_ : Addr) (u0 : Int32) (u1 : Int32) (u2 : Int32) (u3 : Int32) (u4 : Int32) (u5 : Int32) (u6 : Int32) (u7 : Int32) (h0 : Heap) (n0 : Nat) (Z0 : n0 ≤ h0.size) (E0 : Exa Z h0 ao "com/example/eiri/eiri/Iri") (g0 : n0 ≤ ao) (F_text : Fld Z h0 ao "com/example/eiri/eiri/Iri" "text" "Ljava/lang/String;" .null) (F_schemeEnd : Fld Z h0 ao "com/example/eiri/eiri/Iri" "schemeEnd" "I" (.int (0 : Int32))) (F_authorityStart : Fld Z h0 ao "com/example/eiri/eiri/Iri" "authorityStart" "I" (.int (0 : Int32))) (F_userInfoEnd : Fld Z h0 ao "com/example/eiri/eiri/Iri" "userInfoEnd" "I" (.int (0 : Int32))) (F_portStart : Fld Z h0 ao "com/example/eiri/eiri/Iri" "portStart" "I" (.int (0 : Int32))) (F_pathStart : Fld Z h0 ao "com/example/eiri/eiri/Iri" "pathStart" "I" (.int (0 : Int32))) (F_pathEnd : Fld Z h0 ao "com/example/eiri/eiri/Iri" "pathEnd" "I" (.int (0 : Int32))) (F_queryStart : Fld Z h0 ao "com/example/eiri/eiri/Iri" "queryStart" "I" (.int (0 : Int32))) (F_fragmentStart : Fld Z h0 ao "com/example/eiri/eiri/Iri" "fragmentStart" "I" (.int (0 : Int32))) :
    MetFree l (⟨"com/example/eiri/eiri/Iri", "<init>", "(Ljava/lang/String;IIIIIIII)V"⟩ : MethodName) (head1 (Jvm.Cond.code (⟨"com/example/eiri/eiri/Iri", "<init>", "(Ljava/lang/String;IIIIIIII)V"⟩ : MethodName) prog_4_method_1_code 10 none :: ws) ({ frames := 1, cells := 0, slots := 0, locals := 12 } : Room)) (fun aA U => aA = #[(.ref ao), (.ref as_), (.int u0), (.int u1), (.int u2), (.int u3), (.int u4), (.int u5), (.int u6), (.int u7)] ∧ Z.Warmed39 U.vm ∧ U.heap = h0) (fun _ _ _ _ _ => True) (fun _ U o U' => ∃ v L, o = .returned v ∧ Q_rmIr Z ao as_ u0 u1 u2 u3 u4 u5 u6 u7 h0 n0 v U'.heap L ∧ FrameEnd U o U' L ({ frames := 1, cells := 0, slots := 0, locals := 12 } : Room).cells ({ frames := 1, cells := 0, slots := 0, locals := 12 } : Room).slots) := by
  refine MetFree.of_bodySF (plainFor_of_name pn_com_example_eiri_eiri_Iri) hisR ?_
  intro p e s m args below meth c s₁ Bd hml0 hP hK
  obtain ⟨rfl, hZ, hh⟩ := hP
  have hx := Bd.exec
  have hby := Bd.bytes
  have hml : c.maxLocals = 10 := hml0
  have hown : s.vm.findClass "com/example/eiri/eiri/Iri" = some m.cls := findClass_of_methodNamed Bd.named
  have hnm := (name_of_methodNamed Bd.named Bd.method).1
  have hret := Bd.returns
  have hlk : meth.locks = false := BodyLoose.notSynchronized Bd
  have X0 : Stand p l e ({ frames := 1, cells := 0, slots := 0, locals := 12 } : Room) s m #[(.ref ao), (.ref as_), (.int u0), (.int u1), (.int u2), (.int u3), (.int u4), (.int u5), (.int u6), (.int u7)] below meth c s₁ [] 0 0 := Stand.of_body Bd
  have e0 : s₁.heap = h0 := by rw [← hh, Bd.state]; rfl
  have N0 := Fr.nil n0
  suffices hgo : Go p e below s ({ frames := 1, cells := 0, slots := 0, locals := 12 } : Room).cells ({ frames := 1, cells := 0, slots := 0, locals := 12 } : Room).slots (Q_rmIr Z ao as_ u0 u1 u2 u3 u4 u5 u6 u7 h0 n0) s₁ (mkF m 0 #[.val (.ref ao), .val (.ref as_), .val (.int u0), .val (.int u1), .val (.int u2), .val (.int u3), .val (.int u4), .val (.int u5), .val (.int u6), .val (.int u7)] []) from hgo.enter (ef_rmIr m ao as_ u0 u1 u2 u3 u4 u5 u6 u7)
  refine Go.step (fun _ k => XS.aloadN X0.here hx rfl (hb hby d7_0) rfl rfl k) ?_
  show Go _ _ _ _ _ _ _ s₁ (mkF m 1 #[.val (.ref ao), .val (.ref as_), .val (.int u0), .val (.int u1), .val (.int u2), .val (.int u3), .val (.int u4), .val (.int u5), .val (.int u6), .val (.int u7)] [(.ref ao)])
  obtain ⟨T1, X1, e1, st1⟩ := initO X0 hx hZ hown (hw _ (List.mem_of_getElem? (i := 36) rfl)) (hw _ (List.mem_of_getElem? (i := 12) rfl)) (hw _ (List.mem_of_getElem? (i := 13) rfl)) e0 (g := (mkF m 1 #[.val (.ref ao), .val (.ref as_), .val (.int u0), .val (.int u1), .val (.int u2), .val (.int u3), .val (.int u4), .val (.int u5), .val (.int u6), .val (.int u7)] [(.ref ao)])) rfl (by rw [hml]; rfl) rfl (hb hby d7_1) (by decide) (W := 0) (by show 2 * 0 + _ ≤ _; exact Nat.le_of_eq rfl) (by decide)
  refine Go.step st1 ?_
  show Go _ _ _ _ _ _ _ T1 (mkF m 4 #[.val (.ref ao), .val (.ref as_), .val (.int u0), .val (.int u1), .val (.int u2), .val (.int u3), .val (.int u4), .val (.int u5), .val (.int u6), .val (.int u7)] [])
  refine Go.step (fun _ k => XS.aloadN X1.here hx rfl (hb hby d7_4) rfl rfl k) ?_
  show Go _ _ _ _ _ _ _ T1 (mkF m 5 #[.val (.ref ao), .val (.ref as_), .val (.int u0), .val (.int u1), .val (.int u2), .val (.int u3), .val (.int u4), .val (.int u5), .val (.int u6), .val (.int u7)] [(.ref ao)])
  refine Go.step (fun _ k => XS.aloadN X1.here hx rfl (hb hby d7_5) rfl rfl k) ?_
  show Go _ _ _ _ _ _ _ T1 (mkF m 6 #[.val (.ref ao), .val (.ref as_), .val (.int u0), .val (.int u1), .val (.int u2), .val (.int u3), .val (.int u4), .val (.int u5), .val (.int u6), .val (.int u7)] [(.ref as_), (.ref ao)])
  obtain ⟨T2, h2, X2, e2, W2, st2⟩ := putF X1 hx hZ hown (host := "") (Or.inl (hw _ (List.mem_of_getElem? (i := 37) rfl))) Via.refl e1 F_text E0 (Or.inr ⟨(hw _ (List.mem_of_getElem? (i := 38) rfl)), rfl, hnm⟩) (hw _ (List.mem_of_getElem? (i := 31) rfl)) (ty := (.object "java/lang/String")) (by decide) rfl rfl (g := (mkF m 6 #[.val (.ref ao), .val (.ref as_), .val (.int u0), .val (.int u1), .val (.int u2), .val (.int u3), .val (.int u4), .val (.int u5), .val (.int u6), .val (.int u7)] [(.ref as_), (.ref ao)])) rfl rfl (hb hby d7_6)
  refine Go.step st2 ?_
  have Fw2 := F_text.same W2
  have N2 := Fr.snoc X2 N0 g0
  have Z2 : n0 ≤ h2.size := Nat.le_trans Z0 (Keep.of_wr W2).1
  have KK2 : Keep h0 h2 [ao] := (Keep.refl h0 [ao]).wr W2 (Or.inl (List.mem_of_getElem? (i := 0) rfl))
  show Go _ _ _ _ _ _ _ T2 (mkF m 9 #[.val (.ref ao), .val (.ref as_), .val (.int u0), .val (.int u1), .val (.int u2), .val (.int u3), .val (.int u4), .val (.int u5), .val (.int u6), .val (.int u7)] [])
  refine Go.step (fun _ k => XS.aloadN X2.here hx rfl (hb hby d7_9) rfl rfl k) ?_
  show Go _ _ _ _ _ _ _ T2 (mkF m 10 #[.val (.ref ao), .val (.ref as_), .val (.int u0), .val (.int u1), .val (.int u2), .val (.int u3), .val (.int u4), .val (.int u5), .val (.int u6), .val (.int u7)] [(.ref ao)])
  refine Go.step (fun _ k => XS.iloadN X2.here hx rfl (hb hby d7_10) rfl k) ?_
  show Go _ _ _ _ _ _ _ T2 (mkF m 11 #[.val (.ref ao), .val (.ref as_), .val (.int u0), .val (.int u1), .val (.int u2), .val (.int u3), .val (.int u4), .val (.int u5), .val (.int u6), .val (.int u7)] [(.int u0), (.ref ao)])
  have f3 : Fld Z h2 ao "com/example/eiri/eiri/Iri" "schemeEnd" "I" (.int (0 : Int32)) := (F_schemeEnd.other W2 (Or.inr (slot_ne (a0 := a0) (C := "com/example/eiri/eiri/Iri") (Or.inr (hw _ (List.mem_of_getElem? (i := 40) rfl))) (Or.inr (hw _ (List.mem_of_getElem? (i := 38) rfl))) (by decide) (t := .int) (t' := (.object "java/lang/String")) (by decide) (by decide))))
  have f4 : Exa Z h2 ao "com/example/eiri/eiri/Iri" := (E0.wr W2)
  obtain ⟨T5, h5, X5, e5, W5, st5⟩ := putF X2 hx hZ hown (host := "") (Or.inl (hw _ (List.mem_of_getElem? (i := 39) rfl))) Via.refl e2 f3 f4 (Or.inr ⟨(hw _ (List.mem_of_getElem? (i := 40) rfl)), rfl, hnm⟩) (hw _ (List.mem_of_getElem? (i := 31) rfl)) (ty := .int) (by decide) rfl rfl (g := (mkF m 11 #[.val (.ref ao), .val (.ref as_), .val (.int u0), .val (.int u1), .val (.int u2), .val (.int u3), .val (.int u4), .val (.int u5), .val (.int u6), .val (.int u7)] [(.int u0), (.ref ao)])) rfl rfl (hb hby d7_11)
  refine Go.step st5 ?_
  have Fw5 := f3.same W5
  have N5 := Fr.snoc X5 N2 g0
  have Z5 : n0 ≤ h5.size := Nat.le_trans Z2 (Keep.of_wr W5).1
  have KK5 : Keep h0 h5 [ao] := KK2.wr W5 (Or.inl (List.mem_of_getElem? (i := 0) rfl))
  show Go _ _ _ _ _ _ _ T5 (mkF m 14 #[.val (.ref ao), .val (.ref as_), .val (.int u0), .val (.int u1), .val (.int u2), .val (.int u3), .val (.int u4), .val (.int u5), .val (.int u6), .val (.int u7)] [])
  refine Go.step (fun _ k => XS.aloadN X5.here hx rfl (hb hby d7_14) rfl rfl k) ?_
  show Go _ _ _ _ _ _ _ T5 (mkF m 15 #[.val (.ref ao), .val (.ref as_), .val (.int u0), .val (.int u1), .val (.int u2), .val (.int u3), .val (.int u4), .val (.int u5), .val (.int u6), .val (.int u7)] [(.ref ao)])
  refine Go.step (fun _ k => XS.iloadN X5.here hx rfl (hb hby d7_15) rfl k) ?_
  show Go _ _ _ _ _ _ _ T5 (mkF m 16 #[.val (.ref ao), .val (.ref as_), .val (.int u0), .val (.int u1), .val (.int u2), .val (.int u3), .val (.int u4), .val (.int u5), .val (.int u6), .val (.int u7)] [(.int u1), (.ref ao)])
  have f6 : Fld Z h5 ao "com/example/eiri/eiri/Iri" "authorityStart" "I" (.int (0 : Int32)) := ((F_authorityStart.other W2 (Or.inr (slot_ne (a0 := a0) (C := "com/example/eiri/eiri/Iri") (Or.inr (hw _ (List.mem_of_getElem? (i := 42) rfl))) (Or.inr (hw _ (List.mem_of_getElem? (i := 38) rfl))) (by decide) (t := .int) (t' := (.object "java/lang/String")) (by decide) (by decide)))).other W5 (Or.inr (slot_ne (a0 := a0) (C := "com/example/eiri/eiri/Iri") (Or.inr (hw _ (List.mem_of_getElem? (i := 42) rfl))) (Or.inr (hw _ (List.mem_of_getElem? (i := 40) rfl))) (by decide) (t := .int) (t' := .int) (by decide) (by decide))))
  have f7 : Exa Z h5 ao "com/example/eiri/eiri/Iri" := (f4.wr W5)
  obtain ⟨T8, h8, X8, e8, W8, st8⟩ := putF X5 hx hZ hown (host := "") (Or.inl (hw _ (List.mem_of_getElem? (i := 41) rfl))) Via.refl e5 f6 f7 (Or.inr ⟨(hw _ (List.mem_of_getElem? (i := 42) rfl)), rfl, hnm⟩) (hw _ (List.mem_of_getElem? (i := 31) rfl)) (ty := .int) (by decide) rfl rfl (g := (mkF m 16 #[.val (.ref ao), .val (.ref as_), .val (.int u0), .val (.int u1), .val (.int u2), .val (.int u3), .val (.int u4), .val (.int u5), .val (.int u6), .val (.int u7)] [(.int u1), (.ref ao)])) rfl rfl (hb hby d7_16)
  refine Go.step st8 ?_
  have Fw8 := f6.same W8
  have N8 := Fr.snoc X8 N5 g0
  have Z8 : n0 ≤ h8.size := Nat.le_trans Z5 (Keep.of_wr W8).1
  have KK8 : Keep h0 h8 [ao] := KK5.wr W8 (Or.inl (List.mem_of_getElem? (i := 0) rfl))
  show Go _ _ _ _ _ _ _ T8 (mkF m 19 #[.val (.ref ao), .val (.ref as_), .val (.int u0), .val (.int u1), .val (.int u2), .val (.int u3), .val (.int u4), .val (.int u5), .val (.int u6), .val (.int u7)] [])
  refine Go.step (fun _ k => XS.aloadN X8.here hx rfl (hb hby d7_19) rfl rfl k) ?_
  show Go _ _ _ _ _ _ _ T8 (mkF m 20 #[.val (.ref ao), .val (.ref as_), .val (.int u0), .val (.int u1), .val (.int u2), .val (.int u3), .val (.int u4), .val (.int u5), .val (.int u6), .val (.int u7)] [(.ref ao)])
  refine Go.step (fun _ k => XS.iload X8.here hx rfl (hb hby d7_20) rfl k) ?_
  show Go _ _ _ _ _ _ _ T8 (mkF m 22 #[.val (.ref ao), .val (.ref as_), .val (.int u0), .val (.int u1), .val (.int u2), .val (.int u3), .val (.int u4), .val (.int u5), .val (.int u6), .val (.int u7)] [(.int u2), (.ref ao)])
  have f9 : Fld Z h8 ao "com/example/eiri/eiri/Iri" "userInfoEnd" "I" (.int (0 : Int32)) := (((F_userInfoEnd.other W2 (Or.inr (slot_ne (a0 := a0) (C := "com/example/eiri/eiri/Iri") (Or.inr (hw _ (List.mem_of_getElem? (i := 44) rfl))) (Or.inr (hw _ (List.mem_of_getElem? (i := 38) rfl))) (by decide) (t := .int) (t' := (.object "java/lang/String")) (by decide) (by decide)))).other W5 (Or.inr (slot_ne (a0 := a0) (C := "com/example/eiri/eiri/Iri") (Or.inr (hw _ (List.mem_of_getElem? (i := 44) rfl))) (Or.inr (hw _ (List.mem_of_getElem? (i := 40) rfl))) (by decide) (t := .int) (t' := .int) (by decide) (by decide)))).other W8 (Or.inr (slot_ne (a0 := a0) (C := "com/example/eiri/eiri/Iri") (Or.inr (hw _ (List.mem_of_getElem? (i := 44) rfl))) (Or.inr (hw _ (List.mem_of_getElem? (i := 42) rfl))) (by decide) (t := .int) (t' := .int) (by decide) (by decide))))
  have f10 : Exa Z h8 ao "com/example/eiri/eiri/Iri" := (f7.wr W8)
  obtain ⟨T11, h11, X11, e11, W11, st11⟩ := putF X8 hx hZ hown (host := "") (Or.inl (hw _ (List.mem_of_getElem? (i := 43) rfl))) Via.refl e8 f9 f10 (Or.inr ⟨(hw _ (List.mem_of_getElem? (i := 44) rfl)), rfl, hnm⟩) (hw _ (List.mem_of_getElem? (i := 31) rfl)) (ty := .int) (by decide) rfl rfl (g := (mkF m 22 #[.val (.ref ao), .val (.ref as_), .val (.int u0), .val (.int u1), .val (.int u2), .val (.int u3), .val (.int u4), .val (.int u5), .val (.int u6), .val (.int u7)] [(.int u2), (.ref ao)])) rfl rfl (hb hby d7_22)
  refine Go.step st11 ?_
  have Fw11 := f9.same W11
  have N11 := Fr.snoc X11 N8 g0
  have Z11 : n0 ≤ h11.size := Nat.le_trans Z8 (Keep.of_wr W11).1
  have KK11 : Keep h0 h11 [ao] := KK8.wr W11 (Or.inl (List.mem_of_getElem? (i := 0) rfl))
  show Go _ _ _ _ _ _ _ T11 (mkF m 25 #[.val (.ref ao), .val (.ref as_), .val (.int u0), .val (.int u1), .val (.int u2), .val (.int u3), .val (.int u4), .val (.int u5), .val (.int u6), .val (.int u7)] [])
  refine Go.step (fun _ k => XS.aloadN X11.here hx rfl (hb hby d7_25) rfl rfl k) ?_
  show Go _ _ _ _ _ _ _ T11 (mkF m 26 #[.val (.ref ao), .val (.ref as_), .val (.int u0), .val (.int u1), .val (.int u2), .val (.int u3), .val (.int u4), .val (.int u5), .val (.int u6), .val (.int u7)] [(.ref ao)])
  refine Go.step (fun _ k => XS.iload X11.here hx rfl (hb hby d7_26) rfl k) ?_
  show Go _ _ _ _ _ _ _ T11 (mkF m 28 #[.val (.ref ao), .val (.ref as_), .val (.int u0), .val (.int u1), .val (.int u2), .val (.int u3), .val (.int u4), .val (.int u5), .val (.int u6), .val (.int u7)] [(.int u3), (.ref ao)])
  have f12 : Fld Z h11 ao "com/example/eiri/eiri/Iri" "portStart" "I" (.int (0 : Int32)) := ((((F_portStart.other W2 (Or.inr (slot_ne (a0 := a0) (C := "com/example/eiri/eiri/Iri") (Or.inr (hw _ (List.mem_of_getElem? (i := 46) rfl))) (Or.inr (hw _ (List.mem_of_getElem? (i := 38) rfl))) (by decide) (t := .int) (t' := (.object "java/lang/String")) (by decide) (by decide)))).other W5 (Or.inr (slot_ne (a0 := a0) (C := "com/example/eiri/eiri/Iri") (Or.inr (hw _ (List.mem_of_getElem? (i := 46) rfl))) (Or.inr (hw _ (List.mem_of_getElem? (i := 40) rfl))) (by decide) (t := .int) (t' := .int) (by decide) (by decide)))).other W8 (Or.inr (slot_ne (a0 := a0) (C := "com/example/eiri/eiri/Iri") (Or.inr (hw _ (List.mem_of_getElem? (i := 46) rfl))) (Or.inr (hw _ (List.mem_of_getElem? (i := 42) rfl))) (by decide) (t := .int) (t' := .int) (by decide) (by decide)))).other W11 (Or.inr (slot_ne (a0 := a0) (C := "com/example/eiri/eiri/Iri") (Or.inr (hw _ (List.mem_of_getElem? (i := 46) rfl))) (Or.inr (hw _ (List.mem_of_getElem? (i := 44) rfl))) (by decide) (t := .int) (t' := .int) (by decide) (by decide))))
  have f13 : Exa Z h11 ao "com/example/eiri/eiri/Iri" := (f10.wr W11)
  obtain ⟨T14, h14, X14, e14, W14, st14⟩ := putF X11 hx hZ hown (host := "") (Or.inl (hw _ (List.mem_of_getElem? (i := 45) rfl))) Via.refl e11 f12 f13 (Or.inr ⟨(hw _ (List.mem_of_getElem? (i := 46) rfl)), rfl, hnm⟩) (hw _ (List.mem_of_getElem? (i := 31) rfl)) (ty := .int) (by decide) rfl rfl (g := (mkF m 28 #[.val (.ref ao), .val (.ref as_), .val (.int u0), .val (.int u1), .val (.int u2), .val (.int u3), .val (.int u4), .val (.int u5), .val (.int u6), .val (.int u7)] [(.int u3), (.ref ao)])) rfl rfl (hb hby d7_28)
  refine Go.step st14 ?_
  have Fw14 := f12.same W14
  have N14 := Fr.snoc X14 N11 g0
  have Z14 : n0 ≤ h14.size := Nat.le_trans Z11 (Keep.of_wr W14).1
  have KK14 : Keep h0 h14 [ao] := KK11.wr W14 (Or.inl (List.mem_of_getElem? (i := 0) rfl))
  show Go _ _ _ _ _ _ _ T14 (mkF m 31 #[.val (.ref ao), .val (.ref as_), .val (.int u0), .val (.int u1), .val (.int u2), .val (.int u3), .val (.int u4), .val (.int u5), .val (.int u6), .val (.int u7)] [])
  refine Go.step (fun _ k => XS.aloadN X14.here hx rfl (hb hby d7_31) rfl rfl k) ?_
  show Go _ _ _ _ _ _ _ T14 (mkF m 32 #[.val (.ref ao), .val (.ref as_), .val (.int u0), .val (.int u1), .val (.int u2), .val (.int u3), .val (.int u4), .val (.int u5), .val (.int u6), .val (.int u7)] [(.ref ao)])
  refine Go.step (fun _ k => XS.iload X14.here hx rfl (hb hby d7_32) rfl k) ?_
  show Go _ _ _ _ _ _ _ T14 (mkF m 34 #[.val (.ref ao), .val (.ref as_), .val (.int u0), .val (.int u1), .val (.int u2), .val (.int u3), .val (.int u4), .val (.int u5), .val (.int u6), .val (.int u7)] [(.int u4), (.ref ao)])
  have f15 : Fld Z h14 ao "com/example/eiri/eiri/Iri" "pathStart" "I" (.int (0 : Int32)) := (((((F_pathStart.other W2 (Or.inr (slot_ne (a0 := a0) (C := "com/example/eiri/eiri/Iri") (Or.inr (hw _ (List.mem_of_getElem? (i := 48) rfl))) (Or.inr (hw _ (List.mem_of_getElem? (i := 38) rfl))) (by decide) (t := .int) (t' := (.object "java/lang/String")) (by decide) (by decide)))).other W5 (Or.inr (slot_ne (a0 := a0) (C := "com/example/eiri/eiri/Iri") (Or.inr (hw _ (List.mem_of_getElem? (i := 48) rfl))) (Or.inr (hw _ (List.mem_of_getElem? (i := 40) rfl))) (by decide) (t := .int) (t' := .int) (by decide) (by decide)))).other W8 (Or.inr (slot_ne (a0 := a0) (C := "com/example/eiri/eiri/Iri") (Or.inr (hw _ (List.mem_of_getElem? (i := 48) rfl))) (Or.inr (hw _ (List.mem_of_getElem? (i := 42) rfl))) (by decide) (t := .int) (t' := .int) (by decide) (by decide)))).other W11 (Or.inr (slot_ne (a0 := a0) (C := "com/example/eiri/eiri/Iri") (Or.inr (hw _ (List.mem_of_getElem? (i := 48) rfl))) (Or.inr (hw _ (List.mem_of_getElem? (i := 44) rfl))) (by decide) (t := .int) (t' := .int) (by decide) (by decide)))).other W14 (Or.inr (slot_ne (a0 := a0) (C := "com/example/eiri/eiri/Iri") (Or.inr (hw _ (List.mem_of_getElem? (i := 48) rfl))) (Or.inr (hw _ (List.mem_of_getElem? (i := 46) rfl))) (by decide) (t := .int) (t' := .int) (by decide) (by decide))))
  have f16 : Exa Z h14 ao "com/example/eiri/eiri/Iri" := (f13.wr W14)
  obtain ⟨T17, h17, X17, e17, W17, st17⟩ := putF X14 hx hZ hown (host := "") (Or.inl (hw _ (List.mem_of_getElem? (i := 47) rfl))) Via.refl e14 f15 f16 (Or.inr ⟨(hw _ (List.mem_of_getElem? (i := 48) rfl)), rfl, hnm⟩) (hw _ (List.mem_of_getElem? (i := 31) rfl)) (ty := .int) (by decide) rfl rfl (g := (mkF m 34 #[.val (.ref ao), .val (.ref as_), .val (.int u0), .val (.int u1), .val (.int u2), .val (.int u3), .val (.int u4), .val (.int u5), .val (.int u6), .val (.int u7)] [(.int u4), (.ref ao)])) rfl rfl (hb hby d7_34)
  refine Go.step st17 ?_
  have Fw17 := f15.same W17
  have N17 := Fr.snoc X17 N14 g0
  have Z17 : n0 ≤ h17.size := Nat.le_trans Z14 (Keep.of_wr W17).1
  have KK17 : Keep h0 h17 [ao] := KK14.wr W17 (Or.inl (List.mem_of_getElem? (i := 0) rfl))
  show Go _ _ _ _ _ _ _ T17 (mkF m 37 #[.val (.ref ao), .val (.ref as_), .val (.int u0), .val (.int u1), .val (.int u2), .val (.int u3), .val (.int u4), .val (.int u5), .val (.int u6), .val (.int u7)] [])
  refine Go.step (fun _ k => XS.aloadN X17.here hx rfl (hb hby d7_37) rfl rfl k) ?_
  show Go _ _ _ _ _ _ _ T17 (mkF m 38 #[.val (.ref ao), .val (.ref as_), .val (.int u0), .val (.int u1), .val (.int u2), .val (.int u3), .val (.int u4), .val (.int u5), .val (.int u6), .val (.int u7)] [(.ref ao)])
  refine Go.step (fun _ k => XS.iload X17.here hx rfl (hb hby d7_38) rfl k) ?_
  show Go _ _ _ _ _ _ _ T17 (mkF m 40 #[.val (.ref ao), .val (.ref as_), .val (.int u0), .val (.int u1), .val (.int u2), .val (.int u3), .val (.int u4), .val (.int u5), .val (.int u6), .val (.int u7)] [(.int u5), (.ref ao)])
  have f18 : Fld Z h17 ao "com/example/eiri/eiri/Iri" "pathEnd" "I" (.int (0 : Int32)) := ((((((F_pathEnd.other W2 (Or.inr (slot_ne (a0 := a0) (C := "com/example/eiri/eiri/Iri") (Or.inr (hw _ (List.mem_of_getElem? (i := 50) rfl))) (Or.inr (hw _ (List.mem_of_getElem? (i := 38) rfl))) (by decide) (t := .int) (t' := (.object "java/lang/String")) (by decide) (by decide)))).other W5 (Or.inr (slot_ne (a0 := a0) (C := "com/example/eiri/eiri/Iri") (Or.inr (hw _ (List.mem_of_getElem? (i := 50) rfl))) (Or.inr (hw _ (List.mem_of_getElem? (i := 40) rfl))) (by decide) (t := .int) (t' := .int) (by decide) (by decide)))).other W8 (Or.inr (slot_ne (a0 := a0) (C := "com/example/eiri/eiri/Iri") (Or.inr (hw _ (List.mem_of_getElem? (i := 50) rfl))) (Or.inr (hw _ (List.mem_of_getElem? (i := 42) rfl))) (by decide) (t := .int) (t' := .int) (by decide) (by decide)))).other W11 (Or.inr (slot_ne (a0 := a0) (C := "com/example/eiri/eiri/Iri") (Or.inr (hw _ (List.mem_of_getElem? (i := 50) rfl))) (Or.inr (hw _ (List.mem_of_getElem? (i := 44) rfl))) (by decide) (t := .int) (t' := .int) (by decide) (by decide)))).other W14 (Or.inr (slot_ne (a0 := a0) (C := "com/example/eiri/eiri/Iri") (Or.inr (hw _ (List.mem_of_getElem? (i := 50) rfl))) (Or.inr (hw _ (List.mem_of_getElem? (i := 46) rfl))) (by decide) (t := .int) (t' := .int) (by decide) (by decide)))).other W17 (Or.inr (slot_ne (a0 := a0) (C := "com/example/eiri/eiri/Iri") (Or.inr (hw _ (List.mem_of_getElem? (i := 50) rfl))) (Or.inr (hw _ (List.mem_of_getElem? (i := 48) rfl))) (by decide) (t := .int) (t' := .int) (by decide) (by decide))))
  have f19 : Exa Z h17 ao "com/example/eiri/eiri/Iri" := (f16.wr W17)
  obtain ⟨T20, h20, X20, e20, W20, st20⟩ := putF X17 hx hZ hown (host := "") (Or.inl (hw _ (List.mem_of_getElem? (i := 49) rfl))) Via.refl e17 f18 f19 (Or.inr ⟨(hw _ (List.mem_of_getElem? (i := 50) rfl)), rfl, hnm⟩) (hw _ (List.mem_of_getElem? (i := 31) rfl)) (ty := .int) (by decide) rfl rfl (g := (mkF m 40 #[.val (.ref ao), .val (.ref as_), .val (.int u0), .val (.int u1), .val (.int u2), .val (.int u3), .val (.int u4), .val (.int u5), .val (.int u6), .val (.int u7)] [(.int u5), (.ref ao)])) rfl rfl (hb hby d7_40)
  refine Go.step st20 ?_
  have Fw20 := f18.same W20
  have N20 := Fr.snoc X20 N17 g0
  have Z20 : n0 ≤ h20.size := Nat.le_trans Z17 (Keep.of_wr W20).1
  have KK20 : Keep h0 h20 [ao] := KK17.wr W20 (Or.inl (List.mem_of_getElem? (i := 0) rfl))
  show Go _ _ _ _ _ _ _ T20 (mkF m 43 #[.val (.ref ao), .val (.ref as_), .val (.int u0), .val (.int u1), .val (.int u2), .val (.int u3), .val (.int u4), .val (.int u5), .val (.int u6), .val (.int u7)] [])
  refine Go.step (fun _ k => XS.aloadN X20.here hx rfl (hb hby d7_43) rfl rfl k) ?_
  show Go _ _ _ _ _ _ _ T20 (mkF m 44 #[.val (.ref ao), .val (.ref as_), .val (.int u0), .val (.int u1), .val (.int u2), .val (.int u3), .val (.int u4), .val (.int u5), .val (.int u6), .val (.int u7)] [(.ref ao)])
  refine Go.step (fun _ k => XS.iload X20.here hx rfl (hb hby d7_44) rfl k) ?_
  show Go _ _ _ _ _ _ _ T20 (mkF m 46 #[.val (.ref ao), .val (.ref as_), .val (.int u0), .val (.int u1), .val (.int u2), .val (.int u3), .val (.int u4), .val (.int u5), .val (.int u6), .val (.int u7)] [(.int u6), (.ref ao)])
  have f21 : Fld Z h20 ao "com/example/eiri/eiri/Iri" "queryStart" "I" (.int (0 : Int32)) := (((((((F_queryStart.other W2 (Or.inr (slot_ne (a0 := a0) (C := "com/example/eiri/eiri/Iri") (Or.inr (hw _ (List.mem_of_getElem? (i := 52) rfl))) (Or.inr (hw _ (List.mem_of_getElem? (i := 38) rfl))) (by decide) (t := .int) (t' := (.object "java/lang/String")) (by decide) (by decide)))).other W5 (Or.inr (slot_ne (a0 := a0) (C := "com/example/eiri/eiri/Iri") (Or.inr (hw _ (List.mem_of_getElem? (i := 52) rfl))) (Or.inr (hw _ (List.mem_of_getElem? (i := 40) rfl))) (by decide) (t := .int) (t' := .int) (by decide) (by decide)))).other W8 (Or.inr (slot_ne (a0 := a0) (C := "com/example/eiri/eiri/Iri") (Or.inr (hw _ (List.mem_of_getElem? (i := 52) rfl))) (Or.inr (hw _ (List.mem_of_getElem? (i := 42) rfl))) (by decide) (t := .int) (t' := .int) (by decide) (by decide)))).other W11 (Or.inr (slot_ne (a0 := a0) (C := "com/example/eiri/eiri/Iri") (Or.inr (hw _ (List.mem_of_getElem? (i := 52) rfl))) (Or.inr (hw _ (List.mem_of_getElem? (i := 44) rfl))) (by decide) (t := .int) (t' := .int) (by decide) (by decide)))).other W14 (Or.inr (slot_ne (a0 := a0) (C := "com/example/eiri/eiri/Iri") (Or.inr (hw _ (List.mem_of_getElem? (i := 52) rfl))) (Or.inr (hw _ (List.mem_of_getElem? (i := 46) rfl))) (by decide) (t := .int) (t' := .int) (by decide) (by decide)))).other W17 (Or.inr (slot_ne (a0 := a0) (C := "com/example/eiri/eiri/Iri") (Or.inr (hw _ (List.mem_of_getElem? (i := 52) rfl))) (Or.inr (hw _ (List.mem_of_getElem? (i := 48) rfl))) (by decide) (t := .int) (t' := .int) (by decide) (by decide)))).other W20 (Or.inr (slot_ne (a0 := a0) (C := "com/example/eiri/eiri/Iri") (Or.inr (hw _ (List.mem_of_getElem? (i := 52) rfl))) (Or.inr (hw _ (List.mem_of_getElem? (i := 50) rfl))) (by decide) (t := .int) (t' := .int) (by decide) (by decide))))
  have f22 : Exa Z h20 ao "com/example/eiri/eiri/Iri" := (f19.wr W20)
  obtain ⟨T23, h23, X23, e23, W23, st23⟩ := putF X20 hx hZ hown (host := "") (Or.inl (hw _ (List.mem_of_getElem? (i := 51) rfl))) Via.refl e20 f21 f22 (Or.inr ⟨(hw _ (List.mem_of_getElem? (i := 52) rfl)), rfl, hnm⟩) (hw _ (List.mem_of_getElem? (i := 31) rfl)) (ty := .int) (by decide) rfl rfl (g := (mkF m 46 #[.val (.ref ao), .val (.ref as_), .val (.int u0), .val (.int u1), .val (.int u2), .val (.int u3), .val (.int u4), .val (.int u5), .val (.int u6), .val (.int u7)] [(.int u6), (.ref ao)])) rfl rfl (hb hby d7_46)
  refine Go.step st23 ?_
  have Fw23 := f21.same W23
  have N23 := Fr.snoc X23 N20 g0
  have Z23 : n0 ≤ h23.size := Nat.le_trans Z20 (Keep.of_wr W23).1
  have KK23 : Keep h0 h23 [ao] := KK20.wr W23 (Or.inl (List.mem_of_getElem? (i := 0) rfl))
  show Go _ _ _ _ _ _ _ T23 (mkF m 49 #[.val (.ref ao), .val (.ref as_), .val (.int u0), .val (.int u1), .val (.int u2), .val (.int u3), .val (.int u4), .val (.int u5), .val (.int u6), .val (.int u7)] [])
  refine Go.step (fun _ k => XS.aloadN X23.here hx rfl (hb hby d7_49) rfl rfl k) ?_
  show Go _ _ _ _ _ _ _ T23 (mkF m 50 #[.val (.ref ao), .val (.ref as_), .val (.int u0), .val (.int u1), .val (.int u2), .val (.int u3), .val (.int u4), .val (.int u5), .val (.int u6), .val (.int u7)] [(.ref ao)])
  refine Go.step (fun _ k => XS.iload X23.here hx rfl (hb hby d7_50) rfl k) ?_
  show Go _ _ _ _ _ _ _ T23 (mkF m 52 #[.val (.ref ao), .val (.ref as_), .val (.int u0), .val (.int u1), .val (.int u2), .val (.int u3), .val (.int u4), .val (.int u5), .val (.int u6), .val (.int u7)] [(.int u7), (.ref ao)])
  have f24 : Fld Z h23 ao "com/example/eiri/eiri/Iri" "fragmentStart" "I" (.int (0 : Int32)) := ((((((((F_fragmentStart.other W2 (Or.inr (slot_ne (a0 := a0) (C := "com/example/eiri/eiri/Iri") (Or.inr (hw _ (List.mem_of_getElem? (i := 54) rfl))) (Or.inr (hw _ (List.mem_of_getElem? (i := 38) rfl))) (by decide) (t := .int) (t' := (.object "java/lang/String")) (by decide) (by decide)))).other W5 (Or.inr (slot_ne (a0 := a0) (C := "com/example/eiri/eiri/Iri") (Or.inr (hw _ (List.mem_of_getElem? (i := 54) rfl))) (Or.inr (hw _ (List.mem_of_getElem? (i := 40) rfl))) (by decide) (t := .int) (t' := .int) (by decide) (by decide)))).other W8 (Or.inr (slot_ne (a0 := a0) (C := "com/example/eiri/eiri/Iri") (Or.inr (hw _ (List.mem_of_getElem? (i := 54) rfl))) (Or.inr (hw _ (List.mem_of_getElem? (i := 42) rfl))) (by decide) (t := .int) (t' := .int) (by decide) (by decide)))).other W11 (Or.inr (slot_ne (a0 := a0) (C := "com/example/eiri/eiri/Iri") (Or.inr (hw _ (List.mem_of_getElem? (i := 54) rfl))) (Or.inr (hw _ (List.mem_of_getElem? (i := 44) rfl))) (by decide) (t := .int) (t' := .int) (by decide) (by decide)))).other W14 (Or.inr (slot_ne (a0 := a0) (C := "com/example/eiri/eiri/Iri") (Or.inr (hw _ (List.mem_of_getElem? (i := 54) rfl))) (Or.inr (hw _ (List.mem_of_getElem? (i := 46) rfl))) (by decide) (t := .int) (t' := .int) (by decide) (by decide)))).other W17 (Or.inr (slot_ne (a0 := a0) (C := "com/example/eiri/eiri/Iri") (Or.inr (hw _ (List.mem_of_getElem? (i := 54) rfl))) (Or.inr (hw _ (List.mem_of_getElem? (i := 48) rfl))) (by decide) (t := .int) (t' := .int) (by decide) (by decide)))).other W20 (Or.inr (slot_ne (a0 := a0) (C := "com/example/eiri/eiri/Iri") (Or.inr (hw _ (List.mem_of_getElem? (i := 54) rfl))) (Or.inr (hw _ (List.mem_of_getElem? (i := 50) rfl))) (by decide) (t := .int) (t' := .int) (by decide) (by decide)))).other W23 (Or.inr (slot_ne (a0 := a0) (C := "com/example/eiri/eiri/Iri") (Or.inr (hw _ (List.mem_of_getElem? (i := 54) rfl))) (Or.inr (hw _ (List.mem_of_getElem? (i := 52) rfl))) (by decide) (t := .int) (t' := .int) (by decide) (by decide))))
  have f25 : Exa Z h23 ao "com/example/eiri/eiri/Iri" := (f22.wr W23)
  obtain ⟨T26, h26, X26, e26, W26, st26⟩ := putF X23 hx hZ hown (host := "") (Or.inl (hw _ (List.mem_of_getElem? (i := 53) rfl))) Via.refl e23 f24 f25 (Or.inr ⟨(hw _ (List.mem_of_getElem? (i := 54) rfl)), rfl, hnm⟩) (hw _ (List.mem_of_getElem? (i := 31) rfl)) (ty := .int) (by decide) rfl rfl (g := (mkF m 52 #[.val (.ref ao), .val (.ref as_), .val (.int u0), .val (.int u1), .val (.int u2), .val (.int u3), .val (.int u4), .val (.int u5), .val (.int u6), .val (.int u7)] [(.int u7), (.ref ao)])) rfl rfl (hb hby d7_52)
  refine Go.step st26 ?_
  have Fw26 := f24.same W26
  have N26 := Fr.snoc X26 N23 g0
  have Z26 : n0 ≤ h26.size := Nat.le_trans Z23 (Keep.of_wr W26).1
  have KK26 : Keep h0 h26 [ao] := KK23.wr W26 (Or.inl (List.mem_of_getElem? (i := 0) rfl))
  show Go _ _ _ _ _ _ _ T26 (mkF m 55 #[.val (.ref ao), .val (.ref as_), .val (.int u0), .val (.int u1), .val (.int u2), .val (.int u3), .val (.int u4), .val (.int u5), .val (.int u6), .val (.int u7)] [])
  have f27 : Exa Z h26 ao "com/example/eiri/eiri/Iri" := (f25.wr W26)
  have f28 : Fld Z h26 ao "com/example/eiri/eiri/Iri" "authorityStart" "I" (.int u1) := ((((((Fw8.other W11 (Or.inr (slot_ne (a0 := a0) (C := "com/example/eiri/eiri/Iri") (Or.inr (hw _ (List.mem_of_getElem? (i := 42) rfl))) (Or.inr (hw _ (List.mem_of_getElem? (i := 44) rfl))) (by decide) (t := .int) (t' := .int) (by decide) (by decide)))).other W14 (Or.inr (slot_ne (a0 := a0) (C := "com/example/eiri/eiri/Iri") (Or.inr (hw _ (List.mem_of_getElem? (i := 42) rfl))) (Or.inr (hw _ (List.mem_of_getElem? (i := 46) rfl))) (by decide) (t := .int) (t' := .int) (by decide) (by decide)))).other W17 (Or.inr (slot_ne (a0 := a0) (C := "com/example/eiri/eiri/Iri") (Or.inr (hw _ (List.mem_of_getElem? (i := 42) rfl))) (Or.inr (hw _ (List.mem_of_getElem? (i := 48) rfl))) (by decide) (t := .int) (t' := .int) (by decide) (by decide)))).other W20 (Or.inr (slot_ne (a0 := a0) (C := "com/example/eiri/eiri/Iri") (Or.inr (hw _ (List.mem_of_getElem? (i := 42) rfl))) (Or.inr (hw _ (List.mem_of_getElem? (i := 50) rfl))) (by decide) (t := .int) (t' := .int) (by decide) (by decide)))).other W23 (Or.inr (slot_ne (a0 := a0) (C := "com/example/eiri/eiri/Iri") (Or.inr (hw _ (List.mem_of_getElem? (i := 42) rfl))) (Or.inr (hw _ (List.mem_of_getElem? (i := 52) rfl))) (by decide) (t := .int) (t' := .int) (by decide) (by decide)))).other W26 (Or.inr (slot_ne (a0 := a0) (C := "com/example/eiri/eiri/Iri") (Or.inr (hw _ (List.mem_of_getElem? (i := 42) rfl))) (Or.inr (hw _ (List.mem_of_getElem? (i := 54) rfl))) (by decide) (t := .int) (t' := .int) (by decide) (by decide))))
  have f29 : Fld Z h26 ao "com/example/eiri/eiri/Iri" "userInfoEnd" "I" (.int u2) := (((((Fw11.other W14 (Or.inr (slot_ne (a0 := a0) (C := "com/example/eiri/eiri/Iri") (Or.inr (hw _ (List.mem_of_getElem? (i := 44) rfl))) (Or.inr (hw _ (List.mem_of_getElem? (i := 46) rfl))) (by decide) (t := .int) (t' := .int) (by decide) (by decide)))).other W17 (Or.inr (slot_ne (a0 := a0) (C := "com/example/eiri/eiri/Iri") (Or.inr (hw _ (List.mem_of_getElem? (i := 44) rfl))) (Or.inr (hw _ (List.mem_of_getElem? (i := 48) rfl))) (by decide) (t := .int) (t' := .int) (by decide) (by decide)))).other W20 (Or.inr (slot_ne (a0 := a0) (C := "com/example/eiri/eiri/Iri") (Or.inr (hw _ (List.mem_of_getElem? (i := 44) rfl))) (Or.inr (hw _ (List.mem_of_getElem? (i := 50) rfl))) (by decide) (t := .int) (t' := .int) (by decide) (by decide)))).other W23 (Or.inr (slot_ne (a0 := a0) (C := "com/example/eiri/eiri/Iri") (Or.inr (hw _ (List.mem_of_getElem? (i := 44) rfl))) (Or.inr (hw _ (List.mem_of_getElem? (i := 52) rfl))) (by decide) (t := .int) (t' := .int) (by decide) (by decide)))).other W26 (Or.inr (slot_ne (a0 := a0) (C := "com/example/eiri/eiri/Iri") (Or.inr (hw _ (List.mem_of_getElem? (i := 44) rfl))) (Or.inr (hw _ (List.mem_of_getElem? (i := 54) rfl))) (by decide) (t := .int) (t' := .int) (by decide) (by decide))))
  exact Go.ret0 X26 hx hret hlk (hb hby d7_55) e26 (by decide) (by decide) ⟨rfl, N26, KK26, f27, f28, f29⟩
def own_hs (a b : Int32) : Int32 := if a = -1 then -1 else if b = -1 then a else b + 1
theorem own_gI {l : List Int32} {k : Nat} {x : Int32} (h : k < l.length) : (l.set k x).getD k 0 = x := by simp [List.getD_eq_getElem?_getD, h]
theorem own_nI {l : List Int32} {j k : Nat} {x : Int32} (h : k ≠ j) : (l.set k x).getD j 0 = l.getD j 0 := by simp [List.getD_eq_getElem?_getD, List.getElem?_set_ne h]
theorem own_tne {a b : Int32} (h0 : 0 ≤ a.toInt) (h1 : 0 ≤ b.toInt) (h : a.toInt ≠ b.toInt) : a.toNatClampNeg ≠ b.toNatClampNeg := by simp only [Int32.toNatClampNeg]; omega
theorem own_st14 {z0 z1 z2 z3 z4 z5 z6 z7 z8 z9 za zb zc zd : Value} {s14 : Slot} {v : Addr} (h : One s14) : storeLocals #[.val z0, .val z1, .val z2, .val z3, .val z4, .val z5, .val z6, .val z7, .val z8, .val z9, .val za, .val zb, .val zc, .val zd, s14, .unset, .unset, .unset] 14 (.ref v) = some #[.val z0, .val z1, .val z2, .val z3, .val z4, .val z5, .val z6, .val z7, .val z8, .val z9, .val za, .val zb, .val zc, .val zd, .val (.ref v), .unset, .unset, .unset] := by
  rcases h with rfl | ⟨w, rfl, hw⟩
  · rfl
  · cases w <;> first | rfl | (simp [Value.category] at hw)
theorem d8_0 : decode prog_4_method_25_code 0 = .ok (.aload_n 0, 1) := by decide +kernel
theorem d8_1 : decode prog_4_method_25_code 1 = .ok (.getfield 17, 3) := by decide +kernel
theorem d8_4 : decode prog_4_method_25_code 4 = .ok (.iconst (-1), 1) := by decide +kernel
theorem d8_5 : decode prog_4_method_25_code 5 = .ok (.if_icmp .ne 5, 3) := by decide +kernel
theorem d8_8 : decode prog_4_method_25_code 8 = .ok (.iconst (-1), 1) := by decide +kernel
theorem d8_9 : decode prog_4_method_25_code 9 = .ok (.ireturn, 1) := by decide +kernel
theorem d8_10 : decode prog_4_method_25_code 10 = .ok (.aload_n 0, 1) := by decide +kernel
theorem d8_11 : decode prog_4_method_25_code 11 = .ok (.getfield 20, 3) := by decide +kernel
theorem d8_14 : decode prog_4_method_25_code 14 = .ok (.iconst (-1), 1) := by decide +kernel
theorem d8_15 : decode prog_4_method_25_code 15 = .ok (.if_icmp .ne 10, 3) := by decide +kernel
theorem d8_18 : decode prog_4_method_25_code 18 = .ok (.aload_n 0, 1) := by decide +kernel
theorem d8_19 : decode prog_4_method_25_code 19 = .ok (.getfield 17, 3) := by decide +kernel
theorem d8_22 : decode prog_4_method_25_code 22 = .ok (.goto 9, 3) := by decide +kernel
theorem d8_25 : decode prog_4_method_25_code 25 = .ok (.aload_n 0, 1) := by decide +kernel
theorem d8_26 : decode prog_4_method_25_code 26 = .ok (.getfield 20, 3) := by decide +kernel
theorem d8_29 : decode prog_4_method_25_code 29 = .ok (.iconst 1, 1) := by decide +kernel
theorem d8_30 : decode prog_4_method_25_code 30 = .ok (.iadd, 1) := by decide +kernel
theorem d8_31 : decode prog_4_method_25_code 31 = .ok (.ireturn, 1) := by decide +kernel
theorem ef_rmHs (m : MethodId) (ao : Addr) : entryFrame m #[(.ref ao)] 1 = mkF m 0 #[.val (.ref ao)] [] := by first | (simp [entryFrame, mkF, argsToLocals, Value.category]; done) | rfl
def Q_rmHs (Z : State) (ao : Addr) (u1 : Int32) (u2 : Int32) (h0 : Heap) (n0 : Nat) (v : Option Value) (h : Heap) (L : List Loc) : Prop := (v = some (.int (own_hs u1 u2))) ∧ (Fr n0 L) ∧ (h = h0)
set_option maxRecDepth 65536 in
set_option maxHeartbeats 40000000 in
theorem rmHs (l : Launch) (Z : State) (a0 : Array Value) (hw : ∀ d ∈ tables_1, d.before a0 Z = true) (ws : List Jvm.Cond) (ao : Addr) (u1 : Int32) (u2 : Int32) (h0 : Heap) (n0 : Nat) (Z0 : n0 ≤ h0.size) (E0 : Exa Z h0 ao "com/example/eiri/eiri/Iri") (F1 : Fld Z h0 ao "com/example/eiri/eiri/Iri" "authorityStart" "I" (.int u1)) (F2 : Fld Z h0 ao "com/example/eiri/eiri/Iri" "userInfoEnd" "I" (.int u2)) :
    MetFree l (⟨"com/example/eiri/eiri/Iri", "hostStart", "()I"⟩ : MethodName) (head1 (Jvm.Cond.code (⟨"com/example/eiri/eiri/Iri", "hostStart", "()I"⟩ : MethodName) prog_4_method_25_code 1 (some .int) :: ws) ({ frames := 0, cells := 0, slots := 0, locals := 0 } : Room)) (fun aA U => aA = #[(.ref ao)] ∧ Z.Warmed39 U.vm ∧ U.heap = h0) (fun _ _ _ _ _ => True) (fun _ U o U' => ∃ v L, o = .returned v ∧ Q_rmHs Z ao u1 u2 h0 n0 v U'.heap L ∧ FrameEnd U o U' L ({ frames := 0, cells := 0, slots := 0, locals := 0 } : Room).cells ({ frames := 0, cells := 0, slots := 0, locals := 0 } : Room).slots) := by
  refine MetFree.of_bodySF (plainFor_of_name pn_com_example_eiri_eiri_Iri) hisR ?_
  intro p e s m args below meth c s₁ Bd hml0 hP hK
  obtain ⟨rfl, hZ, hh⟩ := hP
  have hx := Bd.exec
  have hby := Bd.bytes
  have hml : c.maxLocals = 1 := hml0
  have hown : s.vm.findClass "com/example/eiri/eiri/Iri" = some m.cls := findClass_of_methodNamed Bd.named
  have hnm := (name_of_methodNamed Bd.named Bd.method).1
  have hret := Bd.returns
  have hlk : meth.locks = false := BodyLoose.notSynchronized Bd
  have X0 : Stand p l e ({ frames := 0, cells := 0, slots := 0, locals := 0 } : Room) s m #[(.ref ao)] below meth c s₁ [] 0 0 := Stand.of_body Bd
  have e0 : s₁.heap = h0 := by rw [← hh, Bd.state]; rfl
  have N0 := Fr.nil n0
  suffices hgo : Go p e below s ({ frames := 0, cells := 0, slots := 0, locals := 0 } : Room).cells ({ frames := 0, cells := 0, slots := 0, locals := 0 } : Room).slots (Q_rmHs Z ao u1 u2 h0 n0) s₁ (mkF m 0 #[.val (.ref ao)] []) from hgo.enter (ef_rmHs m ao)
  refine Go.step (fun _ k => XS.aloadN X0.here hx rfl (hb hby d8_0) rfl rfl k) ?_
  show Go _ _ _ _ _ _ _ s₁ (mkF m 1 #[.val (.ref ao)] [(.ref ao)])
  obtain ⟨T30, X30, e30, st30⟩ := getF X0 hx hZ hown (host := "") (Or.inl (hw _ (List.mem_of_getElem? (i := 41) rfl))) Via.refl e0 F1 (g := (mkF m 1 #[.val (.ref ao)] [(.ref ao)])) rfl rfl (hb hby d8_1)
  refine Go.step st30 ?_
  show Go _ _ _ _ _ _ _ T30 (mkF m 4 #[.val (.ref ao)] [(.int u1)])
  refine Go.step (fun _ k => XS.iconst X30.here hx rfl (hb hby d8_4) k) ?_
  show Go _ _ _ _ _ _ _ T30 (mkF m 5 #[.val (.ref ao)] [(.int (-1 : Int32)), (.int u1)])
  by_cases hc5_31 : u1 = (-1 : Int32)
  · refine Go.step (fun _ k => XS.icmpNo X30.here hx rfl (hb hby d8_5) rfl (teq hc5_31).2 k) ?_
    show Go _ _ _ _ _ _ _ T30 (mkF m 8 #[.val (.ref ao)] [])
    refine Go.step (fun _ k => XS.iconst X30.here hx rfl (hb hby d8_8) k) ?_
    show Go _ _ _ _ _ _ _ T30 (mkF m 9 #[.val (.ref ao)] [(.int (-1 : Int32))])
    exact Go.retI X30 hx hret hlk (hb hby d8_9) e30 (by decide) (by decide) ⟨(congrArg (fun z => some (Value.int z)) (by unfold own_hs; rw [if_pos hc5_31])), N0, rfl⟩
  · refine Go.step (fun _ k => XS.icmpYes X30.here hx rfl (pc0 := 5) (pc' := 10) rfl (hb hby d8_5) rfl (feq hc5_31).2 (by decide) (by decide) k) ?_
    show Go _ _ _ _ _ _ _ T30 (mkF m 10 #[.val (.ref ao)] [])
    refine Go.step (fun _ k => XS.aloadN X30.here hx rfl (hb hby d8_10) rfl rfl k) ?_
    show Go _ _ _ _ _ _ _ T30 (mkF m 11 #[.val (.ref ao)] [(.ref ao)])
    obtain ⟨T32, X32, e32, st32⟩ := getF X30 hx hZ hown (host := "") (Or.inl (hw _ (List.mem_of_getElem? (i := 43) rfl))) Via.refl e30 F2 (g := (mkF m 11 #[.val (.ref ao)] [(.ref ao)])) rfl rfl (hb hby d8_11)
    refine Go.step st32 ?_
    show Go _ _ _ _ _ _ _ T32 (mkF m 14 #[.val (.ref ao)] [(.int u2)])
    refine Go.step (fun _ k => XS.iconst X32.here hx rfl (hb hby d8_14) k) ?_
    show Go _ _ _ _ _ _ _ T32 (mkF m 15 #[.val (.ref ao)] [(.int (-1 : Int32)), (.int u2)])
    by_cases hc15_33 : u2 = (-1 : Int32)
    · refine Go.step (fun _ k => XS.icmpNo X32.here hx rfl (hb hby d8_15) rfl (teq hc15_33).2 k) ?_
      show Go _ _ _ _ _ _ _ T32 (mkF m 18 #[.val (.ref ao)] [])
      refine Go.step (fun _ k => XS.aloadN X32.here hx rfl (hb hby d8_18) rfl rfl k) ?_
      show Go _ _ _ _ _ _ _ T32 (mkF m 19 #[.val (.ref ao)] [(.ref ao)])
      obtain ⟨T34, X34, e34, st34⟩ := getF X32 hx hZ hown (host := "") (Or.inl (hw _ (List.mem_of_getElem? (i := 41) rfl))) Via.refl e32 F1 (g := (mkF m 19 #[.val (.ref ao)] [(.ref ao)])) rfl rfl (hb hby d8_19)
      refine Go.step st34 ?_
      show Go _ _ _ _ _ _ _ T34 (mkF m 22 #[.val (.ref ao)] [(.int u1)])
      refine Go.step (fun _ k => XS.goto X34.here hx rfl (pc0 := 22) (pc' := 31) rfl (hb hby d8_22) (by decide) (by decide) k) ?_
      show Go _ _ _ _ _ _ _ T34 (mkF m 31 #[.val (.ref ao)] [(.int u1)])
      exact Go.retI X34 hx hret hlk (hb hby d8_31) e34 (by decide) (by decide) ⟨(congrArg (fun z => some (Value.int z)) (by unfold own_hs; rw [if_neg hc5_31, if_pos hc15_33])), N0, rfl⟩
    · refine Go.step (fun _ k => XS.icmpYes X32.here hx rfl (pc0 := 15) (pc' := 25) rfl (hb hby d8_15) rfl (feq hc15_33).2 (by decide) (by decide) k) ?_
      show Go _ _ _ _ _ _ _ T32 (mkF m 25 #[.val (.ref ao)] [])
      refine Go.step (fun _ k => XS.aloadN X32.here hx rfl (hb hby d8_25) rfl rfl k) ?_
      show Go _ _ _ _ _ _ _ T32 (mkF m 26 #[.val (.ref ao)] [(.ref ao)])
      obtain ⟨T35, X35, e35, st35⟩ := getF X32 hx hZ hown (host := "") (Or.inl (hw _ (List.mem_of_getElem? (i := 43) rfl))) Via.refl e32 F2 (g := (mkF m 26 #[.val (.ref ao)] [(.ref ao)])) rfl rfl (hb hby d8_26)
      refine Go.step st35 ?_
      show Go _ _ _ _ _ _ _ T35 (mkF m 29 #[.val (.ref ao)] [(.int u2)])
      refine Go.step (fun _ k => XS.iconst X35.here hx rfl (hb hby d8_29) k) ?_
      show Go _ _ _ _ _ _ _ T35 (mkF m 30 #[.val (.ref ao)] [(.int (1 : Int32)), (.int u2)])
      refine Go.step (fun _ k => XS.iadd X35.here hx rfl (hb hby d8_30) rfl k) ?_
      show Go _ _ _ _ _ _ _ T35 (mkF m 31 #[.val (.ref ao)] [(.int (u2 + (1 : Int32)))])
      exact Go.retI X35 hx hret hlk (hb hby d8_31) e35 (by decide) (by decide) ⟨(congrArg (fun z => some (Value.int z)) (by unfold own_hs; rw [if_neg hc5_31, if_neg hc15_33])), N0, rfl⟩
theorem pd___C_V : parseMethodDescriptor "([C)V" = some ⟨[(.array .char)], none⟩ := by decide +kernel
theorem pd__Ljava_lang_String_IIIIIIII_V : parseMethodDescriptor "(Ljava/lang/String;IIIIIIII)V" = some ⟨[(.object "java/lang/String"), .int, .int, .int, .int, .int, .int, .int, .int], none⟩ := by decide +kernel
theorem pd___I : parseMethodDescriptor "()I" = some ⟨[], some .int⟩ := by decide +kernel
theorem pd__I_C : parseMethodDescriptor "(I)C" = some ⟨[.int], some .char⟩ := by decide +kernel
theorem pn_com_example_eiri_eiri_IriHostStartPinLaw : plainName "com/example/eiri/eiri/IriHostStartPinLaw" = true := by first | (simp [plainName, overriddenIn]; done) | decide +kernel
theorem ef_rm0 (m : MethodId) (ia : Int32) : entryFrame m #[(.int ia)] maxLocals = mkF m 0 #[.val (.int ia), .unset, .unset, .unset, .unset, .unset, .unset, .unset, .unset, .unset, .unset, .unset, .unset, .unset, .unset, .unset, .unset, .unset] [] := by first | (simp [entryFrame, mkF, argsToLocals, Value.category, maxLocals]; done) | rfl
def Q_rm0 (Z : State) (ia : Int32) (G1 : Int32) (G3 : Value) (h0 : Heap) (n0 : Nat) (v : Option Value) (h : Heap) (L : List Loc) : Prop := (v = some (.int (1 : Int32))) ∧ (Fr n0 L) ∧ (True)
set_option maxRecDepth 65536 in
set_option maxHeartbeats 40000000 in
theorem rm0 (l : Launch) (Z : State) (a0 : Array Value) (hw : ∀ d ∈ tables_1, d.before a0 Z = true) (ws : List Jvm.Cond) (ia : Int32) (G1 : Int32) (G3 : Value) (h0 : Heap) (n0 : Nat) (Z0 : n0 ≤ h0.size) (O0 : Old Z n0 h0) (O2 : Sta Z Z.heap "java/lang/String" "COMPACT_STRINGS" "Z" (.int G1)) (P5 : ¬ (G1 = (0 : Int32))) (O4 : Sta Z Z.heap "jdk/internal/util/Preconditions" "SIOOBE_FORMATTER" "Ljava/util/function/BiFunction;" G3) (rG3 : G3.isRef = true) :
    MetFree l x (head1 (Jvm.Cond.code x code maxLocals ret :: ws) room_1) (fun aA U => aA = #[(.int ia)] ∧ Z.Warmed39 U.vm ∧ U.heap = h0) (fun _ _ _ _ _ => True) (fun _ U o U' => ∃ v L, o = .returned v ∧ Q_rm0 Z ia G1 G3 h0 n0 v U'.heap L ∧ FrameEnd U o U' L room_1.cells room_1.slots) := by
  refine MetFree.of_bodySF (plainFor_of_name pn_com_example_eiri_eiri_IriHostStartPinLaw) hisR ?_
  intro p e s m args below meth c s₁ Bd hml0 hP hK
  obtain ⟨rfl, hZ, hh⟩ := hP
  have hx := Bd.exec
  have hby := Bd.bytes
  have hml : c.maxLocals = 18 := hml0
  have hown : s.vm.findClass "com/example/eiri/eiri/IriHostStartPinLaw" = some m.cls := findClass_of_methodNamed Bd.named
  have hnm := (name_of_methodNamed Bd.named Bd.method).1
  have hret := Bd.returns
  have hlk : meth.locks = false := BodyLoose.notSynchronized Bd
  have X0 : Stand p l e room_1 s m #[(.int ia)] below meth c s₁ [] 0 0 := Stand.of_body Bd
  have e0 : s₁.heap = h0 := by rw [← hh, Bd.state]; rfl
  have N0 := Fr.nil n0
  suffices hgo : Go p e below s room_1.cells room_1.slots (Q_rm0 Z ia G1 G3 h0 n0) s₁ (mkF m 0 #[.val (.int ia), .unset, .unset, .unset, .unset, .unset, .unset, .unset, .unset, .unset, .unset, .unset, .unset, .unset, .unset, .unset, .unset, .unset] []) from hgo.enter (ef_rm0 m ia)
  have J : ∀ (TJ : State) (hJ : Heap) (LJ : List Loc) (v1 : Int32) (v2 : Int32) (v3 : Int32) (f4 : Int32) (f5 : Int32) (f6 : Int32) (v7 : Int32), (Stand p l e room_1 s m #[(.int ia)] below meth c TJ LJ 0 0) → (TJ.heap = hJ) → (Fr n0 LJ) → (n0 ≤ hJ.size) → (Old Z n0 hJ) → (1 ≤ v1.toInt ∧ v1.toInt ≤ 4) → (0 ≤ v2.toInt ∧ v2.toInt ≤ 3) → (0 ≤ v3.toInt ∧ v3.toInt ≤ 3) → (0 ≤ v7.toInt ∧ v7.toInt ≤ 3) → Go p e below s room_1.cells room_1.slots (Q_rm0 Z ia G1 G3 h0 n0) TJ (mkF m 74 #[.val (.int ia), .val (.int v1), .val (.int v2), .val (.int v3), .val (.int f4), .val (.int f5), .val (.int f6), .val (.int v7), .unset, .unset, .unset, .unset, .unset, .unset, .unset, .unset, .unset, .unset] []) := by
    intro TJ hJ LJ v1 v2 v3 f4 f5 f6 v7 XJ eJ NJ ZJ Oj r1 r2 r3 r7
    refine Go.step (fun _ k => XS.bipush XJ.here hx rfl (hb hby at_74) k) ?_
    show Go _ _ _ _ _ _ _ TJ (mkF m 76 #[.val (.int ia), .val (.int v1), .val (.int v2), .val (.int v3), .val (.int f4), .val (.int f5), .val (.int f6), .val (.int v7), .unset, .unset, .unset, .unset, .unset, .unset, .unset, .unset, .unset, .unset] [(.int (20 : Int32))])
    obtain ⟨T36, h36, k36, X36, e36, E36, A36, st36⟩ := newP XJ hx hZ (hw _ (List.mem_of_getElem? (i := 0) rfl)) eJ (g := (mkF m 76 #[.val (.int ia), .val (.int v1), .val (.int v2), .val (.int v3), .val (.int f4), .val (.int f5), .val (.int f6), .val (.int v7), .unset, .unset, .unset, .unset, .unset, .unset, .unset, .unset, .unset, .unset] [(.int (20 : Int32))])) rfl (hb hby at_76) rfl (by decide) (cap := 20) (by decide) (by decide) (by decide) (by decide)
    obtain ⟨b36, g36⟩ : ∃ z, z = hJ.size := ⟨_, rfl⟩
    rw [← g36] at A36 st36
    refine Go.step st36 ?_
    have g_b36 : n0 ≤ b36 := Nat.le_trans ZJ (Nat.le_of_eq g36.symm)
    have Z36 : n0 ≤ h36.size := Nat.le_trans ZJ E36.1
    have V36 : Arv Z h36 b36 k36 .char (20 : Int32) [] (.int (0 : Int32)) := Arv.new A36 (by decide)
    have V37 : Arv Z h36 b36 k36 .char (20 : Int32) [(.int (0 : Int32)), (.int (0 : Int32)), (.int (0 : Int32)), (.int (0 : Int32)), (.int (0 : Int32)), (.int (0 : Int32)), (.int (0 : Int32)), (.int (0 : Int32)), (.int (0 : Int32)), (.int (0 : Int32)), (.int (0 : Int32)), (.int (0 : Int32)), (.int (0 : Int32)), (.int (0 : Int32)), (.int (0 : Int32)), (.int (0 : Int32)), (.int (0 : Int32)), (.int (0 : Int32)), (.int (0 : Int32)), (.int (0 : Int32))] (.int (0 : Int32)) := (V36).pad (pad_rep [] (.int (0 : Int32)) 20)
    show Go _ _ _ _ _ _ _ T36 (mkF m 78 #[.val (.int ia), .val (.int v1), .val (.int v2), .val (.int v3), .val (.int f4), .val (.int f5), .val (.int f6), .val (.int v7), .unset, .unset, .unset, .unset, .unset, .unset, .unset, .unset, .unset, .unset] [(.ref b36)])
    refine Go.step (fun _ k => XS.dup X36.here hx rfl (hb hby at_78) rfl rfl k) ?_
    show Go _ _ _ _ _ _ _ T36 (mkF m 79 #[.val (.int ia), .val (.int v1), .val (.int v2), .val (.int v3), .val (.int f4), .val (.int f5), .val (.int f6), .val (.int v7), .unset, .unset, .unset, .unset, .unset, .unset, .unset, .unset, .unset, .unset] [(.ref b36), (.ref b36)])
    refine Go.step (fun _ k => XS.iconst X36.here hx rfl (hb hby at_79) k) ?_
    show Go _ _ _ _ _ _ _ T36 (mkF m 80 #[.val (.int ia), .val (.int v1), .val (.int v2), .val (.int v3), .val (.int f4), .val (.int f5), .val (.int f6), .val (.int v7), .unset, .unset, .unset, .unset, .unset, .unset, .unset, .unset, .unset, .unset] [(.int (0 : Int32)), (.ref b36), (.ref b36)])
    refine Go.step (fun _ k => XS.bipush X36.here hx rfl (hb hby at_80) k) ?_
    show Go _ _ _ _ _ _ _ T36 (mkF m 82 #[.val (.int ia), .val (.int v1), .val (.int v2), .val (.int v3), .val (.int f4), .val (.int f5), .val (.int f6), .val (.int v7), .unset, .unset, .unset, .unset, .unset, .unset, .unset, .unset, .unset, .unset] [(.int (97 : Int32)), (.int (0 : Int32)), (.ref b36), (.ref b36)])
    obtain ⟨cl38, Ar38, q38, S38, M38, H38, G38⟩ := id (V37)
    have hin38 : ¬ ((0 : Int32) < 0 ∨ cl38.slots.size ≤ ((0 : Int32)).toNatClampNeg) := inb_of S38 ⟨by decide, by decide⟩
    obtain ⟨T38, h38, X38, e38, W38, st38⟩ := stC X36 hx hZ e36 Ar38 (j := (0 : Int32)) hin38 (g := (mkF m 82 #[.val (.int ia), .val (.int v1), .val (.int v2), .val (.int v3), .val (.int f4), .val (.int f5), .val (.int f6), .val (.int v7), .unset, .unset, .unset, .unset, .unset, .unset, .unset, .unset, .unset, .unset] [(.int (97 : Int32)), (.int (0 : Int32)), (.ref b36), (.ref b36)])) rfl rfl (hb hby at_82)
    refine Go.step st38 ?_
    have V38 : Arv Z h38 b36 k36 .char (20 : Int32) [(.int (nar .char (97 : Int32))), (.int (0 : Int32)), (.int (0 : Int32)), (.int (0 : Int32)), (.int (0 : Int32)), (.int (0 : Int32)), (.int (0 : Int32)), (.int (0 : Int32)), (.int (0 : Int32)), (.int (0 : Int32)), (.int (0 : Int32)), (.int (0 : Int32)), (.int (0 : Int32)), (.int (0 : Int32)), (.int (0 : Int32)), (.int (0 : Int32)), (.int (0 : Int32)), (.int (0 : Int32)), (.int (0 : Int32)), (.int (0 : Int32))] (.int (0 : Int32)) := Arv.set Ar38 q38 S38 M38 H38 G38 (fits_nar_char _) W38 0 rfl (Nat.le_of_ble_eq_true rfl)
    have N38 := Fr.snoc X38 NJ g_b36
    have Z38 : n0 ≤ h38.size := Nat.le_trans Z36 (Keep.of_wr W38).1
    show Go _ _ _ _ _ _ _ T38 (mkF m 83 #[.val (.int ia), .val (.int v1), .val (.int v2), .val (.int v3), .val (.int f4), .val (.int f5), .val (.int f6), .val (.int v7), .unset, .unset, .unset, .unset, .unset, .unset, .unset, .unset, .unset, .unset] [(.ref b36)])
    refine Go.step (fun _ k => XS.dup X38.here hx rfl (hb hby at_83) rfl rfl k) ?_
    show Go _ _ _ _ _ _ _ T38 (mkF m 84 #[.val (.int ia), .val (.int v1), .val (.int v2), .val (.int v3), .val (.int f4), .val (.int f5), .val (.int f6), .val (.int v7), .unset, .unset, .unset, .unset, .unset, .unset, .unset, .unset, .unset, .unset] [(.ref b36), (.ref b36)])
    refine Go.step (fun _ k => XS.iconst X38.here hx rfl (hb hby at_84) k) ?_
    show Go _ _ _ _ _ _ _ T38 (mkF m 85 #[.val (.int ia), .val (.int v1), .val (.int v2), .val (.int v3), .val (.int f4), .val (.int f5), .val (.int f6), .val (.int v7), .unset, .unset, .unset, .unset, .unset, .unset, .unset, .unset, .unset, .unset] [(.int (1 : Int32)), (.ref b36), (.ref b36)])
    refine Go.step (fun _ k => XS.bipush X38.here hx rfl (hb hby at_85) k) ?_
    show Go _ _ _ _ _ _ _ T38 (mkF m 87 #[.val (.int ia), .val (.int v1), .val (.int v2), .val (.int v3), .val (.int f4), .val (.int f5), .val (.int f6), .val (.int v7), .unset, .unset, .unset, .unset, .unset, .unset, .unset, .unset, .unset, .unset] [(.int (97 : Int32)), (.int (1 : Int32)), (.ref b36), (.ref b36)])
    obtain ⟨cl39, Ar39, q39, S39, M39, H39, G39⟩ := id (V38)
    have hin39 : ¬ ((1 : Int32) < 0 ∨ cl39.slots.size ≤ ((1 : Int32)).toNatClampNeg) := inb_of S39 ⟨by decide, by decide⟩
    obtain ⟨T39, h39, X39, e39, W39, st39⟩ := stC X38 hx hZ e38 Ar39 (j := (1 : Int32)) hin39 (g := (mkF m 87 #[.val (.int ia), .val (.int v1), .val (.int v2), .val (.int v3), .val (.int f4), .val (.int f5), .val (.int f6), .val (.int v7), .unset, .unset, .unset, .unset, .unset, .unset, .unset, .unset, .unset, .unset] [(.int (97 : Int32)), (.int (1 : Int32)), (.ref b36), (.ref b36)])) rfl rfl (hb hby at_87)
    refine Go.step st39 ?_
    have V39 : Arv Z h39 b36 k36 .char (20 : Int32) [(.int (nar .char (97 : Int32))), (.int (nar .char (97 : Int32))), (.int (0 : Int32)), (.int (0 : Int32)), (.int (0 : Int32)), (.int (0 : Int32)), (.int (0 : Int32)), (.int (0 : Int32)), (.int (0 : Int32)), (.int (0 : Int32)), (.int (0 : Int32)), (.int (0 : Int32)), (.int (0 : Int32)), (.int (0 : Int32)), (.int (0 : Int32)), (.int (0 : Int32)), (.int (0 : Int32)), (.int (0 : Int32)), (.int (0 : Int32)), (.int (0 : Int32))] (.int (0 : Int32)) := Arv.set Ar39 q39 S39 M39 H39 G39 (fits_nar_char _) W39 1 rfl (Nat.le_of_ble_eq_true rfl)
    have N39 := Fr.snoc X39 N38 g_b36
    have Z39 : n0 ≤ h39.size := Nat.le_trans Z38 (Keep.of_wr W39).1
    show Go _ _ _ _ _ _ _ T39 (mkF m 88 #[.val (.int ia), .val (.int v1), .val (.int v2), .val (.int v3), .val (.int f4), .val (.int f5), .val (.int f6), .val (.int v7), .unset, .unset, .unset, .unset, .unset, .unset, .unset, .unset, .unset, .unset] [(.ref b36)])
    refine Go.step (fun _ k => XS.dup X39.here hx rfl (hb hby at_88) rfl rfl k) ?_
    show Go _ _ _ _ _ _ _ T39 (mkF m 89 #[.val (.int ia), .val (.int v1), .val (.int v2), .val (.int v3), .val (.int f4), .val (.int f5), .val (.int f6), .val (.int v7), .unset, .unset, .unset, .unset, .unset, .unset, .unset, .unset, .unset, .unset] [(.ref b36), (.ref b36)])
    refine Go.step (fun _ k => XS.iconst X39.here hx rfl (hb hby at_89) k) ?_
    show Go _ _ _ _ _ _ _ T39 (mkF m 90 #[.val (.int ia), .val (.int v1), .val (.int v2), .val (.int v3), .val (.int f4), .val (.int f5), .val (.int f6), .val (.int v7), .unset, .unset, .unset, .unset, .unset, .unset, .unset, .unset, .unset, .unset] [(.int (2 : Int32)), (.ref b36), (.ref b36)])
    refine Go.step (fun _ k => XS.bipush X39.here hx rfl (hb hby at_90) k) ?_
    show Go _ _ _ _ _ _ _ T39 (mkF m 92 #[.val (.int ia), .val (.int v1), .val (.int v2), .val (.int v3), .val (.int f4), .val (.int f5), .val (.int f6), .val (.int v7), .unset, .unset, .unset, .unset, .unset, .unset, .unset, .unset, .unset, .unset] [(.int (97 : Int32)), (.int (2 : Int32)), (.ref b36), (.ref b36)])
    obtain ⟨cl40, Ar40, q40, S40, M40, H40, G40⟩ := id (V39)
    have hin40 : ¬ ((2 : Int32) < 0 ∨ cl40.slots.size ≤ ((2 : Int32)).toNatClampNeg) := inb_of S40 ⟨by decide, by decide⟩
    obtain ⟨T40, h40, X40, e40, W40, st40⟩ := stC X39 hx hZ e39 Ar40 (j := (2 : Int32)) hin40 (g := (mkF m 92 #[.val (.int ia), .val (.int v1), .val (.int v2), .val (.int v3), .val (.int f4), .val (.int f5), .val (.int f6), .val (.int v7), .unset, .unset, .unset, .unset, .unset, .unset, .unset, .unset, .unset, .unset] [(.int (97 : Int32)), (.int (2 : Int32)), (.ref b36), (.ref b36)])) rfl rfl (hb hby at_92)
    refine Go.step st40 ?_
    have V40 : Arv Z h40 b36 k36 .char (20 : Int32) [(.int (nar .char (97 : Int32))), (.int (nar .char (97 : Int32))), (.int (nar .char (97 : Int32))), (.int (0 : Int32)), (.int (0 : Int32)), (.int (0 : Int32)), (.int (0 : Int32)), (.int (0 : Int32)), (.int (0 : Int32)), (.int (0 : Int32)), (.int (0 : Int32)), (.int (0 : Int32)), (.int (0 : Int32)), (.int (0 : Int32)), (.int (0 : Int32)), (.int (0 : Int32)), (.int (0 : Int32)), (.int (0 : Int32)), (.int (0 : Int32)), (.int (0 : Int32))] (.int (0 : Int32)) := Arv.set Ar40 q40 S40 M40 H40 G40 (fits_nar_char _) W40 2 rfl (Nat.le_of_ble_eq_true rfl)
    have N40 := Fr.snoc X40 N39 g_b36
    have Z40 : n0 ≤ h40.size := Nat.le_trans Z39 (Keep.of_wr W40).1
    show Go _ _ _ _ _ _ _ T40 (mkF m 93 #[.val (.int ia), .val (.int v1), .val (.int v2), .val (.int v3), .val (.int f4), .val (.int f5), .val (.int f6), .val (.int v7), .unset, .unset, .unset, .unset, .unset, .unset, .unset, .unset, .unset, .unset] [(.ref b36)])
    refine Go.step (fun _ k => XS.dup X40.here hx rfl (hb hby at_93) rfl rfl k) ?_
    show Go _ _ _ _ _ _ _ T40 (mkF m 94 #[.val (.int ia), .val (.int v1), .val (.int v2), .val (.int v3), .val (.int f4), .val (.int f5), .val (.int f6), .val (.int v7), .unset, .unset, .unset, .unset, .unset, .unset, .unset, .unset, .unset, .unset] [(.ref b36), (.ref b36)])
    refine Go.step (fun _ k => XS.iconst X40.here hx rfl (hb hby at_94) k) ?_
    show Go _ _ _ _ _ _ _ T40 (mkF m 95 #[.val (.int ia), .val (.int v1), .val (.int v2), .val (.int v3), .val (.int f4), .val (.int f5), .val (.int f6), .val (.int v7), .unset, .unset, .unset, .unset, .unset, .unset, .unset, .unset, .unset, .unset] [(.int (3 : Int32)), (.ref b36), (.ref b36)])
    refine Go.step (fun _ k => XS.bipush X40.here hx rfl (hb hby at_95) k) ?_
    show Go _ _ _ _ _ _ _ T40 (mkF m 97 #[.val (.int ia), .val (.int v1), .val (.int v2), .val (.int v3), .val (.int f4), .val (.int f5), .val (.int f6), .val (.int v7), .unset, .unset, .unset, .unset, .unset, .unset, .unset, .unset, .unset, .unset] [(.int (97 : Int32)), (.int (3 : Int32)), (.ref b36), (.ref b36)])
    obtain ⟨cl41, Ar41, q41, S41, M41, H41, G41⟩ := id (V40)
    have hin41 : ¬ ((3 : Int32) < 0 ∨ cl41.slots.size ≤ ((3 : Int32)).toNatClampNeg) := inb_of S41 ⟨by decide, by decide⟩
    obtain ⟨T41, h41, X41, e41, W41, st41⟩ := stC X40 hx hZ e40 Ar41 (j := (3 : Int32)) hin41 (g := (mkF m 97 #[.val (.int ia), .val (.int v1), .val (.int v2), .val (.int v3), .val (.int f4), .val (.int f5), .val (.int f6), .val (.int v7), .unset, .unset, .unset, .unset, .unset, .unset, .unset, .unset, .unset, .unset] [(.int (97 : Int32)), (.int (3 : Int32)), (.ref b36), (.ref b36)])) rfl rfl (hb hby at_97)
    refine Go.step st41 ?_
    have V41 : Arv Z h41 b36 k36 .char (20 : Int32) [(.int (nar .char (97 : Int32))), (.int (nar .char (97 : Int32))), (.int (nar .char (97 : Int32))), (.int (nar .char (97 : Int32))), (.int (0 : Int32)), (.int (0 : Int32)), (.int (0 : Int32)), (.int (0 : Int32)), (.int (0 : Int32)), (.int (0 : Int32)), (.int (0 : Int32)), (.int (0 : Int32)), (.int (0 : Int32)), (.int (0 : Int32)), (.int (0 : Int32)), (.int (0 : Int32)), (.int (0 : Int32)), (.int (0 : Int32)), (.int (0 : Int32)), (.int (0 : Int32))] (.int (0 : Int32)) := Arv.set Ar41 q41 S41 M41 H41 G41 (fits_nar_char _) W41 3 rfl (Nat.le_of_ble_eq_true rfl)
    have N41 := Fr.snoc X41 N40 g_b36
    have Z41 : n0 ≤ h41.size := Nat.le_trans Z40 (Keep.of_wr W41).1
    show Go _ _ _ _ _ _ _ T41 (mkF m 98 #[.val (.int ia), .val (.int v1), .val (.int v2), .val (.int v3), .val (.int f4), .val (.int f5), .val (.int f6), .val (.int v7), .unset, .unset, .unset, .unset, .unset, .unset, .unset, .unset, .unset, .unset] [(.ref b36)])
    refine Go.step (fun _ k => XS.dup X41.here hx rfl (hb hby at_98) rfl rfl k) ?_
    show Go _ _ _ _ _ _ _ T41 (mkF m 99 #[.val (.int ia), .val (.int v1), .val (.int v2), .val (.int v3), .val (.int f4), .val (.int f5), .val (.int f6), .val (.int v7), .unset, .unset, .unset, .unset, .unset, .unset, .unset, .unset, .unset, .unset] [(.ref b36), (.ref b36)])
    refine Go.step (fun _ k => XS.iconst X41.here hx rfl (hb hby at_99) k) ?_
    show Go _ _ _ _ _ _ _ T41 (mkF m 100 #[.val (.int ia), .val (.int v1), .val (.int v2), .val (.int v3), .val (.int f4), .val (.int f5), .val (.int f6), .val (.int v7), .unset, .unset, .unset, .unset, .unset, .unset, .unset, .unset, .unset, .unset] [(.int (4 : Int32)), (.ref b36), (.ref b36)])
    refine Go.step (fun _ k => XS.bipush X41.here hx rfl (hb hby at_100) k) ?_
    show Go _ _ _ _ _ _ _ T41 (mkF m 102 #[.val (.int ia), .val (.int v1), .val (.int v2), .val (.int v3), .val (.int f4), .val (.int f5), .val (.int f6), .val (.int v7), .unset, .unset, .unset, .unset, .unset, .unset, .unset, .unset, .unset, .unset] [(.int (97 : Int32)), (.int (4 : Int32)), (.ref b36), (.ref b36)])
    obtain ⟨cl42, Ar42, q42, S42, M42, H42, G42⟩ := id (V41)
    have hin42 : ¬ ((4 : Int32) < 0 ∨ cl42.slots.size ≤ ((4 : Int32)).toNatClampNeg) := inb_of S42 ⟨by decide, by decide⟩
    obtain ⟨T42, h42, X42, e42, W42, st42⟩ := stC X41 hx hZ e41 Ar42 (j := (4 : Int32)) hin42 (g := (mkF m 102 #[.val (.int ia), .val (.int v1), .val (.int v2), .val (.int v3), .val (.int f4), .val (.int f5), .val (.int f6), .val (.int v7), .unset, .unset, .unset, .unset, .unset, .unset, .unset, .unset, .unset, .unset] [(.int (97 : Int32)), (.int (4 : Int32)), (.ref b36), (.ref b36)])) rfl rfl (hb hby at_102)
    refine Go.step st42 ?_
    have V42 : Arv Z h42 b36 k36 .char (20 : Int32) [(.int (nar .char (97 : Int32))), (.int (nar .char (97 : Int32))), (.int (nar .char (97 : Int32))), (.int (nar .char (97 : Int32))), (.int (nar .char (97 : Int32))), (.int (0 : Int32)), (.int (0 : Int32)), (.int (0 : Int32)), (.int (0 : Int32)), (.int (0 : Int32)), (.int (0 : Int32)), (.int (0 : Int32)), (.int (0 : Int32)), (.int (0 : Int32)), (.int (0 : Int32)), (.int (0 : Int32)), (.int (0 : Int32)), (.int (0 : Int32)), (.int (0 : Int32)), (.int (0 : Int32))] (.int (0 : Int32)) := Arv.set Ar42 q42 S42 M42 H42 G42 (fits_nar_char _) W42 4 rfl (Nat.le_of_ble_eq_true rfl)
    have N42 := Fr.snoc X42 N41 g_b36
    have Z42 : n0 ≤ h42.size := Nat.le_trans Z41 (Keep.of_wr W42).1
    show Go _ _ _ _ _ _ _ T42 (mkF m 103 #[.val (.int ia), .val (.int v1), .val (.int v2), .val (.int v3), .val (.int f4), .val (.int f5), .val (.int f6), .val (.int v7), .unset, .unset, .unset, .unset, .unset, .unset, .unset, .unset, .unset, .unset] [(.ref b36)])
    refine Go.step (fun _ k => XS.dup X42.here hx rfl (hb hby at_103) rfl rfl k) ?_
    show Go _ _ _ _ _ _ _ T42 (mkF m 104 #[.val (.int ia), .val (.int v1), .val (.int v2), .val (.int v3), .val (.int f4), .val (.int f5), .val (.int f6), .val (.int v7), .unset, .unset, .unset, .unset, .unset, .unset, .unset, .unset, .unset, .unset] [(.ref b36), (.ref b36)])
    refine Go.step (fun _ k => XS.iconst X42.here hx rfl (hb hby at_104) k) ?_
    show Go _ _ _ _ _ _ _ T42 (mkF m 105 #[.val (.int ia), .val (.int v1), .val (.int v2), .val (.int v3), .val (.int f4), .val (.int f5), .val (.int f6), .val (.int v7), .unset, .unset, .unset, .unset, .unset, .unset, .unset, .unset, .unset, .unset] [(.int (5 : Int32)), (.ref b36), (.ref b36)])
    refine Go.step (fun _ k => XS.bipush X42.here hx rfl (hb hby at_105) k) ?_
    show Go _ _ _ _ _ _ _ T42 (mkF m 107 #[.val (.int ia), .val (.int v1), .val (.int v2), .val (.int v3), .val (.int f4), .val (.int f5), .val (.int f6), .val (.int v7), .unset, .unset, .unset, .unset, .unset, .unset, .unset, .unset, .unset, .unset] [(.int (97 : Int32)), (.int (5 : Int32)), (.ref b36), (.ref b36)])
    obtain ⟨cl43, Ar43, q43, S43, M43, H43, G43⟩ := id (V42)
    have hin43 : ¬ ((5 : Int32) < 0 ∨ cl43.slots.size ≤ ((5 : Int32)).toNatClampNeg) := inb_of S43 ⟨by decide, by decide⟩
    obtain ⟨T43, h43, X43, e43, W43, st43⟩ := stC X42 hx hZ e42 Ar43 (j := (5 : Int32)) hin43 (g := (mkF m 107 #[.val (.int ia), .val (.int v1), .val (.int v2), .val (.int v3), .val (.int f4), .val (.int f5), .val (.int f6), .val (.int v7), .unset, .unset, .unset, .unset, .unset, .unset, .unset, .unset, .unset, .unset] [(.int (97 : Int32)), (.int (5 : Int32)), (.ref b36), (.ref b36)])) rfl rfl (hb hby at_107)
    refine Go.step st43 ?_
    have V43 : Arv Z h43 b36 k36 .char (20 : Int32) [(.int (nar .char (97 : Int32))), (.int (nar .char (97 : Int32))), (.int (nar .char (97 : Int32))), (.int (nar .char (97 : Int32))), (.int (nar .char (97 : Int32))), (.int (nar .char (97 : Int32))), (.int (0 : Int32)), (.int (0 : Int32)), (.int (0 : Int32)), (.int (0 : Int32)), (.int (0 : Int32)), (.int (0 : Int32)), (.int (0 : Int32)), (.int (0 : Int32)), (.int (0 : Int32)), (.int (0 : Int32)), (.int (0 : Int32)), (.int (0 : Int32)), (.int (0 : Int32)), (.int (0 : Int32))] (.int (0 : Int32)) := Arv.set Ar43 q43 S43 M43 H43 G43 (fits_nar_char _) W43 5 rfl (Nat.le_of_ble_eq_true rfl)
    have N43 := Fr.snoc X43 N42 g_b36
    have Z43 : n0 ≤ h43.size := Nat.le_trans Z42 (Keep.of_wr W43).1
    show Go _ _ _ _ _ _ _ T43 (mkF m 108 #[.val (.int ia), .val (.int v1), .val (.int v2), .val (.int v3), .val (.int f4), .val (.int f5), .val (.int f6), .val (.int v7), .unset, .unset, .unset, .unset, .unset, .unset, .unset, .unset, .unset, .unset] [(.ref b36)])
    refine Go.step (fun _ k => XS.dup X43.here hx rfl (hb hby at_108) rfl rfl k) ?_
    show Go _ _ _ _ _ _ _ T43 (mkF m 109 #[.val (.int ia), .val (.int v1), .val (.int v2), .val (.int v3), .val (.int f4), .val (.int f5), .val (.int f6), .val (.int v7), .unset, .unset, .unset, .unset, .unset, .unset, .unset, .unset, .unset, .unset] [(.ref b36), (.ref b36)])
    refine Go.step (fun _ k => XS.bipush X43.here hx rfl (hb hby at_109) k) ?_
    show Go _ _ _ _ _ _ _ T43 (mkF m 111 #[.val (.int ia), .val (.int v1), .val (.int v2), .val (.int v3), .val (.int f4), .val (.int f5), .val (.int f6), .val (.int v7), .unset, .unset, .unset, .unset, .unset, .unset, .unset, .unset, .unset, .unset] [(.int (6 : Int32)), (.ref b36), (.ref b36)])
    refine Go.step (fun _ k => XS.bipush X43.here hx rfl (hb hby at_111) k) ?_
    show Go _ _ _ _ _ _ _ T43 (mkF m 113 #[.val (.int ia), .val (.int v1), .val (.int v2), .val (.int v3), .val (.int f4), .val (.int f5), .val (.int f6), .val (.int v7), .unset, .unset, .unset, .unset, .unset, .unset, .unset, .unset, .unset, .unset] [(.int (97 : Int32)), (.int (6 : Int32)), (.ref b36), (.ref b36)])
    obtain ⟨cl44, Ar44, q44, S44, M44, H44, G44⟩ := id (V43)
    have hin44 : ¬ ((6 : Int32) < 0 ∨ cl44.slots.size ≤ ((6 : Int32)).toNatClampNeg) := inb_of S44 ⟨by decide, by decide⟩
    obtain ⟨T44, h44, X44, e44, W44, st44⟩ := stC X43 hx hZ e43 Ar44 (j := (6 : Int32)) hin44 (g := (mkF m 113 #[.val (.int ia), .val (.int v1), .val (.int v2), .val (.int v3), .val (.int f4), .val (.int f5), .val (.int f6), .val (.int v7), .unset, .unset, .unset, .unset, .unset, .unset, .unset, .unset, .unset, .unset] [(.int (97 : Int32)), (.int (6 : Int32)), (.ref b36), (.ref b36)])) rfl rfl (hb hby at_113)
    refine Go.step st44 ?_
    have V44 : Arv Z h44 b36 k36 .char (20 : Int32) [(.int (nar .char (97 : Int32))), (.int (nar .char (97 : Int32))), (.int (nar .char (97 : Int32))), (.int (nar .char (97 : Int32))), (.int (nar .char (97 : Int32))), (.int (nar .char (97 : Int32))), (.int (nar .char (97 : Int32))), (.int (0 : Int32)), (.int (0 : Int32)), (.int (0 : Int32)), (.int (0 : Int32)), (.int (0 : Int32)), (.int (0 : Int32)), (.int (0 : Int32)), (.int (0 : Int32)), (.int (0 : Int32)), (.int (0 : Int32)), (.int (0 : Int32)), (.int (0 : Int32)), (.int (0 : Int32))] (.int (0 : Int32)) := Arv.set Ar44 q44 S44 M44 H44 G44 (fits_nar_char _) W44 6 rfl (Nat.le_of_ble_eq_true rfl)
    have N44 := Fr.snoc X44 N43 g_b36
    have Z44 : n0 ≤ h44.size := Nat.le_trans Z43 (Keep.of_wr W44).1
    show Go _ _ _ _ _ _ _ T44 (mkF m 114 #[.val (.int ia), .val (.int v1), .val (.int v2), .val (.int v3), .val (.int f4), .val (.int f5), .val (.int f6), .val (.int v7), .unset, .unset, .unset, .unset, .unset, .unset, .unset, .unset, .unset, .unset] [(.ref b36)])
    refine Go.step (fun _ k => XS.dup X44.here hx rfl (hb hby at_114) rfl rfl k) ?_
    show Go _ _ _ _ _ _ _ T44 (mkF m 115 #[.val (.int ia), .val (.int v1), .val (.int v2), .val (.int v3), .val (.int f4), .val (.int f5), .val (.int f6), .val (.int v7), .unset, .unset, .unset, .unset, .unset, .unset, .unset, .unset, .unset, .unset] [(.ref b36), (.ref b36)])
    refine Go.step (fun _ k => XS.bipush X44.here hx rfl (hb hby at_115) k) ?_
    show Go _ _ _ _ _ _ _ T44 (mkF m 117 #[.val (.int ia), .val (.int v1), .val (.int v2), .val (.int v3), .val (.int f4), .val (.int f5), .val (.int f6), .val (.int v7), .unset, .unset, .unset, .unset, .unset, .unset, .unset, .unset, .unset, .unset] [(.int (7 : Int32)), (.ref b36), (.ref b36)])
    refine Go.step (fun _ k => XS.bipush X44.here hx rfl (hb hby at_117) k) ?_
    show Go _ _ _ _ _ _ _ T44 (mkF m 119 #[.val (.int ia), .val (.int v1), .val (.int v2), .val (.int v3), .val (.int f4), .val (.int f5), .val (.int f6), .val (.int v7), .unset, .unset, .unset, .unset, .unset, .unset, .unset, .unset, .unset, .unset] [(.int (97 : Int32)), (.int (7 : Int32)), (.ref b36), (.ref b36)])
    obtain ⟨cl45, Ar45, q45, S45, M45, H45, G45⟩ := id (V44)
    have hin45 : ¬ ((7 : Int32) < 0 ∨ cl45.slots.size ≤ ((7 : Int32)).toNatClampNeg) := inb_of S45 ⟨by decide, by decide⟩
    obtain ⟨T45, h45, X45, e45, W45, st45⟩ := stC X44 hx hZ e44 Ar45 (j := (7 : Int32)) hin45 (g := (mkF m 119 #[.val (.int ia), .val (.int v1), .val (.int v2), .val (.int v3), .val (.int f4), .val (.int f5), .val (.int f6), .val (.int v7), .unset, .unset, .unset, .unset, .unset, .unset, .unset, .unset, .unset, .unset] [(.int (97 : Int32)), (.int (7 : Int32)), (.ref b36), (.ref b36)])) rfl rfl (hb hby at_119)
    refine Go.step st45 ?_
    have V45 : Arv Z h45 b36 k36 .char (20 : Int32) [(.int (nar .char (97 : Int32))), (.int (nar .char (97 : Int32))), (.int (nar .char (97 : Int32))), (.int (nar .char (97 : Int32))), (.int (nar .char (97 : Int32))), (.int (nar .char (97 : Int32))), (.int (nar .char (97 : Int32))), (.int (nar .char (97 : Int32))), (.int (0 : Int32)), (.int (0 : Int32)), (.int (0 : Int32)), (.int (0 : Int32)), (.int (0 : Int32)), (.int (0 : Int32)), (.int (0 : Int32)), (.int (0 : Int32)), (.int (0 : Int32)), (.int (0 : Int32)), (.int (0 : Int32)), (.int (0 : Int32))] (.int (0 : Int32)) := Arv.set Ar45 q45 S45 M45 H45 G45 (fits_nar_char _) W45 7 rfl (Nat.le_of_ble_eq_true rfl)
    have N45 := Fr.snoc X45 N44 g_b36
    have Z45 : n0 ≤ h45.size := Nat.le_trans Z44 (Keep.of_wr W45).1
    show Go _ _ _ _ _ _ _ T45 (mkF m 120 #[.val (.int ia), .val (.int v1), .val (.int v2), .val (.int v3), .val (.int f4), .val (.int f5), .val (.int f6), .val (.int v7), .unset, .unset, .unset, .unset, .unset, .unset, .unset, .unset, .unset, .unset] [(.ref b36)])
    refine Go.step (fun _ k => XS.dup X45.here hx rfl (hb hby at_120) rfl rfl k) ?_
    show Go _ _ _ _ _ _ _ T45 (mkF m 121 #[.val (.int ia), .val (.int v1), .val (.int v2), .val (.int v3), .val (.int f4), .val (.int f5), .val (.int f6), .val (.int v7), .unset, .unset, .unset, .unset, .unset, .unset, .unset, .unset, .unset, .unset] [(.ref b36), (.ref b36)])
    refine Go.step (fun _ k => XS.bipush X45.here hx rfl (hb hby at_121) k) ?_
    show Go _ _ _ _ _ _ _ T45 (mkF m 123 #[.val (.int ia), .val (.int v1), .val (.int v2), .val (.int v3), .val (.int f4), .val (.int f5), .val (.int f6), .val (.int v7), .unset, .unset, .unset, .unset, .unset, .unset, .unset, .unset, .unset, .unset] [(.int (8 : Int32)), (.ref b36), (.ref b36)])
    refine Go.step (fun _ k => XS.bipush X45.here hx rfl (hb hby at_123) k) ?_
    show Go _ _ _ _ _ _ _ T45 (mkF m 125 #[.val (.int ia), .val (.int v1), .val (.int v2), .val (.int v3), .val (.int f4), .val (.int f5), .val (.int f6), .val (.int v7), .unset, .unset, .unset, .unset, .unset, .unset, .unset, .unset, .unset, .unset] [(.int (97 : Int32)), (.int (8 : Int32)), (.ref b36), (.ref b36)])
    obtain ⟨cl46, Ar46, q46, S46, M46, H46, G46⟩ := id (V45)
    have hin46 : ¬ ((8 : Int32) < 0 ∨ cl46.slots.size ≤ ((8 : Int32)).toNatClampNeg) := inb_of S46 ⟨by decide, by decide⟩
    obtain ⟨T46, h46, X46, e46, W46, st46⟩ := stC X45 hx hZ e45 Ar46 (j := (8 : Int32)) hin46 (g := (mkF m 125 #[.val (.int ia), .val (.int v1), .val (.int v2), .val (.int v3), .val (.int f4), .val (.int f5), .val (.int f6), .val (.int v7), .unset, .unset, .unset, .unset, .unset, .unset, .unset, .unset, .unset, .unset] [(.int (97 : Int32)), (.int (8 : Int32)), (.ref b36), (.ref b36)])) rfl rfl (hb hby at_125)
    refine Go.step st46 ?_
    have V46 : Arv Z h46 b36 k36 .char (20 : Int32) [(.int (nar .char (97 : Int32))), (.int (nar .char (97 : Int32))), (.int (nar .char (97 : Int32))), (.int (nar .char (97 : Int32))), (.int (nar .char (97 : Int32))), (.int (nar .char (97 : Int32))), (.int (nar .char (97 : Int32))), (.int (nar .char (97 : Int32))), (.int (nar .char (97 : Int32))), (.int (0 : Int32)), (.int (0 : Int32)), (.int (0 : Int32)), (.int (0 : Int32)), (.int (0 : Int32)), (.int (0 : Int32)), (.int (0 : Int32)), (.int (0 : Int32)), (.int (0 : Int32)), (.int (0 : Int32)), (.int (0 : Int32))] (.int (0 : Int32)) := Arv.set Ar46 q46 S46 M46 H46 G46 (fits_nar_char _) W46 8 rfl (Nat.le_of_ble_eq_true rfl)
    have N46 := Fr.snoc X46 N45 g_b36
    have Z46 : n0 ≤ h46.size := Nat.le_trans Z45 (Keep.of_wr W46).1
    show Go _ _ _ _ _ _ _ T46 (mkF m 126 #[.val (.int ia), .val (.int v1), .val (.int v2), .val (.int v3), .val (.int f4), .val (.int f5), .val (.int f6), .val (.int v7), .unset, .unset, .unset, .unset, .unset, .unset, .unset, .unset, .unset, .unset] [(.ref b36)])
    refine Go.step (fun _ k => XS.dup X46.here hx rfl (hb hby at_126) rfl rfl k) ?_
    show Go _ _ _ _ _ _ _ T46 (mkF m 127 #[.val (.int ia), .val (.int v1), .val (.int v2), .val (.int v3), .val (.int f4), .val (.int f5), .val (.int f6), .val (.int v7), .unset, .unset, .unset, .unset, .unset, .unset, .unset, .unset, .unset, .unset] [(.ref b36), (.ref b36)])
    refine Go.step (fun _ k => XS.bipush X46.here hx rfl (hb hby at_127) k) ?_
    show Go _ _ _ _ _ _ _ T46 (mkF m 129 #[.val (.int ia), .val (.int v1), .val (.int v2), .val (.int v3), .val (.int f4), .val (.int f5), .val (.int f6), .val (.int v7), .unset, .unset, .unset, .unset, .unset, .unset, .unset, .unset, .unset, .unset] [(.int (9 : Int32)), (.ref b36), (.ref b36)])
    refine Go.step (fun _ k => XS.bipush X46.here hx rfl (hb hby at_129) k) ?_
    show Go _ _ _ _ _ _ _ T46 (mkF m 131 #[.val (.int ia), .val (.int v1), .val (.int v2), .val (.int v3), .val (.int f4), .val (.int f5), .val (.int f6), .val (.int v7), .unset, .unset, .unset, .unset, .unset, .unset, .unset, .unset, .unset, .unset] [(.int (97 : Int32)), (.int (9 : Int32)), (.ref b36), (.ref b36)])
    obtain ⟨cl47, Ar47, q47, S47, M47, H47, G47⟩ := id (V46)
    have hin47 : ¬ ((9 : Int32) < 0 ∨ cl47.slots.size ≤ ((9 : Int32)).toNatClampNeg) := inb_of S47 ⟨by decide, by decide⟩
    obtain ⟨T47, h47, X47, e47, W47, st47⟩ := stC X46 hx hZ e46 Ar47 (j := (9 : Int32)) hin47 (g := (mkF m 131 #[.val (.int ia), .val (.int v1), .val (.int v2), .val (.int v3), .val (.int f4), .val (.int f5), .val (.int f6), .val (.int v7), .unset, .unset, .unset, .unset, .unset, .unset, .unset, .unset, .unset, .unset] [(.int (97 : Int32)), (.int (9 : Int32)), (.ref b36), (.ref b36)])) rfl rfl (hb hby at_131)
    refine Go.step st47 ?_
    have V47 : Arv Z h47 b36 k36 .char (20 : Int32) [(.int (nar .char (97 : Int32))), (.int (nar .char (97 : Int32))), (.int (nar .char (97 : Int32))), (.int (nar .char (97 : Int32))), (.int (nar .char (97 : Int32))), (.int (nar .char (97 : Int32))), (.int (nar .char (97 : Int32))), (.int (nar .char (97 : Int32))), (.int (nar .char (97 : Int32))), (.int (nar .char (97 : Int32))), (.int (0 : Int32)), (.int (0 : Int32)), (.int (0 : Int32)), (.int (0 : Int32)), (.int (0 : Int32)), (.int (0 : Int32)), (.int (0 : Int32)), (.int (0 : Int32)), (.int (0 : Int32)), (.int (0 : Int32))] (.int (0 : Int32)) := Arv.set Ar47 q47 S47 M47 H47 G47 (fits_nar_char _) W47 9 rfl (Nat.le_of_ble_eq_true rfl)
    have N47 := Fr.snoc X47 N46 g_b36
    have Z47 : n0 ≤ h47.size := Nat.le_trans Z46 (Keep.of_wr W47).1
    show Go _ _ _ _ _ _ _ T47 (mkF m 132 #[.val (.int ia), .val (.int v1), .val (.int v2), .val (.int v3), .val (.int f4), .val (.int f5), .val (.int f6), .val (.int v7), .unset, .unset, .unset, .unset, .unset, .unset, .unset, .unset, .unset, .unset] [(.ref b36)])
    refine Go.step (fun _ k => XS.dup X47.here hx rfl (hb hby at_132) rfl rfl k) ?_
    show Go _ _ _ _ _ _ _ T47 (mkF m 133 #[.val (.int ia), .val (.int v1), .val (.int v2), .val (.int v3), .val (.int f4), .val (.int f5), .val (.int f6), .val (.int v7), .unset, .unset, .unset, .unset, .unset, .unset, .unset, .unset, .unset, .unset] [(.ref b36), (.ref b36)])
    refine Go.step (fun _ k => XS.bipush X47.here hx rfl (hb hby at_133) k) ?_
    show Go _ _ _ _ _ _ _ T47 (mkF m 135 #[.val (.int ia), .val (.int v1), .val (.int v2), .val (.int v3), .val (.int f4), .val (.int f5), .val (.int f6), .val (.int v7), .unset, .unset, .unset, .unset, .unset, .unset, .unset, .unset, .unset, .unset] [(.int (10 : Int32)), (.ref b36), (.ref b36)])
    refine Go.step (fun _ k => XS.bipush X47.here hx rfl (hb hby at_135) k) ?_
    show Go _ _ _ _ _ _ _ T47 (mkF m 137 #[.val (.int ia), .val (.int v1), .val (.int v2), .val (.int v3), .val (.int f4), .val (.int f5), .val (.int f6), .val (.int v7), .unset, .unset, .unset, .unset, .unset, .unset, .unset, .unset, .unset, .unset] [(.int (97 : Int32)), (.int (10 : Int32)), (.ref b36), (.ref b36)])
    obtain ⟨cl48, Ar48, q48, S48, M48, H48, G48⟩ := id (V47)
    have hin48 : ¬ ((10 : Int32) < 0 ∨ cl48.slots.size ≤ ((10 : Int32)).toNatClampNeg) := inb_of S48 ⟨by decide, by decide⟩
    obtain ⟨T48, h48, X48, e48, W48, st48⟩ := stC X47 hx hZ e47 Ar48 (j := (10 : Int32)) hin48 (g := (mkF m 137 #[.val (.int ia), .val (.int v1), .val (.int v2), .val (.int v3), .val (.int f4), .val (.int f5), .val (.int f6), .val (.int v7), .unset, .unset, .unset, .unset, .unset, .unset, .unset, .unset, .unset, .unset] [(.int (97 : Int32)), (.int (10 : Int32)), (.ref b36), (.ref b36)])) rfl rfl (hb hby at_137)
    refine Go.step st48 ?_
    have V48 : Arv Z h48 b36 k36 .char (20 : Int32) [(.int (nar .char (97 : Int32))), (.int (nar .char (97 : Int32))), (.int (nar .char (97 : Int32))), (.int (nar .char (97 : Int32))), (.int (nar .char (97 : Int32))), (.int (nar .char (97 : Int32))), (.int (nar .char (97 : Int32))), (.int (nar .char (97 : Int32))), (.int (nar .char (97 : Int32))), (.int (nar .char (97 : Int32))), (.int (nar .char (97 : Int32))), (.int (0 : Int32)), (.int (0 : Int32)), (.int (0 : Int32)), (.int (0 : Int32)), (.int (0 : Int32)), (.int (0 : Int32)), (.int (0 : Int32)), (.int (0 : Int32)), (.int (0 : Int32))] (.int (0 : Int32)) := Arv.set Ar48 q48 S48 M48 H48 G48 (fits_nar_char _) W48 10 rfl (Nat.le_of_ble_eq_true rfl)
    have N48 := Fr.snoc X48 N47 g_b36
    have Z48 : n0 ≤ h48.size := Nat.le_trans Z47 (Keep.of_wr W48).1
    show Go _ _ _ _ _ _ _ T48 (mkF m 138 #[.val (.int ia), .val (.int v1), .val (.int v2), .val (.int v3), .val (.int f4), .val (.int f5), .val (.int f6), .val (.int v7), .unset, .unset, .unset, .unset, .unset, .unset, .unset, .unset, .unset, .unset] [(.ref b36)])
    refine Go.step (fun _ k => XS.dup X48.here hx rfl (hb hby at_138) rfl rfl k) ?_
    show Go _ _ _ _ _ _ _ T48 (mkF m 139 #[.val (.int ia), .val (.int v1), .val (.int v2), .val (.int v3), .val (.int f4), .val (.int f5), .val (.int f6), .val (.int v7), .unset, .unset, .unset, .unset, .unset, .unset, .unset, .unset, .unset, .unset] [(.ref b36), (.ref b36)])
    refine Go.step (fun _ k => XS.bipush X48.here hx rfl (hb hby at_139) k) ?_
    show Go _ _ _ _ _ _ _ T48 (mkF m 141 #[.val (.int ia), .val (.int v1), .val (.int v2), .val (.int v3), .val (.int f4), .val (.int f5), .val (.int f6), .val (.int v7), .unset, .unset, .unset, .unset, .unset, .unset, .unset, .unset, .unset, .unset] [(.int (11 : Int32)), (.ref b36), (.ref b36)])
    refine Go.step (fun _ k => XS.bipush X48.here hx rfl (hb hby at_141) k) ?_
    show Go _ _ _ _ _ _ _ T48 (mkF m 143 #[.val (.int ia), .val (.int v1), .val (.int v2), .val (.int v3), .val (.int f4), .val (.int f5), .val (.int f6), .val (.int v7), .unset, .unset, .unset, .unset, .unset, .unset, .unset, .unset, .unset, .unset] [(.int (97 : Int32)), (.int (11 : Int32)), (.ref b36), (.ref b36)])
    obtain ⟨cl49, Ar49, q49, S49, M49, H49, G49⟩ := id (V48)
    have hin49 : ¬ ((11 : Int32) < 0 ∨ cl49.slots.size ≤ ((11 : Int32)).toNatClampNeg) := inb_of S49 ⟨by decide, by decide⟩
    obtain ⟨T49, h49, X49, e49, W49, st49⟩ := stC X48 hx hZ e48 Ar49 (j := (11 : Int32)) hin49 (g := (mkF m 143 #[.val (.int ia), .val (.int v1), .val (.int v2), .val (.int v3), .val (.int f4), .val (.int f5), .val (.int f6), .val (.int v7), .unset, .unset, .unset, .unset, .unset, .unset, .unset, .unset, .unset, .unset] [(.int (97 : Int32)), (.int (11 : Int32)), (.ref b36), (.ref b36)])) rfl rfl (hb hby at_143)
    refine Go.step st49 ?_
    have V49 : Arv Z h49 b36 k36 .char (20 : Int32) [(.int (nar .char (97 : Int32))), (.int (nar .char (97 : Int32))), (.int (nar .char (97 : Int32))), (.int (nar .char (97 : Int32))), (.int (nar .char (97 : Int32))), (.int (nar .char (97 : Int32))), (.int (nar .char (97 : Int32))), (.int (nar .char (97 : Int32))), (.int (nar .char (97 : Int32))), (.int (nar .char (97 : Int32))), (.int (nar .char (97 : Int32))), (.int (nar .char (97 : Int32))), (.int (0 : Int32)), (.int (0 : Int32)), (.int (0 : Int32)), (.int (0 : Int32)), (.int (0 : Int32)), (.int (0 : Int32)), (.int (0 : Int32)), (.int (0 : Int32))] (.int (0 : Int32)) := Arv.set Ar49 q49 S49 M49 H49 G49 (fits_nar_char _) W49 11 rfl (Nat.le_of_ble_eq_true rfl)
    have N49 := Fr.snoc X49 N48 g_b36
    have Z49 : n0 ≤ h49.size := Nat.le_trans Z48 (Keep.of_wr W49).1
    show Go _ _ _ _ _ _ _ T49 (mkF m 144 #[.val (.int ia), .val (.int v1), .val (.int v2), .val (.int v3), .val (.int f4), .val (.int f5), .val (.int f6), .val (.int v7), .unset, .unset, .unset, .unset, .unset, .unset, .unset, .unset, .unset, .unset] [(.ref b36)])
    refine Go.step (fun _ k => XS.dup X49.here hx rfl (hb hby at_144) rfl rfl k) ?_
    show Go _ _ _ _ _ _ _ T49 (mkF m 145 #[.val (.int ia), .val (.int v1), .val (.int v2), .val (.int v3), .val (.int f4), .val (.int f5), .val (.int f6), .val (.int v7), .unset, .unset, .unset, .unset, .unset, .unset, .unset, .unset, .unset, .unset] [(.ref b36), (.ref b36)])
    refine Go.step (fun _ k => XS.bipush X49.here hx rfl (hb hby at_145) k) ?_
    show Go _ _ _ _ _ _ _ T49 (mkF m 147 #[.val (.int ia), .val (.int v1), .val (.int v2), .val (.int v3), .val (.int f4), .val (.int f5), .val (.int f6), .val (.int v7), .unset, .unset, .unset, .unset, .unset, .unset, .unset, .unset, .unset, .unset] [(.int (12 : Int32)), (.ref b36), (.ref b36)])
    refine Go.step (fun _ k => XS.bipush X49.here hx rfl (hb hby at_147) k) ?_
    show Go _ _ _ _ _ _ _ T49 (mkF m 149 #[.val (.int ia), .val (.int v1), .val (.int v2), .val (.int v3), .val (.int f4), .val (.int f5), .val (.int f6), .val (.int v7), .unset, .unset, .unset, .unset, .unset, .unset, .unset, .unset, .unset, .unset] [(.int (97 : Int32)), (.int (12 : Int32)), (.ref b36), (.ref b36)])
    obtain ⟨cl50, Ar50, q50, S50, M50, H50, G50⟩ := id (V49)
    have hin50 : ¬ ((12 : Int32) < 0 ∨ cl50.slots.size ≤ ((12 : Int32)).toNatClampNeg) := inb_of S50 ⟨by decide, by decide⟩
    obtain ⟨T50, h50, X50, e50, W50, st50⟩ := stC X49 hx hZ e49 Ar50 (j := (12 : Int32)) hin50 (g := (mkF m 149 #[.val (.int ia), .val (.int v1), .val (.int v2), .val (.int v3), .val (.int f4), .val (.int f5), .val (.int f6), .val (.int v7), .unset, .unset, .unset, .unset, .unset, .unset, .unset, .unset, .unset, .unset] [(.int (97 : Int32)), (.int (12 : Int32)), (.ref b36), (.ref b36)])) rfl rfl (hb hby at_149)
    refine Go.step st50 ?_
    have V50 : Arv Z h50 b36 k36 .char (20 : Int32) [(.int (nar .char (97 : Int32))), (.int (nar .char (97 : Int32))), (.int (nar .char (97 : Int32))), (.int (nar .char (97 : Int32))), (.int (nar .char (97 : Int32))), (.int (nar .char (97 : Int32))), (.int (nar .char (97 : Int32))), (.int (nar .char (97 : Int32))), (.int (nar .char (97 : Int32))), (.int (nar .char (97 : Int32))), (.int (nar .char (97 : Int32))), (.int (nar .char (97 : Int32))), (.int (nar .char (97 : Int32))), (.int (0 : Int32)), (.int (0 : Int32)), (.int (0 : Int32)), (.int (0 : Int32)), (.int (0 : Int32)), (.int (0 : Int32)), (.int (0 : Int32))] (.int (0 : Int32)) := Arv.set Ar50 q50 S50 M50 H50 G50 (fits_nar_char _) W50 12 rfl (Nat.le_of_ble_eq_true rfl)
    have N50 := Fr.snoc X50 N49 g_b36
    have Z50 : n0 ≤ h50.size := Nat.le_trans Z49 (Keep.of_wr W50).1
    show Go _ _ _ _ _ _ _ T50 (mkF m 150 #[.val (.int ia), .val (.int v1), .val (.int v2), .val (.int v3), .val (.int f4), .val (.int f5), .val (.int f6), .val (.int v7), .unset, .unset, .unset, .unset, .unset, .unset, .unset, .unset, .unset, .unset] [(.ref b36)])
    refine Go.step (fun _ k => XS.dup X50.here hx rfl (hb hby at_150) rfl rfl k) ?_
    show Go _ _ _ _ _ _ _ T50 (mkF m 151 #[.val (.int ia), .val (.int v1), .val (.int v2), .val (.int v3), .val (.int f4), .val (.int f5), .val (.int f6), .val (.int v7), .unset, .unset, .unset, .unset, .unset, .unset, .unset, .unset, .unset, .unset] [(.ref b36), (.ref b36)])
    refine Go.step (fun _ k => XS.bipush X50.here hx rfl (hb hby at_151) k) ?_
    show Go _ _ _ _ _ _ _ T50 (mkF m 153 #[.val (.int ia), .val (.int v1), .val (.int v2), .val (.int v3), .val (.int f4), .val (.int f5), .val (.int f6), .val (.int v7), .unset, .unset, .unset, .unset, .unset, .unset, .unset, .unset, .unset, .unset] [(.int (13 : Int32)), (.ref b36), (.ref b36)])
    refine Go.step (fun _ k => XS.bipush X50.here hx rfl (hb hby at_153) k) ?_
    show Go _ _ _ _ _ _ _ T50 (mkF m 155 #[.val (.int ia), .val (.int v1), .val (.int v2), .val (.int v3), .val (.int f4), .val (.int f5), .val (.int f6), .val (.int v7), .unset, .unset, .unset, .unset, .unset, .unset, .unset, .unset, .unset, .unset] [(.int (97 : Int32)), (.int (13 : Int32)), (.ref b36), (.ref b36)])
    obtain ⟨cl51, Ar51, q51, S51, M51, H51, G51⟩ := id (V50)
    have hin51 : ¬ ((13 : Int32) < 0 ∨ cl51.slots.size ≤ ((13 : Int32)).toNatClampNeg) := inb_of S51 ⟨by decide, by decide⟩
    obtain ⟨T51, h51, X51, e51, W51, st51⟩ := stC X50 hx hZ e50 Ar51 (j := (13 : Int32)) hin51 (g := (mkF m 155 #[.val (.int ia), .val (.int v1), .val (.int v2), .val (.int v3), .val (.int f4), .val (.int f5), .val (.int f6), .val (.int v7), .unset, .unset, .unset, .unset, .unset, .unset, .unset, .unset, .unset, .unset] [(.int (97 : Int32)), (.int (13 : Int32)), (.ref b36), (.ref b36)])) rfl rfl (hb hby at_155)
    refine Go.step st51 ?_
    have V51 : Arv Z h51 b36 k36 .char (20 : Int32) [(.int (nar .char (97 : Int32))), (.int (nar .char (97 : Int32))), (.int (nar .char (97 : Int32))), (.int (nar .char (97 : Int32))), (.int (nar .char (97 : Int32))), (.int (nar .char (97 : Int32))), (.int (nar .char (97 : Int32))), (.int (nar .char (97 : Int32))), (.int (nar .char (97 : Int32))), (.int (nar .char (97 : Int32))), (.int (nar .char (97 : Int32))), (.int (nar .char (97 : Int32))), (.int (nar .char (97 : Int32))), (.int (nar .char (97 : Int32))), (.int (0 : Int32)), (.int (0 : Int32)), (.int (0 : Int32)), (.int (0 : Int32)), (.int (0 : Int32)), (.int (0 : Int32))] (.int (0 : Int32)) := Arv.set Ar51 q51 S51 M51 H51 G51 (fits_nar_char _) W51 13 rfl (Nat.le_of_ble_eq_true rfl)
    have N51 := Fr.snoc X51 N50 g_b36
    have Z51 : n0 ≤ h51.size := Nat.le_trans Z50 (Keep.of_wr W51).1
    show Go _ _ _ _ _ _ _ T51 (mkF m 156 #[.val (.int ia), .val (.int v1), .val (.int v2), .val (.int v3), .val (.int f4), .val (.int f5), .val (.int f6), .val (.int v7), .unset, .unset, .unset, .unset, .unset, .unset, .unset, .unset, .unset, .unset] [(.ref b36)])
    refine Go.step (fun _ k => XS.dup X51.here hx rfl (hb hby at_156) rfl rfl k) ?_
    show Go _ _ _ _ _ _ _ T51 (mkF m 157 #[.val (.int ia), .val (.int v1), .val (.int v2), .val (.int v3), .val (.int f4), .val (.int f5), .val (.int f6), .val (.int v7), .unset, .unset, .unset, .unset, .unset, .unset, .unset, .unset, .unset, .unset] [(.ref b36), (.ref b36)])
    refine Go.step (fun _ k => XS.bipush X51.here hx rfl (hb hby at_157) k) ?_
    show Go _ _ _ _ _ _ _ T51 (mkF m 159 #[.val (.int ia), .val (.int v1), .val (.int v2), .val (.int v3), .val (.int f4), .val (.int f5), .val (.int f6), .val (.int v7), .unset, .unset, .unset, .unset, .unset, .unset, .unset, .unset, .unset, .unset] [(.int (14 : Int32)), (.ref b36), (.ref b36)])
    refine Go.step (fun _ k => XS.bipush X51.here hx rfl (hb hby at_159) k) ?_
    show Go _ _ _ _ _ _ _ T51 (mkF m 161 #[.val (.int ia), .val (.int v1), .val (.int v2), .val (.int v3), .val (.int f4), .val (.int f5), .val (.int f6), .val (.int v7), .unset, .unset, .unset, .unset, .unset, .unset, .unset, .unset, .unset, .unset] [(.int (97 : Int32)), (.int (14 : Int32)), (.ref b36), (.ref b36)])
    obtain ⟨cl52, Ar52, q52, S52, M52, H52, G52⟩ := id (V51)
    have hin52 : ¬ ((14 : Int32) < 0 ∨ cl52.slots.size ≤ ((14 : Int32)).toNatClampNeg) := inb_of S52 ⟨by decide, by decide⟩
    obtain ⟨T52, h52, X52, e52, W52, st52⟩ := stC X51 hx hZ e51 Ar52 (j := (14 : Int32)) hin52 (g := (mkF m 161 #[.val (.int ia), .val (.int v1), .val (.int v2), .val (.int v3), .val (.int f4), .val (.int f5), .val (.int f6), .val (.int v7), .unset, .unset, .unset, .unset, .unset, .unset, .unset, .unset, .unset, .unset] [(.int (97 : Int32)), (.int (14 : Int32)), (.ref b36), (.ref b36)])) rfl rfl (hb hby at_161)
    refine Go.step st52 ?_
    have V52 : Arv Z h52 b36 k36 .char (20 : Int32) [(.int (nar .char (97 : Int32))), (.int (nar .char (97 : Int32))), (.int (nar .char (97 : Int32))), (.int (nar .char (97 : Int32))), (.int (nar .char (97 : Int32))), (.int (nar .char (97 : Int32))), (.int (nar .char (97 : Int32))), (.int (nar .char (97 : Int32))), (.int (nar .char (97 : Int32))), (.int (nar .char (97 : Int32))), (.int (nar .char (97 : Int32))), (.int (nar .char (97 : Int32))), (.int (nar .char (97 : Int32))), (.int (nar .char (97 : Int32))), (.int (nar .char (97 : Int32))), (.int (0 : Int32)), (.int (0 : Int32)), (.int (0 : Int32)), (.int (0 : Int32)), (.int (0 : Int32))] (.int (0 : Int32)) := Arv.set Ar52 q52 S52 M52 H52 G52 (fits_nar_char _) W52 14 rfl (Nat.le_of_ble_eq_true rfl)
    have N52 := Fr.snoc X52 N51 g_b36
    have Z52 : n0 ≤ h52.size := Nat.le_trans Z51 (Keep.of_wr W52).1
    show Go _ _ _ _ _ _ _ T52 (mkF m 162 #[.val (.int ia), .val (.int v1), .val (.int v2), .val (.int v3), .val (.int f4), .val (.int f5), .val (.int f6), .val (.int v7), .unset, .unset, .unset, .unset, .unset, .unset, .unset, .unset, .unset, .unset] [(.ref b36)])
    refine Go.step (fun _ k => XS.dup X52.here hx rfl (hb hby at_162) rfl rfl k) ?_
    show Go _ _ _ _ _ _ _ T52 (mkF m 163 #[.val (.int ia), .val (.int v1), .val (.int v2), .val (.int v3), .val (.int f4), .val (.int f5), .val (.int f6), .val (.int v7), .unset, .unset, .unset, .unset, .unset, .unset, .unset, .unset, .unset, .unset] [(.ref b36), (.ref b36)])
    refine Go.step (fun _ k => XS.bipush X52.here hx rfl (hb hby at_163) k) ?_
    show Go _ _ _ _ _ _ _ T52 (mkF m 165 #[.val (.int ia), .val (.int v1), .val (.int v2), .val (.int v3), .val (.int f4), .val (.int f5), .val (.int f6), .val (.int v7), .unset, .unset, .unset, .unset, .unset, .unset, .unset, .unset, .unset, .unset] [(.int (15 : Int32)), (.ref b36), (.ref b36)])
    refine Go.step (fun _ k => XS.bipush X52.here hx rfl (hb hby at_165) k) ?_
    show Go _ _ _ _ _ _ _ T52 (mkF m 167 #[.val (.int ia), .val (.int v1), .val (.int v2), .val (.int v3), .val (.int f4), .val (.int f5), .val (.int f6), .val (.int v7), .unset, .unset, .unset, .unset, .unset, .unset, .unset, .unset, .unset, .unset] [(.int (97 : Int32)), (.int (15 : Int32)), (.ref b36), (.ref b36)])
    obtain ⟨cl53, Ar53, q53, S53, M53, H53, G53⟩ := id (V52)
    have hin53 : ¬ ((15 : Int32) < 0 ∨ cl53.slots.size ≤ ((15 : Int32)).toNatClampNeg) := inb_of S53 ⟨by decide, by decide⟩
    obtain ⟨T53, h53, X53, e53, W53, st53⟩ := stC X52 hx hZ e52 Ar53 (j := (15 : Int32)) hin53 (g := (mkF m 167 #[.val (.int ia), .val (.int v1), .val (.int v2), .val (.int v3), .val (.int f4), .val (.int f5), .val (.int f6), .val (.int v7), .unset, .unset, .unset, .unset, .unset, .unset, .unset, .unset, .unset, .unset] [(.int (97 : Int32)), (.int (15 : Int32)), (.ref b36), (.ref b36)])) rfl rfl (hb hby at_167)
    refine Go.step st53 ?_
    have V53 : Arv Z h53 b36 k36 .char (20 : Int32) [(.int (nar .char (97 : Int32))), (.int (nar .char (97 : Int32))), (.int (nar .char (97 : Int32))), (.int (nar .char (97 : Int32))), (.int (nar .char (97 : Int32))), (.int (nar .char (97 : Int32))), (.int (nar .char (97 : Int32))), (.int (nar .char (97 : Int32))), (.int (nar .char (97 : Int32))), (.int (nar .char (97 : Int32))), (.int (nar .char (97 : Int32))), (.int (nar .char (97 : Int32))), (.int (nar .char (97 : Int32))), (.int (nar .char (97 : Int32))), (.int (nar .char (97 : Int32))), (.int (nar .char (97 : Int32))), (.int (0 : Int32)), (.int (0 : Int32)), (.int (0 : Int32)), (.int (0 : Int32))] (.int (0 : Int32)) := Arv.set Ar53 q53 S53 M53 H53 G53 (fits_nar_char _) W53 15 rfl (Nat.le_of_ble_eq_true rfl)
    have N53 := Fr.snoc X53 N52 g_b36
    have Z53 : n0 ≤ h53.size := Nat.le_trans Z52 (Keep.of_wr W53).1
    show Go _ _ _ _ _ _ _ T53 (mkF m 168 #[.val (.int ia), .val (.int v1), .val (.int v2), .val (.int v3), .val (.int f4), .val (.int f5), .val (.int f6), .val (.int v7), .unset, .unset, .unset, .unset, .unset, .unset, .unset, .unset, .unset, .unset] [(.ref b36)])
    refine Go.step (fun _ k => XS.dup X53.here hx rfl (hb hby at_168) rfl rfl k) ?_
    show Go _ _ _ _ _ _ _ T53 (mkF m 169 #[.val (.int ia), .val (.int v1), .val (.int v2), .val (.int v3), .val (.int f4), .val (.int f5), .val (.int f6), .val (.int v7), .unset, .unset, .unset, .unset, .unset, .unset, .unset, .unset, .unset, .unset] [(.ref b36), (.ref b36)])
    refine Go.step (fun _ k => XS.bipush X53.here hx rfl (hb hby at_169) k) ?_
    show Go _ _ _ _ _ _ _ T53 (mkF m 171 #[.val (.int ia), .val (.int v1), .val (.int v2), .val (.int v3), .val (.int f4), .val (.int f5), .val (.int f6), .val (.int v7), .unset, .unset, .unset, .unset, .unset, .unset, .unset, .unset, .unset, .unset] [(.int (16 : Int32)), (.ref b36), (.ref b36)])
    refine Go.step (fun _ k => XS.bipush X53.here hx rfl (hb hby at_171) k) ?_
    show Go _ _ _ _ _ _ _ T53 (mkF m 173 #[.val (.int ia), .val (.int v1), .val (.int v2), .val (.int v3), .val (.int f4), .val (.int f5), .val (.int f6), .val (.int v7), .unset, .unset, .unset, .unset, .unset, .unset, .unset, .unset, .unset, .unset] [(.int (97 : Int32)), (.int (16 : Int32)), (.ref b36), (.ref b36)])
    obtain ⟨cl54, Ar54, q54, S54, M54, H54, G54⟩ := id (V53)
    have hin54 : ¬ ((16 : Int32) < 0 ∨ cl54.slots.size ≤ ((16 : Int32)).toNatClampNeg) := inb_of S54 ⟨by decide, by decide⟩
    obtain ⟨T54, h54, X54, e54, W54, st54⟩ := stC X53 hx hZ e53 Ar54 (j := (16 : Int32)) hin54 (g := (mkF m 173 #[.val (.int ia), .val (.int v1), .val (.int v2), .val (.int v3), .val (.int f4), .val (.int f5), .val (.int f6), .val (.int v7), .unset, .unset, .unset, .unset, .unset, .unset, .unset, .unset, .unset, .unset] [(.int (97 : Int32)), (.int (16 : Int32)), (.ref b36), (.ref b36)])) rfl rfl (hb hby at_173)
    refine Go.step st54 ?_
    have V54 : Arv Z h54 b36 k36 .char (20 : Int32) [(.int (nar .char (97 : Int32))), (.int (nar .char (97 : Int32))), (.int (nar .char (97 : Int32))), (.int (nar .char (97 : Int32))), (.int (nar .char (97 : Int32))), (.int (nar .char (97 : Int32))), (.int (nar .char (97 : Int32))), (.int (nar .char (97 : Int32))), (.int (nar .char (97 : Int32))), (.int (nar .char (97 : Int32))), (.int (nar .char (97 : Int32))), (.int (nar .char (97 : Int32))), (.int (nar .char (97 : Int32))), (.int (nar .char (97 : Int32))), (.int (nar .char (97 : Int32))), (.int (nar .char (97 : Int32))), (.int (nar .char (97 : Int32))), (.int (0 : Int32)), (.int (0 : Int32)), (.int (0 : Int32))] (.int (0 : Int32)) := Arv.set Ar54 q54 S54 M54 H54 G54 (fits_nar_char _) W54 16 rfl (Nat.le_of_ble_eq_true rfl)
    have N54 := Fr.snoc X54 N53 g_b36
    have Z54 : n0 ≤ h54.size := Nat.le_trans Z53 (Keep.of_wr W54).1
    show Go _ _ _ _ _ _ _ T54 (mkF m 174 #[.val (.int ia), .val (.int v1), .val (.int v2), .val (.int v3), .val (.int f4), .val (.int f5), .val (.int f6), .val (.int v7), .unset, .unset, .unset, .unset, .unset, .unset, .unset, .unset, .unset, .unset] [(.ref b36)])
    refine Go.step (fun _ k => XS.dup X54.here hx rfl (hb hby at_174) rfl rfl k) ?_
    show Go _ _ _ _ _ _ _ T54 (mkF m 175 #[.val (.int ia), .val (.int v1), .val (.int v2), .val (.int v3), .val (.int f4), .val (.int f5), .val (.int f6), .val (.int v7), .unset, .unset, .unset, .unset, .unset, .unset, .unset, .unset, .unset, .unset] [(.ref b36), (.ref b36)])
    refine Go.step (fun _ k => XS.bipush X54.here hx rfl (hb hby at_175) k) ?_
    show Go _ _ _ _ _ _ _ T54 (mkF m 177 #[.val (.int ia), .val (.int v1), .val (.int v2), .val (.int v3), .val (.int f4), .val (.int f5), .val (.int f6), .val (.int v7), .unset, .unset, .unset, .unset, .unset, .unset, .unset, .unset, .unset, .unset] [(.int (17 : Int32)), (.ref b36), (.ref b36)])
    refine Go.step (fun _ k => XS.bipush X54.here hx rfl (hb hby at_177) k) ?_
    show Go _ _ _ _ _ _ _ T54 (mkF m 179 #[.val (.int ia), .val (.int v1), .val (.int v2), .val (.int v3), .val (.int f4), .val (.int f5), .val (.int f6), .val (.int v7), .unset, .unset, .unset, .unset, .unset, .unset, .unset, .unset, .unset, .unset] [(.int (97 : Int32)), (.int (17 : Int32)), (.ref b36), (.ref b36)])
    obtain ⟨cl55, Ar55, q55, S55, M55, H55, G55⟩ := id (V54)
    have hin55 : ¬ ((17 : Int32) < 0 ∨ cl55.slots.size ≤ ((17 : Int32)).toNatClampNeg) := inb_of S55 ⟨by decide, by decide⟩
    obtain ⟨T55, h55, X55, e55, W55, st55⟩ := stC X54 hx hZ e54 Ar55 (j := (17 : Int32)) hin55 (g := (mkF m 179 #[.val (.int ia), .val (.int v1), .val (.int v2), .val (.int v3), .val (.int f4), .val (.int f5), .val (.int f6), .val (.int v7), .unset, .unset, .unset, .unset, .unset, .unset, .unset, .unset, .unset, .unset] [(.int (97 : Int32)), (.int (17 : Int32)), (.ref b36), (.ref b36)])) rfl rfl (hb hby at_179)
    refine Go.step st55 ?_
    have V55 : Arv Z h55 b36 k36 .char (20 : Int32) [(.int (nar .char (97 : Int32))), (.int (nar .char (97 : Int32))), (.int (nar .char (97 : Int32))), (.int (nar .char (97 : Int32))), (.int (nar .char (97 : Int32))), (.int (nar .char (97 : Int32))), (.int (nar .char (97 : Int32))), (.int (nar .char (97 : Int32))), (.int (nar .char (97 : Int32))), (.int (nar .char (97 : Int32))), (.int (nar .char (97 : Int32))), (.int (nar .char (97 : Int32))), (.int (nar .char (97 : Int32))), (.int (nar .char (97 : Int32))), (.int (nar .char (97 : Int32))), (.int (nar .char (97 : Int32))), (.int (nar .char (97 : Int32))), (.int (nar .char (97 : Int32))), (.int (0 : Int32)), (.int (0 : Int32))] (.int (0 : Int32)) := Arv.set Ar55 q55 S55 M55 H55 G55 (fits_nar_char _) W55 17 rfl (Nat.le_of_ble_eq_true rfl)
    have N55 := Fr.snoc X55 N54 g_b36
    have Z55 : n0 ≤ h55.size := Nat.le_trans Z54 (Keep.of_wr W55).1
    show Go _ _ _ _ _ _ _ T55 (mkF m 180 #[.val (.int ia), .val (.int v1), .val (.int v2), .val (.int v3), .val (.int f4), .val (.int f5), .val (.int f6), .val (.int v7), .unset, .unset, .unset, .unset, .unset, .unset, .unset, .unset, .unset, .unset] [(.ref b36)])
    refine Go.step (fun _ k => XS.dup X55.here hx rfl (hb hby at_180) rfl rfl k) ?_
    show Go _ _ _ _ _ _ _ T55 (mkF m 181 #[.val (.int ia), .val (.int v1), .val (.int v2), .val (.int v3), .val (.int f4), .val (.int f5), .val (.int f6), .val (.int v7), .unset, .unset, .unset, .unset, .unset, .unset, .unset, .unset, .unset, .unset] [(.ref b36), (.ref b36)])
    refine Go.step (fun _ k => XS.bipush X55.here hx rfl (hb hby at_181) k) ?_
    show Go _ _ _ _ _ _ _ T55 (mkF m 183 #[.val (.int ia), .val (.int v1), .val (.int v2), .val (.int v3), .val (.int f4), .val (.int f5), .val (.int f6), .val (.int v7), .unset, .unset, .unset, .unset, .unset, .unset, .unset, .unset, .unset, .unset] [(.int (18 : Int32)), (.ref b36), (.ref b36)])
    refine Go.step (fun _ k => XS.bipush X55.here hx rfl (hb hby at_183) k) ?_
    show Go _ _ _ _ _ _ _ T55 (mkF m 185 #[.val (.int ia), .val (.int v1), .val (.int v2), .val (.int v3), .val (.int f4), .val (.int f5), .val (.int f6), .val (.int v7), .unset, .unset, .unset, .unset, .unset, .unset, .unset, .unset, .unset, .unset] [(.int (97 : Int32)), (.int (18 : Int32)), (.ref b36), (.ref b36)])
    obtain ⟨cl56, Ar56, q56, S56, M56, H56, G56⟩ := id (V55)
    have hin56 : ¬ ((18 : Int32) < 0 ∨ cl56.slots.size ≤ ((18 : Int32)).toNatClampNeg) := inb_of S56 ⟨by decide, by decide⟩
    obtain ⟨T56, h56, X56, e56, W56, st56⟩ := stC X55 hx hZ e55 Ar56 (j := (18 : Int32)) hin56 (g := (mkF m 185 #[.val (.int ia), .val (.int v1), .val (.int v2), .val (.int v3), .val (.int f4), .val (.int f5), .val (.int f6), .val (.int v7), .unset, .unset, .unset, .unset, .unset, .unset, .unset, .unset, .unset, .unset] [(.int (97 : Int32)), (.int (18 : Int32)), (.ref b36), (.ref b36)])) rfl rfl (hb hby at_185)
    refine Go.step st56 ?_
    have V56 : Arv Z h56 b36 k36 .char (20 : Int32) [(.int (nar .char (97 : Int32))), (.int (nar .char (97 : Int32))), (.int (nar .char (97 : Int32))), (.int (nar .char (97 : Int32))), (.int (nar .char (97 : Int32))), (.int (nar .char (97 : Int32))), (.int (nar .char (97 : Int32))), (.int (nar .char (97 : Int32))), (.int (nar .char (97 : Int32))), (.int (nar .char (97 : Int32))), (.int (nar .char (97 : Int32))), (.int (nar .char (97 : Int32))), (.int (nar .char (97 : Int32))), (.int (nar .char (97 : Int32))), (.int (nar .char (97 : Int32))), (.int (nar .char (97 : Int32))), (.int (nar .char (97 : Int32))), (.int (nar .char (97 : Int32))), (.int (nar .char (97 : Int32))), (.int (0 : Int32))] (.int (0 : Int32)) := Arv.set Ar56 q56 S56 M56 H56 G56 (fits_nar_char _) W56 18 rfl (Nat.le_of_ble_eq_true rfl)
    have N56 := Fr.snoc X56 N55 g_b36
    have Z56 : n0 ≤ h56.size := Nat.le_trans Z55 (Keep.of_wr W56).1
    show Go _ _ _ _ _ _ _ T56 (mkF m 186 #[.val (.int ia), .val (.int v1), .val (.int v2), .val (.int v3), .val (.int f4), .val (.int f5), .val (.int f6), .val (.int v7), .unset, .unset, .unset, .unset, .unset, .unset, .unset, .unset, .unset, .unset] [(.ref b36)])
    refine Go.step (fun _ k => XS.dup X56.here hx rfl (hb hby at_186) rfl rfl k) ?_
    show Go _ _ _ _ _ _ _ T56 (mkF m 187 #[.val (.int ia), .val (.int v1), .val (.int v2), .val (.int v3), .val (.int f4), .val (.int f5), .val (.int f6), .val (.int v7), .unset, .unset, .unset, .unset, .unset, .unset, .unset, .unset, .unset, .unset] [(.ref b36), (.ref b36)])
    refine Go.step (fun _ k => XS.bipush X56.here hx rfl (hb hby at_187) k) ?_
    show Go _ _ _ _ _ _ _ T56 (mkF m 189 #[.val (.int ia), .val (.int v1), .val (.int v2), .val (.int v3), .val (.int f4), .val (.int f5), .val (.int f6), .val (.int v7), .unset, .unset, .unset, .unset, .unset, .unset, .unset, .unset, .unset, .unset] [(.int (19 : Int32)), (.ref b36), (.ref b36)])
    refine Go.step (fun _ k => XS.bipush X56.here hx rfl (hb hby at_189) k) ?_
    show Go _ _ _ _ _ _ _ T56 (mkF m 191 #[.val (.int ia), .val (.int v1), .val (.int v2), .val (.int v3), .val (.int f4), .val (.int f5), .val (.int f6), .val (.int v7), .unset, .unset, .unset, .unset, .unset, .unset, .unset, .unset, .unset, .unset] [(.int (97 : Int32)), (.int (19 : Int32)), (.ref b36), (.ref b36)])
    obtain ⟨cl57, Ar57, q57, S57, M57, H57, G57⟩ := id (V56)
    have hin57 : ¬ ((19 : Int32) < 0 ∨ cl57.slots.size ≤ ((19 : Int32)).toNatClampNeg) := inb_of S57 ⟨by decide, by decide⟩
    obtain ⟨T57, h57, X57, e57, W57, st57⟩ := stC X56 hx hZ e56 Ar57 (j := (19 : Int32)) hin57 (g := (mkF m 191 #[.val (.int ia), .val (.int v1), .val (.int v2), .val (.int v3), .val (.int f4), .val (.int f5), .val (.int f6), .val (.int v7), .unset, .unset, .unset, .unset, .unset, .unset, .unset, .unset, .unset, .unset] [(.int (97 : Int32)), (.int (19 : Int32)), (.ref b36), (.ref b36)])) rfl rfl (hb hby at_191)
    refine Go.step st57 ?_
    have V57 : Arv Z h57 b36 k36 .char (20 : Int32) [(.int (nar .char (97 : Int32))), (.int (nar .char (97 : Int32))), (.int (nar .char (97 : Int32))), (.int (nar .char (97 : Int32))), (.int (nar .char (97 : Int32))), (.int (nar .char (97 : Int32))), (.int (nar .char (97 : Int32))), (.int (nar .char (97 : Int32))), (.int (nar .char (97 : Int32))), (.int (nar .char (97 : Int32))), (.int (nar .char (97 : Int32))), (.int (nar .char (97 : Int32))), (.int (nar .char (97 : Int32))), (.int (nar .char (97 : Int32))), (.int (nar .char (97 : Int32))), (.int (nar .char (97 : Int32))), (.int (nar .char (97 : Int32))), (.int (nar .char (97 : Int32))), (.int (nar .char (97 : Int32))), (.int (nar .char (97 : Int32)))] (.int (0 : Int32)) := Arv.set Ar57 q57 S57 M57 H57 G57 (fits_nar_char _) W57 19 rfl (Nat.le_of_ble_eq_true rfl)
    have N57 := Fr.snoc X57 N56 g_b36
    have Z57 : n0 ≤ h57.size := Nat.le_trans Z56 (Keep.of_wr W57).1
    show Go _ _ _ _ _ _ _ T57 (mkF m 192 #[.val (.int ia), .val (.int v1), .val (.int v2), .val (.int v3), .val (.int f4), .val (.int f5), .val (.int f6), .val (.int v7), .unset, .unset, .unset, .unset, .unset, .unset, .unset, .unset, .unset, .unset] [(.ref b36)])
    refine Go.step (fun _ k => XS.astore X57.here hx rfl (hb hby at_192) rfl rfl (l' := #[.val (.int ia), .val (.int v1), .val (.int v2), .val (.int v3), .val (.int f4), .val (.int f5), .val (.int f6), .val (.int v7), .val (.ref b36), .unset, .unset, .unset, .unset, .unset, .unset, .unset, .unset, .unset]) rfl k) ?_
    show Go _ _ _ _ _ _ _ T57 (mkF m 194 #[.val (.int ia), .val (.int v1), .val (.int v2), .val (.int v3), .val (.int f4), .val (.int f5), .val (.int f6), .val (.int v7), .val (.ref b36), .unset, .unset, .unset, .unset, .unset, .unset, .unset, .unset, .unset] [])
    obtain ⟨cs0, ecs⟩ : ∃ z : List Int32, z = ([(nar .char (97 : Int32)), (nar .char (97 : Int32)), (nar .char (97 : Int32)), (nar .char (97 : Int32)), (nar .char (97 : Int32)), (nar .char (97 : Int32)), (nar .char (97 : Int32)), (nar .char (97 : Int32)), (nar .char (97 : Int32)), (nar .char (97 : Int32)), (nar .char (97 : Int32)), (nar .char (97 : Int32)), (nar .char (97 : Int32)), (nar .char (97 : Int32)), (nar .char (97 : Int32)), (nar .char (97 : Int32)), (nar .char (97 : Int32)), (nar .char (97 : Int32)), (nar .char (97 : Int32)), (nar .char (97 : Int32))] : List Int32) := ⟨_, rfl⟩
    have V58 : Arv Z h57 b36 k36 .char (20 : Int32) (cs0.map Value.int) (.int (0 : Int32)) := by rw [ecs]; exact V57
    have hl0 : cs0.length = 20 := by rw [ecs]; rfl
    have hp0 : ∀ c ∈ cs0, ¬ c < 0 ∧ ¬ (255 : Int32) < c := by rw [ecs]; decide
    refine Go.step (fun _ k => XS.aload X57.here hx rfl (hb hby at_194) rfl rfl k) ?_
    show Go _ _ _ _ _ _ _ T57 (mkF m 196 #[.val (.int ia), .val (.int v1), .val (.int v2), .val (.int v3), .val (.int f4), .val (.int f5), .val (.int f6), .val (.int v7), .val (.ref b36), .unset, .unset, .unset, .unset, .unset, .unset, .unset, .unset, .unset] [(.ref b36)])
    refine Go.step (fun _ k => XS.iloadN X57.here hx rfl (hb hby at_196) rfl k) ?_
    show Go _ _ _ _ _ _ _ T57 (mkF m 197 #[.val (.int ia), .val (.int v1), .val (.int v2), .val (.int v3), .val (.int f4), .val (.int f5), .val (.int f6), .val (.int v7), .val (.ref b36), .unset, .unset, .unset, .unset, .unset, .unset, .unset, .unset, .unset] [(.int v1), (.ref b36)])
    refine Go.step (fun _ k => XS.bipush X57.here hx rfl (hb hby at_197) k) ?_
    show Go _ _ _ _ _ _ _ T57 (mkF m 199 #[.val (.int ia), .val (.int v1), .val (.int v2), .val (.int v3), .val (.int f4), .val (.int f5), .val (.int f6), .val (.int v7), .val (.ref b36), .unset, .unset, .unset, .unset, .unset, .unset, .unset, .unset, .unset] [(.int (58 : Int32)), (.int v1), (.ref b36)])
    obtain ⟨cl59, Ar59, q59, S59, M59, H59, G59⟩ := id (V58)
    have hin59 : ¬ (v1 < 0 ∨ cl59.slots.size ≤ (v1).toNatClampNeg) := inb_of S59 ⟨(by have := rng32 v1; have : (0 : Int32).toInt = 0 := rfl; have : (20 : Int32).toInt = 20 := rfl; simp only [Int32.lt_iff_toInt_lt, Int32.le_iff_toInt_le, ← Int32.toInt_inj, Int64.lt_iff_toInt_lt, Int64.le_iff_toInt_le, ← Int64.toInt_inj]; omega), (by have := rng32 v1; have : (0 : Int32).toInt = 0 := rfl; have : (20 : Int32).toInt = 20 := rfl; simp only [Int32.lt_iff_toInt_lt, Int32.le_iff_toInt_le, ← Int32.toInt_inj, Int64.lt_iff_toInt_lt, Int64.le_iff_toInt_le, ← Int64.toInt_inj]; omega)⟩
    obtain ⟨T59, h59, X59, e59, W59, st59⟩ := stC X57 hx hZ e57 Ar59 (j := v1) hin59 (g := (mkF m 199 #[.val (.int ia), .val (.int v1), .val (.int v2), .val (.int v3), .val (.int f4), .val (.int f5), .val (.int f6), .val (.int v7), .val (.ref b36), .unset, .unset, .unset, .unset, .unset, .unset, .unset, .unset, .unset] [(.int (58 : Int32)), (.int v1), (.ref b36)])) rfl rfl (hb hby at_199)
    refine Go.step st59 ?_
    have V59 : Arv Z h59 b36 k36 .char (20 : Int32) ((cs0.map Value.int).set (v1).toNatClampNeg (.int (nar .char (58 : Int32)))) (.int (0 : Int32)) := Arv.set Ar59 q59 S59 M59 H59 G59 (fits_nar_char _) W59 (v1).toNatClampNeg rfl (by rw [List.length_map, hl0]; exact own_tn (n := 20) (by have := rng32 v1; omega) (by have := rng32 v1; omega))
    have N59 := Fr.snoc X59 N57 g_b36
    have Z59 : n0 ≤ h59.size := Nat.le_trans Z57 (Keep.of_wr W59).1
    have V60 : Arv Z h59 b36 k36 .char (20 : Int32) ((cs0.set (v1).toNatClampNeg (nar .char (58 : Int32))).map Value.int) (.int (0 : Int32)) := by rw [← own_mset]; exact V59
    have hl60 : (cs0.set (v1).toNatClampNeg (nar .char (58 : Int32))).length = 20 := by rw [List.length_set]; exact hl0
    have hp60 : ∀ c ∈ (cs0.set (v1).toNatClampNeg (nar .char (58 : Int32))), ¬ c < 0 ∧ ¬ (255 : Int32) < c := own_hset hp0 (by decide)
    show Go _ _ _ _ _ _ _ T59 (mkF m 200 #[.val (.int ia), .val (.int v1), .val (.int v2), .val (.int v3), .val (.int f4), .val (.int f5), .val (.int f6), .val (.int v7), .val (.ref b36), .unset, .unset, .unset, .unset, .unset, .unset, .unset, .unset, .unset] [])
    refine Go.step (fun _ k => XS.iconst X59.here hx rfl (hb hby at_200) k) ?_
    show Go _ _ _ _ _ _ _ T59 (mkF m 201 #[.val (.int ia), .val (.int v1), .val (.int v2), .val (.int v3), .val (.int f4), .val (.int f5), .val (.int f6), .val (.int v7), .val (.ref b36), .unset, .unset, .unset, .unset, .unset, .unset, .unset, .unset, .unset] [(.int (-1 : Int32))])
    refine Go.step (fun _ k => XS.istore X59.here hx rfl (hb hby at_201) rfl (l' := #[.val (.int ia), .val (.int v1), .val (.int v2), .val (.int v3), .val (.int f4), .val (.int f5), .val (.int f6), .val (.int v7), .val (.ref b36), .val (.int (-1 : Int32)), .unset, .unset, .unset, .unset, .unset, .unset, .unset, .unset]) rfl k) ?_
    show Go _ _ _ _ _ _ _ T59 (mkF m 203 #[.val (.int ia), .val (.int v1), .val (.int v2), .val (.int v3), .val (.int f4), .val (.int f5), .val (.int f6), .val (.int v7), .val (.ref b36), .val (.int (-1 : Int32)), .unset, .unset, .unset, .unset, .unset, .unset, .unset, .unset] [])
    refine Go.step (fun _ k => XS.iconst X59.here hx rfl (hb hby at_203) k) ?_
    show Go _ _ _ _ _ _ _ T59 (mkF m 204 #[.val (.int ia), .val (.int v1), .val (.int v2), .val (.int v3), .val (.int f4), .val (.int f5), .val (.int f6), .val (.int v7), .val (.ref b36), .val (.int (-1 : Int32)), .unset, .unset, .unset, .unset, .unset, .unset, .unset, .unset] [(.int (-1 : Int32))])
    refine Go.step (fun _ k => XS.istore X59.here hx rfl (hb hby at_204) rfl (l' := #[.val (.int ia), .val (.int v1), .val (.int v2), .val (.int v3), .val (.int f4), .val (.int f5), .val (.int f6), .val (.int v7), .val (.ref b36), .val (.int (-1 : Int32)), .val (.int (-1 : Int32)), .unset, .unset, .unset, .unset, .unset, .unset, .unset]) rfl k) ?_
    show Go _ _ _ _ _ _ _ T59 (mkF m 206 #[.val (.int ia), .val (.int v1), .val (.int v2), .val (.int v3), .val (.int f4), .val (.int f5), .val (.int f6), .val (.int v7), .val (.ref b36), .val (.int (-1 : Int32)), .val (.int (-1 : Int32)), .unset, .unset, .unset, .unset, .unset, .unset, .unset] [])
    refine Go.step (fun _ k => XS.iconst X59.here hx rfl (hb hby at_206) k) ?_
    show Go _ _ _ _ _ _ _ T59 (mkF m 207 #[.val (.int ia), .val (.int v1), .val (.int v2), .val (.int v3), .val (.int f4), .val (.int f5), .val (.int f6), .val (.int v7), .val (.ref b36), .val (.int (-1 : Int32)), .val (.int (-1 : Int32)), .unset, .unset, .unset, .unset, .unset, .unset, .unset] [(.int (-1 : Int32))])
    refine Go.step (fun _ k => XS.istore X59.here hx rfl (hb hby at_207) rfl (l' := #[.val (.int ia), .val (.int v1), .val (.int v2), .val (.int v3), .val (.int f4), .val (.int f5), .val (.int f6), .val (.int v7), .val (.ref b36), .val (.int (-1 : Int32)), .val (.int (-1 : Int32)), .val (.int (-1 : Int32)), .unset, .unset, .unset, .unset, .unset, .unset]) rfl k) ?_
    show Go _ _ _ _ _ _ _ T59 (mkF m 209 #[.val (.int ia), .val (.int v1), .val (.int v2), .val (.int v3), .val (.int f4), .val (.int f5), .val (.int f6), .val (.int v7), .val (.ref b36), .val (.int (-1 : Int32)), .val (.int (-1 : Int32)), .val (.int (-1 : Int32)), .unset, .unset, .unset, .unset, .unset, .unset] [])
    refine Go.step (fun _ k => XS.iloadN X59.here hx rfl (hb hby at_209) rfl k) ?_
    show Go _ _ _ _ _ _ _ T59 (mkF m 210 #[.val (.int ia), .val (.int v1), .val (.int v2), .val (.int v3), .val (.int f4), .val (.int f5), .val (.int f6), .val (.int v7), .val (.ref b36), .val (.int (-1 : Int32)), .val (.int (-1 : Int32)), .val (.int (-1 : Int32)), .unset, .unset, .unset, .unset, .unset, .unset] [(.int v1)])
    refine Go.step (fun _ k => XS.iconst X59.here hx rfl (hb hby at_210) k) ?_
    show Go _ _ _ _ _ _ _ T59 (mkF m 211 #[.val (.int ia), .val (.int v1), .val (.int v2), .val (.int v3), .val (.int f4), .val (.int f5), .val (.int f6), .val (.int v7), .val (.ref b36), .val (.int (-1 : Int32)), .val (.int (-1 : Int32)), .val (.int (-1 : Int32)), .unset, .unset, .unset, .unset, .unset, .unset] [(.int (1 : Int32)), (.int v1)])
    refine Go.step (fun _ k => XS.iadd X59.here hx rfl (hb hby at_211) rfl k) ?_
    show Go _ _ _ _ _ _ _ T59 (mkF m 212 #[.val (.int ia), .val (.int v1), .val (.int v2), .val (.int v3), .val (.int f4), .val (.int f5), .val (.int f6), .val (.int v7), .val (.ref b36), .val (.int (-1 : Int32)), .val (.int (-1 : Int32)), .val (.int (-1 : Int32)), .unset, .unset, .unset, .unset, .unset, .unset] [(.int (v1 + (1 : Int32)))])
    refine Go.step (fun _ k => XS.istore X59.here hx rfl (hb hby at_212) rfl (l' := #[.val (.int ia), .val (.int v1), .val (.int v2), .val (.int v3), .val (.int f4), .val (.int f5), .val (.int f6), .val (.int v7), .val (.ref b36), .val (.int (-1 : Int32)), .val (.int (-1 : Int32)), .val (.int (-1 : Int32)), .val (.int (v1 + (1 : Int32))), .unset, .unset, .unset, .unset, .unset]) rfl k) ?_
    show Go _ _ _ _ _ _ _ T59 (mkF m 214 #[.val (.int ia), .val (.int v1), .val (.int v2), .val (.int v3), .val (.int f4), .val (.int f5), .val (.int f6), .val (.int v7), .val (.ref b36), .val (.int (-1 : Int32)), .val (.int (-1 : Int32)), .val (.int (-1 : Int32)), .val (.int (v1 + (1 : Int32))), .unset, .unset, .unset, .unset, .unset] [])
    refine Go.step (fun _ k => XS.iconst X59.here hx rfl (hb hby at_214) k) ?_
    show Go _ _ _ _ _ _ _ T59 (mkF m 215 #[.val (.int ia), .val (.int v1), .val (.int v2), .val (.int v3), .val (.int f4), .val (.int f5), .val (.int f6), .val (.int v7), .val (.ref b36), .val (.int (-1 : Int32)), .val (.int (-1 : Int32)), .val (.int (-1 : Int32)), .val (.int (v1 + (1 : Int32))), .unset, .unset, .unset, .unset, .unset] [(.int (-1 : Int32))])
    refine Go.step (fun _ k => XS.istore X59.here hx rfl (hb hby at_215) rfl (l' := #[.val (.int ia), .val (.int v1), .val (.int v2), .val (.int v3), .val (.int f4), .val (.int f5), .val (.int f6), .val (.int v7), .val (.ref b36), .val (.int (-1 : Int32)), .val (.int (-1 : Int32)), .val (.int (-1 : Int32)), .val (.int (v1 + (1 : Int32))), .val (.int (-1 : Int32)), .unset, .unset, .unset, .unset]) rfl k) ?_
    show Go _ _ _ _ _ _ _ T59 (mkF m 217 #[.val (.int ia), .val (.int v1), .val (.int v2), .val (.int v3), .val (.int f4), .val (.int f5), .val (.int f6), .val (.int v7), .val (.ref b36), .val (.int (-1 : Int32)), .val (.int (-1 : Int32)), .val (.int (-1 : Int32)), .val (.int (v1 + (1 : Int32))), .val (.int (-1 : Int32)), .unset, .unset, .unset, .unset] [])
    have K : ∀ (TK : State) (hK : Heap) (LK : List Loc) (csJ : List Int32) (jA : Int32) (jU : Int32) (jS : Int32) (jP : Int32) (jX : Int32) (s14 : Slot), (Stand p l e room_1 s m #[(.int ia)] below meth c TK LK 1 20) → (TK.heap = hK) → (Fr n0 LK) → (n0 ≤ hK.size) → (Arv Z hK b36 k36 .char (20 : Int32) (csJ.map Value.int) (.int (0 : Int32))) → (Old Z n0 hK) → (csJ.length = 20) → (∀ c ∈ csJ, ¬ c < 0 ∧ ¬ (255 : Int32) < c) → (0 ≤ jP.toInt ∧ jP.toInt ≤ 19) → ((f4 = 0 ∧ jA = -1) ∨ (f4 ≠ 0 ∧ own_hs jA jU = jX ∧ 4 ≤ jX.toInt ∧ jX.toInt ≤ jP.toInt ∧ csJ.getD (jX - (1 : Int32)).toNatClampNeg 0 = (if f5 = 0 then (47 : Int32) else 64))) → (One s14) → Go p e below s room_1.cells room_1.slots (Q_rm0 Z ia G1 G3 h0 n0) TK (mkF m 315 #[.val (.int ia), .val (.int v1), .val (.int v2), .val (.int v3), .val (.int f4), .val (.int f5), .val (.int f6), .val (.int v7), .val (.ref b36), .val (.int jA), .val (.int jU), .val (.int jS), .val (.int jP), .val (.int jX), s14, .unset, .unset, .unset] []) := by
      intro TK hK LK csJ jA jU jS jP jX s14 XK eK NK ZK VK OK hlK hpK rP GG h14
      refine Go.step (fun _ k => XS.aload XK.here hx rfl (hb hby at_315) rfl rfl k) ?_
      show Go _ _ _ _ _ _ _ TK (mkF m 317 #[.val (.int ia), .val (.int v1), .val (.int v2), .val (.int v3), .val (.int f4), .val (.int f5), .val (.int f6), .val (.int v7), .val (.ref b36), .val (.int jA), .val (.int jU), .val (.int jS), .val (.int jP), .val (.int jX), s14, .unset, .unset, .unset] [(.ref b36)])
      refine Go.step (fun _ k => XS.iload XK.here hx rfl (hb hby at_317) rfl k) ?_
      show Go _ _ _ _ _ _ _ TK (mkF m 319 #[.val (.int ia), .val (.int v1), .val (.int v2), .val (.int v3), .val (.int f4), .val (.int f5), .val (.int f6), .val (.int v7), .val (.ref b36), .val (.int jA), .val (.int jU), .val (.int jS), .val (.int jP), .val (.int jX), s14, .unset, .unset, .unset] [(.int jP), (.ref b36)])
      refine Go.step (fun _ k => XS.bipush XK.here hx rfl (hb hby at_319) k) ?_
      show Go _ _ _ _ _ _ _ TK (mkF m 321 #[.val (.int ia), .val (.int v1), .val (.int v2), .val (.int v3), .val (.int f4), .val (.int f5), .val (.int f6), .val (.int v7), .val (.ref b36), .val (.int jA), .val (.int jU), .val (.int jS), .val (.int jP), .val (.int jX), s14, .unset, .unset, .unset] [(.int (47 : Int32)), (.int jP), (.ref b36)])
      obtain ⟨cl61, Ar61, q61, S61, M61, H61, G61⟩ := id (VK)
      have hin61 : ¬ (jP < 0 ∨ cl61.slots.size ≤ (jP).toNatClampNeg) := inb_of S61 ⟨(by have := rng32 jP; have : (0 : Int32).toInt = 0 := rfl; have : (20 : Int32).toInt = 20 := rfl; simp only [Int32.lt_iff_toInt_lt, Int32.le_iff_toInt_le, ← Int32.toInt_inj, Int64.lt_iff_toInt_lt, Int64.le_iff_toInt_le, ← Int64.toInt_inj]; omega), (by have := rng32 jP; have : (0 : Int32).toInt = 0 := rfl; have : (20 : Int32).toInt = 20 := rfl; simp only [Int32.lt_iff_toInt_lt, Int32.le_iff_toInt_le, ← Int32.toInt_inj, Int64.lt_iff_toInt_lt, Int64.le_iff_toInt_le, ← Int64.toInt_inj]; omega)⟩
      obtain ⟨T61, h61, X61, e61, W61, st61⟩ := stC XK hx hZ eK Ar61 (j := jP) hin61 (g := (mkF m 321 #[.val (.int ia), .val (.int v1), .val (.int v2), .val (.int v3), .val (.int f4), .val (.int f5), .val (.int f6), .val (.int v7), .val (.ref b36), .val (.int jA), .val (.int jU), .val (.int jS), .val (.int jP), .val (.int jX), s14, .unset, .unset, .unset] [(.int (47 : Int32)), (.int jP), (.ref b36)])) rfl rfl (hb hby at_321)
      refine Go.step st61 ?_
      have V61 : Arv Z h61 b36 k36 .char (20 : Int32) ((csJ.map Value.int).set (jP).toNatClampNeg (.int (nar .char (47 : Int32)))) (.int (0 : Int32)) := Arv.set Ar61 q61 S61 M61 H61 G61 (fits_nar_char _) W61 (jP).toNatClampNeg rfl (by rw [List.length_map, hlK]; exact own_tn (n := 20) (by have := rng32 jP; omega) (by have := rng32 jP; omega))
      have N61 := Fr.snoc X61 NK g_b36
      have Z61 : n0 ≤ h61.size := Nat.le_trans ZK (Keep.of_wr W61).1
      have V62 : Arv Z h61 b36 k36 .char (20 : Int32) ((csJ.set (jP).toNatClampNeg (nar .char (47 : Int32))).map Value.int) (.int (0 : Int32)) := by rw [← own_mset]; exact V61
      have hl62 : (csJ.set (jP).toNatClampNeg (nar .char (47 : Int32))).length = 20 := by rw [List.length_set]; exact hlK
      have hp62 : ∀ c ∈ (csJ.set (jP).toNatClampNeg (nar .char (47 : Int32))), ¬ c < 0 ∧ ¬ (255 : Int32) < c := own_hset hpK (by decide)
      show Go _ _ _ _ _ _ _ T61 (mkF m 322 #[.val (.int ia), .val (.int v1), .val (.int v2), .val (.int v3), .val (.int f4), .val (.int f5), .val (.int f6), .val (.int v7), .val (.ref b36), .val (.int jA), .val (.int jU), .val (.int jS), .val (.int jP), .val (.int jX), s14, .unset, .unset, .unset] [])
      obtain ⟨T63, h63, X63, e63, E63, A63, D63, -, st63⟩ := newO X61 hx hZ hown (hw _ (List.mem_of_getElem? (i := 1) rfl)) (hw _ (List.mem_of_getElem? (i := 2) rfl)) (hw _ (List.mem_of_getElem? (i := 3) rfl)) e61 (g := (mkF m 322 #[.val (.int ia), .val (.int v1), .val (.int v2), .val (.int v3), .val (.int f4), .val (.int f5), .val (.int f6), .val (.int v7), .val (.ref b36), .val (.int jA), .val (.int jU), .val (.int jS), .val (.int jP), .val (.int jX), s14, .unset, .unset, .unset] [])) rfl (hb hby at_322) (by decide) (by decide)
      obtain ⟨b63, g63⟩ : ∃ z, z = h61.size := ⟨_, rfl⟩
      rw [← g63] at A63 D63 st63
      refine Go.step st63 ?_
      have g_b63 : n0 ≤ b63 := Nat.le_trans Z61 (Nat.le_of_eq g63.symm)
      have ne_b36_b63 : b36 ≠ b63 := Nat.ne_of_lt (Nat.lt_of_lt_of_le V62.lt (Nat.le_of_eq g63.symm))
      have Z63 : n0 ≤ h63.size := Nat.le_trans Z61 E63.1
      have Fcoder_63 : Fld Z h63 b63 "java/lang/String" "coder" "B" (.int (0 : Int32)) := D63 (Or.inr (hw _ (List.mem_of_getElem? (i := 27) rfl))) (ty := .byte) (by decide)
      have Fvalue_63 : Fld Z h63 b63 "java/lang/String" "value" "[B" .null := D63 (Or.inr (hw _ (List.mem_of_getElem? (i := 29) rfl))) (ty := (.array .byte)) (by decide)
      show Go _ _ _ _ _ _ _ T63 (mkF m 325 #[.val (.int ia), .val (.int v1), .val (.int v2), .val (.int v3), .val (.int f4), .val (.int f5), .val (.int f6), .val (.int v7), .val (.ref b36), .val (.int jA), .val (.int jU), .val (.int jS), .val (.int jP), .val (.int jX), s14, .unset, .unset, .unset] [(.ref b63)])
      refine Go.step (fun _ k => XS.dup X63.here hx rfl (hb hby at_325) rfl rfl k) ?_
      show Go _ _ _ _ _ _ _ T63 (mkF m 326 #[.val (.int ia), .val (.int v1), .val (.int v2), .val (.int v3), .val (.int f4), .val (.int f5), .val (.int f6), .val (.int v7), .val (.ref b36), .val (.int jA), .val (.int jU), .val (.int jS), .val (.int jP), .val (.int jX), s14, .unset, .unset, .unset] [(.ref b63), (.ref b63)])
      refine Go.step (fun _ k => XS.aload X63.here hx rfl (hb hby at_326) rfl rfl k) ?_
      show Go _ _ _ _ _ _ _ T63 (mkF m 328 #[.val (.int ia), .val (.int v1), .val (.int v2), .val (.int v3), .val (.int f4), .val (.int f5), .val (.int f6), .val (.int v7), .val (.ref b36), .val (.int jA), .val (.int jU), .val (.int jS), .val (.int jP), .val (.int jX), s14, .unset, .unset, .unset] [(.ref b36), (.ref b63), (.ref b63)])
      have f64 : Arv Z h63 b36 k36 .char (20 : Int32) ((csJ.set (jP).toNatClampNeg (nar .char (47 : Int32))).map Value.int) (.int (0 : Int32)) := (V62.ext E63)
      have f65 : Old Z n0 h63 := ((OK.wr W61 g_b36).ext E63)
      have hws : ∀ d ∈ StrChars.Road.words, d.before a0 Z = true := fun d hd => hw d ((by decide +kernel : ∀ d ∈ StrChars.Road.words, d ∈ tables_1) d hd)
      obtain ⟨_, _, ⟨T66, L66, k66, n66⟩, -, X66, ⟨Lc66, hQ66, l66, y66, z66⟩, st66⟩ := X63.specialBack hx (y := (⟨"java/lang/String", "<init>", "([C)V"⟩ : MethodName)) rfl hown (mvT hZ (hw _ (List.mem_of_getElem? (i := 4) rfl))) (mvT hZ (hw _ (List.mem_of_getElem? (i := 5) rfl))) (mvT hZ (hw _ (List.mem_of_getElem? (i := 6) rfl))) (by decide) (StrChars.Road.backV (W := 1) hZ hws (kI := 4) (hw _ (List.mem_of_getElem? (i := 2) rfl)) (cs := (csJ.set (jP).toNatClampNeg (nar .char (47 : Int32)))) (bs := ((csJ.set (jP).toNatClampNeg (nar .char (47 : Int32)))).map (fun c => c.toInt8.toInt32)) (n := 20) g_b63 Z63 A63 Fvalue_63 Fcoder_63 f64 (O2.ext f65.2) P5 hl62 rfl (by decide) (by decide) hp62 rfl (by decide) (by decide)) (g := (mkF m 328 #[.val (.int ia), .val (.int v1), .val (.int v2), .val (.int v3), .val (.int f4), .val (.int f5), .val (.int f6), .val (.int v7), .val (.ref b36), .val (.int jA), .val (.int jU), .val (.int jS), .val (.int jP), .val (.int jX), s14, .unset, .unset, .unset] [(.ref b36), (.ref b63), (.ref b63)])) rfl (by rw [hml]; rfl) (Steps.refl _) (a := b63) (argsL := [(.ref b36)]) (rest := [(.ref b63)]) (lenOf pd___C_V rfl) rfl (by show 2 * 0 + _ ≤ _; exact Nat.le_of_eq rfl) (hb hby at_328) (fun _ _ => ⟨rfl, e63, (by decide : 2 + 1 ≤ _), (by decide : 24 + 20 ≤ _)⟩)
      dsimp only [Pt.U, Pt.locs, Pt.cells, Pt.slots] at X66 l66 y66 z66 st66 hQ66
      subst l66 y66 z66
      obtain ⟨h66, e66⟩ : ∃ h, T66.heap = h := ⟨_, rfl⟩
      rw [e66] at hQ66
      obtain ⟨rfl, Nq66, Kq66, Ex66, Fc66, t66, kt66, gt66, st_66, nt66, Fv66, Vt66⟩ := hQ66
      have N66 := Fr.app N61 Nq66
      have Z66 : n0 ≤ h66.size := Nat.le_trans Z63 Kq66.1
      have ne_b36_t66 : b36 ≠ t66 := Nat.ne_of_lt (Nat.lt_of_lt_of_le f64.lt st_66)
      refine Go.trans st66 ?_
      show Go _ _ _ _ _ _ _ T66 (mkF m 331 #[.val (.int ia), .val (.int v1), .val (.int v2), .val (.int v3), .val (.int f4), .val (.int f5), .val (.int f6), .val (.int v7), .val (.ref b36), .val (.int jA), .val (.int jU), .val (.int jS), .val (.int jP), .val (.int jX), s14, .unset, .unset, .unset] [(.ref b63)])
      refine Go.step (fun _ k => XS.astore X66.here hx rfl (hb hby at_331) rfl rfl (l' := #[.val (.int ia), .val (.int v1), .val (.int v2), .val (.int v3), .val (.int f4), .val (.int f5), .val (.int f6), .val (.int v7), .val (.ref b36), .val (.int jA), .val (.int jU), .val (.int jS), .val (.int jP), .val (.int jX), .val (.ref b63), .unset, .unset, .unset]) (own_st14 h14) k) ?_
      show Go _ _ _ _ _ _ _ T66 (mkF m 333 #[.val (.int ia), .val (.int v1), .val (.int v2), .val (.int v3), .val (.int f4), .val (.int f5), .val (.int f6), .val (.int v7), .val (.ref b36), .val (.int jA), .val (.int jU), .val (.int jS), .val (.int jP), .val (.int jX), .val (.ref b63), .unset, .unset, .unset] [])
      have f68 : Arv Z h66 b36 k36 .char (20 : Int32) ((csJ.set (jP).toNatClampNeg (nar .char (47 : Int32))).map Value.int) (.int (0 : Int32)) := (f64.keep Kq66 (ninS ne_b36_b63 nin0))
      obtain ⟨T67, h67, X67, e67, E67, A67, D67, -, st67⟩ := newO X66 hx hZ hown (hw _ (List.mem_of_getElem? (i := 30) rfl)) (hw _ (List.mem_of_getElem? (i := 31) rfl)) (hw _ (List.mem_of_getElem? (i := 32) rfl)) e66 (g := (mkF m 333 #[.val (.int ia), .val (.int v1), .val (.int v2), .val (.int v3), .val (.int f4), .val (.int f5), .val (.int f6), .val (.int v7), .val (.ref b36), .val (.int jA), .val (.int jU), .val (.int jS), .val (.int jP), .val (.int jX), .val (.ref b63), .unset, .unset, .unset] [])) rfl (hb hby at_333) (by decide) (by decide)
      obtain ⟨b67, g67⟩ : ∃ z, z = h66.size := ⟨_, rfl⟩
      rw [← g67] at A67 D67 st67
      refine Go.step st67 ?_
      have g_b67 : n0 ≤ b67 := Nat.le_trans Z66 (Nat.le_of_eq g67.symm)
      have ne_b36_b67 : b36 ≠ b67 := Nat.ne_of_lt (Nat.lt_of_lt_of_le f68.lt (Nat.le_of_eq g67.symm))
      have ne_b63_b67 : b63 ≠ b67 := Nat.ne_of_lt (Nat.lt_of_lt_of_le Ex66.lt (Nat.le_of_eq g67.symm))
      have ne_t66_b67 : t66 ≠ b67 := Nat.ne_of_lt (Nat.lt_of_lt_of_le Vt66.lt (Nat.le_of_eq g67.symm))
      have Z67 : n0 ≤ h67.size := Nat.le_trans Z66 E67.1
      have Ftext_67 : Fld Z h67 b67 "com/example/eiri/eiri/Iri" "text" "Ljava/lang/String;" .null := D67 (Or.inr (hw _ (List.mem_of_getElem? (i := 38) rfl))) (ty := (.object "java/lang/String")) (by decide)
      have FschemeEnd_67 : Fld Z h67 b67 "com/example/eiri/eiri/Iri" "schemeEnd" "I" (.int (0 : Int32)) := D67 (Or.inr (hw _ (List.mem_of_getElem? (i := 40) rfl))) (ty := .int) (by decide)
      have FauthorityStart_67 : Fld Z h67 b67 "com/example/eiri/eiri/Iri" "authorityStart" "I" (.int (0 : Int32)) := D67 (Or.inr (hw _ (List.mem_of_getElem? (i := 42) rfl))) (ty := .int) (by decide)
      have FuserInfoEnd_67 : Fld Z h67 b67 "com/example/eiri/eiri/Iri" "userInfoEnd" "I" (.int (0 : Int32)) := D67 (Or.inr (hw _ (List.mem_of_getElem? (i := 44) rfl))) (ty := .int) (by decide)
      have FportStart_67 : Fld Z h67 b67 "com/example/eiri/eiri/Iri" "portStart" "I" (.int (0 : Int32)) := D67 (Or.inr (hw _ (List.mem_of_getElem? (i := 46) rfl))) (ty := .int) (by decide)
      have FpathStart_67 : Fld Z h67 b67 "com/example/eiri/eiri/Iri" "pathStart" "I" (.int (0 : Int32)) := D67 (Or.inr (hw _ (List.mem_of_getElem? (i := 48) rfl))) (ty := .int) (by decide)
      have FpathEnd_67 : Fld Z h67 b67 "com/example/eiri/eiri/Iri" "pathEnd" "I" (.int (0 : Int32)) := D67 (Or.inr (hw _ (List.mem_of_getElem? (i := 50) rfl))) (ty := .int) (by decide)
      have FqueryStart_67 : Fld Z h67 b67 "com/example/eiri/eiri/Iri" "queryStart" "I" (.int (0 : Int32)) := D67 (Or.inr (hw _ (List.mem_of_getElem? (i := 52) rfl))) (ty := .int) (by decide)
      have FfragmentStart_67 : Fld Z h67 b67 "com/example/eiri/eiri/Iri" "fragmentStart" "I" (.int (0 : Int32)) := D67 (Or.inr (hw _ (List.mem_of_getElem? (i := 54) rfl))) (ty := .int) (by decide)
      show Go _ _ _ _ _ _ _ T67 (mkF m 336 #[.val (.int ia), .val (.int v1), .val (.int v2), .val (.int v3), .val (.int f4), .val (.int f5), .val (.int f6), .val (.int v7), .val (.ref b36), .val (.int jA), .val (.int jU), .val (.int jS), .val (.int jP), .val (.int jX), .val (.ref b63), .unset, .unset, .unset] [(.ref b67)])
      refine Go.step (fun _ k => XS.dup X67.here hx rfl (hb hby at_336) rfl rfl k) ?_
      show Go _ _ _ _ _ _ _ T67 (mkF m 337 #[.val (.int ia), .val (.int v1), .val (.int v2), .val (.int v3), .val (.int f4), .val (.int f5), .val (.int f6), .val (.int v7), .val (.ref b36), .val (.int jA), .val (.int jU), .val (.int jS), .val (.int jP), .val (.int jX), .val (.ref b63), .unset, .unset, .unset] [(.ref b67), (.ref b67)])
      refine Go.step (fun _ k => XS.aload X67.here hx rfl (hb hby at_337) rfl rfl k) ?_
      show Go _ _ _ _ _ _ _ T67 (mkF m 339 #[.val (.int ia), .val (.int v1), .val (.int v2), .val (.int v3), .val (.int f4), .val (.int f5), .val (.int f6), .val (.int v7), .val (.ref b36), .val (.int jA), .val (.int jU), .val (.int jS), .val (.int jP), .val (.int jX), .val (.ref b63), .unset, .unset, .unset] [(.ref b63), (.ref b67), (.ref b67)])
      refine Go.step (fun _ k => XS.iloadN X67.here hx rfl (hb hby at_339) rfl k) ?_
      show Go _ _ _ _ _ _ _ T67 (mkF m 340 #[.val (.int ia), .val (.int v1), .val (.int v2), .val (.int v3), .val (.int f4), .val (.int f5), .val (.int f6), .val (.int v7), .val (.ref b36), .val (.int jA), .val (.int jU), .val (.int jS), .val (.int jP), .val (.int jX), .val (.ref b63), .unset, .unset, .unset] [(.int v1), (.ref b63), (.ref b67), (.ref b67)])
      refine Go.step (fun _ k => XS.iload X67.here hx rfl (hb hby at_340) rfl k) ?_
      show Go _ _ _ _ _ _ _ T67 (mkF m 342 #[.val (.int ia), .val (.int v1), .val (.int v2), .val (.int v3), .val (.int f4), .val (.int f5), .val (.int f6), .val (.int v7), .val (.ref b36), .val (.int jA), .val (.int jU), .val (.int jS), .val (.int jP), .val (.int jX), .val (.ref b63), .unset, .unset, .unset] [(.int jA), (.int v1), (.ref b63), (.ref b67), (.ref b67)])
      refine Go.step (fun _ k => XS.iload X67.here hx rfl (hb hby at_342) rfl k) ?_
      show Go _ _ _ _ _ _ _ T67 (mkF m 344 #[.val (.int ia), .val (.int v1), .val (.int v2), .val (.int v3), .val (.int f4), .val (.int f5), .val (.int f6), .val (.int v7), .val (.ref b36), .val (.int jA), .val (.int jU), .val (.int jS), .val (.int jP), .val (.int jX), .val (.ref b63), .unset, .unset, .unset] [(.int jU), (.int jA), (.int v1), (.ref b63), (.ref b67), (.ref b67)])
      refine Go.step (fun _ k => XS.iload X67.here hx rfl (hb hby at_344) rfl k) ?_
      show Go _ _ _ _ _ _ _ T67 (mkF m 346 #[.val (.int ia), .val (.int v1), .val (.int v2), .val (.int v3), .val (.int f4), .val (.int f5), .val (.int f6), .val (.int v7), .val (.ref b36), .val (.int jA), .val (.int jU), .val (.int jS), .val (.int jP), .val (.int jX), .val (.ref b63), .unset, .unset, .unset] [(.int jS), (.int jU), (.int jA), (.int v1), (.ref b63), (.ref b67), (.ref b67)])
      refine Go.step (fun _ k => XS.iload X67.here hx rfl (hb hby at_346) rfl k) ?_
      show Go _ _ _ _ _ _ _ T67 (mkF m 348 #[.val (.int ia), .val (.int v1), .val (.int v2), .val (.int v3), .val (.int f4), .val (.int f5), .val (.int f6), .val (.int v7), .val (.ref b36), .val (.int jA), .val (.int jU), .val (.int jS), .val (.int jP), .val (.int jX), .val (.ref b63), .unset, .unset, .unset] [(.int jP), (.int jS), (.int jU), (.int jA), (.int v1), (.ref b63), (.ref b67), (.ref b67)])
      refine Go.step (fun _ k => XS.bipush X67.here hx rfl (hb hby at_348) k) ?_
      show Go _ _ _ _ _ _ _ T67 (mkF m 350 #[.val (.int ia), .val (.int v1), .val (.int v2), .val (.int v3), .val (.int f4), .val (.int f5), .val (.int f6), .val (.int v7), .val (.ref b36), .val (.int jA), .val (.int jU), .val (.int jS), .val (.int jP), .val (.int jX), .val (.ref b63), .unset, .unset, .unset] [(.int (20 : Int32)), (.int jP), (.int jS), (.int jU), (.int jA), (.int v1), (.ref b63), (.ref b67), (.ref b67)])
      refine Go.step (fun _ k => XS.iconst X67.here hx rfl (hb hby at_350) k) ?_
      show Go _ _ _ _ _ _ _ T67 (mkF m 351 #[.val (.int ia), .val (.int v1), .val (.int v2), .val (.int v3), .val (.int f4), .val (.int f5), .val (.int f6), .val (.int v7), .val (.ref b36), .val (.int jA), .val (.int jU), .val (.int jS), .val (.int jP), .val (.int jX), .val (.ref b63), .unset, .unset, .unset] [(.int (-1 : Int32)), (.int (20 : Int32)), (.int jP), (.int jS), (.int jU), (.int jA), (.int v1), (.ref b63), (.ref b67), (.ref b67)])
      refine Go.step (fun _ k => XS.iconst X67.here hx rfl (hb hby at_351) k) ?_
      show Go _ _ _ _ _ _ _ T67 (mkF m 352 #[.val (.int ia), .val (.int v1), .val (.int v2), .val (.int v3), .val (.int f4), .val (.int f5), .val (.int f6), .val (.int v7), .val (.ref b36), .val (.int jA), .val (.int jU), .val (.int jS), .val (.int jP), .val (.int jX), .val (.ref b63), .unset, .unset, .unset] [(.int (-1 : Int32)), (.int (-1 : Int32)), (.int (20 : Int32)), (.int jP), (.int jS), (.int jU), (.int jA), (.int v1), (.ref b63), (.ref b67), (.ref b67)])
      obtain ⟨_, _, ⟨T69, L69, k69, n69⟩, -, X69, ⟨Lc69, hQ69, l69, y69, z69⟩, st69⟩ := X67.specialBack hx (y := (⟨"com/example/eiri/eiri/Iri", "<init>", "(Ljava/lang/String;IIIIIIII)V"⟩ : MethodName)) rfl hown (mvT hZ (hw _ (List.mem_of_getElem? (i := 33) rfl))) (mvT hZ (hw _ (List.mem_of_getElem? (i := 34) rfl))) (mvT hZ (hw _ (List.mem_of_getElem? (i := 35) rfl))) (by decide) (backOf (W := 1) (rmIr l Z a0 hw [] b67 b63 v1 jA jU jS jP (20 : Int32) (-1 : Int32) (-1 : Int32) h67 n0 Z67 A67 g_b67 Ftext_67 FschemeEnd_67 FauthorityStart_67 FuserInfoEnd_67 FportStart_67 FpathStart_67 FpathEnd_67 FqueryStart_67 FfragmentStart_67) hZ (hw _ (List.mem_of_getElem? (i := 35) rfl)) (hw _ (List.mem_of_getElem? (i := 32) rfl)) (by decide) (by decide)) (g := (mkF m 352 #[.val (.int ia), .val (.int v1), .val (.int v2), .val (.int v3), .val (.int f4), .val (.int f5), .val (.int f6), .val (.int v7), .val (.ref b36), .val (.int jA), .val (.int jU), .val (.int jS), .val (.int jP), .val (.int jX), .val (.ref b63), .unset, .unset, .unset] [(.int (-1 : Int32)), (.int (-1 : Int32)), (.int (20 : Int32)), (.int jP), (.int jS), (.int jU), (.int jA), (.int v1), (.ref b63), (.ref b67), (.ref b67)])) rfl (by rw [hml]; rfl) (Steps.refl _) (a := b67) (argsL := [(.ref b63), (.int v1), (.int jA), (.int jU), (.int jS), (.int jP), (.int (20 : Int32)), (.int (-1 : Int32)), (.int (-1 : Int32))]) (rest := [(.ref b67)]) (lenOf pd__Ljava_lang_String_IIIIIIII_V rfl) rfl (by show 2 * 0 + _ ≤ _; exact Nat.le_of_eq rfl) (hb hby at_352) (fun _ _ => ⟨rfl, e67, (by decide : 4 + 0 ≤ _), (by decide : 53 + 0 ≤ _)⟩)
      dsimp only [Pt.U, Pt.locs, Pt.cells, Pt.slots] at X69 l69 y69 z69 st69 hQ69
      subst l69 y69 z69
      obtain ⟨h69, e69⟩ : ∃ h, T69.heap = h := ⟨_, rfl⟩
      rw [e69] at hQ69
      obtain ⟨rfl, Nq69, Kq69, E1_69, G_authorityStart_69, G_userInfoEnd_69⟩ := hQ69
      have N69 := Fr.app N66 Nq69
      have Z69 : n0 ≤ h69.size := Nat.le_trans Z67 Kq69.1
      refine Go.trans st69 ?_
      show Go _ _ _ _ _ _ _ T69 (mkF m 355 #[.val (.int ia), .val (.int v1), .val (.int v2), .val (.int v3), .val (.int f4), .val (.int f5), .val (.int f6), .val (.int v7), .val (.ref b36), .val (.int jA), .val (.int jU), .val (.int jS), .val (.int jP), .val (.int jX), .val (.ref b63), .unset, .unset, .unset] [(.ref b67)])
      refine Go.step (fun _ k => XS.astore X69.here hx rfl (hb hby at_355) rfl rfl (l' := #[.val (.int ia), .val (.int v1), .val (.int v2), .val (.int v3), .val (.int f4), .val (.int f5), .val (.int f6), .val (.int v7), .val (.ref b36), .val (.int jA), .val (.int jU), .val (.int jS), .val (.int jP), .val (.int jX), .val (.ref b63), .val (.ref b67), .unset, .unset]) rfl k) ?_
      show Go _ _ _ _ _ _ _ T69 (mkF m 357 #[.val (.int ia), .val (.int v1), .val (.int v2), .val (.int v3), .val (.int f4), .val (.int f5), .val (.int f6), .val (.int v7), .val (.ref b36), .val (.int jA), .val (.int jU), .val (.int jS), .val (.int jP), .val (.int jX), .val (.ref b63), .val (.ref b67), .unset, .unset] [])
      refine Go.step (fun _ k => XS.aload X69.here hx rfl (hb hby at_357) rfl rfl k) ?_
      show Go _ _ _ _ _ _ _ T69 (mkF m 359 #[.val (.int ia), .val (.int v1), .val (.int v2), .val (.int v3), .val (.int f4), .val (.int f5), .val (.int f6), .val (.int v7), .val (.ref b36), .val (.int jA), .val (.int jU), .val (.int jS), .val (.int jP), .val (.int jX), .val (.ref b63), .val (.ref b67), .unset, .unset] [(.ref b67)])
      obtain ⟨cq70, kq70, q70a, q70b, q70c⟩ := isOf hZ e69 E1_69
      obtain ⟨_, _, ⟨T70, L70, k70, n70⟩, -, X70, ⟨Lc70, hQ70, l70, y70, z70⟩, st70⟩ := X69.virtualBack hx (y := (⟨"com/example/eiri/eiri/Iri", "hostStart", "()I"⟩ : MethodName)) (z := (⟨"com/example/eiri/eiri/Iri", "hostStart", "()I"⟩ : MethodName)) hown (mvT hZ (hw _ (List.mem_of_getElem? (i := 55) rfl))) (mvT hZ (hw _ (List.mem_of_getElem? (i := 56) rfl))) (notFace_of_selects (args := #[]) (mvT hZ (hw _ (List.mem_of_getElem? (i := 58) rfl)))) (mvT hZ (hw _ (List.mem_of_getElem? (i := 58) rfl))) (mvT hZ (hw _ (List.mem_of_getElem? (i := 57) rfl))) (by decide) (backOf (W := 0) (rmHs l Z a0 hw [] b67 jA jU h69 n0 Z69 E1_69 G_authorityStart_69 G_userInfoEnd_69) hZ (hw _ (List.mem_of_getElem? (i := 59) rfl)) (hw _ (List.mem_of_getElem? (i := 32) rfl)) (by decide) (by decide)) q70a q70c (g := (mkF m 359 #[.val (.int ia), .val (.int v1), .val (.int v2), .val (.int v3), .val (.int f4), .val (.int f5), .val (.int f6), .val (.int v7), .val (.ref b36), .val (.int jA), .val (.int jU), .val (.int jS), .val (.int jP), .val (.int jX), .val (.ref b63), .val (.ref b67), .unset, .unset] [(.ref b67)])) rfl (by rw [hml]; rfl) (Steps.refl _) (argsL := []) (rest := []) (lenOf pd___I rfl) rfl (by show 2 * 0 + _ ≤ _; exact Nat.le_of_eq rfl) (hb hby at_359) (fun _ _ => ⟨rfl, e69, (by decide : 4 + 0 ≤ _), (by decide : 53 + 0 ≤ _)⟩)
      dsimp only [Pt.U, Pt.locs, Pt.cells, Pt.slots] at X70 l70 y70 z70 st70 hQ70
      subst l70 y70 z70
      obtain ⟨h70, e70⟩ : ∃ h, T70.heap = h := ⟨_, rfl⟩
      rw [e70] at hQ70
      obtain ⟨rfl, Nq70, hs70⟩ := hQ70
      have N70 := Fr.app N69 Nq70
      rw [hs70] at e70
      refine Go.trans st70 ?_
      rcases GG with ⟨ga, gb⟩ | ⟨ga, gb, gc, gd, ge_⟩
      · rw [show (own_hs jA jU) = (-1 : Int32) from if_pos gb]
        show Go _ _ _ _ _ _ _ T70 (mkF m 362 #[.val (.int ia), .val (.int v1), .val (.int v2), .val (.int v3), .val (.int f4), .val (.int f5), .val (.int f6), .val (.int v7), .val (.ref b36), .val (.int jA), .val (.int jU), .val (.int jS), .val (.int jP), .val (.int jX), .val (.ref b63), .val (.ref b67), .unset, .unset] [(.int (-1 : Int32))])
        refine Go.step (fun _ k => XS.istore X70.here hx rfl (hb hby at_362) rfl (l' := #[.val (.int ia), .val (.int v1), .val (.int v2), .val (.int v3), .val (.int f4), .val (.int f5), .val (.int f6), .val (.int v7), .val (.ref b36), .val (.int jA), .val (.int jU), .val (.int jS), .val (.int jP), .val (.int jX), .val (.ref b63), .val (.ref b67), .val (.int (-1 : Int32)), .unset]) rfl k) ?_
        show Go _ _ _ _ _ _ _ T70 (mkF m 364 #[.val (.int ia), .val (.int v1), .val (.int v2), .val (.int v3), .val (.int f4), .val (.int f5), .val (.int f6), .val (.int v7), .val (.ref b36), .val (.int jA), .val (.int jU), .val (.int jS), .val (.int jP), .val (.int jX), .val (.ref b63), .val (.ref b67), .val (.int (-1 : Int32)), .unset] [])
        refine Go.step (fun _ k => XS.iload X70.here hx rfl (hb hby at_364) rfl k) ?_
        show Go _ _ _ _ _ _ _ T70 (mkF m 366 #[.val (.int ia), .val (.int v1), .val (.int v2), .val (.int v3), .val (.int f4), .val (.int f5), .val (.int f6), .val (.int v7), .val (.ref b36), .val (.int jA), .val (.int jU), .val (.int jS), .val (.int jP), .val (.int jX), .val (.ref b63), .val (.ref b67), .val (.int (-1 : Int32)), .unset] [(.int f4)])
        have hc366_71 : f4 = (0 : Int32) := ga
        refine Go.step (fun _ k => XS.ifNo X70.here hx rfl (hb hby at_366) rfl ((if0 _ _).trans (teq hc366_71).2) k) ?_
        show Go _ _ _ _ _ _ _ T70 (mkF m 369 #[.val (.int ia), .val (.int v1), .val (.int v2), .val (.int v3), .val (.int f4), .val (.int f5), .val (.int f6), .val (.int v7), .val (.ref b36), .val (.int jA), .val (.int jU), .val (.int jS), .val (.int jP), .val (.int jX), .val (.ref b63), .val (.ref b67), .val (.int (-1 : Int32)), .unset] [])
        refine Go.step (fun _ k => XS.iload X70.here hx rfl (hb hby at_369) rfl k) ?_
        show Go _ _ _ _ _ _ _ T70 (mkF m 371 #[.val (.int ia), .val (.int v1), .val (.int v2), .val (.int v3), .val (.int f4), .val (.int f5), .val (.int f6), .val (.int v7), .val (.ref b36), .val (.int jA), .val (.int jU), .val (.int jS), .val (.int jP), .val (.int jX), .val (.ref b63), .val (.ref b67), .val (.int (-1 : Int32)), .unset] [(.int (-1 : Int32))])
        refine Go.step (fun _ k => XS.iconst X70.here hx rfl (hb hby at_371) k) ?_
        show Go _ _ _ _ _ _ _ T70 (mkF m 372 #[.val (.int ia), .val (.int v1), .val (.int v2), .val (.int v3), .val (.int f4), .val (.int f5), .val (.int f6), .val (.int v7), .val (.ref b36), .val (.int jA), .val (.int jU), .val (.int jS), .val (.int jP), .val (.int jX), .val (.ref b63), .val (.ref b67), .val (.int (-1 : Int32)), .unset] [(.int (-1 : Int32)), (.int (-1 : Int32))])
        have hc372_72 : (-1 : Int32) = (-1 : Int32) := (by decide)
        refine Go.step (fun _ k => XS.icmpNo X70.here hx rfl (hb hby at_372) rfl (teq hc372_72).2 k) ?_
        show Go _ _ _ _ _ _ _ T70 (mkF m 375 #[.val (.int ia), .val (.int v1), .val (.int v2), .val (.int v3), .val (.int f4), .val (.int f5), .val (.int f6), .val (.int v7), .val (.ref b36), .val (.int jA), .val (.int jU), .val (.int jS), .val (.int jP), .val (.int jX), .val (.ref b63), .val (.ref b67), .val (.int (-1 : Int32)), .unset] [])
        refine Go.step (fun _ k => XS.iconst X70.here hx rfl (hb hby at_375) k) ?_
        show Go _ _ _ _ _ _ _ T70 (mkF m 376 #[.val (.int ia), .val (.int v1), .val (.int v2), .val (.int v3), .val (.int f4), .val (.int f5), .val (.int f6), .val (.int v7), .val (.ref b36), .val (.int jA), .val (.int jU), .val (.int jS), .val (.int jP), .val (.int jX), .val (.ref b63), .val (.ref b67), .val (.int (-1 : Int32)), .unset] [(.int (1 : Int32))])
        refine Go.step (fun _ k => XS.goto X70.here hx rfl (pc0 := 376) (pc' := 380) rfl (hb hby at_376) (by decide) (by decide) k) ?_
        show Go _ _ _ _ _ _ _ T70 (mkF m 380 #[.val (.int ia), .val (.int v1), .val (.int v2), .val (.int v3), .val (.int f4), .val (.int f5), .val (.int f6), .val (.int v7), .val (.ref b36), .val (.int jA), .val (.int jU), .val (.int jS), .val (.int jP), .val (.int jX), .val (.ref b63), .val (.ref b67), .val (.int (-1 : Int32)), .unset] [(.int (1 : Int32))])
        exact Go.retN X70 hx (t := .boolean) hret hlk (by simp) (hb hby at_380) e70 (by decide) (by decide) ⟨rfl, N70, trivial⟩
      · rw [gb]
        show Go _ _ _ _ _ _ _ T70 (mkF m 362 #[.val (.int ia), .val (.int v1), .val (.int v2), .val (.int v3), .val (.int f4), .val (.int f5), .val (.int f6), .val (.int v7), .val (.ref b36), .val (.int jA), .val (.int jU), .val (.int jS), .val (.int jP), .val (.int jX), .val (.ref b63), .val (.ref b67), .unset, .unset] [(.int jX)])
        refine Go.step (fun _ k => XS.istore X70.here hx rfl (hb hby at_362) rfl (l' := #[.val (.int ia), .val (.int v1), .val (.int v2), .val (.int v3), .val (.int f4), .val (.int f5), .val (.int f6), .val (.int v7), .val (.ref b36), .val (.int jA), .val (.int jU), .val (.int jS), .val (.int jP), .val (.int jX), .val (.ref b63), .val (.ref b67), .val (.int jX), .unset]) rfl k) ?_
        show Go _ _ _ _ _ _ _ T70 (mkF m 364 #[.val (.int ia), .val (.int v1), .val (.int v2), .val (.int v3), .val (.int f4), .val (.int f5), .val (.int f6), .val (.int v7), .val (.ref b36), .val (.int jA), .val (.int jU), .val (.int jS), .val (.int jP), .val (.int jX), .val (.ref b63), .val (.ref b67), .val (.int jX), .unset] [])
        refine Go.step (fun _ k => XS.iload X70.here hx rfl (hb hby at_364) rfl k) ?_
        show Go _ _ _ _ _ _ _ T70 (mkF m 366 #[.val (.int ia), .val (.int v1), .val (.int v2), .val (.int v3), .val (.int f4), .val (.int f5), .val (.int f6), .val (.int v7), .val (.ref b36), .val (.int jA), .val (.int jU), .val (.int jS), .val (.int jP), .val (.int jX), .val (.ref b63), .val (.ref b67), .val (.int jX), .unset] [(.int f4)])
        have hc366_73 : ¬ (f4 = (0 : Int32)) := ga
        refine Go.step (fun _ k => XS.ifYes X70.here hx rfl (pc0 := 366) (pc' := 381) rfl (hb hby at_366) rfl ((if0 _ _).trans (feq hc366_73).2) (by decide) (by decide) k) ?_
        show Go _ _ _ _ _ _ _ T70 (mkF m 381 #[.val (.int ia), .val (.int v1), .val (.int v2), .val (.int v3), .val (.int f4), .val (.int f5), .val (.int f6), .val (.int v7), .val (.ref b36), .val (.int jA), .val (.int jU), .val (.int jS), .val (.int jP), .val (.int jX), .val (.ref b63), .val (.ref b67), .val (.int jX), .unset] [])
        refine Go.step (fun _ k => XS.iload X70.here hx rfl (hb hby at_381) rfl k) ?_
        show Go _ _ _ _ _ _ _ T70 (mkF m 383 #[.val (.int ia), .val (.int v1), .val (.int v2), .val (.int v3), .val (.int f4), .val (.int f5), .val (.int f6), .val (.int v7), .val (.ref b36), .val (.int jA), .val (.int jU), .val (.int jS), .val (.int jP), .val (.int jX), .val (.ref b63), .val (.ref b67), .val (.int jX), .unset] [(.int jX)])
        refine Go.step (fun _ k => XS.iconst X70.here hx rfl (hb hby at_383) k) ?_
        show Go _ _ _ _ _ _ _ T70 (mkF m 384 #[.val (.int ia), .val (.int v1), .val (.int v2), .val (.int v3), .val (.int f4), .val (.int f5), .val (.int f6), .val (.int v7), .val (.ref b36), .val (.int jA), .val (.int jU), .val (.int jS), .val (.int jP), .val (.int jX), .val (.ref b63), .val (.ref b67), .val (.int jX), .unset] [(.int (1 : Int32)), (.int jX)])
        have hc384_74 : ¬ (jX < (1 : Int32)) := (by have := rng32 jX; have : (1 : Int32).toInt = 1 := rfl; simp only [Int32.lt_iff_toInt_lt, Int32.le_iff_toInt_le, ← Int32.toInt_inj, Int64.lt_iff_toInt_lt, Int64.le_iff_toInt_le, ← Int64.toInt_inj]; omega)
        refine Go.step (fun _ k => XS.icmpNo X70.here hx rfl (hb hby at_384) rfl (flt hc384_74).1 k) ?_
        show Go _ _ _ _ _ _ _ T70 (mkF m 387 #[.val (.int ia), .val (.int v1), .val (.int v2), .val (.int v3), .val (.int f4), .val (.int f5), .val (.int f6), .val (.int v7), .val (.ref b36), .val (.int jA), .val (.int jU), .val (.int jS), .val (.int jP), .val (.int jX), .val (.ref b63), .val (.ref b67), .val (.int jX), .unset] [])
        refine Go.step (fun _ k => XS.iload X70.here hx rfl (hb hby at_387) rfl k) ?_
        show Go _ _ _ _ _ _ _ T70 (mkF m 389 #[.val (.int ia), .val (.int v1), .val (.int v2), .val (.int v3), .val (.int f4), .val (.int f5), .val (.int f6), .val (.int v7), .val (.ref b36), .val (.int jA), .val (.int jU), .val (.int jS), .val (.int jP), .val (.int jX), .val (.ref b63), .val (.ref b67), .val (.int jX), .unset] [(.int jX)])
        refine Go.step (fun _ k => XS.bipush X70.here hx rfl (hb hby at_389) k) ?_
        show Go _ _ _ _ _ _ _ T70 (mkF m 391 #[.val (.int ia), .val (.int v1), .val (.int v2), .val (.int v3), .val (.int f4), .val (.int f5), .val (.int f6), .val (.int v7), .val (.ref b36), .val (.int jA), .val (.int jU), .val (.int jS), .val (.int jP), .val (.int jX), .val (.ref b63), .val (.ref b67), .val (.int jX), .unset] [(.int (20 : Int32)), (.int jX)])
        have hc391_75 : ¬ ((20 : Int32) < jX) := (by have := rng32 jX; have : (20 : Int32).toInt = 20 := rfl; simp only [Int32.lt_iff_toInt_lt, Int32.le_iff_toInt_le, ← Int32.toInt_inj, Int64.lt_iff_toInt_lt, Int64.le_iff_toInt_le, ← Int64.toInt_inj]; omega)
        refine Go.step (fun _ k => XS.icmpYes X70.here hx rfl (pc0 := 391) (pc' := 396) rfl (hb hby at_391) rfl (flt hc391_75).2.2.2 (by decide) (by decide) k) ?_
        show Go _ _ _ _ _ _ _ T70 (mkF m 396 #[.val (.int ia), .val (.int v1), .val (.int v2), .val (.int v3), .val (.int f4), .val (.int f5), .val (.int f6), .val (.int v7), .val (.ref b36), .val (.int jA), .val (.int jU), .val (.int jS), .val (.int jP), .val (.int jX), .val (.ref b63), .val (.ref b67), .val (.int jX), .unset] [])
        refine Go.step (fun _ k => XS.aload X70.here hx rfl (hb hby at_396) rfl rfl k) ?_
        show Go _ _ _ _ _ _ _ T70 (mkF m 398 #[.val (.int ia), .val (.int v1), .val (.int v2), .val (.int v3), .val (.int f4), .val (.int f5), .val (.int f6), .val (.int v7), .val (.ref b36), .val (.int jA), .val (.int jU), .val (.int jS), .val (.int jP), .val (.int jX), .val (.ref b63), .val (.ref b67), .val (.int jX), .unset] [(.ref b63)])
        refine Go.step (fun _ k => XS.iload X70.here hx rfl (hb hby at_398) rfl k) ?_
        show Go _ _ _ _ _ _ _ T70 (mkF m 400 #[.val (.int ia), .val (.int v1), .val (.int v2), .val (.int v3), .val (.int f4), .val (.int f5), .val (.int f6), .val (.int v7), .val (.ref b36), .val (.int jA), .val (.int jU), .val (.int jS), .val (.int jP), .val (.int jX), .val (.ref b63), .val (.ref b67), .val (.int jX), .unset] [(.int jX), (.ref b63)])
        refine Go.step (fun _ k => XS.iconst X70.here hx rfl (hb hby at_400) k) ?_
        show Go _ _ _ _ _ _ _ T70 (mkF m 401 #[.val (.int ia), .val (.int v1), .val (.int v2), .val (.int v3), .val (.int f4), .val (.int f5), .val (.int f6), .val (.int v7), .val (.ref b36), .val (.int jA), .val (.int jU), .val (.int jS), .val (.int jP), .val (.int jX), .val (.ref b63), .val (.ref b67), .val (.int jX), .unset] [(.int (1 : Int32)), (.int jX), (.ref b63)])
        refine Go.step (fun _ k => XS.isub X70.here hx rfl (hb hby at_401) rfl k) ?_
        show Go _ _ _ _ _ _ _ T70 (mkF m 402 #[.val (.int ia), .val (.int v1), .val (.int v2), .val (.int v3), .val (.int f4), .val (.int f5), .val (.int f6), .val (.int v7), .val (.ref b36), .val (.int jA), .val (.int jU), .val (.int jS), .val (.int jP), .val (.int jX), .val (.ref b63), .val (.ref b67), .val (.int jX), .unset] [(.int (jX - (1 : Int32))), (.ref b63)])
        have f76 : Exa Z h69 b63 "java/lang/String" := ((Ex66.ext E67).keep Kq69)
        have f77 : Fld Z h69 b63 "java/lang/String" "value" "[B" (.ref t66) := ((Fv66.ext E67).keep Kq69 (ninS ne_b63_b67 nin0))
        have f78 : Fld Z h69 b63 "java/lang/String" "coder" "B" (.int (0 : Int32)) := ((Fc66.ext E67).keep Kq69 (ninS ne_b63_b67 nin0))
        have f79 : Arv Z h69 t66 kt66 .byte (20 : Int32) ((((csJ.set (jP).toNatClampNeg (nar .char (47 : Int32)))).map (fun c => c.toInt8.toInt32)).map Value.int) (.int (0 : Int32)) := ((Vt66.ext E67).keep Kq69 (ninS ne_t66_b67 nin0))
        have f80 : Old Z n0 h69 := (((f65.keep Kq66 (allS g_b63 all0)).ext E67).keep Kq69 (allS g_b67 all0))
        have hch : ∀ d ∈ StrChars.Road.wordsChN, d.before a0 Z = true := fun d hd => hw d ((by decide +kernel : ∀ d ∈ StrChars.Road.wordsChN, d ∈ tables_1) d hd)
        have hcd : StrChars.Road.CodA (csJ.set (jP).toNatClampNeg (nar .char (47 : Int32))) 0 (20 : Int32) ((((csJ.set (jP).toNatClampNeg (nar .char (47 : Int32)))).map (fun c => c.toInt8.toInt32)).map Value.int) := StrChars.Road.codOf (n := 20) hl62 (fun c hc => (hp62 c hc).2)
        have hbd : ∀ c ∈ (csJ.set (jP).toNatClampNeg (nar .char (47 : Int32))), ¬ c < 0 ∧ ¬ (65535 : Int32) < c := fun c hc => ⟨(hp62 c hc).1, fun q => (hp62 c hc).2 (by rw [Int32.lt_iff_toInt_lt] at q ⊢; have : (65535 : Int32).toInt = 65535 := rfl; have : (255 : Int32).toInt = 255 := rfl; omega)⟩
        obtain ⟨cq81, kq81, q81a, q81b, q81c⟩ := isOf hZ e70 f76
        obtain ⟨_, _, ⟨T81, L81, k81, n81⟩, -, X81, ⟨Lc81, hQ81, l81, y81, z81⟩, st81⟩ := X70.virtualBack hx (y := (⟨"java/lang/String", "charAt", "(I)C"⟩ : MethodName)) (z := (⟨"java/lang/String", "charAt", "(I)C"⟩ : MethodName)) hown (mvT hZ (hw _ (List.mem_of_getElem? (i := 60) rfl))) (mvT hZ (hw _ (List.mem_of_getElem? (i := 61) rfl))) (notFace_of_selects (args := #[]) (mvT hZ (hw _ (List.mem_of_getElem? (i := 63) rfl)))) (mvT hZ (hw _ (List.mem_of_getElem? (i := 63) rfl))) (mvT hZ (hw _ (List.mem_of_getElem? (i := 62) rfl))) (by decide) (StrChars.Road.chN (W := 0) hZ hch (kI := 4) (hw _ (List.mem_of_getElem? (i := 2) rfl)) f76 f77 f78 f79 hcd hbd (O2.ext f80.2) P5 (O4.ext f80.2) rG3 (by rw [hl62]; decide) (i := ((jX - (1 : Int32))).toNatClampNeg) (by rw [hl62]; exact own_tn (n := 20) (by have := rng32 jX; have : (1 : Int32).toInt = 1 := rfl; have := rng32 (jX - (1 : Int32)); have := c_isub jX (1 : Int32); omega) (by have := rng32 jX; have : (1 : Int32).toInt = 1 := rfl; have := rng32 (jX - (1 : Int32)); have := c_isub jX (1 : Int32); omega)) (j := (jX - (1 : Int32))) (back32 (by have := rng32 jX; have : (1 : Int32).toInt = 1 := rfl; have := rng32 (jX - (1 : Int32)); have := c_isub jX (1 : Int32); have : (0 : Int32).toInt = 0 := rfl; simp only [Int32.lt_iff_toInt_lt, Int32.le_iff_toInt_le, ← Int32.toInt_inj, Int64.lt_iff_toInt_lt, Int64.le_iff_toInt_le, ← Int64.toInt_inj]; omega)).1.symm (by decide) (by decide)) q81a q81c (g := (mkF m 402 #[.val (.int ia), .val (.int v1), .val (.int v2), .val (.int v3), .val (.int f4), .val (.int f5), .val (.int f6), .val (.int v7), .val (.ref b36), .val (.int jA), .val (.int jU), .val (.int jS), .val (.int jP), .val (.int jX), .val (.ref b63), .val (.ref b67), .val (.int jX), .unset] [(.int (jX - (1 : Int32))), (.ref b63)])) rfl (by rw [hml]; rfl) (Steps.refl _) (argsL := [(.int (jX - (1 : Int32)))]) (rest := []) (lenOf pd__I_C rfl) rfl (by show 2 * 0 + _ ≤ _; exact Nat.le_of_eq rfl) (hb hby at_402) (fun _ _ => ⟨rfl, e70, (by decide : 4 + 0 ≤ _), (by decide : 53 + 0 ≤ _)⟩)
        dsimp only [Pt.U, Pt.locs, Pt.cells, Pt.slots] at X81 l81 y81 z81 st81 hQ81
        subst l81 y81 z81
        obtain ⟨h81, e81⟩ : ∃ h, T81.heap = h := ⟨_, rfl⟩
        rw [e81] at hQ81
        obtain ⟨rfl, rfl, hs81⟩ := hQ81
        rw [hs81] at e81
        have N81 := Fr.app N70 (Fr.nil n0)
        refine Go.trans st81 ?_
        show Go _ _ _ _ _ _ _ T81 (mkF m 405 #[.val (.int ia), .val (.int v1), .val (.int v2), .val (.int v3), .val (.int f4), .val (.int f5), .val (.int f6), .val (.int v7), .val (.ref b36), .val (.int jA), .val (.int jU), .val (.int jS), .val (.int jP), .val (.int jX), .val (.ref b63), .val (.ref b67), .val (.int jX), .unset] [(.int ((csJ.set (jP).toNatClampNeg (nar .char (47 : Int32))).getD ((jX - (1 : Int32))).toNatClampNeg 0))])
        refine Go.step (fun _ k => XS.istore X81.here hx rfl (hb hby at_405) rfl (l' := #[.val (.int ia), .val (.int v1), .val (.int v2), .val (.int v3), .val (.int f4), .val (.int f5), .val (.int f6), .val (.int v7), .val (.ref b36), .val (.int jA), .val (.int jU), .val (.int jS), .val (.int jP), .val (.int jX), .val (.ref b63), .val (.ref b67), .val (.int jX), .val (.int ((csJ.set (jP).toNatClampNeg (nar .char (47 : Int32))).getD ((jX - (1 : Int32))).toNatClampNeg 0))]) rfl k) ?_
        show Go _ _ _ _ _ _ _ T81 (mkF m 407 #[.val (.int ia), .val (.int v1), .val (.int v2), .val (.int v3), .val (.int f4), .val (.int f5), .val (.int f6), .val (.int v7), .val (.ref b36), .val (.int jA), .val (.int jU), .val (.int jS), .val (.int jP), .val (.int jX), .val (.ref b63), .val (.ref b67), .val (.int jX), .val (.int ((csJ.set (jP).toNatClampNeg (nar .char (47 : Int32))).getD ((jX - (1 : Int32))).toNatClampNeg 0))] [])
        refine Go.step (fun _ k => XS.iload X81.here hx rfl (hb hby at_407) rfl k) ?_
        show Go _ _ _ _ _ _ _ T81 (mkF m 409 #[.val (.int ia), .val (.int v1), .val (.int v2), .val (.int v3), .val (.int f4), .val (.int f5), .val (.int f6), .val (.int v7), .val (.ref b36), .val (.int jA), .val (.int jU), .val (.int jS), .val (.int jP), .val (.int jX), .val (.ref b63), .val (.ref b67), .val (.int jX), .val (.int ((csJ.set (jP).toNatClampNeg (nar .char (47 : Int32))).getD ((jX - (1 : Int32))).toNatClampNeg 0))] [(.int jX)])
        refine Go.step (fun _ k => XS.iload X81.here hx rfl (hb hby at_409) rfl k) ?_
        show Go _ _ _ _ _ _ _ T81 (mkF m 411 #[.val (.int ia), .val (.int v1), .val (.int v2), .val (.int v3), .val (.int f4), .val (.int f5), .val (.int f6), .val (.int v7), .val (.ref b36), .val (.int jA), .val (.int jU), .val (.int jS), .val (.int jP), .val (.int jX), .val (.ref b63), .val (.ref b67), .val (.int jX), .val (.int ((csJ.set (jP).toNatClampNeg (nar .char (47 : Int32))).getD ((jX - (1 : Int32))).toNatClampNeg 0))] [(.int jX), (.int jX)])
        have hc411_82 : jX = jX := rfl
        refine Go.step (fun _ k => XS.icmpNo X81.here hx rfl (hb hby at_411) rfl (teq hc411_82).2 k) ?_
        show Go _ _ _ _ _ _ _ T81 (mkF m 414 #[.val (.int ia), .val (.int v1), .val (.int v2), .val (.int v3), .val (.int f4), .val (.int f5), .val (.int f6), .val (.int v7), .val (.ref b36), .val (.int jA), .val (.int jU), .val (.int jS), .val (.int jP), .val (.int jX), .val (.ref b63), .val (.ref b67), .val (.int jX), .val (.int ((csJ.set (jP).toNatClampNeg (nar .char (47 : Int32))).getD ((jX - (1 : Int32))).toNatClampNeg 0))] [])
        refine Go.step (fun _ k => XS.iload X81.here hx rfl (hb hby at_414) rfl k) ?_
        show Go _ _ _ _ _ _ _ T81 (mkF m 416 #[.val (.int ia), .val (.int v1), .val (.int v2), .val (.int v3), .val (.int f4), .val (.int f5), .val (.int f6), .val (.int v7), .val (.ref b36), .val (.int jA), .val (.int jU), .val (.int jS), .val (.int jP), .val (.int jX), .val (.ref b63), .val (.ref b67), .val (.int jX), .val (.int ((csJ.set (jP).toNatClampNeg (nar .char (47 : Int32))).getD ((jX - (1 : Int32))).toNatClampNeg 0))] [(.int ((csJ.set (jP).toNatClampNeg (nar .char (47 : Int32))).getD ((jX - (1 : Int32))).toNatClampNeg 0))])
        refine Go.step (fun _ k => XS.iload X81.here hx rfl (hb hby at_416) rfl k) ?_
        show Go _ _ _ _ _ _ _ T81 (mkF m 418 #[.val (.int ia), .val (.int v1), .val (.int v2), .val (.int v3), .val (.int f4), .val (.int f5), .val (.int f6), .val (.int v7), .val (.ref b36), .val (.int jA), .val (.int jU), .val (.int jS), .val (.int jP), .val (.int jX), .val (.ref b63), .val (.ref b67), .val (.int jX), .val (.int ((csJ.set (jP).toNatClampNeg (nar .char (47 : Int32))).getD ((jX - (1 : Int32))).toNatClampNeg 0))] [(.int f5), (.int ((csJ.set (jP).toNatClampNeg (nar .char (47 : Int32))).getD ((jX - (1 : Int32))).toNatClampNeg 0))])
        by_cases hc418_83 : f5 = (0 : Int32)
        · refine Go.step (fun _ k => XS.ifYes X81.here hx rfl (pc0 := 418) (pc' := 426) rfl (hb hby at_418) rfl ((if0 _ _).trans (teq hc418_83).1) (by decide) (by decide) k) ?_
          show Go _ _ _ _ _ _ _ T81 (mkF m 426 #[.val (.int ia), .val (.int v1), .val (.int v2), .val (.int v3), .val (.int f4), .val (.int f5), .val (.int f6), .val (.int v7), .val (.ref b36), .val (.int jA), .val (.int jU), .val (.int jS), .val (.int jP), .val (.int jX), .val (.ref b63), .val (.ref b67), .val (.int jX), .val (.int ((csJ.set (jP).toNatClampNeg (nar .char (47 : Int32))).getD ((jX - (1 : Int32))).toNatClampNeg 0))] [(.int ((csJ.set (jP).toNatClampNeg (nar .char (47 : Int32))).getD ((jX - (1 : Int32))).toNatClampNeg 0))])
          refine Go.step (fun _ k => XS.bipush X81.here hx rfl (hb hby at_426) k) ?_
          show Go _ _ _ _ _ _ _ T81 (mkF m 428 #[.val (.int ia), .val (.int v1), .val (.int v2), .val (.int v3), .val (.int f4), .val (.int f5), .val (.int f6), .val (.int v7), .val (.ref b36), .val (.int jA), .val (.int jU), .val (.int jS), .val (.int jP), .val (.int jX), .val (.ref b63), .val (.ref b67), .val (.int jX), .val (.int ((csJ.set (jP).toNatClampNeg (nar .char (47 : Int32))).getD ((jX - (1 : Int32))).toNatClampNeg 0))] [(.int (47 : Int32)), (.int ((csJ.set (jP).toNatClampNeg (nar .char (47 : Int32))).getD ((jX - (1 : Int32))).toNatClampNeg 0))])
          have hc428_84 : ((csJ.set (jP).toNatClampNeg (nar .char (47 : Int32))).getD ((jX - (1 : Int32))).toNatClampNeg 0) = (47 : Int32) := ((own_nI (own_tne (by have := rng32 jP; omega) (by have := rng32 jX; have : (1 : Int32).toInt = 1 := rfl; have := rng32 (jX - (1 : Int32)); have := c_isub jX (1 : Int32); omega) (by have := rng32 jP; have := rng32 jX; have : (1 : Int32).toInt = 1 := rfl; have := rng32 (jX - (1 : Int32)); have := c_isub jX (1 : Int32); omega))).trans (ge_.trans (if_pos hc418_83)))
          refine Go.step (fun _ k => XS.icmpNo X81.here hx rfl (hb hby at_428) rfl (teq hc428_84).2 k) ?_
          show Go _ _ _ _ _ _ _ T81 (mkF m 431 #[.val (.int ia), .val (.int v1), .val (.int v2), .val (.int v3), .val (.int f4), .val (.int f5), .val (.int f6), .val (.int v7), .val (.ref b36), .val (.int jA), .val (.int jU), .val (.int jS), .val (.int jP), .val (.int jX), .val (.ref b63), .val (.ref b67), .val (.int jX), .val (.int ((csJ.set (jP).toNatClampNeg (nar .char (47 : Int32))).getD ((jX - (1 : Int32))).toNatClampNeg 0))] [])
          refine Go.step (fun _ k => XS.iconst X81.here hx rfl (hb hby at_431) k) ?_
          show Go _ _ _ _ _ _ _ T81 (mkF m 432 #[.val (.int ia), .val (.int v1), .val (.int v2), .val (.int v3), .val (.int f4), .val (.int f5), .val (.int f6), .val (.int v7), .val (.ref b36), .val (.int jA), .val (.int jU), .val (.int jS), .val (.int jP), .val (.int jX), .val (.ref b63), .val (.ref b67), .val (.int jX), .val (.int ((csJ.set (jP).toNatClampNeg (nar .char (47 : Int32))).getD ((jX - (1 : Int32))).toNatClampNeg 0))] [(.int (1 : Int32))])
          refine Go.step (fun _ k => XS.goto X81.here hx rfl (pc0 := 432) (pc' := 436) rfl (hb hby at_432) (by decide) (by decide) k) ?_
          show Go _ _ _ _ _ _ _ T81 (mkF m 436 #[.val (.int ia), .val (.int v1), .val (.int v2), .val (.int v3), .val (.int f4), .val (.int f5), .val (.int f6), .val (.int v7), .val (.ref b36), .val (.int jA), .val (.int jU), .val (.int jS), .val (.int jP), .val (.int jX), .val (.ref b63), .val (.ref b67), .val (.int jX), .val (.int ((csJ.set (jP).toNatClampNeg (nar .char (47 : Int32))).getD ((jX - (1 : Int32))).toNatClampNeg 0))] [(.int (1 : Int32))])
          exact Go.retN X81 hx (t := .boolean) hret hlk (by simp) (hb hby at_436) e81 (by decide) (by decide) ⟨rfl, N81, trivial⟩
        · refine Go.step (fun _ k => XS.ifNo X81.here hx rfl (hb hby at_418) rfl ((if0 _ _).trans (feq hc418_83).1) k) ?_
          show Go _ _ _ _ _ _ _ T81 (mkF m 421 #[.val (.int ia), .val (.int v1), .val (.int v2), .val (.int v3), .val (.int f4), .val (.int f5), .val (.int f6), .val (.int v7), .val (.ref b36), .val (.int jA), .val (.int jU), .val (.int jS), .val (.int jP), .val (.int jX), .val (.ref b63), .val (.ref b67), .val (.int jX), .val (.int ((csJ.set (jP).toNatClampNeg (nar .char (47 : Int32))).getD ((jX - (1 : Int32))).toNatClampNeg 0))] [(.int ((csJ.set (jP).toNatClampNeg (nar .char (47 : Int32))).getD ((jX - (1 : Int32))).toNatClampNeg 0))])
          refine Go.step (fun _ k => XS.bipush X81.here hx rfl (hb hby at_421) k) ?_
          show Go _ _ _ _ _ _ _ T81 (mkF m 423 #[.val (.int ia), .val (.int v1), .val (.int v2), .val (.int v3), .val (.int f4), .val (.int f5), .val (.int f6), .val (.int v7), .val (.ref b36), .val (.int jA), .val (.int jU), .val (.int jS), .val (.int jP), .val (.int jX), .val (.ref b63), .val (.ref b67), .val (.int jX), .val (.int ((csJ.set (jP).toNatClampNeg (nar .char (47 : Int32))).getD ((jX - (1 : Int32))).toNatClampNeg 0))] [(.int (64 : Int32)), (.int ((csJ.set (jP).toNatClampNeg (nar .char (47 : Int32))).getD ((jX - (1 : Int32))).toNatClampNeg 0))])
          refine Go.step (fun _ k => XS.goto X81.here hx rfl (pc0 := 423) (pc' := 428) rfl (hb hby at_423) (by decide) (by decide) k) ?_
          show Go _ _ _ _ _ _ _ T81 (mkF m 428 #[.val (.int ia), .val (.int v1), .val (.int v2), .val (.int v3), .val (.int f4), .val (.int f5), .val (.int f6), .val (.int v7), .val (.ref b36), .val (.int jA), .val (.int jU), .val (.int jS), .val (.int jP), .val (.int jX), .val (.ref b63), .val (.ref b67), .val (.int jX), .val (.int ((csJ.set (jP).toNatClampNeg (nar .char (47 : Int32))).getD ((jX - (1 : Int32))).toNatClampNeg 0))] [(.int (64 : Int32)), (.int ((csJ.set (jP).toNatClampNeg (nar .char (47 : Int32))).getD ((jX - (1 : Int32))).toNatClampNeg 0))])
          have hc428_85 : ((csJ.set (jP).toNatClampNeg (nar .char (47 : Int32))).getD ((jX - (1 : Int32))).toNatClampNeg 0) = (64 : Int32) := ((own_nI (own_tne (by have := rng32 jP; omega) (by have := rng32 jX; have : (1 : Int32).toInt = 1 := rfl; have := rng32 (jX - (1 : Int32)); have := c_isub jX (1 : Int32); omega) (by have := rng32 jP; have := rng32 jX; have : (1 : Int32).toInt = 1 := rfl; have := rng32 (jX - (1 : Int32)); have := c_isub jX (1 : Int32); omega))).trans (ge_.trans (if_neg hc418_83)))
          refine Go.step (fun _ k => XS.icmpNo X81.here hx rfl (hb hby at_428) rfl (teq hc428_85).2 k) ?_
          show Go _ _ _ _ _ _ _ T81 (mkF m 431 #[.val (.int ia), .val (.int v1), .val (.int v2), .val (.int v3), .val (.int f4), .val (.int f5), .val (.int f6), .val (.int v7), .val (.ref b36), .val (.int jA), .val (.int jU), .val (.int jS), .val (.int jP), .val (.int jX), .val (.ref b63), .val (.ref b67), .val (.int jX), .val (.int ((csJ.set (jP).toNatClampNeg (nar .char (47 : Int32))).getD ((jX - (1 : Int32))).toNatClampNeg 0))] [])
          refine Go.step (fun _ k => XS.iconst X81.here hx rfl (hb hby at_431) k) ?_
          show Go _ _ _ _ _ _ _ T81 (mkF m 432 #[.val (.int ia), .val (.int v1), .val (.int v2), .val (.int v3), .val (.int f4), .val (.int f5), .val (.int f6), .val (.int v7), .val (.ref b36), .val (.int jA), .val (.int jU), .val (.int jS), .val (.int jP), .val (.int jX), .val (.ref b63), .val (.ref b67), .val (.int jX), .val (.int ((csJ.set (jP).toNatClampNeg (nar .char (47 : Int32))).getD ((jX - (1 : Int32))).toNatClampNeg 0))] [(.int (1 : Int32))])
          refine Go.step (fun _ k => XS.goto X81.here hx rfl (pc0 := 432) (pc' := 436) rfl (hb hby at_432) (by decide) (by decide) k) ?_
          show Go _ _ _ _ _ _ _ T81 (mkF m 436 #[.val (.int ia), .val (.int v1), .val (.int v2), .val (.int v3), .val (.int f4), .val (.int f5), .val (.int f6), .val (.int v7), .val (.ref b36), .val (.int jA), .val (.int jU), .val (.int jS), .val (.int jP), .val (.int jX), .val (.ref b63), .val (.ref b67), .val (.int jX), .val (.int ((csJ.set (jP).toNatClampNeg (nar .char (47 : Int32))).getD ((jX - (1 : Int32))).toNatClampNeg 0))] [(.int (1 : Int32))])
          exact Go.retN X81 hx (t := .boolean) hret hlk (by simp) (hb hby at_436) e81 (by decide) (by decide) ⟨rfl, N81, trivial⟩
    show Go _ _ _ _ _ _ _ T59 (mkF m 217 #[.val (.int ia), .val (.int v1), .val (.int v2), .val (.int v3), .val (.int f4), .val (.int f5), .val (.int f6), .val (.int v7), .val (.ref b36), .val (.int (-1 : Int32)), .val (.int (-1 : Int32)), .val (.int (-1 : Int32)), .val (.int (v1 + (1 : Int32))), .val (.int (-1 : Int32)), .unset, .unset, .unset, .unset] [])
    refine Go.step (fun _ k => XS.iload X59.here hx rfl (hb hby at_217) rfl k) ?_
    show Go _ _ _ _ _ _ _ T59 (mkF m 219 #[.val (.int ia), .val (.int v1), .val (.int v2), .val (.int v3), .val (.int f4), .val (.int f5), .val (.int f6), .val (.int v7), .val (.ref b36), .val (.int (-1 : Int32)), .val (.int (-1 : Int32)), .val (.int (-1 : Int32)), .val (.int (v1 + (1 : Int32))), .val (.int (-1 : Int32)), .unset, .unset, .unset, .unset] [(.int f4)])
    by_cases hc219_86 : f4 = (0 : Int32)
    · refine Go.step (fun _ k => XS.ifYes X59.here hx rfl (pc0 := 219) (pc' := 315) rfl (hb hby at_219) rfl ((if0 _ _).trans (teq hc219_86).1) (by decide) (by decide) k) ?_
      show Go _ _ _ _ _ _ _ T59 (mkF m 315 #[.val (.int ia), .val (.int v1), .val (.int v2), .val (.int v3), .val (.int f4), .val (.int f5), .val (.int f6), .val (.int v7), .val (.ref b36), .val (.int (-1 : Int32)), .val (.int (-1 : Int32)), .val (.int (-1 : Int32)), .val (.int (v1 + (1 : Int32))), .val (.int (-1 : Int32)), .unset, .unset, .unset, .unset] [])
      have f87 : Old Z n0 h59 := ((((((((((((((((((((((Oj.ext E36).wr W38 g_b36).wr W39 g_b36).wr W40 g_b36).wr W41 g_b36).wr W42 g_b36).wr W43 g_b36).wr W44 g_b36).wr W45 g_b36).wr W46 g_b36).wr W47 g_b36).wr W48 g_b36).wr W49 g_b36).wr W50 g_b36).wr W51 g_b36).wr W52 g_b36).wr W53 g_b36).wr W54 g_b36).wr W55 g_b36).wr W56 g_b36).wr W57 g_b36).wr W59 g_b36)
      exact K T59 h59 _ (cs0.set (v1).toNatClampNeg (nar .char (58 : Int32))) (-1 : Int32) (-1 : Int32) (-1 : Int32) (v1 + (1 : Int32)) (-1 : Int32) Slot.unset (X59.more (by decide) (by decide)) e59 N59 Z59 V60 f87 hl60 hp60 (by have := rng32 v1; have : (1 : Int32).toInt = 1 := rfl; have := rng32 (v1 + (1 : Int32)); have := c_iadd v1 (1 : Int32); omega) (Or.inl ⟨hc219_86, rfl⟩) One.u
    · refine Go.step (fun _ k => XS.ifNo X59.here hx rfl (hb hby at_219) rfl ((if0 _ _).trans (feq hc219_86).1) k) ?_
      show Go _ _ _ _ _ _ _ T59 (mkF m 222 #[.val (.int ia), .val (.int v1), .val (.int v2), .val (.int v3), .val (.int f4), .val (.int f5), .val (.int f6), .val (.int v7), .val (.ref b36), .val (.int (-1 : Int32)), .val (.int (-1 : Int32)), .val (.int (-1 : Int32)), .val (.int (v1 + (1 : Int32))), .val (.int (-1 : Int32)), .unset, .unset, .unset, .unset] [])
      refine Go.step (fun _ k => XS.aload X59.here hx rfl (hb hby at_222) rfl rfl k) ?_
      show Go _ _ _ _ _ _ _ T59 (mkF m 224 #[.val (.int ia), .val (.int v1), .val (.int v2), .val (.int v3), .val (.int f4), .val (.int f5), .val (.int f6), .val (.int v7), .val (.ref b36), .val (.int (-1 : Int32)), .val (.int (-1 : Int32)), .val (.int (-1 : Int32)), .val (.int (v1 + (1 : Int32))), .val (.int (-1 : Int32)), .unset, .unset, .unset, .unset] [(.ref b36)])
      refine Go.step (fun _ k => XS.iloadN X59.here hx rfl (hb hby at_224) rfl k) ?_
      show Go _ _ _ _ _ _ _ T59 (mkF m 225 #[.val (.int ia), .val (.int v1), .val (.int v2), .val (.int v3), .val (.int f4), .val (.int f5), .val (.int f6), .val (.int v7), .val (.ref b36), .val (.int (-1 : Int32)), .val (.int (-1 : Int32)), .val (.int (-1 : Int32)), .val (.int (v1 + (1 : Int32))), .val (.int (-1 : Int32)), .unset, .unset, .unset, .unset] [(.int v1), (.ref b36)])
      refine Go.step (fun _ k => XS.iconst X59.here hx rfl (hb hby at_225) k) ?_
      show Go _ _ _ _ _ _ _ T59 (mkF m 226 #[.val (.int ia), .val (.int v1), .val (.int v2), .val (.int v3), .val (.int f4), .val (.int f5), .val (.int f6), .val (.int v7), .val (.ref b36), .val (.int (-1 : Int32)), .val (.int (-1 : Int32)), .val (.int (-1 : Int32)), .val (.int (v1 + (1 : Int32))), .val (.int (-1 : Int32)), .unset, .unset, .unset, .unset] [(.int (1 : Int32)), (.int v1), (.ref b36)])
      refine Go.step (fun _ k => XS.iadd X59.here hx rfl (hb hby at_226) rfl k) ?_
      show Go _ _ _ _ _ _ _ T59 (mkF m 227 #[.val (.int ia), .val (.int v1), .val (.int v2), .val (.int v3), .val (.int f4), .val (.int f5), .val (.int f6), .val (.int v7), .val (.ref b36), .val (.int (-1 : Int32)), .val (.int (-1 : Int32)), .val (.int (-1 : Int32)), .val (.int (v1 + (1 : Int32))), .val (.int (-1 : Int32)), .unset, .unset, .unset, .unset] [(.int (v1 + (1 : Int32))), (.ref b36)])
      refine Go.step (fun _ k => XS.bipush X59.here hx rfl (hb hby at_227) k) ?_
      show Go _ _ _ _ _ _ _ T59 (mkF m 229 #[.val (.int ia), .val (.int v1), .val (.int v2), .val (.int v3), .val (.int f4), .val (.int f5), .val (.int f6), .val (.int v7), .val (.ref b36), .val (.int (-1 : Int32)), .val (.int (-1 : Int32)), .val (.int (-1 : Int32)), .val (.int (v1 + (1 : Int32))), .val (.int (-1 : Int32)), .unset, .unset, .unset, .unset] [(.int (47 : Int32)), (.int (v1 + (1 : Int32))), (.ref b36)])
      obtain ⟨cl88, Ar88, q88, S88, M88, H88, G88⟩ := id (V60)
      have hin88 : ¬ ((v1 + (1 : Int32)) < 0 ∨ cl88.slots.size ≤ ((v1 + (1 : Int32))).toNatClampNeg) := inb_of S88 ⟨(by have := rng32 v1; have : (1 : Int32).toInt = 1 := rfl; have := rng32 (v1 + (1 : Int32)); have := c_iadd v1 (1 : Int32); have : (0 : Int32).toInt = 0 := rfl; have : (20 : Int32).toInt = 20 := rfl; simp only [Int32.lt_iff_toInt_lt, Int32.le_iff_toInt_le, ← Int32.toInt_inj, Int64.lt_iff_toInt_lt, Int64.le_iff_toInt_le, ← Int64.toInt_inj]; omega), (by have := rng32 v1; have : (1 : Int32).toInt = 1 := rfl; have := rng32 (v1 + (1 : Int32)); have := c_iadd v1 (1 : Int32); have : (0 : Int32).toInt = 0 := rfl; have : (20 : Int32).toInt = 20 := rfl; simp only [Int32.lt_iff_toInt_lt, Int32.le_iff_toInt_le, ← Int32.toInt_inj, Int64.lt_iff_toInt_lt, Int64.le_iff_toInt_le, ← Int64.toInt_inj]; omega)⟩
      obtain ⟨T88, h88, X88, e88, W88, st88⟩ := stC X59 hx hZ e59 Ar88 (j := (v1 + (1 : Int32))) hin88 (g := (mkF m 229 #[.val (.int ia), .val (.int v1), .val (.int v2), .val (.int v3), .val (.int f4), .val (.int f5), .val (.int f6), .val (.int v7), .val (.ref b36), .val (.int (-1 : Int32)), .val (.int (-1 : Int32)), .val (.int (-1 : Int32)), .val (.int (v1 + (1 : Int32))), .val (.int (-1 : Int32)), .unset, .unset, .unset, .unset] [(.int (47 : Int32)), (.int (v1 + (1 : Int32))), (.ref b36)])) rfl rfl (hb hby at_229)
      refine Go.step st88 ?_
      have V88 : Arv Z h88 b36 k36 .char (20 : Int32) (((cs0.set (v1).toNatClampNeg (nar .char (58 : Int32))).map Value.int).set ((v1 + (1 : Int32))).toNatClampNeg (.int (nar .char (47 : Int32)))) (.int (0 : Int32)) := Arv.set Ar88 q88 S88 M88 H88 G88 (fits_nar_char _) W88 ((v1 + (1 : Int32))).toNatClampNeg rfl (by rw [List.length_map, hl60]; exact own_tn (n := 20) (by have := rng32 v1; have : (1 : Int32).toInt = 1 := rfl; have := rng32 (v1 + (1 : Int32)); have := c_iadd v1 (1 : Int32); omega) (by have := rng32 v1; have : (1 : Int32).toInt = 1 := rfl; have := rng32 (v1 + (1 : Int32)); have := c_iadd v1 (1 : Int32); omega))
      have N88 := Fr.snoc X88 N59 g_b36
      have Z88 : n0 ≤ h88.size := Nat.le_trans Z59 (Keep.of_wr W88).1
      have V89 : Arv Z h88 b36 k36 .char (20 : Int32) (((cs0.set (v1).toNatClampNeg (nar .char (58 : Int32))).set ((v1 + (1 : Int32))).toNatClampNeg (nar .char (47 : Int32))).map Value.int) (.int (0 : Int32)) := by rw [← own_mset]; exact V88
      have hl89 : ((cs0.set (v1).toNatClampNeg (nar .char (58 : Int32))).set ((v1 + (1 : Int32))).toNatClampNeg (nar .char (47 : Int32))).length = 20 := by rw [List.length_set]; exact hl60
      have hp89 : ∀ c ∈ ((cs0.set (v1).toNatClampNeg (nar .char (58 : Int32))).set ((v1 + (1 : Int32))).toNatClampNeg (nar .char (47 : Int32))), ¬ c < 0 ∧ ¬ (255 : Int32) < c := own_hset hp60 (by decide)
      show Go _ _ _ _ _ _ _ T88 (mkF m 230 #[.val (.int ia), .val (.int v1), .val (.int v2), .val (.int v3), .val (.int f4), .val (.int f5), .val (.int f6), .val (.int v7), .val (.ref b36), .val (.int (-1 : Int32)), .val (.int (-1 : Int32)), .val (.int (-1 : Int32)), .val (.int (v1 + (1 : Int32))), .val (.int (-1 : Int32)), .unset, .unset, .unset, .unset] [])
      refine Go.step (fun _ k => XS.aload X88.here hx rfl (hb hby at_230) rfl rfl k) ?_
      show Go _ _ _ _ _ _ _ T88 (mkF m 232 #[.val (.int ia), .val (.int v1), .val (.int v2), .val (.int v3), .val (.int f4), .val (.int f5), .val (.int f6), .val (.int v7), .val (.ref b36), .val (.int (-1 : Int32)), .val (.int (-1 : Int32)), .val (.int (-1 : Int32)), .val (.int (v1 + (1 : Int32))), .val (.int (-1 : Int32)), .unset, .unset, .unset, .unset] [(.ref b36)])
      refine Go.step (fun _ k => XS.iloadN X88.here hx rfl (hb hby at_232) rfl k) ?_
      show Go _ _ _ _ _ _ _ T88 (mkF m 233 #[.val (.int ia), .val (.int v1), .val (.int v2), .val (.int v3), .val (.int f4), .val (.int f5), .val (.int f6), .val (.int v7), .val (.ref b36), .val (.int (-1 : Int32)), .val (.int (-1 : Int32)), .val (.int (-1 : Int32)), .val (.int (v1 + (1 : Int32))), .val (.int (-1 : Int32)), .unset, .unset, .unset, .unset] [(.int v1), (.ref b36)])
      refine Go.step (fun _ k => XS.iconst X88.here hx rfl (hb hby at_233) k) ?_
      show Go _ _ _ _ _ _ _ T88 (mkF m 234 #[.val (.int ia), .val (.int v1), .val (.int v2), .val (.int v3), .val (.int f4), .val (.int f5), .val (.int f6), .val (.int v7), .val (.ref b36), .val (.int (-1 : Int32)), .val (.int (-1 : Int32)), .val (.int (-1 : Int32)), .val (.int (v1 + (1 : Int32))), .val (.int (-1 : Int32)), .unset, .unset, .unset, .unset] [(.int (2 : Int32)), (.int v1), (.ref b36)])
      refine Go.step (fun _ k => XS.iadd X88.here hx rfl (hb hby at_234) rfl k) ?_
      show Go _ _ _ _ _ _ _ T88 (mkF m 235 #[.val (.int ia), .val (.int v1), .val (.int v2), .val (.int v3), .val (.int f4), .val (.int f5), .val (.int f6), .val (.int v7), .val (.ref b36), .val (.int (-1 : Int32)), .val (.int (-1 : Int32)), .val (.int (-1 : Int32)), .val (.int (v1 + (1 : Int32))), .val (.int (-1 : Int32)), .unset, .unset, .unset, .unset] [(.int (v1 + (2 : Int32))), (.ref b36)])
      refine Go.step (fun _ k => XS.bipush X88.here hx rfl (hb hby at_235) k) ?_
      show Go _ _ _ _ _ _ _ T88 (mkF m 237 #[.val (.int ia), .val (.int v1), .val (.int v2), .val (.int v3), .val (.int f4), .val (.int f5), .val (.int f6), .val (.int v7), .val (.ref b36), .val (.int (-1 : Int32)), .val (.int (-1 : Int32)), .val (.int (-1 : Int32)), .val (.int (v1 + (1 : Int32))), .val (.int (-1 : Int32)), .unset, .unset, .unset, .unset] [(.int (47 : Int32)), (.int (v1 + (2 : Int32))), (.ref b36)])
      obtain ⟨cl90, Ar90, q90, S90, M90, H90, G90⟩ := id (V89)
      have hin90 : ¬ ((v1 + (2 : Int32)) < 0 ∨ cl90.slots.size ≤ ((v1 + (2 : Int32))).toNatClampNeg) := inb_of S90 ⟨(by have := rng32 v1; have : (2 : Int32).toInt = 2 := rfl; have := rng32 (v1 + (2 : Int32)); have := c_iadd v1 (2 : Int32); have : (0 : Int32).toInt = 0 := rfl; have : (20 : Int32).toInt = 20 := rfl; simp only [Int32.lt_iff_toInt_lt, Int32.le_iff_toInt_le, ← Int32.toInt_inj, Int64.lt_iff_toInt_lt, Int64.le_iff_toInt_le, ← Int64.toInt_inj]; omega), (by have := rng32 v1; have : (2 : Int32).toInt = 2 := rfl; have := rng32 (v1 + (2 : Int32)); have := c_iadd v1 (2 : Int32); have : (0 : Int32).toInt = 0 := rfl; have : (20 : Int32).toInt = 20 := rfl; simp only [Int32.lt_iff_toInt_lt, Int32.le_iff_toInt_le, ← Int32.toInt_inj, Int64.lt_iff_toInt_lt, Int64.le_iff_toInt_le, ← Int64.toInt_inj]; omega)⟩
      obtain ⟨T90, h90, X90, e90, W90, st90⟩ := stC X88 hx hZ e88 Ar90 (j := (v1 + (2 : Int32))) hin90 (g := (mkF m 237 #[.val (.int ia), .val (.int v1), .val (.int v2), .val (.int v3), .val (.int f4), .val (.int f5), .val (.int f6), .val (.int v7), .val (.ref b36), .val (.int (-1 : Int32)), .val (.int (-1 : Int32)), .val (.int (-1 : Int32)), .val (.int (v1 + (1 : Int32))), .val (.int (-1 : Int32)), .unset, .unset, .unset, .unset] [(.int (47 : Int32)), (.int (v1 + (2 : Int32))), (.ref b36)])) rfl rfl (hb hby at_237)
      refine Go.step st90 ?_
      have V90 : Arv Z h90 b36 k36 .char (20 : Int32) ((((cs0.set (v1).toNatClampNeg (nar .char (58 : Int32))).set ((v1 + (1 : Int32))).toNatClampNeg (nar .char (47 : Int32))).map Value.int).set ((v1 + (2 : Int32))).toNatClampNeg (.int (nar .char (47 : Int32)))) (.int (0 : Int32)) := Arv.set Ar90 q90 S90 M90 H90 G90 (fits_nar_char _) W90 ((v1 + (2 : Int32))).toNatClampNeg rfl (by rw [List.length_map, hl89]; exact own_tn (n := 20) (by have := rng32 v1; have : (2 : Int32).toInt = 2 := rfl; have := rng32 (v1 + (2 : Int32)); have := c_iadd v1 (2 : Int32); omega) (by have := rng32 v1; have : (2 : Int32).toInt = 2 := rfl; have := rng32 (v1 + (2 : Int32)); have := c_iadd v1 (2 : Int32); omega))
      have N90 := Fr.snoc X90 N88 g_b36
      have Z90 : n0 ≤ h90.size := Nat.le_trans Z88 (Keep.of_wr W90).1
      have V91 : Arv Z h90 b36 k36 .char (20 : Int32) ((((cs0.set (v1).toNatClampNeg (nar .char (58 : Int32))).set ((v1 + (1 : Int32))).toNatClampNeg (nar .char (47 : Int32))).set ((v1 + (2 : Int32))).toNatClampNeg (nar .char (47 : Int32))).map Value.int) (.int (0 : Int32)) := by rw [← own_mset]; exact V90
      have hl91 : (((cs0.set (v1).toNatClampNeg (nar .char (58 : Int32))).set ((v1 + (1 : Int32))).toNatClampNeg (nar .char (47 : Int32))).set ((v1 + (2 : Int32))).toNatClampNeg (nar .char (47 : Int32))).length = 20 := by rw [List.length_set]; exact hl89
      have hp91 : ∀ c ∈ (((cs0.set (v1).toNatClampNeg (nar .char (58 : Int32))).set ((v1 + (1 : Int32))).toNatClampNeg (nar .char (47 : Int32))).set ((v1 + (2 : Int32))).toNatClampNeg (nar .char (47 : Int32))), ¬ c < 0 ∧ ¬ (255 : Int32) < c := own_hset hp89 (by decide)
      show Go _ _ _ _ _ _ _ T90 (mkF m 238 #[.val (.int ia), .val (.int v1), .val (.int v2), .val (.int v3), .val (.int f4), .val (.int f5), .val (.int f6), .val (.int v7), .val (.ref b36), .val (.int (-1 : Int32)), .val (.int (-1 : Int32)), .val (.int (-1 : Int32)), .val (.int (v1 + (1 : Int32))), .val (.int (-1 : Int32)), .unset, .unset, .unset, .unset] [])
      refine Go.step (fun _ k => XS.iloadN X90.here hx rfl (hb hby at_238) rfl k) ?_
      show Go _ _ _ _ _ _ _ T90 (mkF m 239 #[.val (.int ia), .val (.int v1), .val (.int v2), .val (.int v3), .val (.int f4), .val (.int f5), .val (.int f6), .val (.int v7), .val (.ref b36), .val (.int (-1 : Int32)), .val (.int (-1 : Int32)), .val (.int (-1 : Int32)), .val (.int (v1 + (1 : Int32))), .val (.int (-1 : Int32)), .unset, .unset, .unset, .unset] [(.int v1)])
      refine Go.step (fun _ k => XS.iconst X90.here hx rfl (hb hby at_239) k) ?_
      show Go _ _ _ _ _ _ _ T90 (mkF m 240 #[.val (.int ia), .val (.int v1), .val (.int v2), .val (.int v3), .val (.int f4), .val (.int f5), .val (.int f6), .val (.int v7), .val (.ref b36), .val (.int (-1 : Int32)), .val (.int (-1 : Int32)), .val (.int (-1 : Int32)), .val (.int (v1 + (1 : Int32))), .val (.int (-1 : Int32)), .unset, .unset, .unset, .unset] [(.int (3 : Int32)), (.int v1)])
      refine Go.step (fun _ k => XS.iadd X90.here hx rfl (hb hby at_240) rfl k) ?_
      show Go _ _ _ _ _ _ _ T90 (mkF m 241 #[.val (.int ia), .val (.int v1), .val (.int v2), .val (.int v3), .val (.int f4), .val (.int f5), .val (.int f6), .val (.int v7), .val (.ref b36), .val (.int (-1 : Int32)), .val (.int (-1 : Int32)), .val (.int (-1 : Int32)), .val (.int (v1 + (1 : Int32))), .val (.int (-1 : Int32)), .unset, .unset, .unset, .unset] [(.int (v1 + (3 : Int32)))])
      refine Go.step (fun _ k => XS.istore X90.here hx rfl (hb hby at_241) rfl (l' := #[.val (.int ia), .val (.int v1), .val (.int v2), .val (.int v3), .val (.int f4), .val (.int f5), .val (.int f6), .val (.int v7), .val (.ref b36), .val (.int (v1 + (3 : Int32))), .val (.int (-1 : Int32)), .val (.int (-1 : Int32)), .val (.int (v1 + (1 : Int32))), .val (.int (-1 : Int32)), .unset, .unset, .unset, .unset]) rfl k) ?_
      show Go _ _ _ _ _ _ _ T90 (mkF m 243 #[.val (.int ia), .val (.int v1), .val (.int v2), .val (.int v3), .val (.int f4), .val (.int f5), .val (.int f6), .val (.int v7), .val (.ref b36), .val (.int (v1 + (3 : Int32))), .val (.int (-1 : Int32)), .val (.int (-1 : Int32)), .val (.int (v1 + (1 : Int32))), .val (.int (-1 : Int32)), .unset, .unset, .unset, .unset] [])
      refine Go.step (fun _ k => XS.iloadN X90.here hx rfl (hb hby at_243) rfl k) ?_
      show Go _ _ _ _ _ _ _ T90 (mkF m 244 #[.val (.int ia), .val (.int v1), .val (.int v2), .val (.int v3), .val (.int f4), .val (.int f5), .val (.int f6), .val (.int v7), .val (.ref b36), .val (.int (v1 + (3 : Int32))), .val (.int (-1 : Int32)), .val (.int (-1 : Int32)), .val (.int (v1 + (1 : Int32))), .val (.int (-1 : Int32)), .unset, .unset, .unset, .unset] [(.int v1)])
      refine Go.step (fun _ k => XS.iconst X90.here hx rfl (hb hby at_244) k) ?_
      show Go _ _ _ _ _ _ _ T90 (mkF m 245 #[.val (.int ia), .val (.int v1), .val (.int v2), .val (.int v3), .val (.int f4), .val (.int f5), .val (.int f6), .val (.int v7), .val (.ref b36), .val (.int (v1 + (3 : Int32))), .val (.int (-1 : Int32)), .val (.int (-1 : Int32)), .val (.int (v1 + (1 : Int32))), .val (.int (-1 : Int32)), .unset, .unset, .unset, .unset] [(.int (3 : Int32)), (.int v1)])
      refine Go.step (fun _ k => XS.iadd X90.here hx rfl (hb hby at_245) rfl k) ?_
      show Go _ _ _ _ _ _ _ T90 (mkF m 246 #[.val (.int ia), .val (.int v1), .val (.int v2), .val (.int v3), .val (.int f4), .val (.int f5), .val (.int f6), .val (.int v7), .val (.ref b36), .val (.int (v1 + (3 : Int32))), .val (.int (-1 : Int32)), .val (.int (-1 : Int32)), .val (.int (v1 + (1 : Int32))), .val (.int (-1 : Int32)), .unset, .unset, .unset, .unset] [(.int (v1 + (3 : Int32)))])
      refine Go.step (fun _ k => XS.iload X90.here hx rfl (hb hby at_246) rfl k) ?_
      show Go _ _ _ _ _ _ _ T90 (mkF m 248 #[.val (.int ia), .val (.int v1), .val (.int v2), .val (.int v3), .val (.int f4), .val (.int f5), .val (.int f6), .val (.int v7), .val (.ref b36), .val (.int (v1 + (3 : Int32))), .val (.int (-1 : Int32)), .val (.int (-1 : Int32)), .val (.int (v1 + (1 : Int32))), .val (.int (-1 : Int32)), .unset, .unset, .unset, .unset] [(.int f5), (.int (v1 + (3 : Int32)))])
      by_cases hc248_92 : f5 = (0 : Int32)
      · refine Go.step (fun _ k => XS.ifYes X90.here hx rfl (pc0 := 248) (pc' := 257) rfl (hb hby at_248) rfl ((if0 _ _).trans (teq hc248_92).1) (by decide) (by decide) k) ?_
        show Go _ _ _ _ _ _ _ T90 (mkF m 257 #[.val (.int ia), .val (.int v1), .val (.int v2), .val (.int v3), .val (.int f4), .val (.int f5), .val (.int f6), .val (.int v7), .val (.ref b36), .val (.int (v1 + (3 : Int32))), .val (.int (-1 : Int32)), .val (.int (-1 : Int32)), .val (.int (v1 + (1 : Int32))), .val (.int (-1 : Int32)), .unset, .unset, .unset, .unset] [(.int (v1 + (3 : Int32)))])
        refine Go.step (fun _ k => XS.iconst X90.here hx rfl (hb hby at_257) k) ?_
        show Go _ _ _ _ _ _ _ T90 (mkF m 258 #[.val (.int ia), .val (.int v1), .val (.int v2), .val (.int v3), .val (.int f4), .val (.int f5), .val (.int f6), .val (.int v7), .val (.ref b36), .val (.int (v1 + (3 : Int32))), .val (.int (-1 : Int32)), .val (.int (-1 : Int32)), .val (.int (v1 + (1 : Int32))), .val (.int (-1 : Int32)), .unset, .unset, .unset, .unset] [(.int (0 : Int32)), (.int (v1 + (3 : Int32)))])
        refine Go.step (fun _ k => XS.iadd X90.here hx rfl (hb hby at_258) rfl k) ?_
        show Go _ _ _ _ _ _ _ T90 (mkF m 259 #[.val (.int ia), .val (.int v1), .val (.int v2), .val (.int v3), .val (.int f4), .val (.int f5), .val (.int f6), .val (.int v7), .val (.ref b36), .val (.int (v1 + (3 : Int32))), .val (.int (-1 : Int32)), .val (.int (-1 : Int32)), .val (.int (v1 + (1 : Int32))), .val (.int (-1 : Int32)), .unset, .unset, .unset, .unset] [(.int ((v1 + (3 : Int32)) + (0 : Int32)))])
        refine Go.step (fun _ k => XS.istore X90.here hx rfl (hb hby at_259) rfl (l' := #[.val (.int ia), .val (.int v1), .val (.int v2), .val (.int v3), .val (.int f4), .val (.int f5), .val (.int f6), .val (.int v7), .val (.ref b36), .val (.int (v1 + (3 : Int32))), .val (.int (-1 : Int32)), .val (.int (-1 : Int32)), .val (.int (v1 + (1 : Int32))), .val (.int ((v1 + (3 : Int32)) + (0 : Int32))), .unset, .unset, .unset, .unset]) rfl k) ?_
        show Go _ _ _ _ _ _ _ T90 (mkF m 261 #[.val (.int ia), .val (.int v1), .val (.int v2), .val (.int v3), .val (.int f4), .val (.int f5), .val (.int f6), .val (.int v7), .val (.ref b36), .val (.int (v1 + (3 : Int32))), .val (.int (-1 : Int32)), .val (.int (-1 : Int32)), .val (.int (v1 + (1 : Int32))), .val (.int ((v1 + (3 : Int32)) + (0 : Int32))), .unset, .unset, .unset, .unset] [])
        refine Go.step (fun _ k => XS.iload X90.here hx rfl (hb hby at_261) rfl k) ?_
        show Go _ _ _ _ _ _ _ T90 (mkF m 263 #[.val (.int ia), .val (.int v1), .val (.int v2), .val (.int v3), .val (.int f4), .val (.int f5), .val (.int f6), .val (.int v7), .val (.ref b36), .val (.int (v1 + (3 : Int32))), .val (.int (-1 : Int32)), .val (.int (-1 : Int32)), .val (.int (v1 + (1 : Int32))), .val (.int ((v1 + (3 : Int32)) + (0 : Int32))), .unset, .unset, .unset, .unset] [(.int f5)])
        have hc263_93 : f5 = (0 : Int32) := hc248_92
        refine Go.step (fun _ k => XS.ifYes X90.here hx rfl (pc0 := 263) (pc' := 280) rfl (hb hby at_263) rfl ((if0 _ _).trans (teq hc263_93).1) (by decide) (by decide) k) ?_
        show Go _ _ _ _ _ _ _ T90 (mkF m 280 #[.val (.int ia), .val (.int v1), .val (.int v2), .val (.int v3), .val (.int f4), .val (.int f5), .val (.int f6), .val (.int v7), .val (.ref b36), .val (.int (v1 + (3 : Int32))), .val (.int (-1 : Int32)), .val (.int (-1 : Int32)), .val (.int (v1 + (1 : Int32))), .val (.int ((v1 + (3 : Int32)) + (0 : Int32))), .unset, .unset, .unset, .unset] [])
        refine Go.step (fun _ k => XS.iload X90.here hx rfl (hb hby at_280) rfl k) ?_
        show Go _ _ _ _ _ _ _ T90 (mkF m 282 #[.val (.int ia), .val (.int v1), .val (.int v2), .val (.int v3), .val (.int f4), .val (.int f5), .val (.int f6), .val (.int v7), .val (.ref b36), .val (.int (v1 + (3 : Int32))), .val (.int (-1 : Int32)), .val (.int (-1 : Int32)), .val (.int (v1 + (1 : Int32))), .val (.int ((v1 + (3 : Int32)) + (0 : Int32))), .unset, .unset, .unset, .unset] [(.int ((v1 + (3 : Int32)) + (0 : Int32)))])
        refine Go.step (fun _ k => XS.iloadN X90.here hx rfl (hb hby at_282) rfl k) ?_
        show Go _ _ _ _ _ _ _ T90 (mkF m 283 #[.val (.int ia), .val (.int v1), .val (.int v2), .val (.int v3), .val (.int f4), .val (.int f5), .val (.int f6), .val (.int v7), .val (.ref b36), .val (.int (v1 + (3 : Int32))), .val (.int (-1 : Int32)), .val (.int (-1 : Int32)), .val (.int (v1 + (1 : Int32))), .val (.int ((v1 + (3 : Int32)) + (0 : Int32))), .unset, .unset, .unset, .unset] [(.int v3), (.int ((v1 + (3 : Int32)) + (0 : Int32)))])
        refine Go.step (fun _ k => XS.iadd X90.here hx rfl (hb hby at_283) rfl k) ?_
        show Go _ _ _ _ _ _ _ T90 (mkF m 284 #[.val (.int ia), .val (.int v1), .val (.int v2), .val (.int v3), .val (.int f4), .val (.int f5), .val (.int f6), .val (.int v7), .val (.ref b36), .val (.int (v1 + (3 : Int32))), .val (.int (-1 : Int32)), .val (.int (-1 : Int32)), .val (.int (v1 + (1 : Int32))), .val (.int ((v1 + (3 : Int32)) + (0 : Int32))), .unset, .unset, .unset, .unset] [(.int (((v1 + (3 : Int32)) + (0 : Int32)) + v3))])
        refine Go.step (fun _ k => XS.istore X90.here hx rfl (hb hby at_284) rfl (l' := #[.val (.int ia), .val (.int v1), .val (.int v2), .val (.int v3), .val (.int f4), .val (.int f5), .val (.int f6), .val (.int v7), .val (.ref b36), .val (.int (v1 + (3 : Int32))), .val (.int (-1 : Int32)), .val (.int (-1 : Int32)), .val (.int (v1 + (1 : Int32))), .val (.int ((v1 + (3 : Int32)) + (0 : Int32))), .val (.int (((v1 + (3 : Int32)) + (0 : Int32)) + v3)), .unset, .unset, .unset]) rfl k) ?_
        show Go _ _ _ _ _ _ _ T90 (mkF m 286 #[.val (.int ia), .val (.int v1), .val (.int v2), .val (.int v3), .val (.int f4), .val (.int f5), .val (.int f6), .val (.int v7), .val (.ref b36), .val (.int (v1 + (3 : Int32))), .val (.int (-1 : Int32)), .val (.int (-1 : Int32)), .val (.int (v1 + (1 : Int32))), .val (.int ((v1 + (3 : Int32)) + (0 : Int32))), .val (.int (((v1 + (3 : Int32)) + (0 : Int32)) + v3)), .unset, .unset, .unset] [])
        refine Go.step (fun _ k => XS.iload X90.here hx rfl (hb hby at_286) rfl k) ?_
        show Go _ _ _ _ _ _ _ T90 (mkF m 288 #[.val (.int ia), .val (.int v1), .val (.int v2), .val (.int v3), .val (.int f4), .val (.int f5), .val (.int f6), .val (.int v7), .val (.ref b36), .val (.int (v1 + (3 : Int32))), .val (.int (-1 : Int32)), .val (.int (-1 : Int32)), .val (.int (v1 + (1 : Int32))), .val (.int ((v1 + (3 : Int32)) + (0 : Int32))), .val (.int (((v1 + (3 : Int32)) + (0 : Int32)) + v3)), .unset, .unset, .unset] [(.int (((v1 + (3 : Int32)) + (0 : Int32)) + v3))])
        refine Go.step (fun _ k => XS.istore X90.here hx rfl (hb hby at_288) rfl (l' := #[.val (.int ia), .val (.int v1), .val (.int v2), .val (.int v3), .val (.int f4), .val (.int f5), .val (.int f6), .val (.int v7), .val (.ref b36), .val (.int (v1 + (3 : Int32))), .val (.int (-1 : Int32)), .val (.int (-1 : Int32)), .val (.int (((v1 + (3 : Int32)) + (0 : Int32)) + v3)), .val (.int ((v1 + (3 : Int32)) + (0 : Int32))), .val (.int (((v1 + (3 : Int32)) + (0 : Int32)) + v3)), .unset, .unset, .unset]) rfl k) ?_
        show Go _ _ _ _ _ _ _ T90 (mkF m 290 #[.val (.int ia), .val (.int v1), .val (.int v2), .val (.int v3), .val (.int f4), .val (.int f5), .val (.int f6), .val (.int v7), .val (.ref b36), .val (.int (v1 + (3 : Int32))), .val (.int (-1 : Int32)), .val (.int (-1 : Int32)), .val (.int (((v1 + (3 : Int32)) + (0 : Int32)) + v3)), .val (.int ((v1 + (3 : Int32)) + (0 : Int32))), .val (.int (((v1 + (3 : Int32)) + (0 : Int32)) + v3)), .unset, .unset, .unset] [])
        refine Go.step (fun _ k => XS.iload X90.here hx rfl (hb hby at_290) rfl k) ?_
        show Go _ _ _ _ _ _ _ T90 (mkF m 292 #[.val (.int ia), .val (.int v1), .val (.int v2), .val (.int v3), .val (.int f4), .val (.int f5), .val (.int f6), .val (.int v7), .val (.ref b36), .val (.int (v1 + (3 : Int32))), .val (.int (-1 : Int32)), .val (.int (-1 : Int32)), .val (.int (((v1 + (3 : Int32)) + (0 : Int32)) + v3)), .val (.int ((v1 + (3 : Int32)) + (0 : Int32))), .val (.int (((v1 + (3 : Int32)) + (0 : Int32)) + v3)), .unset, .unset, .unset] [(.int f6)])
        by_cases hc292_94 : f6 = (0 : Int32)
        · refine Go.step (fun _ k => XS.ifYes X90.here hx rfl (pc0 := 292) (pc' := 315) rfl (hb hby at_292) rfl ((if0 _ _).trans (teq hc292_94).1) (by decide) (by decide) k) ?_
          show Go _ _ _ _ _ _ _ T90 (mkF m 315 #[.val (.int ia), .val (.int v1), .val (.int v2), .val (.int v3), .val (.int f4), .val (.int f5), .val (.int f6), .val (.int v7), .val (.ref b36), .val (.int (v1 + (3 : Int32))), .val (.int (-1 : Int32)), .val (.int (-1 : Int32)), .val (.int (((v1 + (3 : Int32)) + (0 : Int32)) + v3)), .val (.int ((v1 + (3 : Int32)) + (0 : Int32))), .val (.int (((v1 + (3 : Int32)) + (0 : Int32)) + v3)), .unset, .unset, .unset] [])
          have f95 : Old Z n0 h90 := ((((((((((((((((((((((((Oj.ext E36).wr W38 g_b36).wr W39 g_b36).wr W40 g_b36).wr W41 g_b36).wr W42 g_b36).wr W43 g_b36).wr W44 g_b36).wr W45 g_b36).wr W46 g_b36).wr W47 g_b36).wr W48 g_b36).wr W49 g_b36).wr W50 g_b36).wr W51 g_b36).wr W52 g_b36).wr W53 g_b36).wr W54 g_b36).wr W55 g_b36).wr W56 g_b36).wr W57 g_b36).wr W59 g_b36).wr W88 g_b36).wr W90 g_b36)
          exact K T90 h90 _ (((cs0.set (v1).toNatClampNeg (nar .char (58 : Int32))).set ((v1 + (1 : Int32))).toNatClampNeg (nar .char (47 : Int32))).set ((v1 + (2 : Int32))).toNatClampNeg (nar .char (47 : Int32))) (v1 + (3 : Int32)) (-1 : Int32) (-1 : Int32) (((v1 + (3 : Int32)) + (0 : Int32)) + v3) ((v1 + (3 : Int32)) + (0 : Int32)) (.val (.int (((v1 + (3 : Int32)) + (0 : Int32)) + v3))) (X90.more (by decide) (by decide)) e90 N90 Z90 V91 f95 hl91 hp91 (by have := rng32 v1; have : (3 : Int32).toInt = 3 := rfl; have := rng32 (v1 + (3 : Int32)); have := c_iadd v1 (3 : Int32); have : (0 : Int32).toInt = 0 := rfl; have := rng32 ((v1 + (3 : Int32)) + (0 : Int32)); have := c_iadd (v1 + (3 : Int32)) (0 : Int32); have := rng32 v3; have := rng32 (((v1 + (3 : Int32)) + (0 : Int32)) + v3); have := c_iadd ((v1 + (3 : Int32)) + (0 : Int32)) v3; omega) (Or.inr ⟨hc219_86, (by unfold own_hs; rw [if_neg (by have := rng32 v1; have : (3 : Int32).toInt = 3 := rfl; have := rng32 (v1 + (3 : Int32)); have := c_iadd v1 (3 : Int32); have : (-1 : Int32).toInt = -1 := rfl; simp only [Int32.lt_iff_toInt_lt, Int32.le_iff_toInt_le, ← Int32.toInt_inj, Int64.lt_iff_toInt_lt, Int64.le_iff_toInt_le, ← Int64.toInt_inj]; omega), if_pos rfl]; have := rng32 v1; have : (3 : Int32).toInt = 3 := rfl; have := rng32 (v1 + (3 : Int32)); have := c_iadd v1 (3 : Int32); have : (0 : Int32).toInt = 0 := rfl; have := rng32 ((v1 + (3 : Int32)) + (0 : Int32)); have := c_iadd (v1 + (3 : Int32)) (0 : Int32); simp only [Int32.lt_iff_toInt_lt, Int32.le_iff_toInt_le, ← Int32.toInt_inj, Int64.lt_iff_toInt_lt, Int64.le_iff_toInt_le, ← Int64.toInt_inj]; omega), (by have := rng32 v1; have : (3 : Int32).toInt = 3 := rfl; have := rng32 (v1 + (3 : Int32)); have := c_iadd v1 (3 : Int32); have : (0 : Int32).toInt = 0 := rfl; have := rng32 ((v1 + (3 : Int32)) + (0 : Int32)); have := c_iadd (v1 + (3 : Int32)) (0 : Int32); omega), (by have := rng32 v1; have : (3 : Int32).toInt = 3 := rfl; have := rng32 (v1 + (3 : Int32)); have := c_iadd v1 (3 : Int32); have : (0 : Int32).toInt = 0 := rfl; have := rng32 ((v1 + (3 : Int32)) + (0 : Int32)); have := c_iadd (v1 + (3 : Int32)) (0 : Int32); have := rng32 v3; have := rng32 (((v1 + (3 : Int32)) + (0 : Int32)) + v3); have := c_iadd ((v1 + (3 : Int32)) + (0 : Int32)) v3; omega), (by rw [show (((v1 + (3 : Int32)) + (0 : Int32)) - (1 : Int32)) = (v1 + (2 : Int32)) from (by have := rng32 v1; have : (3 : Int32).toInt = 3 := rfl; have := rng32 (v1 + (3 : Int32)); have := c_iadd v1 (3 : Int32); have : (0 : Int32).toInt = 0 := rfl; have := rng32 ((v1 + (3 : Int32)) + (0 : Int32)); have := c_iadd (v1 + (3 : Int32)) (0 : Int32); have : (1 : Int32).toInt = 1 := rfl; have := rng32 (((v1 + (3 : Int32)) + (0 : Int32)) - (1 : Int32)); have := c_isub ((v1 + (3 : Int32)) + (0 : Int32)) (1 : Int32); have : (2 : Int32).toInt = 2 := rfl; have := rng32 (v1 + (2 : Int32)); have := c_iadd v1 (2 : Int32); simp only [Int32.lt_iff_toInt_lt, Int32.le_iff_toInt_le, ← Int32.toInt_inj, Int64.lt_iff_toInt_lt, Int64.le_iff_toInt_le, ← Int64.toInt_inj]; omega), if_pos hc248_92]; exact (own_gI (by simp only [List.length_set, hl0]; exact own_tn (n := 20) (by have := rng32 v1; have : (2 : Int32).toInt = 2 := rfl; have := rng32 (v1 + (2 : Int32)); have := c_iadd v1 (2 : Int32); omega) (by have := rng32 v1; have : (2 : Int32).toInt = 2 := rfl; have := rng32 (v1 + (2 : Int32)); have := c_iadd v1 (2 : Int32); omega))))⟩) (One.val rfl)
        · refine Go.step (fun _ k => XS.ifNo X90.here hx rfl (hb hby at_292) rfl ((if0 _ _).trans (feq hc292_94).1) k) ?_
          show Go _ _ _ _ _ _ _ T90 (mkF m 295 #[.val (.int ia), .val (.int v1), .val (.int v2), .val (.int v3), .val (.int f4), .val (.int f5), .val (.int f6), .val (.int v7), .val (.ref b36), .val (.int (v1 + (3 : Int32))), .val (.int (-1 : Int32)), .val (.int (-1 : Int32)), .val (.int (((v1 + (3 : Int32)) + (0 : Int32)) + v3)), .val (.int ((v1 + (3 : Int32)) + (0 : Int32))), .val (.int (((v1 + (3 : Int32)) + (0 : Int32)) + v3)), .unset, .unset, .unset] [])
          refine Go.step (fun _ k => XS.aload X90.here hx rfl (hb hby at_295) rfl rfl k) ?_
          show Go _ _ _ _ _ _ _ T90 (mkF m 297 #[.val (.int ia), .val (.int v1), .val (.int v2), .val (.int v3), .val (.int f4), .val (.int f5), .val (.int f6), .val (.int v7), .val (.ref b36), .val (.int (v1 + (3 : Int32))), .val (.int (-1 : Int32)), .val (.int (-1 : Int32)), .val (.int (((v1 + (3 : Int32)) + (0 : Int32)) + v3)), .val (.int ((v1 + (3 : Int32)) + (0 : Int32))), .val (.int (((v1 + (3 : Int32)) + (0 : Int32)) + v3)), .unset, .unset, .unset] [(.ref b36)])
          refine Go.step (fun _ k => XS.iload X90.here hx rfl (hb hby at_297) rfl k) ?_
          show Go _ _ _ _ _ _ _ T90 (mkF m 299 #[.val (.int ia), .val (.int v1), .val (.int v2), .val (.int v3), .val (.int f4), .val (.int f5), .val (.int f6), .val (.int v7), .val (.ref b36), .val (.int (v1 + (3 : Int32))), .val (.int (-1 : Int32)), .val (.int (-1 : Int32)), .val (.int (((v1 + (3 : Int32)) + (0 : Int32)) + v3)), .val (.int ((v1 + (3 : Int32)) + (0 : Int32))), .val (.int (((v1 + (3 : Int32)) + (0 : Int32)) + v3)), .unset, .unset, .unset] [(.int (((v1 + (3 : Int32)) + (0 : Int32)) + v3)), (.ref b36)])
          refine Go.step (fun _ k => XS.bipush X90.here hx rfl (hb hby at_299) k) ?_
          show Go _ _ _ _ _ _ _ T90 (mkF m 301 #[.val (.int ia), .val (.int v1), .val (.int v2), .val (.int v3), .val (.int f4), .val (.int f5), .val (.int f6), .val (.int v7), .val (.ref b36), .val (.int (v1 + (3 : Int32))), .val (.int (-1 : Int32)), .val (.int (-1 : Int32)), .val (.int (((v1 + (3 : Int32)) + (0 : Int32)) + v3)), .val (.int ((v1 + (3 : Int32)) + (0 : Int32))), .val (.int (((v1 + (3 : Int32)) + (0 : Int32)) + v3)), .unset, .unset, .unset] [(.int (58 : Int32)), (.int (((v1 + (3 : Int32)) + (0 : Int32)) + v3)), (.ref b36)])
          obtain ⟨cl96, Ar96, q96, S96, M96, H96, G96⟩ := id (V91)
          have hin96 : ¬ ((((v1 + (3 : Int32)) + (0 : Int32)) + v3) < 0 ∨ cl96.slots.size ≤ ((((v1 + (3 : Int32)) + (0 : Int32)) + v3)).toNatClampNeg) := inb_of S96 ⟨(by have := rng32 v1; have : (3 : Int32).toInt = 3 := rfl; have := rng32 (v1 + (3 : Int32)); have := c_iadd v1 (3 : Int32); have : (0 : Int32).toInt = 0 := rfl; have := rng32 ((v1 + (3 : Int32)) + (0 : Int32)); have := c_iadd (v1 + (3 : Int32)) (0 : Int32); have := rng32 v3; have := rng32 (((v1 + (3 : Int32)) + (0 : Int32)) + v3); have := c_iadd ((v1 + (3 : Int32)) + (0 : Int32)) v3; have : (20 : Int32).toInt = 20 := rfl; simp only [Int32.lt_iff_toInt_lt, Int32.le_iff_toInt_le, ← Int32.toInt_inj, Int64.lt_iff_toInt_lt, Int64.le_iff_toInt_le, ← Int64.toInt_inj]; omega), (by have := rng32 v1; have : (3 : Int32).toInt = 3 := rfl; have := rng32 (v1 + (3 : Int32)); have := c_iadd v1 (3 : Int32); have : (0 : Int32).toInt = 0 := rfl; have := rng32 ((v1 + (3 : Int32)) + (0 : Int32)); have := c_iadd (v1 + (3 : Int32)) (0 : Int32); have := rng32 v3; have := rng32 (((v1 + (3 : Int32)) + (0 : Int32)) + v3); have := c_iadd ((v1 + (3 : Int32)) + (0 : Int32)) v3; have : (20 : Int32).toInt = 20 := rfl; simp only [Int32.lt_iff_toInt_lt, Int32.le_iff_toInt_le, ← Int32.toInt_inj, Int64.lt_iff_toInt_lt, Int64.le_iff_toInt_le, ← Int64.toInt_inj]; omega)⟩
          obtain ⟨T96, h96, X96, e96, W96, st96⟩ := stC X90 hx hZ e90 Ar96 (j := (((v1 + (3 : Int32)) + (0 : Int32)) + v3)) hin96 (g := (mkF m 301 #[.val (.int ia), .val (.int v1), .val (.int v2), .val (.int v3), .val (.int f4), .val (.int f5), .val (.int f6), .val (.int v7), .val (.ref b36), .val (.int (v1 + (3 : Int32))), .val (.int (-1 : Int32)), .val (.int (-1 : Int32)), .val (.int (((v1 + (3 : Int32)) + (0 : Int32)) + v3)), .val (.int ((v1 + (3 : Int32)) + (0 : Int32))), .val (.int (((v1 + (3 : Int32)) + (0 : Int32)) + v3)), .unset, .unset, .unset] [(.int (58 : Int32)), (.int (((v1 + (3 : Int32)) + (0 : Int32)) + v3)), (.ref b36)])) rfl rfl (hb hby at_301)
          refine Go.step st96 ?_
          have V96 : Arv Z h96 b36 k36 .char (20 : Int32) (((((cs0.set (v1).toNatClampNeg (nar .char (58 : Int32))).set ((v1 + (1 : Int32))).toNatClampNeg (nar .char (47 : Int32))).set ((v1 + (2 : Int32))).toNatClampNeg (nar .char (47 : Int32))).map Value.int).set ((((v1 + (3 : Int32)) + (0 : Int32)) + v3)).toNatClampNeg (.int (nar .char (58 : Int32)))) (.int (0 : Int32)) := Arv.set Ar96 q96 S96 M96 H96 G96 (fits_nar_char _) W96 ((((v1 + (3 : Int32)) + (0 : Int32)) + v3)).toNatClampNeg rfl (by rw [List.length_map, hl91]; exact own_tn (n := 20) (by have := rng32 v1; have : (3 : Int32).toInt = 3 := rfl; have := rng32 (v1 + (3 : Int32)); have := c_iadd v1 (3 : Int32); have : (0 : Int32).toInt = 0 := rfl; have := rng32 ((v1 + (3 : Int32)) + (0 : Int32)); have := c_iadd (v1 + (3 : Int32)) (0 : Int32); have := rng32 v3; have := rng32 (((v1 + (3 : Int32)) + (0 : Int32)) + v3); have := c_iadd ((v1 + (3 : Int32)) + (0 : Int32)) v3; omega) (by have := rng32 v1; have : (3 : Int32).toInt = 3 := rfl; have := rng32 (v1 + (3 : Int32)); have := c_iadd v1 (3 : Int32); have : (0 : Int32).toInt = 0 := rfl; have := rng32 ((v1 + (3 : Int32)) + (0 : Int32)); have := c_iadd (v1 + (3 : Int32)) (0 : Int32); have := rng32 v3; have := rng32 (((v1 + (3 : Int32)) + (0 : Int32)) + v3); have := c_iadd ((v1 + (3 : Int32)) + (0 : Int32)) v3; omega))
          have N96 := Fr.snoc X96 N90 g_b36
          have Z96 : n0 ≤ h96.size := Nat.le_trans Z90 (Keep.of_wr W96).1
          have V97 : Arv Z h96 b36 k36 .char (20 : Int32) (((((cs0.set (v1).toNatClampNeg (nar .char (58 : Int32))).set ((v1 + (1 : Int32))).toNatClampNeg (nar .char (47 : Int32))).set ((v1 + (2 : Int32))).toNatClampNeg (nar .char (47 : Int32))).set ((((v1 + (3 : Int32)) + (0 : Int32)) + v3)).toNatClampNeg (nar .char (58 : Int32))).map Value.int) (.int (0 : Int32)) := by rw [← own_mset]; exact V96
          have hl97 : ((((cs0.set (v1).toNatClampNeg (nar .char (58 : Int32))).set ((v1 + (1 : Int32))).toNatClampNeg (nar .char (47 : Int32))).set ((v1 + (2 : Int32))).toNatClampNeg (nar .char (47 : Int32))).set ((((v1 + (3 : Int32)) + (0 : Int32)) + v3)).toNatClampNeg (nar .char (58 : Int32))).length = 20 := by rw [List.length_set]; exact hl91
          have hp97 : ∀ c ∈ ((((cs0.set (v1).toNatClampNeg (nar .char (58 : Int32))).set ((v1 + (1 : Int32))).toNatClampNeg (nar .char (47 : Int32))).set ((v1 + (2 : Int32))).toNatClampNeg (nar .char (47 : Int32))).set ((((v1 + (3 : Int32)) + (0 : Int32)) + v3)).toNatClampNeg (nar .char (58 : Int32))), ¬ c < 0 ∧ ¬ (255 : Int32) < c := own_hset hp91 (by decide)
          show Go _ _ _ _ _ _ _ T96 (mkF m 302 #[.val (.int ia), .val (.int v1), .val (.int v2), .val (.int v3), .val (.int f4), .val (.int f5), .val (.int f6), .val (.int v7), .val (.ref b36), .val (.int (v1 + (3 : Int32))), .val (.int (-1 : Int32)), .val (.int (-1 : Int32)), .val (.int (((v1 + (3 : Int32)) + (0 : Int32)) + v3)), .val (.int ((v1 + (3 : Int32)) + (0 : Int32))), .val (.int (((v1 + (3 : Int32)) + (0 : Int32)) + v3)), .unset, .unset, .unset] [])
          refine Go.step (fun _ k => XS.iload X96.here hx rfl (hb hby at_302) rfl k) ?_
          show Go _ _ _ _ _ _ _ T96 (mkF m 304 #[.val (.int ia), .val (.int v1), .val (.int v2), .val (.int v3), .val (.int f4), .val (.int f5), .val (.int f6), .val (.int v7), .val (.ref b36), .val (.int (v1 + (3 : Int32))), .val (.int (-1 : Int32)), .val (.int (-1 : Int32)), .val (.int (((v1 + (3 : Int32)) + (0 : Int32)) + v3)), .val (.int ((v1 + (3 : Int32)) + (0 : Int32))), .val (.int (((v1 + (3 : Int32)) + (0 : Int32)) + v3)), .unset, .unset, .unset] [(.int (((v1 + (3 : Int32)) + (0 : Int32)) + v3))])
          refine Go.step (fun _ k => XS.iconst X96.here hx rfl (hb hby at_304) k) ?_
          show Go _ _ _ _ _ _ _ T96 (mkF m 305 #[.val (.int ia), .val (.int v1), .val (.int v2), .val (.int v3), .val (.int f4), .val (.int f5), .val (.int f6), .val (.int v7), .val (.ref b36), .val (.int (v1 + (3 : Int32))), .val (.int (-1 : Int32)), .val (.int (-1 : Int32)), .val (.int (((v1 + (3 : Int32)) + (0 : Int32)) + v3)), .val (.int ((v1 + (3 : Int32)) + (0 : Int32))), .val (.int (((v1 + (3 : Int32)) + (0 : Int32)) + v3)), .unset, .unset, .unset] [(.int (1 : Int32)), (.int (((v1 + (3 : Int32)) + (0 : Int32)) + v3))])
          refine Go.step (fun _ k => XS.iadd X96.here hx rfl (hb hby at_305) rfl k) ?_
          show Go _ _ _ _ _ _ _ T96 (mkF m 306 #[.val (.int ia), .val (.int v1), .val (.int v2), .val (.int v3), .val (.int f4), .val (.int f5), .val (.int f6), .val (.int v7), .val (.ref b36), .val (.int (v1 + (3 : Int32))), .val (.int (-1 : Int32)), .val (.int (-1 : Int32)), .val (.int (((v1 + (3 : Int32)) + (0 : Int32)) + v3)), .val (.int ((v1 + (3 : Int32)) + (0 : Int32))), .val (.int (((v1 + (3 : Int32)) + (0 : Int32)) + v3)), .unset, .unset, .unset] [(.int ((((v1 + (3 : Int32)) + (0 : Int32)) + v3) + (1 : Int32)))])
          refine Go.step (fun _ k => XS.istore X96.here hx rfl (hb hby at_306) rfl (l' := #[.val (.int ia), .val (.int v1), .val (.int v2), .val (.int v3), .val (.int f4), .val (.int f5), .val (.int f6), .val (.int v7), .val (.ref b36), .val (.int (v1 + (3 : Int32))), .val (.int (-1 : Int32)), .val (.int ((((v1 + (3 : Int32)) + (0 : Int32)) + v3) + (1 : Int32))), .val (.int (((v1 + (3 : Int32)) + (0 : Int32)) + v3)), .val (.int ((v1 + (3 : Int32)) + (0 : Int32))), .val (.int (((v1 + (3 : Int32)) + (0 : Int32)) + v3)), .unset, .unset, .unset]) rfl k) ?_
          show Go _ _ _ _ _ _ _ T96 (mkF m 308 #[.val (.int ia), .val (.int v1), .val (.int v2), .val (.int v3), .val (.int f4), .val (.int f5), .val (.int f6), .val (.int v7), .val (.ref b36), .val (.int (v1 + (3 : Int32))), .val (.int (-1 : Int32)), .val (.int ((((v1 + (3 : Int32)) + (0 : Int32)) + v3) + (1 : Int32))), .val (.int (((v1 + (3 : Int32)) + (0 : Int32)) + v3)), .val (.int ((v1 + (3 : Int32)) + (0 : Int32))), .val (.int (((v1 + (3 : Int32)) + (0 : Int32)) + v3)), .unset, .unset, .unset] [])
          refine Go.step (fun _ k => XS.iload X96.here hx rfl (hb hby at_308) rfl k) ?_
          show Go _ _ _ _ _ _ _ T96 (mkF m 310 #[.val (.int ia), .val (.int v1), .val (.int v2), .val (.int v3), .val (.int f4), .val (.int f5), .val (.int f6), .val (.int v7), .val (.ref b36), .val (.int (v1 + (3 : Int32))), .val (.int (-1 : Int32)), .val (.int ((((v1 + (3 : Int32)) + (0 : Int32)) + v3) + (1 : Int32))), .val (.int (((v1 + (3 : Int32)) + (0 : Int32)) + v3)), .val (.int ((v1 + (3 : Int32)) + (0 : Int32))), .val (.int (((v1 + (3 : Int32)) + (0 : Int32)) + v3)), .unset, .unset, .unset] [(.int ((((v1 + (3 : Int32)) + (0 : Int32)) + v3) + (1 : Int32)))])
          refine Go.step (fun _ k => XS.iload X96.here hx rfl (hb hby at_310) rfl k) ?_
          show Go _ _ _ _ _ _ _ T96 (mkF m 312 #[.val (.int ia), .val (.int v1), .val (.int v2), .val (.int v3), .val (.int f4), .val (.int f5), .val (.int f6), .val (.int v7), .val (.ref b36), .val (.int (v1 + (3 : Int32))), .val (.int (-1 : Int32)), .val (.int ((((v1 + (3 : Int32)) + (0 : Int32)) + v3) + (1 : Int32))), .val (.int (((v1 + (3 : Int32)) + (0 : Int32)) + v3)), .val (.int ((v1 + (3 : Int32)) + (0 : Int32))), .val (.int (((v1 + (3 : Int32)) + (0 : Int32)) + v3)), .unset, .unset, .unset] [(.int v7), (.int ((((v1 + (3 : Int32)) + (0 : Int32)) + v3) + (1 : Int32)))])
          refine Go.step (fun _ k => XS.iadd X96.here hx rfl (hb hby at_312) rfl k) ?_
          show Go _ _ _ _ _ _ _ T96 (mkF m 313 #[.val (.int ia), .val (.int v1), .val (.int v2), .val (.int v3), .val (.int f4), .val (.int f5), .val (.int f6), .val (.int v7), .val (.ref b36), .val (.int (v1 + (3 : Int32))), .val (.int (-1 : Int32)), .val (.int ((((v1 + (3 : Int32)) + (0 : Int32)) + v3) + (1 : Int32))), .val (.int (((v1 + (3 : Int32)) + (0 : Int32)) + v3)), .val (.int ((v1 + (3 : Int32)) + (0 : Int32))), .val (.int (((v1 + (3 : Int32)) + (0 : Int32)) + v3)), .unset, .unset, .unset] [(.int (((((v1 + (3 : Int32)) + (0 : Int32)) + v3) + (1 : Int32)) + v7))])
          refine Go.step (fun _ k => XS.istore X96.here hx rfl (hb hby at_313) rfl (l' := #[.val (.int ia), .val (.int v1), .val (.int v2), .val (.int v3), .val (.int f4), .val (.int f5), .val (.int f6), .val (.int v7), .val (.ref b36), .val (.int (v1 + (3 : Int32))), .val (.int (-1 : Int32)), .val (.int ((((v1 + (3 : Int32)) + (0 : Int32)) + v3) + (1 : Int32))), .val (.int (((((v1 + (3 : Int32)) + (0 : Int32)) + v3) + (1 : Int32)) + v7)), .val (.int ((v1 + (3 : Int32)) + (0 : Int32))), .val (.int (((v1 + (3 : Int32)) + (0 : Int32)) + v3)), .unset, .unset, .unset]) rfl k) ?_
          show Go _ _ _ _ _ _ _ T96 (mkF m 315 #[.val (.int ia), .val (.int v1), .val (.int v2), .val (.int v3), .val (.int f4), .val (.int f5), .val (.int f6), .val (.int v7), .val (.ref b36), .val (.int (v1 + (3 : Int32))), .val (.int (-1 : Int32)), .val (.int ((((v1 + (3 : Int32)) + (0 : Int32)) + v3) + (1 : Int32))), .val (.int (((((v1 + (3 : Int32)) + (0 : Int32)) + v3) + (1 : Int32)) + v7)), .val (.int ((v1 + (3 : Int32)) + (0 : Int32))), .val (.int (((v1 + (3 : Int32)) + (0 : Int32)) + v3)), .unset, .unset, .unset] [])
          have f98 : Old Z n0 h96 := (((((((((((((((((((((((((Oj.ext E36).wr W38 g_b36).wr W39 g_b36).wr W40 g_b36).wr W41 g_b36).wr W42 g_b36).wr W43 g_b36).wr W44 g_b36).wr W45 g_b36).wr W46 g_b36).wr W47 g_b36).wr W48 g_b36).wr W49 g_b36).wr W50 g_b36).wr W51 g_b36).wr W52 g_b36).wr W53 g_b36).wr W54 g_b36).wr W55 g_b36).wr W56 g_b36).wr W57 g_b36).wr W59 g_b36).wr W88 g_b36).wr W90 g_b36).wr W96 g_b36)
          exact K T96 h96 _ ((((cs0.set (v1).toNatClampNeg (nar .char (58 : Int32))).set ((v1 + (1 : Int32))).toNatClampNeg (nar .char (47 : Int32))).set ((v1 + (2 : Int32))).toNatClampNeg (nar .char (47 : Int32))).set ((((v1 + (3 : Int32)) + (0 : Int32)) + v3)).toNatClampNeg (nar .char (58 : Int32))) (v1 + (3 : Int32)) (-1 : Int32) ((((v1 + (3 : Int32)) + (0 : Int32)) + v3) + (1 : Int32)) (((((v1 + (3 : Int32)) + (0 : Int32)) + v3) + (1 : Int32)) + v7) ((v1 + (3 : Int32)) + (0 : Int32)) (.val (.int (((v1 + (3 : Int32)) + (0 : Int32)) + v3))) (X96.more (by decide) (by decide)) e96 N96 Z96 V97 f98 hl97 hp97 (by have := rng32 v1; have : (3 : Int32).toInt = 3 := rfl; have := rng32 (v1 + (3 : Int32)); have := c_iadd v1 (3 : Int32); have : (0 : Int32).toInt = 0 := rfl; have := rng32 ((v1 + (3 : Int32)) + (0 : Int32)); have := c_iadd (v1 + (3 : Int32)) (0 : Int32); have := rng32 v3; have := rng32 (((v1 + (3 : Int32)) + (0 : Int32)) + v3); have := c_iadd ((v1 + (3 : Int32)) + (0 : Int32)) v3; have : (1 : Int32).toInt = 1 := rfl; have := rng32 ((((v1 + (3 : Int32)) + (0 : Int32)) + v3) + (1 : Int32)); have := c_iadd (((v1 + (3 : Int32)) + (0 : Int32)) + v3) (1 : Int32); have := rng32 v7; have := rng32 (((((v1 + (3 : Int32)) + (0 : Int32)) + v3) + (1 : Int32)) + v7); have := c_iadd ((((v1 + (3 : Int32)) + (0 : Int32)) + v3) + (1 : Int32)) v7; omega) (Or.inr ⟨hc219_86, (by unfold own_hs; rw [if_neg (by have := rng32 v1; have : (3 : Int32).toInt = 3 := rfl; have := rng32 (v1 + (3 : Int32)); have := c_iadd v1 (3 : Int32); have : (-1 : Int32).toInt = -1 := rfl; simp only [Int32.lt_iff_toInt_lt, Int32.le_iff_toInt_le, ← Int32.toInt_inj, Int64.lt_iff_toInt_lt, Int64.le_iff_toInt_le, ← Int64.toInt_inj]; omega), if_pos rfl]; have := rng32 v1; have : (3 : Int32).toInt = 3 := rfl; have := rng32 (v1 + (3 : Int32)); have := c_iadd v1 (3 : Int32); have : (0 : Int32).toInt = 0 := rfl; have := rng32 ((v1 + (3 : Int32)) + (0 : Int32)); have := c_iadd (v1 + (3 : Int32)) (0 : Int32); simp only [Int32.lt_iff_toInt_lt, Int32.le_iff_toInt_le, ← Int32.toInt_inj, Int64.lt_iff_toInt_lt, Int64.le_iff_toInt_le, ← Int64.toInt_inj]; omega), (by have := rng32 v1; have : (3 : Int32).toInt = 3 := rfl; have := rng32 (v1 + (3 : Int32)); have := c_iadd v1 (3 : Int32); have : (0 : Int32).toInt = 0 := rfl; have := rng32 ((v1 + (3 : Int32)) + (0 : Int32)); have := c_iadd (v1 + (3 : Int32)) (0 : Int32); omega), (by have := rng32 v1; have : (3 : Int32).toInt = 3 := rfl; have := rng32 (v1 + (3 : Int32)); have := c_iadd v1 (3 : Int32); have : (0 : Int32).toInt = 0 := rfl; have := rng32 ((v1 + (3 : Int32)) + (0 : Int32)); have := c_iadd (v1 + (3 : Int32)) (0 : Int32); have := rng32 v3; have := rng32 (((v1 + (3 : Int32)) + (0 : Int32)) + v3); have := c_iadd ((v1 + (3 : Int32)) + (0 : Int32)) v3; have : (1 : Int32).toInt = 1 := rfl; have := rng32 ((((v1 + (3 : Int32)) + (0 : Int32)) + v3) + (1 : Int32)); have := c_iadd (((v1 + (3 : Int32)) + (0 : Int32)) + v3) (1 : Int32); have := rng32 v7; have := rng32 (((((v1 + (3 : Int32)) + (0 : Int32)) + v3) + (1 : Int32)) + v7); have := c_iadd ((((v1 + (3 : Int32)) + (0 : Int32)) + v3) + (1 : Int32)) v7; omega), (by rw [show (((v1 + (3 : Int32)) + (0 : Int32)) - (1 : Int32)) = (v1 + (2 : Int32)) from (by have := rng32 v1; have : (3 : Int32).toInt = 3 := rfl; have := rng32 (v1 + (3 : Int32)); have := c_iadd v1 (3 : Int32); have : (0 : Int32).toInt = 0 := rfl; have := rng32 ((v1 + (3 : Int32)) + (0 : Int32)); have := c_iadd (v1 + (3 : Int32)) (0 : Int32); have : (1 : Int32).toInt = 1 := rfl; have := rng32 (((v1 + (3 : Int32)) + (0 : Int32)) - (1 : Int32)); have := c_isub ((v1 + (3 : Int32)) + (0 : Int32)) (1 : Int32); have : (2 : Int32).toInt = 2 := rfl; have := rng32 (v1 + (2 : Int32)); have := c_iadd v1 (2 : Int32); simp only [Int32.lt_iff_toInt_lt, Int32.le_iff_toInt_le, ← Int32.toInt_inj, Int64.lt_iff_toInt_lt, Int64.le_iff_toInt_le, ← Int64.toInt_inj]; omega), if_pos hc248_92]; exact ((own_nI (own_tne (by have := rng32 v1; have : (3 : Int32).toInt = 3 := rfl; have := rng32 (v1 + (3 : Int32)); have := c_iadd v1 (3 : Int32); have : (0 : Int32).toInt = 0 := rfl; have := rng32 ((v1 + (3 : Int32)) + (0 : Int32)); have := c_iadd (v1 + (3 : Int32)) (0 : Int32); have := rng32 v3; have := rng32 (((v1 + (3 : Int32)) + (0 : Int32)) + v3); have := c_iadd ((v1 + (3 : Int32)) + (0 : Int32)) v3; omega) (by have := rng32 v1; have : (2 : Int32).toInt = 2 := rfl; have := rng32 (v1 + (2 : Int32)); have := c_iadd v1 (2 : Int32); omega) (by have := rng32 v1; have : (3 : Int32).toInt = 3 := rfl; have := rng32 (v1 + (3 : Int32)); have := c_iadd v1 (3 : Int32); have : (0 : Int32).toInt = 0 := rfl; have := rng32 ((v1 + (3 : Int32)) + (0 : Int32)); have := c_iadd (v1 + (3 : Int32)) (0 : Int32); have := rng32 v3; have := rng32 (((v1 + (3 : Int32)) + (0 : Int32)) + v3); have := c_iadd ((v1 + (3 : Int32)) + (0 : Int32)) v3; have : (2 : Int32).toInt = 2 := rfl; have := rng32 (v1 + (2 : Int32)); have := c_iadd v1 (2 : Int32); omega))).trans (own_gI (by simp only [List.length_set, hl0]; exact own_tn (n := 20) (by have := rng32 v1; have : (2 : Int32).toInt = 2 := rfl; have := rng32 (v1 + (2 : Int32)); have := c_iadd v1 (2 : Int32); omega) (by have := rng32 v1; have : (2 : Int32).toInt = 2 := rfl; have := rng32 (v1 + (2 : Int32)); have := c_iadd v1 (2 : Int32); omega)))))⟩) (One.val rfl)
      · refine Go.step (fun _ k => XS.ifNo X90.here hx rfl (hb hby at_248) rfl ((if0 _ _).trans (feq hc248_92).1) k) ?_
        show Go _ _ _ _ _ _ _ T90 (mkF m 251 #[.val (.int ia), .val (.int v1), .val (.int v2), .val (.int v3), .val (.int f4), .val (.int f5), .val (.int f6), .val (.int v7), .val (.ref b36), .val (.int (v1 + (3 : Int32))), .val (.int (-1 : Int32)), .val (.int (-1 : Int32)), .val (.int (v1 + (1 : Int32))), .val (.int (-1 : Int32)), .unset, .unset, .unset, .unset] [(.int (v1 + (3 : Int32)))])
        refine Go.step (fun _ k => XS.iloadN X90.here hx rfl (hb hby at_251) rfl k) ?_
        show Go _ _ _ _ _ _ _ T90 (mkF m 252 #[.val (.int ia), .val (.int v1), .val (.int v2), .val (.int v3), .val (.int f4), .val (.int f5), .val (.int f6), .val (.int v7), .val (.ref b36), .val (.int (v1 + (3 : Int32))), .val (.int (-1 : Int32)), .val (.int (-1 : Int32)), .val (.int (v1 + (1 : Int32))), .val (.int (-1 : Int32)), .unset, .unset, .unset, .unset] [(.int v2), (.int (v1 + (3 : Int32)))])
        refine Go.step (fun _ k => XS.iconst X90.here hx rfl (hb hby at_252) k) ?_
        show Go _ _ _ _ _ _ _ T90 (mkF m 253 #[.val (.int ia), .val (.int v1), .val (.int v2), .val (.int v3), .val (.int f4), .val (.int f5), .val (.int f6), .val (.int v7), .val (.ref b36), .val (.int (v1 + (3 : Int32))), .val (.int (-1 : Int32)), .val (.int (-1 : Int32)), .val (.int (v1 + (1 : Int32))), .val (.int (-1 : Int32)), .unset, .unset, .unset, .unset] [(.int (1 : Int32)), (.int v2), (.int (v1 + (3 : Int32)))])
        refine Go.step (fun _ k => XS.iadd X90.here hx rfl (hb hby at_253) rfl k) ?_
        show Go _ _ _ _ _ _ _ T90 (mkF m 254 #[.val (.int ia), .val (.int v1), .val (.int v2), .val (.int v3), .val (.int f4), .val (.int f5), .val (.int f6), .val (.int v7), .val (.ref b36), .val (.int (v1 + (3 : Int32))), .val (.int (-1 : Int32)), .val (.int (-1 : Int32)), .val (.int (v1 + (1 : Int32))), .val (.int (-1 : Int32)), .unset, .unset, .unset, .unset] [(.int (v2 + (1 : Int32))), (.int (v1 + (3 : Int32)))])
        refine Go.step (fun _ k => XS.goto X90.here hx rfl (pc0 := 254) (pc' := 258) rfl (hb hby at_254) (by decide) (by decide) k) ?_
        show Go _ _ _ _ _ _ _ T90 (mkF m 258 #[.val (.int ia), .val (.int v1), .val (.int v2), .val (.int v3), .val (.int f4), .val (.int f5), .val (.int f6), .val (.int v7), .val (.ref b36), .val (.int (v1 + (3 : Int32))), .val (.int (-1 : Int32)), .val (.int (-1 : Int32)), .val (.int (v1 + (1 : Int32))), .val (.int (-1 : Int32)), .unset, .unset, .unset, .unset] [(.int (v2 + (1 : Int32))), (.int (v1 + (3 : Int32)))])
        refine Go.step (fun _ k => XS.iadd X90.here hx rfl (hb hby at_258) rfl k) ?_
        show Go _ _ _ _ _ _ _ T90 (mkF m 259 #[.val (.int ia), .val (.int v1), .val (.int v2), .val (.int v3), .val (.int f4), .val (.int f5), .val (.int f6), .val (.int v7), .val (.ref b36), .val (.int (v1 + (3 : Int32))), .val (.int (-1 : Int32)), .val (.int (-1 : Int32)), .val (.int (v1 + (1 : Int32))), .val (.int (-1 : Int32)), .unset, .unset, .unset, .unset] [(.int ((v1 + (3 : Int32)) + (v2 + (1 : Int32))))])
        refine Go.step (fun _ k => XS.istore X90.here hx rfl (hb hby at_259) rfl (l' := #[.val (.int ia), .val (.int v1), .val (.int v2), .val (.int v3), .val (.int f4), .val (.int f5), .val (.int f6), .val (.int v7), .val (.ref b36), .val (.int (v1 + (3 : Int32))), .val (.int (-1 : Int32)), .val (.int (-1 : Int32)), .val (.int (v1 + (1 : Int32))), .val (.int ((v1 + (3 : Int32)) + (v2 + (1 : Int32)))), .unset, .unset, .unset, .unset]) rfl k) ?_
        show Go _ _ _ _ _ _ _ T90 (mkF m 261 #[.val (.int ia), .val (.int v1), .val (.int v2), .val (.int v3), .val (.int f4), .val (.int f5), .val (.int f6), .val (.int v7), .val (.ref b36), .val (.int (v1 + (3 : Int32))), .val (.int (-1 : Int32)), .val (.int (-1 : Int32)), .val (.int (v1 + (1 : Int32))), .val (.int ((v1 + (3 : Int32)) + (v2 + (1 : Int32)))), .unset, .unset, .unset, .unset] [])
        refine Go.step (fun _ k => XS.iload X90.here hx rfl (hb hby at_261) rfl k) ?_
        show Go _ _ _ _ _ _ _ T90 (mkF m 263 #[.val (.int ia), .val (.int v1), .val (.int v2), .val (.int v3), .val (.int f4), .val (.int f5), .val (.int f6), .val (.int v7), .val (.ref b36), .val (.int (v1 + (3 : Int32))), .val (.int (-1 : Int32)), .val (.int (-1 : Int32)), .val (.int (v1 + (1 : Int32))), .val (.int ((v1 + (3 : Int32)) + (v2 + (1 : Int32)))), .unset, .unset, .unset, .unset] [(.int f5)])
        have hc263_99 : ¬ (f5 = (0 : Int32)) := hc248_92
        refine Go.step (fun _ k => XS.ifNo X90.here hx rfl (hb hby at_263) rfl ((if0 _ _).trans (feq hc263_99).1) k) ?_
        show Go _ _ _ _ _ _ _ T90 (mkF m 266 #[.val (.int ia), .val (.int v1), .val (.int v2), .val (.int v3), .val (.int f4), .val (.int f5), .val (.int f6), .val (.int v7), .val (.ref b36), .val (.int (v1 + (3 : Int32))), .val (.int (-1 : Int32)), .val (.int (-1 : Int32)), .val (.int (v1 + (1 : Int32))), .val (.int ((v1 + (3 : Int32)) + (v2 + (1 : Int32)))), .unset, .unset, .unset, .unset] [])
        refine Go.step (fun _ k => XS.iloadN X90.here hx rfl (hb hby at_266) rfl k) ?_
        show Go _ _ _ _ _ _ _ T90 (mkF m 267 #[.val (.int ia), .val (.int v1), .val (.int v2), .val (.int v3), .val (.int f4), .val (.int f5), .val (.int f6), .val (.int v7), .val (.ref b36), .val (.int (v1 + (3 : Int32))), .val (.int (-1 : Int32)), .val (.int (-1 : Int32)), .val (.int (v1 + (1 : Int32))), .val (.int ((v1 + (3 : Int32)) + (v2 + (1 : Int32)))), .unset, .unset, .unset, .unset] [(.int v1)])
        refine Go.step (fun _ k => XS.iconst X90.here hx rfl (hb hby at_267) k) ?_
        show Go _ _ _ _ _ _ _ T90 (mkF m 268 #[.val (.int ia), .val (.int v1), .val (.int v2), .val (.int v3), .val (.int f4), .val (.int f5), .val (.int f6), .val (.int v7), .val (.ref b36), .val (.int (v1 + (3 : Int32))), .val (.int (-1 : Int32)), .val (.int (-1 : Int32)), .val (.int (v1 + (1 : Int32))), .val (.int ((v1 + (3 : Int32)) + (v2 + (1 : Int32)))), .unset, .unset, .unset, .unset] [(.int (3 : Int32)), (.int v1)])
        refine Go.step (fun _ k => XS.iadd X90.here hx rfl (hb hby at_268) rfl k) ?_
        show Go _ _ _ _ _ _ _ T90 (mkF m 269 #[.val (.int ia), .val (.int v1), .val (.int v2), .val (.int v3), .val (.int f4), .val (.int f5), .val (.int f6), .val (.int v7), .val (.ref b36), .val (.int (v1 + (3 : Int32))), .val (.int (-1 : Int32)), .val (.int (-1 : Int32)), .val (.int (v1 + (1 : Int32))), .val (.int ((v1 + (3 : Int32)) + (v2 + (1 : Int32)))), .unset, .unset, .unset, .unset] [(.int (v1 + (3 : Int32)))])
        refine Go.step (fun _ k => XS.iloadN X90.here hx rfl (hb hby at_269) rfl k) ?_
        show Go _ _ _ _ _ _ _ T90 (mkF m 270 #[.val (.int ia), .val (.int v1), .val (.int v2), .val (.int v3), .val (.int f4), .val (.int f5), .val (.int f6), .val (.int v7), .val (.ref b36), .val (.int (v1 + (3 : Int32))), .val (.int (-1 : Int32)), .val (.int (-1 : Int32)), .val (.int (v1 + (1 : Int32))), .val (.int ((v1 + (3 : Int32)) + (v2 + (1 : Int32)))), .unset, .unset, .unset, .unset] [(.int v2), (.int (v1 + (3 : Int32)))])
        refine Go.step (fun _ k => XS.iadd X90.here hx rfl (hb hby at_270) rfl k) ?_
        show Go _ _ _ _ _ _ _ T90 (mkF m 271 #[.val (.int ia), .val (.int v1), .val (.int v2), .val (.int v3), .val (.int f4), .val (.int f5), .val (.int f6), .val (.int v7), .val (.ref b36), .val (.int (v1 + (3 : Int32))), .val (.int (-1 : Int32)), .val (.int (-1 : Int32)), .val (.int (v1 + (1 : Int32))), .val (.int ((v1 + (3 : Int32)) + (v2 + (1 : Int32)))), .unset, .unset, .unset, .unset] [(.int ((v1 + (3 : Int32)) + v2))])
        refine Go.step (fun _ k => XS.istore X90.here hx rfl (hb hby at_271) rfl (l' := #[.val (.int ia), .val (.int v1), .val (.int v2), .val (.int v3), .val (.int f4), .val (.int f5), .val (.int f6), .val (.int v7), .val (.ref b36), .val (.int (v1 + (3 : Int32))), .val (.int ((v1 + (3 : Int32)) + v2)), .val (.int (-1 : Int32)), .val (.int (v1 + (1 : Int32))), .val (.int ((v1 + (3 : Int32)) + (v2 + (1 : Int32)))), .unset, .unset, .unset, .unset]) rfl k) ?_
        show Go _ _ _ _ _ _ _ T90 (mkF m 273 #[.val (.int ia), .val (.int v1), .val (.int v2), .val (.int v3), .val (.int f4), .val (.int f5), .val (.int f6), .val (.int v7), .val (.ref b36), .val (.int (v1 + (3 : Int32))), .val (.int ((v1 + (3 : Int32)) + v2)), .val (.int (-1 : Int32)), .val (.int (v1 + (1 : Int32))), .val (.int ((v1 + (3 : Int32)) + (v2 + (1 : Int32)))), .unset, .unset, .unset, .unset] [])
        refine Go.step (fun _ k => XS.aload X90.here hx rfl (hb hby at_273) rfl rfl k) ?_
        show Go _ _ _ _ _ _ _ T90 (mkF m 275 #[.val (.int ia), .val (.int v1), .val (.int v2), .val (.int v3), .val (.int f4), .val (.int f5), .val (.int f6), .val (.int v7), .val (.ref b36), .val (.int (v1 + (3 : Int32))), .val (.int ((v1 + (3 : Int32)) + v2)), .val (.int (-1 : Int32)), .val (.int (v1 + (1 : Int32))), .val (.int ((v1 + (3 : Int32)) + (v2 + (1 : Int32)))), .unset, .unset, .unset, .unset] [(.ref b36)])
        refine Go.step (fun _ k => XS.iload X90.here hx rfl (hb hby at_275) rfl k) ?_
        show Go _ _ _ _ _ _ _ T90 (mkF m 277 #[.val (.int ia), .val (.int v1), .val (.int v2), .val (.int v3), .val (.int f4), .val (.int f5), .val (.int f6), .val (.int v7), .val (.ref b36), .val (.int (v1 + (3 : Int32))), .val (.int ((v1 + (3 : Int32)) + v2)), .val (.int (-1 : Int32)), .val (.int (v1 + (1 : Int32))), .val (.int ((v1 + (3 : Int32)) + (v2 + (1 : Int32)))), .unset, .unset, .unset, .unset] [(.int ((v1 + (3 : Int32)) + v2)), (.ref b36)])
        refine Go.step (fun _ k => XS.bipush X90.here hx rfl (hb hby at_277) k) ?_
        show Go _ _ _ _ _ _ _ T90 (mkF m 279 #[.val (.int ia), .val (.int v1), .val (.int v2), .val (.int v3), .val (.int f4), .val (.int f5), .val (.int f6), .val (.int v7), .val (.ref b36), .val (.int (v1 + (3 : Int32))), .val (.int ((v1 + (3 : Int32)) + v2)), .val (.int (-1 : Int32)), .val (.int (v1 + (1 : Int32))), .val (.int ((v1 + (3 : Int32)) + (v2 + (1 : Int32)))), .unset, .unset, .unset, .unset] [(.int (64 : Int32)), (.int ((v1 + (3 : Int32)) + v2)), (.ref b36)])
        obtain ⟨cl100, Ar100, q100, S100, M100, H100, G100⟩ := id (V91)
        have hin100 : ¬ (((v1 + (3 : Int32)) + v2) < 0 ∨ cl100.slots.size ≤ (((v1 + (3 : Int32)) + v2)).toNatClampNeg) := inb_of S100 ⟨(by have := rng32 v1; have : (3 : Int32).toInt = 3 := rfl; have := rng32 (v1 + (3 : Int32)); have := c_iadd v1 (3 : Int32); have := rng32 v2; have := rng32 ((v1 + (3 : Int32)) + v2); have := c_iadd (v1 + (3 : Int32)) v2; have : (0 : Int32).toInt = 0 := rfl; have : (20 : Int32).toInt = 20 := rfl; simp only [Int32.lt_iff_toInt_lt, Int32.le_iff_toInt_le, ← Int32.toInt_inj, Int64.lt_iff_toInt_lt, Int64.le_iff_toInt_le, ← Int64.toInt_inj]; omega), (by have := rng32 v1; have : (3 : Int32).toInt = 3 := rfl; have := rng32 (v1 + (3 : Int32)); have := c_iadd v1 (3 : Int32); have := rng32 v2; have := rng32 ((v1 + (3 : Int32)) + v2); have := c_iadd (v1 + (3 : Int32)) v2; have : (0 : Int32).toInt = 0 := rfl; have : (20 : Int32).toInt = 20 := rfl; simp only [Int32.lt_iff_toInt_lt, Int32.le_iff_toInt_le, ← Int32.toInt_inj, Int64.lt_iff_toInt_lt, Int64.le_iff_toInt_le, ← Int64.toInt_inj]; omega)⟩
        obtain ⟨T100, h100, X100, e100, W100, st100⟩ := stC X90 hx hZ e90 Ar100 (j := ((v1 + (3 : Int32)) + v2)) hin100 (g := (mkF m 279 #[.val (.int ia), .val (.int v1), .val (.int v2), .val (.int v3), .val (.int f4), .val (.int f5), .val (.int f6), .val (.int v7), .val (.ref b36), .val (.int (v1 + (3 : Int32))), .val (.int ((v1 + (3 : Int32)) + v2)), .val (.int (-1 : Int32)), .val (.int (v1 + (1 : Int32))), .val (.int ((v1 + (3 : Int32)) + (v2 + (1 : Int32)))), .unset, .unset, .unset, .unset] [(.int (64 : Int32)), (.int ((v1 + (3 : Int32)) + v2)), (.ref b36)])) rfl rfl (hb hby at_279)
        refine Go.step st100 ?_
        have V100 : Arv Z h100 b36 k36 .char (20 : Int32) (((((cs0.set (v1).toNatClampNeg (nar .char (58 : Int32))).set ((v1 + (1 : Int32))).toNatClampNeg (nar .char (47 : Int32))).set ((v1 + (2 : Int32))).toNatClampNeg (nar .char (47 : Int32))).map Value.int).set (((v1 + (3 : Int32)) + v2)).toNatClampNeg (.int (nar .char (64 : Int32)))) (.int (0 : Int32)) := Arv.set Ar100 q100 S100 M100 H100 G100 (fits_nar_char _) W100 (((v1 + (3 : Int32)) + v2)).toNatClampNeg rfl (by rw [List.length_map, hl91]; exact own_tn (n := 20) (by have := rng32 v1; have : (3 : Int32).toInt = 3 := rfl; have := rng32 (v1 + (3 : Int32)); have := c_iadd v1 (3 : Int32); have := rng32 v2; have := rng32 ((v1 + (3 : Int32)) + v2); have := c_iadd (v1 + (3 : Int32)) v2; omega) (by have := rng32 v1; have : (3 : Int32).toInt = 3 := rfl; have := rng32 (v1 + (3 : Int32)); have := c_iadd v1 (3 : Int32); have := rng32 v2; have := rng32 ((v1 + (3 : Int32)) + v2); have := c_iadd (v1 + (3 : Int32)) v2; omega))
        have N100 := Fr.snoc X100 N90 g_b36
        have Z100 : n0 ≤ h100.size := Nat.le_trans Z90 (Keep.of_wr W100).1
        have V101 : Arv Z h100 b36 k36 .char (20 : Int32) (((((cs0.set (v1).toNatClampNeg (nar .char (58 : Int32))).set ((v1 + (1 : Int32))).toNatClampNeg (nar .char (47 : Int32))).set ((v1 + (2 : Int32))).toNatClampNeg (nar .char (47 : Int32))).set (((v1 + (3 : Int32)) + v2)).toNatClampNeg (nar .char (64 : Int32))).map Value.int) (.int (0 : Int32)) := by rw [← own_mset]; exact V100
        have hl101 : ((((cs0.set (v1).toNatClampNeg (nar .char (58 : Int32))).set ((v1 + (1 : Int32))).toNatClampNeg (nar .char (47 : Int32))).set ((v1 + (2 : Int32))).toNatClampNeg (nar .char (47 : Int32))).set (((v1 + (3 : Int32)) + v2)).toNatClampNeg (nar .char (64 : Int32))).length = 20 := by rw [List.length_set]; exact hl91
        have hp101 : ∀ c ∈ ((((cs0.set (v1).toNatClampNeg (nar .char (58 : Int32))).set ((v1 + (1 : Int32))).toNatClampNeg (nar .char (47 : Int32))).set ((v1 + (2 : Int32))).toNatClampNeg (nar .char (47 : Int32))).set (((v1 + (3 : Int32)) + v2)).toNatClampNeg (nar .char (64 : Int32))), ¬ c < 0 ∧ ¬ (255 : Int32) < c := own_hset hp91 (by decide)
        show Go _ _ _ _ _ _ _ T100 (mkF m 280 #[.val (.int ia), .val (.int v1), .val (.int v2), .val (.int v3), .val (.int f4), .val (.int f5), .val (.int f6), .val (.int v7), .val (.ref b36), .val (.int (v1 + (3 : Int32))), .val (.int ((v1 + (3 : Int32)) + v2)), .val (.int (-1 : Int32)), .val (.int (v1 + (1 : Int32))), .val (.int ((v1 + (3 : Int32)) + (v2 + (1 : Int32)))), .unset, .unset, .unset, .unset] [])
        refine Go.step (fun _ k => XS.iload X100.here hx rfl (hb hby at_280) rfl k) ?_
        show Go _ _ _ _ _ _ _ T100 (mkF m 282 #[.val (.int ia), .val (.int v1), .val (.int v2), .val (.int v3), .val (.int f4), .val (.int f5), .val (.int f6), .val (.int v7), .val (.ref b36), .val (.int (v1 + (3 : Int32))), .val (.int ((v1 + (3 : Int32)) + v2)), .val (.int (-1 : Int32)), .val (.int (v1 + (1 : Int32))), .val (.int ((v1 + (3 : Int32)) + (v2 + (1 : Int32)))), .unset, .unset, .unset, .unset] [(.int ((v1 + (3 : Int32)) + (v2 + (1 : Int32))))])
        refine Go.step (fun _ k => XS.iloadN X100.here hx rfl (hb hby at_282) rfl k) ?_
        show Go _ _ _ _ _ _ _ T100 (mkF m 283 #[.val (.int ia), .val (.int v1), .val (.int v2), .val (.int v3), .val (.int f4), .val (.int f5), .val (.int f6), .val (.int v7), .val (.ref b36), .val (.int (v1 + (3 : Int32))), .val (.int ((v1 + (3 : Int32)) + v2)), .val (.int (-1 : Int32)), .val (.int (v1 + (1 : Int32))), .val (.int ((v1 + (3 : Int32)) + (v2 + (1 : Int32)))), .unset, .unset, .unset, .unset] [(.int v3), (.int ((v1 + (3 : Int32)) + (v2 + (1 : Int32))))])
        refine Go.step (fun _ k => XS.iadd X100.here hx rfl (hb hby at_283) rfl k) ?_
        show Go _ _ _ _ _ _ _ T100 (mkF m 284 #[.val (.int ia), .val (.int v1), .val (.int v2), .val (.int v3), .val (.int f4), .val (.int f5), .val (.int f6), .val (.int v7), .val (.ref b36), .val (.int (v1 + (3 : Int32))), .val (.int ((v1 + (3 : Int32)) + v2)), .val (.int (-1 : Int32)), .val (.int (v1 + (1 : Int32))), .val (.int ((v1 + (3 : Int32)) + (v2 + (1 : Int32)))), .unset, .unset, .unset, .unset] [(.int (((v1 + (3 : Int32)) + (v2 + (1 : Int32))) + v3))])
        refine Go.step (fun _ k => XS.istore X100.here hx rfl (hb hby at_284) rfl (l' := #[.val (.int ia), .val (.int v1), .val (.int v2), .val (.int v3), .val (.int f4), .val (.int f5), .val (.int f6), .val (.int v7), .val (.ref b36), .val (.int (v1 + (3 : Int32))), .val (.int ((v1 + (3 : Int32)) + v2)), .val (.int (-1 : Int32)), .val (.int (v1 + (1 : Int32))), .val (.int ((v1 + (3 : Int32)) + (v2 + (1 : Int32)))), .val (.int (((v1 + (3 : Int32)) + (v2 + (1 : Int32))) + v3)), .unset, .unset, .unset]) rfl k) ?_
        show Go _ _ _ _ _ _ _ T100 (mkF m 286 #[.val (.int ia), .val (.int v1), .val (.int v2), .val (.int v3), .val (.int f4), .val (.int f5), .val (.int f6), .val (.int v7), .val (.ref b36), .val (.int (v1 + (3 : Int32))), .val (.int ((v1 + (3 : Int32)) + v2)), .val (.int (-1 : Int32)), .val (.int (v1 + (1 : Int32))), .val (.int ((v1 + (3 : Int32)) + (v2 + (1 : Int32)))), .val (.int (((v1 + (3 : Int32)) + (v2 + (1 : Int32))) + v3)), .unset, .unset, .unset] [])
        refine Go.step (fun _ k => XS.iload X100.here hx rfl (hb hby at_286) rfl k) ?_
        show Go _ _ _ _ _ _ _ T100 (mkF m 288 #[.val (.int ia), .val (.int v1), .val (.int v2), .val (.int v3), .val (.int f4), .val (.int f5), .val (.int f6), .val (.int v7), .val (.ref b36), .val (.int (v1 + (3 : Int32))), .val (.int ((v1 + (3 : Int32)) + v2)), .val (.int (-1 : Int32)), .val (.int (v1 + (1 : Int32))), .val (.int ((v1 + (3 : Int32)) + (v2 + (1 : Int32)))), .val (.int (((v1 + (3 : Int32)) + (v2 + (1 : Int32))) + v3)), .unset, .unset, .unset] [(.int (((v1 + (3 : Int32)) + (v2 + (1 : Int32))) + v3))])
        refine Go.step (fun _ k => XS.istore X100.here hx rfl (hb hby at_288) rfl (l' := #[.val (.int ia), .val (.int v1), .val (.int v2), .val (.int v3), .val (.int f4), .val (.int f5), .val (.int f6), .val (.int v7), .val (.ref b36), .val (.int (v1 + (3 : Int32))), .val (.int ((v1 + (3 : Int32)) + v2)), .val (.int (-1 : Int32)), .val (.int (((v1 + (3 : Int32)) + (v2 + (1 : Int32))) + v3)), .val (.int ((v1 + (3 : Int32)) + (v2 + (1 : Int32)))), .val (.int (((v1 + (3 : Int32)) + (v2 + (1 : Int32))) + v3)), .unset, .unset, .unset]) rfl k) ?_
        show Go _ _ _ _ _ _ _ T100 (mkF m 290 #[.val (.int ia), .val (.int v1), .val (.int v2), .val (.int v3), .val (.int f4), .val (.int f5), .val (.int f6), .val (.int v7), .val (.ref b36), .val (.int (v1 + (3 : Int32))), .val (.int ((v1 + (3 : Int32)) + v2)), .val (.int (-1 : Int32)), .val (.int (((v1 + (3 : Int32)) + (v2 + (1 : Int32))) + v3)), .val (.int ((v1 + (3 : Int32)) + (v2 + (1 : Int32)))), .val (.int (((v1 + (3 : Int32)) + (v2 + (1 : Int32))) + v3)), .unset, .unset, .unset] [])
        refine Go.step (fun _ k => XS.iload X100.here hx rfl (hb hby at_290) rfl k) ?_
        show Go _ _ _ _ _ _ _ T100 (mkF m 292 #[.val (.int ia), .val (.int v1), .val (.int v2), .val (.int v3), .val (.int f4), .val (.int f5), .val (.int f6), .val (.int v7), .val (.ref b36), .val (.int (v1 + (3 : Int32))), .val (.int ((v1 + (3 : Int32)) + v2)), .val (.int (-1 : Int32)), .val (.int (((v1 + (3 : Int32)) + (v2 + (1 : Int32))) + v3)), .val (.int ((v1 + (3 : Int32)) + (v2 + (1 : Int32)))), .val (.int (((v1 + (3 : Int32)) + (v2 + (1 : Int32))) + v3)), .unset, .unset, .unset] [(.int f6)])
        by_cases hc292_102 : f6 = (0 : Int32)
        · refine Go.step (fun _ k => XS.ifYes X100.here hx rfl (pc0 := 292) (pc' := 315) rfl (hb hby at_292) rfl ((if0 _ _).trans (teq hc292_102).1) (by decide) (by decide) k) ?_
          show Go _ _ _ _ _ _ _ T100 (mkF m 315 #[.val (.int ia), .val (.int v1), .val (.int v2), .val (.int v3), .val (.int f4), .val (.int f5), .val (.int f6), .val (.int v7), .val (.ref b36), .val (.int (v1 + (3 : Int32))), .val (.int ((v1 + (3 : Int32)) + v2)), .val (.int (-1 : Int32)), .val (.int (((v1 + (3 : Int32)) + (v2 + (1 : Int32))) + v3)), .val (.int ((v1 + (3 : Int32)) + (v2 + (1 : Int32)))), .val (.int (((v1 + (3 : Int32)) + (v2 + (1 : Int32))) + v3)), .unset, .unset, .unset] [])
          have f103 : Old Z n0 h100 := (((((((((((((((((((((((((Oj.ext E36).wr W38 g_b36).wr W39 g_b36).wr W40 g_b36).wr W41 g_b36).wr W42 g_b36).wr W43 g_b36).wr W44 g_b36).wr W45 g_b36).wr W46 g_b36).wr W47 g_b36).wr W48 g_b36).wr W49 g_b36).wr W50 g_b36).wr W51 g_b36).wr W52 g_b36).wr W53 g_b36).wr W54 g_b36).wr W55 g_b36).wr W56 g_b36).wr W57 g_b36).wr W59 g_b36).wr W88 g_b36).wr W90 g_b36).wr W100 g_b36)
          exact K T100 h100 _ ((((cs0.set (v1).toNatClampNeg (nar .char (58 : Int32))).set ((v1 + (1 : Int32))).toNatClampNeg (nar .char (47 : Int32))).set ((v1 + (2 : Int32))).toNatClampNeg (nar .char (47 : Int32))).set (((v1 + (3 : Int32)) + v2)).toNatClampNeg (nar .char (64 : Int32))) (v1 + (3 : Int32)) ((v1 + (3 : Int32)) + v2) (-1 : Int32) (((v1 + (3 : Int32)) + (v2 + (1 : Int32))) + v3) ((v1 + (3 : Int32)) + (v2 + (1 : Int32))) (.val (.int (((v1 + (3 : Int32)) + (v2 + (1 : Int32))) + v3))) (X100.more (by decide) (by decide)) e100 N100 Z100 V101 f103 hl101 hp101 (by have := rng32 v1; have : (3 : Int32).toInt = 3 := rfl; have := rng32 (v1 + (3 : Int32)); have := c_iadd v1 (3 : Int32); have := rng32 v2; have : (1 : Int32).toInt = 1 := rfl; have := rng32 (v2 + (1 : Int32)); have := c_iadd v2 (1 : Int32); have := rng32 ((v1 + (3 : Int32)) + (v2 + (1 : Int32))); have := c_iadd (v1 + (3 : Int32)) (v2 + (1 : Int32)); have := rng32 v3; have := rng32 (((v1 + (3 : Int32)) + (v2 + (1 : Int32))) + v3); have := c_iadd ((v1 + (3 : Int32)) + (v2 + (1 : Int32))) v3; omega) (Or.inr ⟨hc219_86, (by unfold own_hs; rw [if_neg (by have := rng32 v1; have : (3 : Int32).toInt = 3 := rfl; have := rng32 (v1 + (3 : Int32)); have := c_iadd v1 (3 : Int32); have : (-1 : Int32).toInt = -1 := rfl; simp only [Int32.lt_iff_toInt_lt, Int32.le_iff_toInt_le, ← Int32.toInt_inj, Int64.lt_iff_toInt_lt, Int64.le_iff_toInt_le, ← Int64.toInt_inj]; omega), if_neg (by have := rng32 v1; have : (3 : Int32).toInt = 3 := rfl; have := rng32 (v1 + (3 : Int32)); have := c_iadd v1 (3 : Int32); have := rng32 v2; have := rng32 ((v1 + (3 : Int32)) + v2); have := c_iadd (v1 + (3 : Int32)) v2; have : (-1 : Int32).toInt = -1 := rfl; simp only [Int32.lt_iff_toInt_lt, Int32.le_iff_toInt_le, ← Int32.toInt_inj, Int64.lt_iff_toInt_lt, Int64.le_iff_toInt_le, ← Int64.toInt_inj]; omega)]; have := rng32 v1; have : (3 : Int32).toInt = 3 := rfl; have := rng32 (v1 + (3 : Int32)); have := c_iadd v1 (3 : Int32); have := rng32 v2; have : (1 : Int32).toInt = 1 := rfl; have := rng32 (v2 + (1 : Int32)); have := c_iadd v2 (1 : Int32); have := rng32 ((v1 + (3 : Int32)) + (v2 + (1 : Int32))); have := c_iadd (v1 + (3 : Int32)) (v2 + (1 : Int32)); have := rng32 ((v1 + (3 : Int32)) + v2); have := c_iadd (v1 + (3 : Int32)) v2; have := rng32 (((v1 + (3 : Int32)) + v2) + (1 : Int32)); have := c_iadd ((v1 + (3 : Int32)) + v2) (1 : Int32); simp only [Int32.lt_iff_toInt_lt, Int32.le_iff_toInt_le, ← Int32.toInt_inj, Int64.lt_iff_toInt_lt, Int64.le_iff_toInt_le, ← Int64.toInt_inj]; omega), (by have := rng32 v1; have : (3 : Int32).toInt = 3 := rfl; have := rng32 (v1 + (3 : Int32)); have := c_iadd v1 (3 : Int32); have := rng32 v2; have : (1 : Int32).toInt = 1 := rfl; have := rng32 (v2 + (1 : Int32)); have := c_iadd v2 (1 : Int32); have := rng32 ((v1 + (3 : Int32)) + (v2 + (1 : Int32))); have := c_iadd (v1 + (3 : Int32)) (v2 + (1 : Int32)); omega), (by have := rng32 v1; have : (3 : Int32).toInt = 3 := rfl; have := rng32 (v1 + (3 : Int32)); have := c_iadd v1 (3 : Int32); have := rng32 v2; have : (1 : Int32).toInt = 1 := rfl; have := rng32 (v2 + (1 : Int32)); have := c_iadd v2 (1 : Int32); have := rng32 ((v1 + (3 : Int32)) + (v2 + (1 : Int32))); have := c_iadd (v1 + (3 : Int32)) (v2 + (1 : Int32)); have := rng32 v3; have := rng32 (((v1 + (3 : Int32)) + (v2 + (1 : Int32))) + v3); have := c_iadd ((v1 + (3 : Int32)) + (v2 + (1 : Int32))) v3; omega), (by rw [show (((v1 + (3 : Int32)) + (v2 + (1 : Int32))) - (1 : Int32)) = ((v1 + (3 : Int32)) + v2) from (by have := rng32 v1; have : (3 : Int32).toInt = 3 := rfl; have := rng32 (v1 + (3 : Int32)); have := c_iadd v1 (3 : Int32); have := rng32 v2; have : (1 : Int32).toInt = 1 := rfl; have := rng32 (v2 + (1 : Int32)); have := c_iadd v2 (1 : Int32); have := rng32 ((v1 + (3 : Int32)) + (v2 + (1 : Int32))); have := c_iadd (v1 + (3 : Int32)) (v2 + (1 : Int32)); have := rng32 (((v1 + (3 : Int32)) + (v2 + (1 : Int32))) - (1 : Int32)); have := c_isub ((v1 + (3 : Int32)) + (v2 + (1 : Int32))) (1 : Int32); have := rng32 ((v1 + (3 : Int32)) + v2); have := c_iadd (v1 + (3 : Int32)) v2; simp only [Int32.lt_iff_toInt_lt, Int32.le_iff_toInt_le, ← Int32.toInt_inj, Int64.lt_iff_toInt_lt, Int64.le_iff_toInt_le, ← Int64.toInt_inj]; omega), if_neg hc248_92]; exact (own_gI (by simp only [List.length_set, hl0]; exact own_tn (n := 20) (by have := rng32 v1; have : (3 : Int32).toInt = 3 := rfl; have := rng32 (v1 + (3 : Int32)); have := c_iadd v1 (3 : Int32); have := rng32 v2; have := rng32 ((v1 + (3 : Int32)) + v2); have := c_iadd (v1 + (3 : Int32)) v2; omega) (by have := rng32 v1; have : (3 : Int32).toInt = 3 := rfl; have := rng32 (v1 + (3 : Int32)); have := c_iadd v1 (3 : Int32); have := rng32 v2; have := rng32 ((v1 + (3 : Int32)) + v2); have := c_iadd (v1 + (3 : Int32)) v2; omega))))⟩) (One.val rfl)
        · refine Go.step (fun _ k => XS.ifNo X100.here hx rfl (hb hby at_292) rfl ((if0 _ _).trans (feq hc292_102).1) k) ?_
          show Go _ _ _ _ _ _ _ T100 (mkF m 295 #[.val (.int ia), .val (.int v1), .val (.int v2), .val (.int v3), .val (.int f4), .val (.int f5), .val (.int f6), .val (.int v7), .val (.ref b36), .val (.int (v1 + (3 : Int32))), .val (.int ((v1 + (3 : Int32)) + v2)), .val (.int (-1 : Int32)), .val (.int (((v1 + (3 : Int32)) + (v2 + (1 : Int32))) + v3)), .val (.int ((v1 + (3 : Int32)) + (v2 + (1 : Int32)))), .val (.int (((v1 + (3 : Int32)) + (v2 + (1 : Int32))) + v3)), .unset, .unset, .unset] [])
          refine Go.step (fun _ k => XS.aload X100.here hx rfl (hb hby at_295) rfl rfl k) ?_
          show Go _ _ _ _ _ _ _ T100 (mkF m 297 #[.val (.int ia), .val (.int v1), .val (.int v2), .val (.int v3), .val (.int f4), .val (.int f5), .val (.int f6), .val (.int v7), .val (.ref b36), .val (.int (v1 + (3 : Int32))), .val (.int ((v1 + (3 : Int32)) + v2)), .val (.int (-1 : Int32)), .val (.int (((v1 + (3 : Int32)) + (v2 + (1 : Int32))) + v3)), .val (.int ((v1 + (3 : Int32)) + (v2 + (1 : Int32)))), .val (.int (((v1 + (3 : Int32)) + (v2 + (1 : Int32))) + v3)), .unset, .unset, .unset] [(.ref b36)])
          refine Go.step (fun _ k => XS.iload X100.here hx rfl (hb hby at_297) rfl k) ?_
          show Go _ _ _ _ _ _ _ T100 (mkF m 299 #[.val (.int ia), .val (.int v1), .val (.int v2), .val (.int v3), .val (.int f4), .val (.int f5), .val (.int f6), .val (.int v7), .val (.ref b36), .val (.int (v1 + (3 : Int32))), .val (.int ((v1 + (3 : Int32)) + v2)), .val (.int (-1 : Int32)), .val (.int (((v1 + (3 : Int32)) + (v2 + (1 : Int32))) + v3)), .val (.int ((v1 + (3 : Int32)) + (v2 + (1 : Int32)))), .val (.int (((v1 + (3 : Int32)) + (v2 + (1 : Int32))) + v3)), .unset, .unset, .unset] [(.int (((v1 + (3 : Int32)) + (v2 + (1 : Int32))) + v3)), (.ref b36)])
          refine Go.step (fun _ k => XS.bipush X100.here hx rfl (hb hby at_299) k) ?_
          show Go _ _ _ _ _ _ _ T100 (mkF m 301 #[.val (.int ia), .val (.int v1), .val (.int v2), .val (.int v3), .val (.int f4), .val (.int f5), .val (.int f6), .val (.int v7), .val (.ref b36), .val (.int (v1 + (3 : Int32))), .val (.int ((v1 + (3 : Int32)) + v2)), .val (.int (-1 : Int32)), .val (.int (((v1 + (3 : Int32)) + (v2 + (1 : Int32))) + v3)), .val (.int ((v1 + (3 : Int32)) + (v2 + (1 : Int32)))), .val (.int (((v1 + (3 : Int32)) + (v2 + (1 : Int32))) + v3)), .unset, .unset, .unset] [(.int (58 : Int32)), (.int (((v1 + (3 : Int32)) + (v2 + (1 : Int32))) + v3)), (.ref b36)])
          obtain ⟨cl104, Ar104, q104, S104, M104, H104, G104⟩ := id (V101)
          have hin104 : ¬ ((((v1 + (3 : Int32)) + (v2 + (1 : Int32))) + v3) < 0 ∨ cl104.slots.size ≤ ((((v1 + (3 : Int32)) + (v2 + (1 : Int32))) + v3)).toNatClampNeg) := inb_of S104 ⟨(by have := rng32 v1; have : (3 : Int32).toInt = 3 := rfl; have := rng32 (v1 + (3 : Int32)); have := c_iadd v1 (3 : Int32); have := rng32 v2; have : (1 : Int32).toInt = 1 := rfl; have := rng32 (v2 + (1 : Int32)); have := c_iadd v2 (1 : Int32); have := rng32 ((v1 + (3 : Int32)) + (v2 + (1 : Int32))); have := c_iadd (v1 + (3 : Int32)) (v2 + (1 : Int32)); have := rng32 v3; have := rng32 (((v1 + (3 : Int32)) + (v2 + (1 : Int32))) + v3); have := c_iadd ((v1 + (3 : Int32)) + (v2 + (1 : Int32))) v3; have : (0 : Int32).toInt = 0 := rfl; have : (20 : Int32).toInt = 20 := rfl; simp only [Int32.lt_iff_toInt_lt, Int32.le_iff_toInt_le, ← Int32.toInt_inj, Int64.lt_iff_toInt_lt, Int64.le_iff_toInt_le, ← Int64.toInt_inj]; omega), (by have := rng32 v1; have : (3 : Int32).toInt = 3 := rfl; have := rng32 (v1 + (3 : Int32)); have := c_iadd v1 (3 : Int32); have := rng32 v2; have : (1 : Int32).toInt = 1 := rfl; have := rng32 (v2 + (1 : Int32)); have := c_iadd v2 (1 : Int32); have := rng32 ((v1 + (3 : Int32)) + (v2 + (1 : Int32))); have := c_iadd (v1 + (3 : Int32)) (v2 + (1 : Int32)); have := rng32 v3; have := rng32 (((v1 + (3 : Int32)) + (v2 + (1 : Int32))) + v3); have := c_iadd ((v1 + (3 : Int32)) + (v2 + (1 : Int32))) v3; have : (0 : Int32).toInt = 0 := rfl; have : (20 : Int32).toInt = 20 := rfl; simp only [Int32.lt_iff_toInt_lt, Int32.le_iff_toInt_le, ← Int32.toInt_inj, Int64.lt_iff_toInt_lt, Int64.le_iff_toInt_le, ← Int64.toInt_inj]; omega)⟩
          obtain ⟨T104, h104, X104, e104, W104, st104⟩ := stC X100 hx hZ e100 Ar104 (j := (((v1 + (3 : Int32)) + (v2 + (1 : Int32))) + v3)) hin104 (g := (mkF m 301 #[.val (.int ia), .val (.int v1), .val (.int v2), .val (.int v3), .val (.int f4), .val (.int f5), .val (.int f6), .val (.int v7), .val (.ref b36), .val (.int (v1 + (3 : Int32))), .val (.int ((v1 + (3 : Int32)) + v2)), .val (.int (-1 : Int32)), .val (.int (((v1 + (3 : Int32)) + (v2 + (1 : Int32))) + v3)), .val (.int ((v1 + (3 : Int32)) + (v2 + (1 : Int32)))), .val (.int (((v1 + (3 : Int32)) + (v2 + (1 : Int32))) + v3)), .unset, .unset, .unset] [(.int (58 : Int32)), (.int (((v1 + (3 : Int32)) + (v2 + (1 : Int32))) + v3)), (.ref b36)])) rfl rfl (hb hby at_301)
          refine Go.step st104 ?_
          have V104 : Arv Z h104 b36 k36 .char (20 : Int32) ((((((cs0.set (v1).toNatClampNeg (nar .char (58 : Int32))).set ((v1 + (1 : Int32))).toNatClampNeg (nar .char (47 : Int32))).set ((v1 + (2 : Int32))).toNatClampNeg (nar .char (47 : Int32))).set (((v1 + (3 : Int32)) + v2)).toNatClampNeg (nar .char (64 : Int32))).map Value.int).set ((((v1 + (3 : Int32)) + (v2 + (1 : Int32))) + v3)).toNatClampNeg (.int (nar .char (58 : Int32)))) (.int (0 : Int32)) := Arv.set Ar104 q104 S104 M104 H104 G104 (fits_nar_char _) W104 ((((v1 + (3 : Int32)) + (v2 + (1 : Int32))) + v3)).toNatClampNeg rfl (by rw [List.length_map, hl101]; exact own_tn (n := 20) (by have := rng32 v1; have : (3 : Int32).toInt = 3 := rfl; have := rng32 (v1 + (3 : Int32)); have := c_iadd v1 (3 : Int32); have := rng32 v2; have : (1 : Int32).toInt = 1 := rfl; have := rng32 (v2 + (1 : Int32)); have := c_iadd v2 (1 : Int32); have := rng32 ((v1 + (3 : Int32)) + (v2 + (1 : Int32))); have := c_iadd (v1 + (3 : Int32)) (v2 + (1 : Int32)); have := rng32 v3; have := rng32 (((v1 + (3 : Int32)) + (v2 + (1 : Int32))) + v3); have := c_iadd ((v1 + (3 : Int32)) + (v2 + (1 : Int32))) v3; omega) (by have := rng32 v1; have : (3 : Int32).toInt = 3 := rfl; have := rng32 (v1 + (3 : Int32)); have := c_iadd v1 (3 : Int32); have := rng32 v2; have : (1 : Int32).toInt = 1 := rfl; have := rng32 (v2 + (1 : Int32)); have := c_iadd v2 (1 : Int32); have := rng32 ((v1 + (3 : Int32)) + (v2 + (1 : Int32))); have := c_iadd (v1 + (3 : Int32)) (v2 + (1 : Int32)); have := rng32 v3; have := rng32 (((v1 + (3 : Int32)) + (v2 + (1 : Int32))) + v3); have := c_iadd ((v1 + (3 : Int32)) + (v2 + (1 : Int32))) v3; omega))
          have N104 := Fr.snoc X104 N100 g_b36
          have Z104 : n0 ≤ h104.size := Nat.le_trans Z100 (Keep.of_wr W104).1
          have V105 : Arv Z h104 b36 k36 .char (20 : Int32) ((((((cs0.set (v1).toNatClampNeg (nar .char (58 : Int32))).set ((v1 + (1 : Int32))).toNatClampNeg (nar .char (47 : Int32))).set ((v1 + (2 : Int32))).toNatClampNeg (nar .char (47 : Int32))).set (((v1 + (3 : Int32)) + v2)).toNatClampNeg (nar .char (64 : Int32))).set ((((v1 + (3 : Int32)) + (v2 + (1 : Int32))) + v3)).toNatClampNeg (nar .char (58 : Int32))).map Value.int) (.int (0 : Int32)) := by rw [← own_mset]; exact V104
          have hl105 : (((((cs0.set (v1).toNatClampNeg (nar .char (58 : Int32))).set ((v1 + (1 : Int32))).toNatClampNeg (nar .char (47 : Int32))).set ((v1 + (2 : Int32))).toNatClampNeg (nar .char (47 : Int32))).set (((v1 + (3 : Int32)) + v2)).toNatClampNeg (nar .char (64 : Int32))).set ((((v1 + (3 : Int32)) + (v2 + (1 : Int32))) + v3)).toNatClampNeg (nar .char (58 : Int32))).length = 20 := by rw [List.length_set]; exact hl101
          have hp105 : ∀ c ∈ (((((cs0.set (v1).toNatClampNeg (nar .char (58 : Int32))).set ((v1 + (1 : Int32))).toNatClampNeg (nar .char (47 : Int32))).set ((v1 + (2 : Int32))).toNatClampNeg (nar .char (47 : Int32))).set (((v1 + (3 : Int32)) + v2)).toNatClampNeg (nar .char (64 : Int32))).set ((((v1 + (3 : Int32)) + (v2 + (1 : Int32))) + v3)).toNatClampNeg (nar .char (58 : Int32))), ¬ c < 0 ∧ ¬ (255 : Int32) < c := own_hset hp101 (by decide)
          show Go _ _ _ _ _ _ _ T104 (mkF m 302 #[.val (.int ia), .val (.int v1), .val (.int v2), .val (.int v3), .val (.int f4), .val (.int f5), .val (.int f6), .val (.int v7), .val (.ref b36), .val (.int (v1 + (3 : Int32))), .val (.int ((v1 + (3 : Int32)) + v2)), .val (.int (-1 : Int32)), .val (.int (((v1 + (3 : Int32)) + (v2 + (1 : Int32))) + v3)), .val (.int ((v1 + (3 : Int32)) + (v2 + (1 : Int32)))), .val (.int (((v1 + (3 : Int32)) + (v2 + (1 : Int32))) + v3)), .unset, .unset, .unset] [])
          refine Go.step (fun _ k => XS.iload X104.here hx rfl (hb hby at_302) rfl k) ?_
          show Go _ _ _ _ _ _ _ T104 (mkF m 304 #[.val (.int ia), .val (.int v1), .val (.int v2), .val (.int v3), .val (.int f4), .val (.int f5), .val (.int f6), .val (.int v7), .val (.ref b36), .val (.int (v1 + (3 : Int32))), .val (.int ((v1 + (3 : Int32)) + v2)), .val (.int (-1 : Int32)), .val (.int (((v1 + (3 : Int32)) + (v2 + (1 : Int32))) + v3)), .val (.int ((v1 + (3 : Int32)) + (v2 + (1 : Int32)))), .val (.int (((v1 + (3 : Int32)) + (v2 + (1 : Int32))) + v3)), .unset, .unset, .unset] [(.int (((v1 + (3 : Int32)) + (v2 + (1 : Int32))) + v3))])
          refine Go.step (fun _ k => XS.iconst X104.here hx rfl (hb hby at_304) k) ?_
          show Go _ _ _ _ _ _ _ T104 (mkF m 305 #[.val (.int ia), .val (.int v1), .val (.int v2), .val (.int v3), .val (.int f4), .val (.int f5), .val (.int f6), .val (.int v7), .val (.ref b36), .val (.int (v1 + (3 : Int32))), .val (.int ((v1 + (3 : Int32)) + v2)), .val (.int (-1 : Int32)), .val (.int (((v1 + (3 : Int32)) + (v2 + (1 : Int32))) + v3)), .val (.int ((v1 + (3 : Int32)) + (v2 + (1 : Int32)))), .val (.int (((v1 + (3 : Int32)) + (v2 + (1 : Int32))) + v3)), .unset, .unset, .unset] [(.int (1 : Int32)), (.int (((v1 + (3 : Int32)) + (v2 + (1 : Int32))) + v3))])
          refine Go.step (fun _ k => XS.iadd X104.here hx rfl (hb hby at_305) rfl k) ?_
          show Go _ _ _ _ _ _ _ T104 (mkF m 306 #[.val (.int ia), .val (.int v1), .val (.int v2), .val (.int v3), .val (.int f4), .val (.int f5), .val (.int f6), .val (.int v7), .val (.ref b36), .val (.int (v1 + (3 : Int32))), .val (.int ((v1 + (3 : Int32)) + v2)), .val (.int (-1 : Int32)), .val (.int (((v1 + (3 : Int32)) + (v2 + (1 : Int32))) + v3)), .val (.int ((v1 + (3 : Int32)) + (v2 + (1 : Int32)))), .val (.int (((v1 + (3 : Int32)) + (v2 + (1 : Int32))) + v3)), .unset, .unset, .unset] [(.int ((((v1 + (3 : Int32)) + (v2 + (1 : Int32))) + v3) + (1 : Int32)))])
          refine Go.step (fun _ k => XS.istore X104.here hx rfl (hb hby at_306) rfl (l' := #[.val (.int ia), .val (.int v1), .val (.int v2), .val (.int v3), .val (.int f4), .val (.int f5), .val (.int f6), .val (.int v7), .val (.ref b36), .val (.int (v1 + (3 : Int32))), .val (.int ((v1 + (3 : Int32)) + v2)), .val (.int ((((v1 + (3 : Int32)) + (v2 + (1 : Int32))) + v3) + (1 : Int32))), .val (.int (((v1 + (3 : Int32)) + (v2 + (1 : Int32))) + v3)), .val (.int ((v1 + (3 : Int32)) + (v2 + (1 : Int32)))), .val (.int (((v1 + (3 : Int32)) + (v2 + (1 : Int32))) + v3)), .unset, .unset, .unset]) rfl k) ?_
          show Go _ _ _ _ _ _ _ T104 (mkF m 308 #[.val (.int ia), .val (.int v1), .val (.int v2), .val (.int v3), .val (.int f4), .val (.int f5), .val (.int f6), .val (.int v7), .val (.ref b36), .val (.int (v1 + (3 : Int32))), .val (.int ((v1 + (3 : Int32)) + v2)), .val (.int ((((v1 + (3 : Int32)) + (v2 + (1 : Int32))) + v3) + (1 : Int32))), .val (.int (((v1 + (3 : Int32)) + (v2 + (1 : Int32))) + v3)), .val (.int ((v1 + (3 : Int32)) + (v2 + (1 : Int32)))), .val (.int (((v1 + (3 : Int32)) + (v2 + (1 : Int32))) + v3)), .unset, .unset, .unset] [])
          refine Go.step (fun _ k => XS.iload X104.here hx rfl (hb hby at_308) rfl k) ?_
          show Go _ _ _ _ _ _ _ T104 (mkF m 310 #[.val (.int ia), .val (.int v1), .val (.int v2), .val (.int v3), .val (.int f4), .val (.int f5), .val (.int f6), .val (.int v7), .val (.ref b36), .val (.int (v1 + (3 : Int32))), .val (.int ((v1 + (3 : Int32)) + v2)), .val (.int ((((v1 + (3 : Int32)) + (v2 + (1 : Int32))) + v3) + (1 : Int32))), .val (.int (((v1 + (3 : Int32)) + (v2 + (1 : Int32))) + v3)), .val (.int ((v1 + (3 : Int32)) + (v2 + (1 : Int32)))), .val (.int (((v1 + (3 : Int32)) + (v2 + (1 : Int32))) + v3)), .unset, .unset, .unset] [(.int ((((v1 + (3 : Int32)) + (v2 + (1 : Int32))) + v3) + (1 : Int32)))])
          refine Go.step (fun _ k => XS.iload X104.here hx rfl (hb hby at_310) rfl k) ?_
          show Go _ _ _ _ _ _ _ T104 (mkF m 312 #[.val (.int ia), .val (.int v1), .val (.int v2), .val (.int v3), .val (.int f4), .val (.int f5), .val (.int f6), .val (.int v7), .val (.ref b36), .val (.int (v1 + (3 : Int32))), .val (.int ((v1 + (3 : Int32)) + v2)), .val (.int ((((v1 + (3 : Int32)) + (v2 + (1 : Int32))) + v3) + (1 : Int32))), .val (.int (((v1 + (3 : Int32)) + (v2 + (1 : Int32))) + v3)), .val (.int ((v1 + (3 : Int32)) + (v2 + (1 : Int32)))), .val (.int (((v1 + (3 : Int32)) + (v2 + (1 : Int32))) + v3)), .unset, .unset, .unset] [(.int v7), (.int ((((v1 + (3 : Int32)) + (v2 + (1 : Int32))) + v3) + (1 : Int32)))])
          refine Go.step (fun _ k => XS.iadd X104.here hx rfl (hb hby at_312) rfl k) ?_
          show Go _ _ _ _ _ _ _ T104 (mkF m 313 #[.val (.int ia), .val (.int v1), .val (.int v2), .val (.int v3), .val (.int f4), .val (.int f5), .val (.int f6), .val (.int v7), .val (.ref b36), .val (.int (v1 + (3 : Int32))), .val (.int ((v1 + (3 : Int32)) + v2)), .val (.int ((((v1 + (3 : Int32)) + (v2 + (1 : Int32))) + v3) + (1 : Int32))), .val (.int (((v1 + (3 : Int32)) + (v2 + (1 : Int32))) + v3)), .val (.int ((v1 + (3 : Int32)) + (v2 + (1 : Int32)))), .val (.int (((v1 + (3 : Int32)) + (v2 + (1 : Int32))) + v3)), .unset, .unset, .unset] [(.int (((((v1 + (3 : Int32)) + (v2 + (1 : Int32))) + v3) + (1 : Int32)) + v7))])
          refine Go.step (fun _ k => XS.istore X104.here hx rfl (hb hby at_313) rfl (l' := #[.val (.int ia), .val (.int v1), .val (.int v2), .val (.int v3), .val (.int f4), .val (.int f5), .val (.int f6), .val (.int v7), .val (.ref b36), .val (.int (v1 + (3 : Int32))), .val (.int ((v1 + (3 : Int32)) + v2)), .val (.int ((((v1 + (3 : Int32)) + (v2 + (1 : Int32))) + v3) + (1 : Int32))), .val (.int (((((v1 + (3 : Int32)) + (v2 + (1 : Int32))) + v3) + (1 : Int32)) + v7)), .val (.int ((v1 + (3 : Int32)) + (v2 + (1 : Int32)))), .val (.int (((v1 + (3 : Int32)) + (v2 + (1 : Int32))) + v3)), .unset, .unset, .unset]) rfl k) ?_
          show Go _ _ _ _ _ _ _ T104 (mkF m 315 #[.val (.int ia), .val (.int v1), .val (.int v2), .val (.int v3), .val (.int f4), .val (.int f5), .val (.int f6), .val (.int v7), .val (.ref b36), .val (.int (v1 + (3 : Int32))), .val (.int ((v1 + (3 : Int32)) + v2)), .val (.int ((((v1 + (3 : Int32)) + (v2 + (1 : Int32))) + v3) + (1 : Int32))), .val (.int (((((v1 + (3 : Int32)) + (v2 + (1 : Int32))) + v3) + (1 : Int32)) + v7)), .val (.int ((v1 + (3 : Int32)) + (v2 + (1 : Int32)))), .val (.int (((v1 + (3 : Int32)) + (v2 + (1 : Int32))) + v3)), .unset, .unset, .unset] [])
          have f106 : Old Z n0 h104 := ((((((((((((((((((((((((((Oj.ext E36).wr W38 g_b36).wr W39 g_b36).wr W40 g_b36).wr W41 g_b36).wr W42 g_b36).wr W43 g_b36).wr W44 g_b36).wr W45 g_b36).wr W46 g_b36).wr W47 g_b36).wr W48 g_b36).wr W49 g_b36).wr W50 g_b36).wr W51 g_b36).wr W52 g_b36).wr W53 g_b36).wr W54 g_b36).wr W55 g_b36).wr W56 g_b36).wr W57 g_b36).wr W59 g_b36).wr W88 g_b36).wr W90 g_b36).wr W100 g_b36).wr W104 g_b36)
          exact K T104 h104 _ (((((cs0.set (v1).toNatClampNeg (nar .char (58 : Int32))).set ((v1 + (1 : Int32))).toNatClampNeg (nar .char (47 : Int32))).set ((v1 + (2 : Int32))).toNatClampNeg (nar .char (47 : Int32))).set (((v1 + (3 : Int32)) + v2)).toNatClampNeg (nar .char (64 : Int32))).set ((((v1 + (3 : Int32)) + (v2 + (1 : Int32))) + v3)).toNatClampNeg (nar .char (58 : Int32))) (v1 + (3 : Int32)) ((v1 + (3 : Int32)) + v2) ((((v1 + (3 : Int32)) + (v2 + (1 : Int32))) + v3) + (1 : Int32)) (((((v1 + (3 : Int32)) + (v2 + (1 : Int32))) + v3) + (1 : Int32)) + v7) ((v1 + (3 : Int32)) + (v2 + (1 : Int32))) (.val (.int (((v1 + (3 : Int32)) + (v2 + (1 : Int32))) + v3))) (X104.more (by decide) (by decide)) e104 N104 Z104 V105 f106 hl105 hp105 (by have := rng32 v1; have : (3 : Int32).toInt = 3 := rfl; have := rng32 (v1 + (3 : Int32)); have := c_iadd v1 (3 : Int32); have := rng32 v2; have : (1 : Int32).toInt = 1 := rfl; have := rng32 (v2 + (1 : Int32)); have := c_iadd v2 (1 : Int32); have := rng32 ((v1 + (3 : Int32)) + (v2 + (1 : Int32))); have := c_iadd (v1 + (3 : Int32)) (v2 + (1 : Int32)); have := rng32 v3; have := rng32 (((v1 + (3 : Int32)) + (v2 + (1 : Int32))) + v3); have := c_iadd ((v1 + (3 : Int32)) + (v2 + (1 : Int32))) v3; have := rng32 ((((v1 + (3 : Int32)) + (v2 + (1 : Int32))) + v3) + (1 : Int32)); have := c_iadd (((v1 + (3 : Int32)) + (v2 + (1 : Int32))) + v3) (1 : Int32); have := rng32 v7; have := rng32 (((((v1 + (3 : Int32)) + (v2 + (1 : Int32))) + v3) + (1 : Int32)) + v7); have := c_iadd ((((v1 + (3 : Int32)) + (v2 + (1 : Int32))) + v3) + (1 : Int32)) v7; omega) (Or.inr ⟨hc219_86, (by unfold own_hs; rw [if_neg (by have := rng32 v1; have : (3 : Int32).toInt = 3 := rfl; have := rng32 (v1 + (3 : Int32)); have := c_iadd v1 (3 : Int32); have : (-1 : Int32).toInt = -1 := rfl; simp only [Int32.lt_iff_toInt_lt, Int32.le_iff_toInt_le, ← Int32.toInt_inj, Int64.lt_iff_toInt_lt, Int64.le_iff_toInt_le, ← Int64.toInt_inj]; omega), if_neg (by have := rng32 v1; have : (3 : Int32).toInt = 3 := rfl; have := rng32 (v1 + (3 : Int32)); have := c_iadd v1 (3 : Int32); have := rng32 v2; have := rng32 ((v1 + (3 : Int32)) + v2); have := c_iadd (v1 + (3 : Int32)) v2; have : (-1 : Int32).toInt = -1 := rfl; simp only [Int32.lt_iff_toInt_lt, Int32.le_iff_toInt_le, ← Int32.toInt_inj, Int64.lt_iff_toInt_lt, Int64.le_iff_toInt_le, ← Int64.toInt_inj]; omega)]; have := rng32 v1; have : (3 : Int32).toInt = 3 := rfl; have := rng32 (v1 + (3 : Int32)); have := c_iadd v1 (3 : Int32); have := rng32 v2; have : (1 : Int32).toInt = 1 := rfl; have := rng32 (v2 + (1 : Int32)); have := c_iadd v2 (1 : Int32); have := rng32 ((v1 + (3 : Int32)) + (v2 + (1 : Int32))); have := c_iadd (v1 + (3 : Int32)) (v2 + (1 : Int32)); have := rng32 ((v1 + (3 : Int32)) + v2); have := c_iadd (v1 + (3 : Int32)) v2; have := rng32 (((v1 + (3 : Int32)) + v2) + (1 : Int32)); have := c_iadd ((v1 + (3 : Int32)) + v2) (1 : Int32); simp only [Int32.lt_iff_toInt_lt, Int32.le_iff_toInt_le, ← Int32.toInt_inj, Int64.lt_iff_toInt_lt, Int64.le_iff_toInt_le, ← Int64.toInt_inj]; omega), (by have := rng32 v1; have : (3 : Int32).toInt = 3 := rfl; have := rng32 (v1 + (3 : Int32)); have := c_iadd v1 (3 : Int32); have := rng32 v2; have : (1 : Int32).toInt = 1 := rfl; have := rng32 (v2 + (1 : Int32)); have := c_iadd v2 (1 : Int32); have := rng32 ((v1 + (3 : Int32)) + (v2 + (1 : Int32))); have := c_iadd (v1 + (3 : Int32)) (v2 + (1 : Int32)); omega), (by have := rng32 v1; have : (3 : Int32).toInt = 3 := rfl; have := rng32 (v1 + (3 : Int32)); have := c_iadd v1 (3 : Int32); have := rng32 v2; have : (1 : Int32).toInt = 1 := rfl; have := rng32 (v2 + (1 : Int32)); have := c_iadd v2 (1 : Int32); have := rng32 ((v1 + (3 : Int32)) + (v2 + (1 : Int32))); have := c_iadd (v1 + (3 : Int32)) (v2 + (1 : Int32)); have := rng32 v3; have := rng32 (((v1 + (3 : Int32)) + (v2 + (1 : Int32))) + v3); have := c_iadd ((v1 + (3 : Int32)) + (v2 + (1 : Int32))) v3; have := rng32 ((((v1 + (3 : Int32)) + (v2 + (1 : Int32))) + v3) + (1 : Int32)); have := c_iadd (((v1 + (3 : Int32)) + (v2 + (1 : Int32))) + v3) (1 : Int32); have := rng32 v7; have := rng32 (((((v1 + (3 : Int32)) + (v2 + (1 : Int32))) + v3) + (1 : Int32)) + v7); have := c_iadd ((((v1 + (3 : Int32)) + (v2 + (1 : Int32))) + v3) + (1 : Int32)) v7; omega), (by rw [show (((v1 + (3 : Int32)) + (v2 + (1 : Int32))) - (1 : Int32)) = ((v1 + (3 : Int32)) + v2) from (by have := rng32 v1; have : (3 : Int32).toInt = 3 := rfl; have := rng32 (v1 + (3 : Int32)); have := c_iadd v1 (3 : Int32); have := rng32 v2; have : (1 : Int32).toInt = 1 := rfl; have := rng32 (v2 + (1 : Int32)); have := c_iadd v2 (1 : Int32); have := rng32 ((v1 + (3 : Int32)) + (v2 + (1 : Int32))); have := c_iadd (v1 + (3 : Int32)) (v2 + (1 : Int32)); have := rng32 (((v1 + (3 : Int32)) + (v2 + (1 : Int32))) - (1 : Int32)); have := c_isub ((v1 + (3 : Int32)) + (v2 + (1 : Int32))) (1 : Int32); have := rng32 ((v1 + (3 : Int32)) + v2); have := c_iadd (v1 + (3 : Int32)) v2; simp only [Int32.lt_iff_toInt_lt, Int32.le_iff_toInt_le, ← Int32.toInt_inj, Int64.lt_iff_toInt_lt, Int64.le_iff_toInt_le, ← Int64.toInt_inj]; omega), if_neg hc248_92]; exact ((own_nI (own_tne (by have := rng32 v1; have : (3 : Int32).toInt = 3 := rfl; have := rng32 (v1 + (3 : Int32)); have := c_iadd v1 (3 : Int32); have := rng32 v2; have : (1 : Int32).toInt = 1 := rfl; have := rng32 (v2 + (1 : Int32)); have := c_iadd v2 (1 : Int32); have := rng32 ((v1 + (3 : Int32)) + (v2 + (1 : Int32))); have := c_iadd (v1 + (3 : Int32)) (v2 + (1 : Int32)); have := rng32 v3; have := rng32 (((v1 + (3 : Int32)) + (v2 + (1 : Int32))) + v3); have := c_iadd ((v1 + (3 : Int32)) + (v2 + (1 : Int32))) v3; omega) (by have := rng32 v1; have : (3 : Int32).toInt = 3 := rfl; have := rng32 (v1 + (3 : Int32)); have := c_iadd v1 (3 : Int32); have := rng32 v2; have := rng32 ((v1 + (3 : Int32)) + v2); have := c_iadd (v1 + (3 : Int32)) v2; omega) (by have := rng32 v1; have : (3 : Int32).toInt = 3 := rfl; have := rng32 (v1 + (3 : Int32)); have := c_iadd v1 (3 : Int32); have := rng32 v2; have : (1 : Int32).toInt = 1 := rfl; have := rng32 (v2 + (1 : Int32)); have := c_iadd v2 (1 : Int32); have := rng32 ((v1 + (3 : Int32)) + (v2 + (1 : Int32))); have := c_iadd (v1 + (3 : Int32)) (v2 + (1 : Int32)); have := rng32 v3; have := rng32 (((v1 + (3 : Int32)) + (v2 + (1 : Int32))) + v3); have := c_iadd ((v1 + (3 : Int32)) + (v2 + (1 : Int32))) v3; have := rng32 ((v1 + (3 : Int32)) + v2); have := c_iadd (v1 + (3 : Int32)) v2; omega))).trans (own_gI (by simp only [List.length_set, hl0]; exact own_tn (n := 20) (by have := rng32 v1; have : (3 : Int32).toInt = 3 := rfl; have := rng32 (v1 + (3 : Int32)); have := c_iadd v1 (3 : Int32); have := rng32 v2; have := rng32 ((v1 + (3 : Int32)) + v2); have := c_iadd (v1 + (3 : Int32)) v2; omega) (by have := rng32 v1; have : (3 : Int32).toInt = 3 := rfl; have := rng32 (v1 + (3 : Int32)); have := c_iadd v1 (3 : Int32); have := rng32 v2; have := rng32 ((v1 + (3 : Int32)) + v2); have := c_iadd (v1 + (3 : Int32)) v2; omega)))))⟩) (One.val rfl)
  show Go _ _ _ _ _ _ _ s₁ (mkF m 0 #[.val (.int ia), .unset, .unset, .unset, .unset, .unset, .unset, .unset, .unset, .unset, .unset, .unset, .unset, .unset, .unset, .unset, .unset, .unset] [])
  refine Go.step (fun _ k => XS.iconst X0.here hx rfl (hb hby at_0) k) ?_
  show Go _ _ _ _ _ _ _ s₁ (mkF m 1 #[.val (.int ia), .unset, .unset, .unset, .unset, .unset, .unset, .unset, .unset, .unset, .unset, .unset, .unset, .unset, .unset, .unset, .unset, .unset] [(.int (1 : Int32))])
  refine Go.step (fun _ k => XS.iloadN X0.here hx rfl (hb hby at_1) rfl k) ?_
  show Go _ _ _ _ _ _ _ s₁ (mkF m 2 #[.val (.int ia), .unset, .unset, .unset, .unset, .unset, .unset, .unset, .unset, .unset, .unset, .unset, .unset, .unset, .unset, .unset, .unset, .unset] [(.int ia), (.int (1 : Int32))])
  refine Go.step (fun _ k => XS.iconst X0.here hx rfl (hb hby at_2) k) ?_
  show Go _ _ _ _ _ _ _ s₁ (mkF m 3 #[.val (.int ia), .unset, .unset, .unset, .unset, .unset, .unset, .unset, .unset, .unset, .unset, .unset, .unset, .unset, .unset, .unset, .unset, .unset] [(.int (3 : Int32)), (.int ia), (.int (1 : Int32))])
  refine Go.step (fun _ k => XS.iand X0.here hx rfl (hb hby at_3) rfl k) ?_
  show Go _ _ _ _ _ _ _ s₁ (mkF m 4 #[.val (.int ia), .unset, .unset, .unset, .unset, .unset, .unset, .unset, .unset, .unset, .unset, .unset, .unset, .unset, .unset, .unset, .unset, .unset] [(.int (ia &&& (3 : Int32))), (.int (1 : Int32))])
  refine Go.step (fun _ k => XS.iadd X0.here hx rfl (hb hby at_4) rfl k) ?_
  show Go _ _ _ _ _ _ _ s₁ (mkF m 5 #[.val (.int ia), .unset, .unset, .unset, .unset, .unset, .unset, .unset, .unset, .unset, .unset, .unset, .unset, .unset, .unset, .unset, .unset, .unset] [(.int ((1 : Int32) + (ia &&& (3 : Int32))))])
  refine Go.step (fun _ k => XS.istoreN X0.here hx rfl (hb hby at_5) rfl (l' := #[.val (.int ia), .val (.int ((1 : Int32) + (ia &&& (3 : Int32)))), .unset, .unset, .unset, .unset, .unset, .unset, .unset, .unset, .unset, .unset, .unset, .unset, .unset, .unset, .unset, .unset]) rfl k) ?_
  show Go _ _ _ _ _ _ _ s₁ (mkF m 6 #[.val (.int ia), .val (.int ((1 : Int32) + (ia &&& (3 : Int32)))), .unset, .unset, .unset, .unset, .unset, .unset, .unset, .unset, .unset, .unset, .unset, .unset, .unset, .unset, .unset, .unset] [])
  refine Go.step (fun _ k => XS.iloadN X0.here hx rfl (hb hby at_6) rfl k) ?_
  show Go _ _ _ _ _ _ _ s₁ (mkF m 7 #[.val (.int ia), .val (.int ((1 : Int32) + (ia &&& (3 : Int32)))), .unset, .unset, .unset, .unset, .unset, .unset, .unset, .unset, .unset, .unset, .unset, .unset, .unset, .unset, .unset, .unset] [(.int ia)])
  refine Go.step (fun _ k => XS.iconst X0.here hx rfl (hb hby at_7) k) ?_
  show Go _ _ _ _ _ _ _ s₁ (mkF m 8 #[.val (.int ia), .val (.int ((1 : Int32) + (ia &&& (3 : Int32)))), .unset, .unset, .unset, .unset, .unset, .unset, .unset, .unset, .unset, .unset, .unset, .unset, .unset, .unset, .unset, .unset] [(.int (2 : Int32)), (.int ia)])
  refine Go.step (fun _ k => XS.iushr X0.here hx rfl (hb hby at_8) rfl k) ?_
  show Go _ _ _ _ _ _ _ s₁ (mkF m 9 #[.val (.int ia), .val (.int ((1 : Int32) + (ia &&& (3 : Int32)))), .unset, .unset, .unset, .unset, .unset, .unset, .unset, .unset, .unset, .unset, .unset, .unset, .unset, .unset, .unset, .unset] [(.int ((ia.toUInt32 >>> ((2 : Int32) &&& 31).toUInt32).toInt32))])
  refine Go.step (fun _ k => XS.iconst X0.here hx rfl (hb hby at_9) k) ?_
  show Go _ _ _ _ _ _ _ s₁ (mkF m 10 #[.val (.int ia), .val (.int ((1 : Int32) + (ia &&& (3 : Int32)))), .unset, .unset, .unset, .unset, .unset, .unset, .unset, .unset, .unset, .unset, .unset, .unset, .unset, .unset, .unset, .unset] [(.int (3 : Int32)), (.int ((ia.toUInt32 >>> ((2 : Int32) &&& 31).toUInt32).toInt32))])
  refine Go.step (fun _ k => XS.iand X0.here hx rfl (hb hby at_10) rfl k) ?_
  show Go _ _ _ _ _ _ _ s₁ (mkF m 11 #[.val (.int ia), .val (.int ((1 : Int32) + (ia &&& (3 : Int32)))), .unset, .unset, .unset, .unset, .unset, .unset, .unset, .unset, .unset, .unset, .unset, .unset, .unset, .unset, .unset, .unset] [(.int (((ia.toUInt32 >>> ((2 : Int32) &&& 31).toUInt32).toInt32) &&& (3 : Int32)))])
  refine Go.step (fun _ k => XS.istoreN X0.here hx rfl (hb hby at_11) rfl (l' := #[.val (.int ia), .val (.int ((1 : Int32) + (ia &&& (3 : Int32)))), .val (.int (((ia.toUInt32 >>> ((2 : Int32) &&& 31).toUInt32).toInt32) &&& (3 : Int32))), .unset, .unset, .unset, .unset, .unset, .unset, .unset, .unset, .unset, .unset, .unset, .unset, .unset, .unset, .unset]) rfl k) ?_
  show Go _ _ _ _ _ _ _ s₁ (mkF m 12 #[.val (.int ia), .val (.int ((1 : Int32) + (ia &&& (3 : Int32)))), .val (.int (((ia.toUInt32 >>> ((2 : Int32) &&& 31).toUInt32).toInt32) &&& (3 : Int32))), .unset, .unset, .unset, .unset, .unset, .unset, .unset, .unset, .unset, .unset, .unset, .unset, .unset, .unset, .unset] [])
  refine Go.step (fun _ k => XS.iloadN X0.here hx rfl (hb hby at_12) rfl k) ?_
  show Go _ _ _ _ _ _ _ s₁ (mkF m 13 #[.val (.int ia), .val (.int ((1 : Int32) + (ia &&& (3 : Int32)))), .val (.int (((ia.toUInt32 >>> ((2 : Int32) &&& 31).toUInt32).toInt32) &&& (3 : Int32))), .unset, .unset, .unset, .unset, .unset, .unset, .unset, .unset, .unset, .unset, .unset, .unset, .unset, .unset, .unset] [(.int ia)])
  refine Go.step (fun _ k => XS.iconst X0.here hx rfl (hb hby at_13) k) ?_
  show Go _ _ _ _ _ _ _ s₁ (mkF m 14 #[.val (.int ia), .val (.int ((1 : Int32) + (ia &&& (3 : Int32)))), .val (.int (((ia.toUInt32 >>> ((2 : Int32) &&& 31).toUInt32).toInt32) &&& (3 : Int32))), .unset, .unset, .unset, .unset, .unset, .unset, .unset, .unset, .unset, .unset, .unset, .unset, .unset, .unset, .unset] [(.int (4 : Int32)), (.int ia)])
  refine Go.step (fun _ k => XS.iushr X0.here hx rfl (hb hby at_14) rfl k) ?_
  show Go _ _ _ _ _ _ _ s₁ (mkF m 15 #[.val (.int ia), .val (.int ((1 : Int32) + (ia &&& (3 : Int32)))), .val (.int (((ia.toUInt32 >>> ((2 : Int32) &&& 31).toUInt32).toInt32) &&& (3 : Int32))), .unset, .unset, .unset, .unset, .unset, .unset, .unset, .unset, .unset, .unset, .unset, .unset, .unset, .unset, .unset] [(.int ((ia.toUInt32 >>> ((4 : Int32) &&& 31).toUInt32).toInt32))])
  refine Go.step (fun _ k => XS.iconst X0.here hx rfl (hb hby at_15) k) ?_
  show Go _ _ _ _ _ _ _ s₁ (mkF m 16 #[.val (.int ia), .val (.int ((1 : Int32) + (ia &&& (3 : Int32)))), .val (.int (((ia.toUInt32 >>> ((2 : Int32) &&& 31).toUInt32).toInt32) &&& (3 : Int32))), .unset, .unset, .unset, .unset, .unset, .unset, .unset, .unset, .unset, .unset, .unset, .unset, .unset, .unset, .unset] [(.int (3 : Int32)), (.int ((ia.toUInt32 >>> ((4 : Int32) &&& 31).toUInt32).toInt32))])
  refine Go.step (fun _ k => XS.iand X0.here hx rfl (hb hby at_16) rfl k) ?_
  show Go _ _ _ _ _ _ _ s₁ (mkF m 17 #[.val (.int ia), .val (.int ((1 : Int32) + (ia &&& (3 : Int32)))), .val (.int (((ia.toUInt32 >>> ((2 : Int32) &&& 31).toUInt32).toInt32) &&& (3 : Int32))), .unset, .unset, .unset, .unset, .unset, .unset, .unset, .unset, .unset, .unset, .unset, .unset, .unset, .unset, .unset] [(.int (((ia.toUInt32 >>> ((4 : Int32) &&& 31).toUInt32).toInt32) &&& (3 : Int32)))])
  refine Go.step (fun _ k => XS.istoreN X0.here hx rfl (hb hby at_17) rfl (l' := #[.val (.int ia), .val (.int ((1 : Int32) + (ia &&& (3 : Int32)))), .val (.int (((ia.toUInt32 >>> ((2 : Int32) &&& 31).toUInt32).toInt32) &&& (3 : Int32))), .val (.int (((ia.toUInt32 >>> ((4 : Int32) &&& 31).toUInt32).toInt32) &&& (3 : Int32))), .unset, .unset, .unset, .unset, .unset, .unset, .unset, .unset, .unset, .unset, .unset, .unset, .unset, .unset]) rfl k) ?_
  show Go _ _ _ _ _ _ _ s₁ (mkF m 18 #[.val (.int ia), .val (.int ((1 : Int32) + (ia &&& (3 : Int32)))), .val (.int (((ia.toUInt32 >>> ((2 : Int32) &&& 31).toUInt32).toInt32) &&& (3 : Int32))), .val (.int (((ia.toUInt32 >>> ((4 : Int32) &&& 31).toUInt32).toInt32) &&& (3 : Int32))), .unset, .unset, .unset, .unset, .unset, .unset, .unset, .unset, .unset, .unset, .unset, .unset, .unset, .unset] [])
  refine Go.step (fun _ k => XS.iloadN X0.here hx rfl (hb hby at_18) rfl k) ?_
  show Go _ _ _ _ _ _ _ s₁ (mkF m 19 #[.val (.int ia), .val (.int ((1 : Int32) + (ia &&& (3 : Int32)))), .val (.int (((ia.toUInt32 >>> ((2 : Int32) &&& 31).toUInt32).toInt32) &&& (3 : Int32))), .val (.int (((ia.toUInt32 >>> ((4 : Int32) &&& 31).toUInt32).toInt32) &&& (3 : Int32))), .unset, .unset, .unset, .unset, .unset, .unset, .unset, .unset, .unset, .unset, .unset, .unset, .unset, .unset] [(.int ia)])
  refine Go.step (fun _ k => XS.bipush X0.here hx rfl (hb hby at_19) k) ?_
  show Go _ _ _ _ _ _ _ s₁ (mkF m 21 #[.val (.int ia), .val (.int ((1 : Int32) + (ia &&& (3 : Int32)))), .val (.int (((ia.toUInt32 >>> ((2 : Int32) &&& 31).toUInt32).toInt32) &&& (3 : Int32))), .val (.int (((ia.toUInt32 >>> ((4 : Int32) &&& 31).toUInt32).toInt32) &&& (3 : Int32))), .unset, .unset, .unset, .unset, .unset, .unset, .unset, .unset, .unset, .unset, .unset, .unset, .unset, .unset] [(.int (6 : Int32)), (.int ia)])
  refine Go.step (fun _ k => XS.iushr X0.here hx rfl (hb hby at_21) rfl k) ?_
  show Go _ _ _ _ _ _ _ s₁ (mkF m 22 #[.val (.int ia), .val (.int ((1 : Int32) + (ia &&& (3 : Int32)))), .val (.int (((ia.toUInt32 >>> ((2 : Int32) &&& 31).toUInt32).toInt32) &&& (3 : Int32))), .val (.int (((ia.toUInt32 >>> ((4 : Int32) &&& 31).toUInt32).toInt32) &&& (3 : Int32))), .unset, .unset, .unset, .unset, .unset, .unset, .unset, .unset, .unset, .unset, .unset, .unset, .unset, .unset] [(.int ((ia.toUInt32 >>> ((6 : Int32) &&& 31).toUInt32).toInt32))])
  refine Go.step (fun _ k => XS.iconst X0.here hx rfl (hb hby at_22) k) ?_
  show Go _ _ _ _ _ _ _ s₁ (mkF m 23 #[.val (.int ia), .val (.int ((1 : Int32) + (ia &&& (3 : Int32)))), .val (.int (((ia.toUInt32 >>> ((2 : Int32) &&& 31).toUInt32).toInt32) &&& (3 : Int32))), .val (.int (((ia.toUInt32 >>> ((4 : Int32) &&& 31).toUInt32).toInt32) &&& (3 : Int32))), .unset, .unset, .unset, .unset, .unset, .unset, .unset, .unset, .unset, .unset, .unset, .unset, .unset, .unset] [(.int (1 : Int32)), (.int ((ia.toUInt32 >>> ((6 : Int32) &&& 31).toUInt32).toInt32))])
  refine Go.step (fun _ k => XS.iand X0.here hx rfl (hb hby at_23) rfl k) ?_
  show Go _ _ _ _ _ _ _ s₁ (mkF m 24 #[.val (.int ia), .val (.int ((1 : Int32) + (ia &&& (3 : Int32)))), .val (.int (((ia.toUInt32 >>> ((2 : Int32) &&& 31).toUInt32).toInt32) &&& (3 : Int32))), .val (.int (((ia.toUInt32 >>> ((4 : Int32) &&& 31).toUInt32).toInt32) &&& (3 : Int32))), .unset, .unset, .unset, .unset, .unset, .unset, .unset, .unset, .unset, .unset, .unset, .unset, .unset, .unset] [(.int (((ia.toUInt32 >>> ((6 : Int32) &&& 31).toUInt32).toInt32) &&& (1 : Int32)))])
  by_cases hc24_107 : (((ia.toUInt32 >>> ((6 : Int32) &&& 31).toUInt32).toInt32) &&& (1 : Int32)) = (0 : Int32)
  · refine Go.step (fun _ k => XS.ifYes X0.here hx rfl (pc0 := 24) (pc' := 31) rfl (hb hby at_24) rfl ((if0 _ _).trans (teq hc24_107).1) (by decide) (by decide) k) ?_
    show Go _ _ _ _ _ _ _ s₁ (mkF m 31 #[.val (.int ia), .val (.int ((1 : Int32) + (ia &&& (3 : Int32)))), .val (.int (((ia.toUInt32 >>> ((2 : Int32) &&& 31).toUInt32).toInt32) &&& (3 : Int32))), .val (.int (((ia.toUInt32 >>> ((4 : Int32) &&& 31).toUInt32).toInt32) &&& (3 : Int32))), .unset, .unset, .unset, .unset, .unset, .unset, .unset, .unset, .unset, .unset, .unset, .unset, .unset, .unset] [])
    refine Go.step (fun _ k => XS.iconst X0.here hx rfl (hb hby at_31) k) ?_
    show Go _ _ _ _ _ _ _ s₁ (mkF m 32 #[.val (.int ia), .val (.int ((1 : Int32) + (ia &&& (3 : Int32)))), .val (.int (((ia.toUInt32 >>> ((2 : Int32) &&& 31).toUInt32).toInt32) &&& (3 : Int32))), .val (.int (((ia.toUInt32 >>> ((4 : Int32) &&& 31).toUInt32).toInt32) &&& (3 : Int32))), .unset, .unset, .unset, .unset, .unset, .unset, .unset, .unset, .unset, .unset, .unset, .unset, .unset, .unset] [(.int (0 : Int32))])
    refine Go.step (fun _ k => XS.istore X0.here hx rfl (hb hby at_32) rfl (l' := #[.val (.int ia), .val (.int ((1 : Int32) + (ia &&& (3 : Int32)))), .val (.int (((ia.toUInt32 >>> ((2 : Int32) &&& 31).toUInt32).toInt32) &&& (3 : Int32))), .val (.int (((ia.toUInt32 >>> ((4 : Int32) &&& 31).toUInt32).toInt32) &&& (3 : Int32))), .val (.int (0 : Int32)), .unset, .unset, .unset, .unset, .unset, .unset, .unset, .unset, .unset, .unset, .unset, .unset, .unset]) rfl k) ?_
    show Go _ _ _ _ _ _ _ s₁ (mkF m 34 #[.val (.int ia), .val (.int ((1 : Int32) + (ia &&& (3 : Int32)))), .val (.int (((ia.toUInt32 >>> ((2 : Int32) &&& 31).toUInt32).toInt32) &&& (3 : Int32))), .val (.int (((ia.toUInt32 >>> ((4 : Int32) &&& 31).toUInt32).toInt32) &&& (3 : Int32))), .val (.int (0 : Int32)), .unset, .unset, .unset, .unset, .unset, .unset, .unset, .unset, .unset, .unset, .unset, .unset, .unset] [])
    refine Go.step (fun _ k => XS.iloadN X0.here hx rfl (hb hby at_34) rfl k) ?_
    show Go _ _ _ _ _ _ _ s₁ (mkF m 35 #[.val (.int ia), .val (.int ((1 : Int32) + (ia &&& (3 : Int32)))), .val (.int (((ia.toUInt32 >>> ((2 : Int32) &&& 31).toUInt32).toInt32) &&& (3 : Int32))), .val (.int (((ia.toUInt32 >>> ((4 : Int32) &&& 31).toUInt32).toInt32) &&& (3 : Int32))), .val (.int (0 : Int32)), .unset, .unset, .unset, .unset, .unset, .unset, .unset, .unset, .unset, .unset, .unset, .unset, .unset] [(.int ia)])
    refine Go.step (fun _ k => XS.bipush X0.here hx rfl (hb hby at_35) k) ?_
    show Go _ _ _ _ _ _ _ s₁ (mkF m 37 #[.val (.int ia), .val (.int ((1 : Int32) + (ia &&& (3 : Int32)))), .val (.int (((ia.toUInt32 >>> ((2 : Int32) &&& 31).toUInt32).toInt32) &&& (3 : Int32))), .val (.int (((ia.toUInt32 >>> ((4 : Int32) &&& 31).toUInt32).toInt32) &&& (3 : Int32))), .val (.int (0 : Int32)), .unset, .unset, .unset, .unset, .unset, .unset, .unset, .unset, .unset, .unset, .unset, .unset, .unset] [(.int (7 : Int32)), (.int ia)])
    refine Go.step (fun _ k => XS.iushr X0.here hx rfl (hb hby at_37) rfl k) ?_
    show Go _ _ _ _ _ _ _ s₁ (mkF m 38 #[.val (.int ia), .val (.int ((1 : Int32) + (ia &&& (3 : Int32)))), .val (.int (((ia.toUInt32 >>> ((2 : Int32) &&& 31).toUInt32).toInt32) &&& (3 : Int32))), .val (.int (((ia.toUInt32 >>> ((4 : Int32) &&& 31).toUInt32).toInt32) &&& (3 : Int32))), .val (.int (0 : Int32)), .unset, .unset, .unset, .unset, .unset, .unset, .unset, .unset, .unset, .unset, .unset, .unset, .unset] [(.int ((ia.toUInt32 >>> ((7 : Int32) &&& 31).toUInt32).toInt32))])
    refine Go.step (fun _ k => XS.iconst X0.here hx rfl (hb hby at_38) k) ?_
    show Go _ _ _ _ _ _ _ s₁ (mkF m 39 #[.val (.int ia), .val (.int ((1 : Int32) + (ia &&& (3 : Int32)))), .val (.int (((ia.toUInt32 >>> ((2 : Int32) &&& 31).toUInt32).toInt32) &&& (3 : Int32))), .val (.int (((ia.toUInt32 >>> ((4 : Int32) &&& 31).toUInt32).toInt32) &&& (3 : Int32))), .val (.int (0 : Int32)), .unset, .unset, .unset, .unset, .unset, .unset, .unset, .unset, .unset, .unset, .unset, .unset, .unset] [(.int (1 : Int32)), (.int ((ia.toUInt32 >>> ((7 : Int32) &&& 31).toUInt32).toInt32))])
    refine Go.step (fun _ k => XS.iand X0.here hx rfl (hb hby at_39) rfl k) ?_
    show Go _ _ _ _ _ _ _ s₁ (mkF m 40 #[.val (.int ia), .val (.int ((1 : Int32) + (ia &&& (3 : Int32)))), .val (.int (((ia.toUInt32 >>> ((2 : Int32) &&& 31).toUInt32).toInt32) &&& (3 : Int32))), .val (.int (((ia.toUInt32 >>> ((4 : Int32) &&& 31).toUInt32).toInt32) &&& (3 : Int32))), .val (.int (0 : Int32)), .unset, .unset, .unset, .unset, .unset, .unset, .unset, .unset, .unset, .unset, .unset, .unset, .unset] [(.int (((ia.toUInt32 >>> ((7 : Int32) &&& 31).toUInt32).toInt32) &&& (1 : Int32)))])
    by_cases hc40_108 : (((ia.toUInt32 >>> ((7 : Int32) &&& 31).toUInt32).toInt32) &&& (1 : Int32)) = (0 : Int32)
    · refine Go.step (fun _ k => XS.ifYes X0.here hx rfl (pc0 := 40) (pc' := 47) rfl (hb hby at_40) rfl ((if0 _ _).trans (teq hc40_108).1) (by decide) (by decide) k) ?_
      show Go _ _ _ _ _ _ _ s₁ (mkF m 47 #[.val (.int ia), .val (.int ((1 : Int32) + (ia &&& (3 : Int32)))), .val (.int (((ia.toUInt32 >>> ((2 : Int32) &&& 31).toUInt32).toInt32) &&& (3 : Int32))), .val (.int (((ia.toUInt32 >>> ((4 : Int32) &&& 31).toUInt32).toInt32) &&& (3 : Int32))), .val (.int (0 : Int32)), .unset, .unset, .unset, .unset, .unset, .unset, .unset, .unset, .unset, .unset, .unset, .unset, .unset] [])
      refine Go.step (fun _ k => XS.iconst X0.here hx rfl (hb hby at_47) k) ?_
      show Go _ _ _ _ _ _ _ s₁ (mkF m 48 #[.val (.int ia), .val (.int ((1 : Int32) + (ia &&& (3 : Int32)))), .val (.int (((ia.toUInt32 >>> ((2 : Int32) &&& 31).toUInt32).toInt32) &&& (3 : Int32))), .val (.int (((ia.toUInt32 >>> ((4 : Int32) &&& 31).toUInt32).toInt32) &&& (3 : Int32))), .val (.int (0 : Int32)), .unset, .unset, .unset, .unset, .unset, .unset, .unset, .unset, .unset, .unset, .unset, .unset, .unset] [(.int (0 : Int32))])
      refine Go.step (fun _ k => XS.istore X0.here hx rfl (hb hby at_48) rfl (l' := #[.val (.int ia), .val (.int ((1 : Int32) + (ia &&& (3 : Int32)))), .val (.int (((ia.toUInt32 >>> ((2 : Int32) &&& 31).toUInt32).toInt32) &&& (3 : Int32))), .val (.int (((ia.toUInt32 >>> ((4 : Int32) &&& 31).toUInt32).toInt32) &&& (3 : Int32))), .val (.int (0 : Int32)), .val (.int (0 : Int32)), .unset, .unset, .unset, .unset, .unset, .unset, .unset, .unset, .unset, .unset, .unset, .unset]) rfl k) ?_
      show Go _ _ _ _ _ _ _ s₁ (mkF m 50 #[.val (.int ia), .val (.int ((1 : Int32) + (ia &&& (3 : Int32)))), .val (.int (((ia.toUInt32 >>> ((2 : Int32) &&& 31).toUInt32).toInt32) &&& (3 : Int32))), .val (.int (((ia.toUInt32 >>> ((4 : Int32) &&& 31).toUInt32).toInt32) &&& (3 : Int32))), .val (.int (0 : Int32)), .val (.int (0 : Int32)), .unset, .unset, .unset, .unset, .unset, .unset, .unset, .unset, .unset, .unset, .unset, .unset] [])
      refine Go.step (fun _ k => XS.iloadN X0.here hx rfl (hb hby at_50) rfl k) ?_
      show Go _ _ _ _ _ _ _ s₁ (mkF m 51 #[.val (.int ia), .val (.int ((1 : Int32) + (ia &&& (3 : Int32)))), .val (.int (((ia.toUInt32 >>> ((2 : Int32) &&& 31).toUInt32).toInt32) &&& (3 : Int32))), .val (.int (((ia.toUInt32 >>> ((4 : Int32) &&& 31).toUInt32).toInt32) &&& (3 : Int32))), .val (.int (0 : Int32)), .val (.int (0 : Int32)), .unset, .unset, .unset, .unset, .unset, .unset, .unset, .unset, .unset, .unset, .unset, .unset] [(.int ia)])
      refine Go.step (fun _ k => XS.bipush X0.here hx rfl (hb hby at_51) k) ?_
      show Go _ _ _ _ _ _ _ s₁ (mkF m 53 #[.val (.int ia), .val (.int ((1 : Int32) + (ia &&& (3 : Int32)))), .val (.int (((ia.toUInt32 >>> ((2 : Int32) &&& 31).toUInt32).toInt32) &&& (3 : Int32))), .val (.int (((ia.toUInt32 >>> ((4 : Int32) &&& 31).toUInt32).toInt32) &&& (3 : Int32))), .val (.int (0 : Int32)), .val (.int (0 : Int32)), .unset, .unset, .unset, .unset, .unset, .unset, .unset, .unset, .unset, .unset, .unset, .unset] [(.int (8 : Int32)), (.int ia)])
      refine Go.step (fun _ k => XS.iushr X0.here hx rfl (hb hby at_53) rfl k) ?_
      show Go _ _ _ _ _ _ _ s₁ (mkF m 54 #[.val (.int ia), .val (.int ((1 : Int32) + (ia &&& (3 : Int32)))), .val (.int (((ia.toUInt32 >>> ((2 : Int32) &&& 31).toUInt32).toInt32) &&& (3 : Int32))), .val (.int (((ia.toUInt32 >>> ((4 : Int32) &&& 31).toUInt32).toInt32) &&& (3 : Int32))), .val (.int (0 : Int32)), .val (.int (0 : Int32)), .unset, .unset, .unset, .unset, .unset, .unset, .unset, .unset, .unset, .unset, .unset, .unset] [(.int ((ia.toUInt32 >>> ((8 : Int32) &&& 31).toUInt32).toInt32))])
      refine Go.step (fun _ k => XS.iconst X0.here hx rfl (hb hby at_54) k) ?_
      show Go _ _ _ _ _ _ _ s₁ (mkF m 55 #[.val (.int ia), .val (.int ((1 : Int32) + (ia &&& (3 : Int32)))), .val (.int (((ia.toUInt32 >>> ((2 : Int32) &&& 31).toUInt32).toInt32) &&& (3 : Int32))), .val (.int (((ia.toUInt32 >>> ((4 : Int32) &&& 31).toUInt32).toInt32) &&& (3 : Int32))), .val (.int (0 : Int32)), .val (.int (0 : Int32)), .unset, .unset, .unset, .unset, .unset, .unset, .unset, .unset, .unset, .unset, .unset, .unset] [(.int (1 : Int32)), (.int ((ia.toUInt32 >>> ((8 : Int32) &&& 31).toUInt32).toInt32))])
      refine Go.step (fun _ k => XS.iand X0.here hx rfl (hb hby at_55) rfl k) ?_
      show Go _ _ _ _ _ _ _ s₁ (mkF m 56 #[.val (.int ia), .val (.int ((1 : Int32) + (ia &&& (3 : Int32)))), .val (.int (((ia.toUInt32 >>> ((2 : Int32) &&& 31).toUInt32).toInt32) &&& (3 : Int32))), .val (.int (((ia.toUInt32 >>> ((4 : Int32) &&& 31).toUInt32).toInt32) &&& (3 : Int32))), .val (.int (0 : Int32)), .val (.int (0 : Int32)), .unset, .unset, .unset, .unset, .unset, .unset, .unset, .unset, .unset, .unset, .unset, .unset] [(.int (((ia.toUInt32 >>> ((8 : Int32) &&& 31).toUInt32).toInt32) &&& (1 : Int32)))])
      by_cases hc56_109 : (((ia.toUInt32 >>> ((8 : Int32) &&& 31).toUInt32).toInt32) &&& (1 : Int32)) = (0 : Int32)
      · refine Go.step (fun _ k => XS.ifYes X0.here hx rfl (pc0 := 56) (pc' := 63) rfl (hb hby at_56) rfl ((if0 _ _).trans (teq hc56_109).1) (by decide) (by decide) k) ?_
        show Go _ _ _ _ _ _ _ s₁ (mkF m 63 #[.val (.int ia), .val (.int ((1 : Int32) + (ia &&& (3 : Int32)))), .val (.int (((ia.toUInt32 >>> ((2 : Int32) &&& 31).toUInt32).toInt32) &&& (3 : Int32))), .val (.int (((ia.toUInt32 >>> ((4 : Int32) &&& 31).toUInt32).toInt32) &&& (3 : Int32))), .val (.int (0 : Int32)), .val (.int (0 : Int32)), .unset, .unset, .unset, .unset, .unset, .unset, .unset, .unset, .unset, .unset, .unset, .unset] [])
        refine Go.step (fun _ k => XS.iconst X0.here hx rfl (hb hby at_63) k) ?_
        show Go _ _ _ _ _ _ _ s₁ (mkF m 64 #[.val (.int ia), .val (.int ((1 : Int32) + (ia &&& (3 : Int32)))), .val (.int (((ia.toUInt32 >>> ((2 : Int32) &&& 31).toUInt32).toInt32) &&& (3 : Int32))), .val (.int (((ia.toUInt32 >>> ((4 : Int32) &&& 31).toUInt32).toInt32) &&& (3 : Int32))), .val (.int (0 : Int32)), .val (.int (0 : Int32)), .unset, .unset, .unset, .unset, .unset, .unset, .unset, .unset, .unset, .unset, .unset, .unset] [(.int (0 : Int32))])
        refine Go.step (fun _ k => XS.istore X0.here hx rfl (hb hby at_64) rfl (l' := #[.val (.int ia), .val (.int ((1 : Int32) + (ia &&& (3 : Int32)))), .val (.int (((ia.toUInt32 >>> ((2 : Int32) &&& 31).toUInt32).toInt32) &&& (3 : Int32))), .val (.int (((ia.toUInt32 >>> ((4 : Int32) &&& 31).toUInt32).toInt32) &&& (3 : Int32))), .val (.int (0 : Int32)), .val (.int (0 : Int32)), .val (.int (0 : Int32)), .unset, .unset, .unset, .unset, .unset, .unset, .unset, .unset, .unset, .unset, .unset]) rfl k) ?_
        show Go _ _ _ _ _ _ _ s₁ (mkF m 66 #[.val (.int ia), .val (.int ((1 : Int32) + (ia &&& (3 : Int32)))), .val (.int (((ia.toUInt32 >>> ((2 : Int32) &&& 31).toUInt32).toInt32) &&& (3 : Int32))), .val (.int (((ia.toUInt32 >>> ((4 : Int32) &&& 31).toUInt32).toInt32) &&& (3 : Int32))), .val (.int (0 : Int32)), .val (.int (0 : Int32)), .val (.int (0 : Int32)), .unset, .unset, .unset, .unset, .unset, .unset, .unset, .unset, .unset, .unset, .unset] [])
        refine Go.step (fun _ k => XS.iloadN X0.here hx rfl (hb hby at_66) rfl k) ?_
        show Go _ _ _ _ _ _ _ s₁ (mkF m 67 #[.val (.int ia), .val (.int ((1 : Int32) + (ia &&& (3 : Int32)))), .val (.int (((ia.toUInt32 >>> ((2 : Int32) &&& 31).toUInt32).toInt32) &&& (3 : Int32))), .val (.int (((ia.toUInt32 >>> ((4 : Int32) &&& 31).toUInt32).toInt32) &&& (3 : Int32))), .val (.int (0 : Int32)), .val (.int (0 : Int32)), .val (.int (0 : Int32)), .unset, .unset, .unset, .unset, .unset, .unset, .unset, .unset, .unset, .unset, .unset] [(.int ia)])
        refine Go.step (fun _ k => XS.bipush X0.here hx rfl (hb hby at_67) k) ?_
        show Go _ _ _ _ _ _ _ s₁ (mkF m 69 #[.val (.int ia), .val (.int ((1 : Int32) + (ia &&& (3 : Int32)))), .val (.int (((ia.toUInt32 >>> ((2 : Int32) &&& 31).toUInt32).toInt32) &&& (3 : Int32))), .val (.int (((ia.toUInt32 >>> ((4 : Int32) &&& 31).toUInt32).toInt32) &&& (3 : Int32))), .val (.int (0 : Int32)), .val (.int (0 : Int32)), .val (.int (0 : Int32)), .unset, .unset, .unset, .unset, .unset, .unset, .unset, .unset, .unset, .unset, .unset] [(.int (9 : Int32)), (.int ia)])
        refine Go.step (fun _ k => XS.iushr X0.here hx rfl (hb hby at_69) rfl k) ?_
        show Go _ _ _ _ _ _ _ s₁ (mkF m 70 #[.val (.int ia), .val (.int ((1 : Int32) + (ia &&& (3 : Int32)))), .val (.int (((ia.toUInt32 >>> ((2 : Int32) &&& 31).toUInt32).toInt32) &&& (3 : Int32))), .val (.int (((ia.toUInt32 >>> ((4 : Int32) &&& 31).toUInt32).toInt32) &&& (3 : Int32))), .val (.int (0 : Int32)), .val (.int (0 : Int32)), .val (.int (0 : Int32)), .unset, .unset, .unset, .unset, .unset, .unset, .unset, .unset, .unset, .unset, .unset] [(.int ((ia.toUInt32 >>> ((9 : Int32) &&& 31).toUInt32).toInt32))])
        refine Go.step (fun _ k => XS.iconst X0.here hx rfl (hb hby at_70) k) ?_
        show Go _ _ _ _ _ _ _ s₁ (mkF m 71 #[.val (.int ia), .val (.int ((1 : Int32) + (ia &&& (3 : Int32)))), .val (.int (((ia.toUInt32 >>> ((2 : Int32) &&& 31).toUInt32).toInt32) &&& (3 : Int32))), .val (.int (((ia.toUInt32 >>> ((4 : Int32) &&& 31).toUInt32).toInt32) &&& (3 : Int32))), .val (.int (0 : Int32)), .val (.int (0 : Int32)), .val (.int (0 : Int32)), .unset, .unset, .unset, .unset, .unset, .unset, .unset, .unset, .unset, .unset, .unset] [(.int (3 : Int32)), (.int ((ia.toUInt32 >>> ((9 : Int32) &&& 31).toUInt32).toInt32))])
        refine Go.step (fun _ k => XS.iand X0.here hx rfl (hb hby at_71) rfl k) ?_
        show Go _ _ _ _ _ _ _ s₁ (mkF m 72 #[.val (.int ia), .val (.int ((1 : Int32) + (ia &&& (3 : Int32)))), .val (.int (((ia.toUInt32 >>> ((2 : Int32) &&& 31).toUInt32).toInt32) &&& (3 : Int32))), .val (.int (((ia.toUInt32 >>> ((4 : Int32) &&& 31).toUInt32).toInt32) &&& (3 : Int32))), .val (.int (0 : Int32)), .val (.int (0 : Int32)), .val (.int (0 : Int32)), .unset, .unset, .unset, .unset, .unset, .unset, .unset, .unset, .unset, .unset, .unset] [(.int (((ia.toUInt32 >>> ((9 : Int32) &&& 31).toUInt32).toInt32) &&& (3 : Int32)))])
        refine Go.step (fun _ k => XS.istore X0.here hx rfl (hb hby at_72) rfl (l' := #[.val (.int ia), .val (.int ((1 : Int32) + (ia &&& (3 : Int32)))), .val (.int (((ia.toUInt32 >>> ((2 : Int32) &&& 31).toUInt32).toInt32) &&& (3 : Int32))), .val (.int (((ia.toUInt32 >>> ((4 : Int32) &&& 31).toUInt32).toInt32) &&& (3 : Int32))), .val (.int (0 : Int32)), .val (.int (0 : Int32)), .val (.int (0 : Int32)), .val (.int (((ia.toUInt32 >>> ((9 : Int32) &&& 31).toUInt32).toInt32) &&& (3 : Int32))), .unset, .unset, .unset, .unset, .unset, .unset, .unset, .unset, .unset, .unset]) rfl k) ?_
        show Go _ _ _ _ _ _ _ s₁ (mkF m 74 #[.val (.int ia), .val (.int ((1 : Int32) + (ia &&& (3 : Int32)))), .val (.int (((ia.toUInt32 >>> ((2 : Int32) &&& 31).toUInt32).toInt32) &&& (3 : Int32))), .val (.int (((ia.toUInt32 >>> ((4 : Int32) &&& 31).toUInt32).toInt32) &&& (3 : Int32))), .val (.int (0 : Int32)), .val (.int (0 : Int32)), .val (.int (0 : Int32)), .val (.int (((ia.toUInt32 >>> ((9 : Int32) &&& 31).toUInt32).toInt32) &&& (3 : Int32))), .unset, .unset, .unset, .unset, .unset, .unset, .unset, .unset, .unset, .unset] [])
        exact J s₁ h0 _ ((1 : Int32) + (ia &&& (3 : Int32))) (((ia.toUInt32 >>> ((2 : Int32) &&& 31).toUInt32).toInt32) &&& (3 : Int32)) (((ia.toUInt32 >>> ((4 : Int32) &&& 31).toUInt32).toInt32) &&& (3 : Int32)) (0 : Int32) (0 : Int32) (0 : Int32) (((ia.toUInt32 >>> ((9 : Int32) &&& 31).toUInt32).toInt32) &&& (3 : Int32)) (X0.more (by decide) (by decide)) e0 N0 Z0 O0 (by have : (1 : Int32).toInt = 1 := rfl; have := rng32 ia; have : (3 : Int32).toInt = 3 := rfl; have := rng32 (ia &&& (3 : Int32)); have := c_mask ia (3 : Int32) 2 (by decide) (by decide); have := rng32 ((1 : Int32) + (ia &&& (3 : Int32))); have := c_iadd (1 : Int32) (ia &&& (3 : Int32)); omega) (by have := rng32 ia; have : (2 : Int32).toInt = 2 := rfl; have := rng32 ((ia.toUInt32 >>> ((2 : Int32) &&& 31).toUInt32).toInt32); have := c_iushr ia (2 : Int32) 2 (by decide) (by decide); have : (3 : Int32).toInt = 3 := rfl; have := rng32 (((ia.toUInt32 >>> ((2 : Int32) &&& 31).toUInt32).toInt32) &&& (3 : Int32)); have := c_mask ((ia.toUInt32 >>> ((2 : Int32) &&& 31).toUInt32).toInt32) (3 : Int32) 2 (by decide) (by decide); omega) (by have := rng32 ia; have : (4 : Int32).toInt = 4 := rfl; have := rng32 ((ia.toUInt32 >>> ((4 : Int32) &&& 31).toUInt32).toInt32); have := c_iushr ia (4 : Int32) 4 (by decide) (by decide); have : (3 : Int32).toInt = 3 := rfl; have := rng32 (((ia.toUInt32 >>> ((4 : Int32) &&& 31).toUInt32).toInt32) &&& (3 : Int32)); have := c_mask ((ia.toUInt32 >>> ((4 : Int32) &&& 31).toUInt32).toInt32) (3 : Int32) 2 (by decide) (by decide); omega) (by have := rng32 ia; have : (9 : Int32).toInt = 9 := rfl; have := rng32 ((ia.toUInt32 >>> ((9 : Int32) &&& 31).toUInt32).toInt32); have := c_iushr ia (9 : Int32) 9 (by decide) (by decide); have : (3 : Int32).toInt = 3 := rfl; have := rng32 (((ia.toUInt32 >>> ((9 : Int32) &&& 31).toUInt32).toInt32) &&& (3 : Int32)); have := c_mask ((ia.toUInt32 >>> ((9 : Int32) &&& 31).toUInt32).toInt32) (3 : Int32) 2 (by decide) (by decide); omega)
      · refine Go.step (fun _ k => XS.ifNo X0.here hx rfl (hb hby at_56) rfl ((if0 _ _).trans (feq hc56_109).1) k) ?_
        show Go _ _ _ _ _ _ _ s₁ (mkF m 59 #[.val (.int ia), .val (.int ((1 : Int32) + (ia &&& (3 : Int32)))), .val (.int (((ia.toUInt32 >>> ((2 : Int32) &&& 31).toUInt32).toInt32) &&& (3 : Int32))), .val (.int (((ia.toUInt32 >>> ((4 : Int32) &&& 31).toUInt32).toInt32) &&& (3 : Int32))), .val (.int (0 : Int32)), .val (.int (0 : Int32)), .unset, .unset, .unset, .unset, .unset, .unset, .unset, .unset, .unset, .unset, .unset, .unset] [])
        refine Go.step (fun _ k => XS.iconst X0.here hx rfl (hb hby at_59) k) ?_
        show Go _ _ _ _ _ _ _ s₁ (mkF m 60 #[.val (.int ia), .val (.int ((1 : Int32) + (ia &&& (3 : Int32)))), .val (.int (((ia.toUInt32 >>> ((2 : Int32) &&& 31).toUInt32).toInt32) &&& (3 : Int32))), .val (.int (((ia.toUInt32 >>> ((4 : Int32) &&& 31).toUInt32).toInt32) &&& (3 : Int32))), .val (.int (0 : Int32)), .val (.int (0 : Int32)), .unset, .unset, .unset, .unset, .unset, .unset, .unset, .unset, .unset, .unset, .unset, .unset] [(.int (1 : Int32))])
        refine Go.step (fun _ k => XS.goto X0.here hx rfl (pc0 := 60) (pc' := 64) rfl (hb hby at_60) (by decide) (by decide) k) ?_
        show Go _ _ _ _ _ _ _ s₁ (mkF m 64 #[.val (.int ia), .val (.int ((1 : Int32) + (ia &&& (3 : Int32)))), .val (.int (((ia.toUInt32 >>> ((2 : Int32) &&& 31).toUInt32).toInt32) &&& (3 : Int32))), .val (.int (((ia.toUInt32 >>> ((4 : Int32) &&& 31).toUInt32).toInt32) &&& (3 : Int32))), .val (.int (0 : Int32)), .val (.int (0 : Int32)), .unset, .unset, .unset, .unset, .unset, .unset, .unset, .unset, .unset, .unset, .unset, .unset] [(.int (1 : Int32))])
        refine Go.step (fun _ k => XS.istore X0.here hx rfl (hb hby at_64) rfl (l' := #[.val (.int ia), .val (.int ((1 : Int32) + (ia &&& (3 : Int32)))), .val (.int (((ia.toUInt32 >>> ((2 : Int32) &&& 31).toUInt32).toInt32) &&& (3 : Int32))), .val (.int (((ia.toUInt32 >>> ((4 : Int32) &&& 31).toUInt32).toInt32) &&& (3 : Int32))), .val (.int (0 : Int32)), .val (.int (0 : Int32)), .val (.int (1 : Int32)), .unset, .unset, .unset, .unset, .unset, .unset, .unset, .unset, .unset, .unset, .unset]) rfl k) ?_
        show Go _ _ _ _ _ _ _ s₁ (mkF m 66 #[.val (.int ia), .val (.int ((1 : Int32) + (ia &&& (3 : Int32)))), .val (.int (((ia.toUInt32 >>> ((2 : Int32) &&& 31).toUInt32).toInt32) &&& (3 : Int32))), .val (.int (((ia.toUInt32 >>> ((4 : Int32) &&& 31).toUInt32).toInt32) &&& (3 : Int32))), .val (.int (0 : Int32)), .val (.int (0 : Int32)), .val (.int (1 : Int32)), .unset, .unset, .unset, .unset, .unset, .unset, .unset, .unset, .unset, .unset, .unset] [])
        refine Go.step (fun _ k => XS.iloadN X0.here hx rfl (hb hby at_66) rfl k) ?_
        show Go _ _ _ _ _ _ _ s₁ (mkF m 67 #[.val (.int ia), .val (.int ((1 : Int32) + (ia &&& (3 : Int32)))), .val (.int (((ia.toUInt32 >>> ((2 : Int32) &&& 31).toUInt32).toInt32) &&& (3 : Int32))), .val (.int (((ia.toUInt32 >>> ((4 : Int32) &&& 31).toUInt32).toInt32) &&& (3 : Int32))), .val (.int (0 : Int32)), .val (.int (0 : Int32)), .val (.int (1 : Int32)), .unset, .unset, .unset, .unset, .unset, .unset, .unset, .unset, .unset, .unset, .unset] [(.int ia)])
        refine Go.step (fun _ k => XS.bipush X0.here hx rfl (hb hby at_67) k) ?_
        show Go _ _ _ _ _ _ _ s₁ (mkF m 69 #[.val (.int ia), .val (.int ((1 : Int32) + (ia &&& (3 : Int32)))), .val (.int (((ia.toUInt32 >>> ((2 : Int32) &&& 31).toUInt32).toInt32) &&& (3 : Int32))), .val (.int (((ia.toUInt32 >>> ((4 : Int32) &&& 31).toUInt32).toInt32) &&& (3 : Int32))), .val (.int (0 : Int32)), .val (.int (0 : Int32)), .val (.int (1 : Int32)), .unset, .unset, .unset, .unset, .unset, .unset, .unset, .unset, .unset, .unset, .unset] [(.int (9 : Int32)), (.int ia)])
        refine Go.step (fun _ k => XS.iushr X0.here hx rfl (hb hby at_69) rfl k) ?_
        show Go _ _ _ _ _ _ _ s₁ (mkF m 70 #[.val (.int ia), .val (.int ((1 : Int32) + (ia &&& (3 : Int32)))), .val (.int (((ia.toUInt32 >>> ((2 : Int32) &&& 31).toUInt32).toInt32) &&& (3 : Int32))), .val (.int (((ia.toUInt32 >>> ((4 : Int32) &&& 31).toUInt32).toInt32) &&& (3 : Int32))), .val (.int (0 : Int32)), .val (.int (0 : Int32)), .val (.int (1 : Int32)), .unset, .unset, .unset, .unset, .unset, .unset, .unset, .unset, .unset, .unset, .unset] [(.int ((ia.toUInt32 >>> ((9 : Int32) &&& 31).toUInt32).toInt32))])
        refine Go.step (fun _ k => XS.iconst X0.here hx rfl (hb hby at_70) k) ?_
        show Go _ _ _ _ _ _ _ s₁ (mkF m 71 #[.val (.int ia), .val (.int ((1 : Int32) + (ia &&& (3 : Int32)))), .val (.int (((ia.toUInt32 >>> ((2 : Int32) &&& 31).toUInt32).toInt32) &&& (3 : Int32))), .val (.int (((ia.toUInt32 >>> ((4 : Int32) &&& 31).toUInt32).toInt32) &&& (3 : Int32))), .val (.int (0 : Int32)), .val (.int (0 : Int32)), .val (.int (1 : Int32)), .unset, .unset, .unset, .unset, .unset, .unset, .unset, .unset, .unset, .unset, .unset] [(.int (3 : Int32)), (.int ((ia.toUInt32 >>> ((9 : Int32) &&& 31).toUInt32).toInt32))])
        refine Go.step (fun _ k => XS.iand X0.here hx rfl (hb hby at_71) rfl k) ?_
        show Go _ _ _ _ _ _ _ s₁ (mkF m 72 #[.val (.int ia), .val (.int ((1 : Int32) + (ia &&& (3 : Int32)))), .val (.int (((ia.toUInt32 >>> ((2 : Int32) &&& 31).toUInt32).toInt32) &&& (3 : Int32))), .val (.int (((ia.toUInt32 >>> ((4 : Int32) &&& 31).toUInt32).toInt32) &&& (3 : Int32))), .val (.int (0 : Int32)), .val (.int (0 : Int32)), .val (.int (1 : Int32)), .unset, .unset, .unset, .unset, .unset, .unset, .unset, .unset, .unset, .unset, .unset] [(.int (((ia.toUInt32 >>> ((9 : Int32) &&& 31).toUInt32).toInt32) &&& (3 : Int32)))])
        refine Go.step (fun _ k => XS.istore X0.here hx rfl (hb hby at_72) rfl (l' := #[.val (.int ia), .val (.int ((1 : Int32) + (ia &&& (3 : Int32)))), .val (.int (((ia.toUInt32 >>> ((2 : Int32) &&& 31).toUInt32).toInt32) &&& (3 : Int32))), .val (.int (((ia.toUInt32 >>> ((4 : Int32) &&& 31).toUInt32).toInt32) &&& (3 : Int32))), .val (.int (0 : Int32)), .val (.int (0 : Int32)), .val (.int (1 : Int32)), .val (.int (((ia.toUInt32 >>> ((9 : Int32) &&& 31).toUInt32).toInt32) &&& (3 : Int32))), .unset, .unset, .unset, .unset, .unset, .unset, .unset, .unset, .unset, .unset]) rfl k) ?_
        show Go _ _ _ _ _ _ _ s₁ (mkF m 74 #[.val (.int ia), .val (.int ((1 : Int32) + (ia &&& (3 : Int32)))), .val (.int (((ia.toUInt32 >>> ((2 : Int32) &&& 31).toUInt32).toInt32) &&& (3 : Int32))), .val (.int (((ia.toUInt32 >>> ((4 : Int32) &&& 31).toUInt32).toInt32) &&& (3 : Int32))), .val (.int (0 : Int32)), .val (.int (0 : Int32)), .val (.int (1 : Int32)), .val (.int (((ia.toUInt32 >>> ((9 : Int32) &&& 31).toUInt32).toInt32) &&& (3 : Int32))), .unset, .unset, .unset, .unset, .unset, .unset, .unset, .unset, .unset, .unset] [])
        exact J s₁ h0 _ ((1 : Int32) + (ia &&& (3 : Int32))) (((ia.toUInt32 >>> ((2 : Int32) &&& 31).toUInt32).toInt32) &&& (3 : Int32)) (((ia.toUInt32 >>> ((4 : Int32) &&& 31).toUInt32).toInt32) &&& (3 : Int32)) (0 : Int32) (0 : Int32) (1 : Int32) (((ia.toUInt32 >>> ((9 : Int32) &&& 31).toUInt32).toInt32) &&& (3 : Int32)) (X0.more (by decide) (by decide)) e0 N0 Z0 O0 (by have : (1 : Int32).toInt = 1 := rfl; have := rng32 ia; have : (3 : Int32).toInt = 3 := rfl; have := rng32 (ia &&& (3 : Int32)); have := c_mask ia (3 : Int32) 2 (by decide) (by decide); have := rng32 ((1 : Int32) + (ia &&& (3 : Int32))); have := c_iadd (1 : Int32) (ia &&& (3 : Int32)); omega) (by have := rng32 ia; have : (2 : Int32).toInt = 2 := rfl; have := rng32 ((ia.toUInt32 >>> ((2 : Int32) &&& 31).toUInt32).toInt32); have := c_iushr ia (2 : Int32) 2 (by decide) (by decide); have : (3 : Int32).toInt = 3 := rfl; have := rng32 (((ia.toUInt32 >>> ((2 : Int32) &&& 31).toUInt32).toInt32) &&& (3 : Int32)); have := c_mask ((ia.toUInt32 >>> ((2 : Int32) &&& 31).toUInt32).toInt32) (3 : Int32) 2 (by decide) (by decide); omega) (by have := rng32 ia; have : (4 : Int32).toInt = 4 := rfl; have := rng32 ((ia.toUInt32 >>> ((4 : Int32) &&& 31).toUInt32).toInt32); have := c_iushr ia (4 : Int32) 4 (by decide) (by decide); have : (3 : Int32).toInt = 3 := rfl; have := rng32 (((ia.toUInt32 >>> ((4 : Int32) &&& 31).toUInt32).toInt32) &&& (3 : Int32)); have := c_mask ((ia.toUInt32 >>> ((4 : Int32) &&& 31).toUInt32).toInt32) (3 : Int32) 2 (by decide) (by decide); omega) (by have := rng32 ia; have : (9 : Int32).toInt = 9 := rfl; have := rng32 ((ia.toUInt32 >>> ((9 : Int32) &&& 31).toUInt32).toInt32); have := c_iushr ia (9 : Int32) 9 (by decide) (by decide); have : (3 : Int32).toInt = 3 := rfl; have := rng32 (((ia.toUInt32 >>> ((9 : Int32) &&& 31).toUInt32).toInt32) &&& (3 : Int32)); have := c_mask ((ia.toUInt32 >>> ((9 : Int32) &&& 31).toUInt32).toInt32) (3 : Int32) 2 (by decide) (by decide); omega)
    · refine Go.step (fun _ k => XS.ifNo X0.here hx rfl (hb hby at_40) rfl ((if0 _ _).trans (feq hc40_108).1) k) ?_
      show Go _ _ _ _ _ _ _ s₁ (mkF m 43 #[.val (.int ia), .val (.int ((1 : Int32) + (ia &&& (3 : Int32)))), .val (.int (((ia.toUInt32 >>> ((2 : Int32) &&& 31).toUInt32).toInt32) &&& (3 : Int32))), .val (.int (((ia.toUInt32 >>> ((4 : Int32) &&& 31).toUInt32).toInt32) &&& (3 : Int32))), .val (.int (0 : Int32)), .unset, .unset, .unset, .unset, .unset, .unset, .unset, .unset, .unset, .unset, .unset, .unset, .unset] [])
      refine Go.step (fun _ k => XS.iconst X0.here hx rfl (hb hby at_43) k) ?_
      show Go _ _ _ _ _ _ _ s₁ (mkF m 44 #[.val (.int ia), .val (.int ((1 : Int32) + (ia &&& (3 : Int32)))), .val (.int (((ia.toUInt32 >>> ((2 : Int32) &&& 31).toUInt32).toInt32) &&& (3 : Int32))), .val (.int (((ia.toUInt32 >>> ((4 : Int32) &&& 31).toUInt32).toInt32) &&& (3 : Int32))), .val (.int (0 : Int32)), .unset, .unset, .unset, .unset, .unset, .unset, .unset, .unset, .unset, .unset, .unset, .unset, .unset] [(.int (1 : Int32))])
      refine Go.step (fun _ k => XS.goto X0.here hx rfl (pc0 := 44) (pc' := 48) rfl (hb hby at_44) (by decide) (by decide) k) ?_
      show Go _ _ _ _ _ _ _ s₁ (mkF m 48 #[.val (.int ia), .val (.int ((1 : Int32) + (ia &&& (3 : Int32)))), .val (.int (((ia.toUInt32 >>> ((2 : Int32) &&& 31).toUInt32).toInt32) &&& (3 : Int32))), .val (.int (((ia.toUInt32 >>> ((4 : Int32) &&& 31).toUInt32).toInt32) &&& (3 : Int32))), .val (.int (0 : Int32)), .unset, .unset, .unset, .unset, .unset, .unset, .unset, .unset, .unset, .unset, .unset, .unset, .unset] [(.int (1 : Int32))])
      refine Go.step (fun _ k => XS.istore X0.here hx rfl (hb hby at_48) rfl (l' := #[.val (.int ia), .val (.int ((1 : Int32) + (ia &&& (3 : Int32)))), .val (.int (((ia.toUInt32 >>> ((2 : Int32) &&& 31).toUInt32).toInt32) &&& (3 : Int32))), .val (.int (((ia.toUInt32 >>> ((4 : Int32) &&& 31).toUInt32).toInt32) &&& (3 : Int32))), .val (.int (0 : Int32)), .val (.int (1 : Int32)), .unset, .unset, .unset, .unset, .unset, .unset, .unset, .unset, .unset, .unset, .unset, .unset]) rfl k) ?_
      show Go _ _ _ _ _ _ _ s₁ (mkF m 50 #[.val (.int ia), .val (.int ((1 : Int32) + (ia &&& (3 : Int32)))), .val (.int (((ia.toUInt32 >>> ((2 : Int32) &&& 31).toUInt32).toInt32) &&& (3 : Int32))), .val (.int (((ia.toUInt32 >>> ((4 : Int32) &&& 31).toUInt32).toInt32) &&& (3 : Int32))), .val (.int (0 : Int32)), .val (.int (1 : Int32)), .unset, .unset, .unset, .unset, .unset, .unset, .unset, .unset, .unset, .unset, .unset, .unset] [])
      refine Go.step (fun _ k => XS.iloadN X0.here hx rfl (hb hby at_50) rfl k) ?_
      show Go _ _ _ _ _ _ _ s₁ (mkF m 51 #[.val (.int ia), .val (.int ((1 : Int32) + (ia &&& (3 : Int32)))), .val (.int (((ia.toUInt32 >>> ((2 : Int32) &&& 31).toUInt32).toInt32) &&& (3 : Int32))), .val (.int (((ia.toUInt32 >>> ((4 : Int32) &&& 31).toUInt32).toInt32) &&& (3 : Int32))), .val (.int (0 : Int32)), .val (.int (1 : Int32)), .unset, .unset, .unset, .unset, .unset, .unset, .unset, .unset, .unset, .unset, .unset, .unset] [(.int ia)])
      refine Go.step (fun _ k => XS.bipush X0.here hx rfl (hb hby at_51) k) ?_
      show Go _ _ _ _ _ _ _ s₁ (mkF m 53 #[.val (.int ia), .val (.int ((1 : Int32) + (ia &&& (3 : Int32)))), .val (.int (((ia.toUInt32 >>> ((2 : Int32) &&& 31).toUInt32).toInt32) &&& (3 : Int32))), .val (.int (((ia.toUInt32 >>> ((4 : Int32) &&& 31).toUInt32).toInt32) &&& (3 : Int32))), .val (.int (0 : Int32)), .val (.int (1 : Int32)), .unset, .unset, .unset, .unset, .unset, .unset, .unset, .unset, .unset, .unset, .unset, .unset] [(.int (8 : Int32)), (.int ia)])
      refine Go.step (fun _ k => XS.iushr X0.here hx rfl (hb hby at_53) rfl k) ?_
      show Go _ _ _ _ _ _ _ s₁ (mkF m 54 #[.val (.int ia), .val (.int ((1 : Int32) + (ia &&& (3 : Int32)))), .val (.int (((ia.toUInt32 >>> ((2 : Int32) &&& 31).toUInt32).toInt32) &&& (3 : Int32))), .val (.int (((ia.toUInt32 >>> ((4 : Int32) &&& 31).toUInt32).toInt32) &&& (3 : Int32))), .val (.int (0 : Int32)), .val (.int (1 : Int32)), .unset, .unset, .unset, .unset, .unset, .unset, .unset, .unset, .unset, .unset, .unset, .unset] [(.int ((ia.toUInt32 >>> ((8 : Int32) &&& 31).toUInt32).toInt32))])
      refine Go.step (fun _ k => XS.iconst X0.here hx rfl (hb hby at_54) k) ?_
      show Go _ _ _ _ _ _ _ s₁ (mkF m 55 #[.val (.int ia), .val (.int ((1 : Int32) + (ia &&& (3 : Int32)))), .val (.int (((ia.toUInt32 >>> ((2 : Int32) &&& 31).toUInt32).toInt32) &&& (3 : Int32))), .val (.int (((ia.toUInt32 >>> ((4 : Int32) &&& 31).toUInt32).toInt32) &&& (3 : Int32))), .val (.int (0 : Int32)), .val (.int (1 : Int32)), .unset, .unset, .unset, .unset, .unset, .unset, .unset, .unset, .unset, .unset, .unset, .unset] [(.int (1 : Int32)), (.int ((ia.toUInt32 >>> ((8 : Int32) &&& 31).toUInt32).toInt32))])
      refine Go.step (fun _ k => XS.iand X0.here hx rfl (hb hby at_55) rfl k) ?_
      show Go _ _ _ _ _ _ _ s₁ (mkF m 56 #[.val (.int ia), .val (.int ((1 : Int32) + (ia &&& (3 : Int32)))), .val (.int (((ia.toUInt32 >>> ((2 : Int32) &&& 31).toUInt32).toInt32) &&& (3 : Int32))), .val (.int (((ia.toUInt32 >>> ((4 : Int32) &&& 31).toUInt32).toInt32) &&& (3 : Int32))), .val (.int (0 : Int32)), .val (.int (1 : Int32)), .unset, .unset, .unset, .unset, .unset, .unset, .unset, .unset, .unset, .unset, .unset, .unset] [(.int (((ia.toUInt32 >>> ((8 : Int32) &&& 31).toUInt32).toInt32) &&& (1 : Int32)))])
      by_cases hc56_110 : (((ia.toUInt32 >>> ((8 : Int32) &&& 31).toUInt32).toInt32) &&& (1 : Int32)) = (0 : Int32)
      · refine Go.step (fun _ k => XS.ifYes X0.here hx rfl (pc0 := 56) (pc' := 63) rfl (hb hby at_56) rfl ((if0 _ _).trans (teq hc56_110).1) (by decide) (by decide) k) ?_
        show Go _ _ _ _ _ _ _ s₁ (mkF m 63 #[.val (.int ia), .val (.int ((1 : Int32) + (ia &&& (3 : Int32)))), .val (.int (((ia.toUInt32 >>> ((2 : Int32) &&& 31).toUInt32).toInt32) &&& (3 : Int32))), .val (.int (((ia.toUInt32 >>> ((4 : Int32) &&& 31).toUInt32).toInt32) &&& (3 : Int32))), .val (.int (0 : Int32)), .val (.int (1 : Int32)), .unset, .unset, .unset, .unset, .unset, .unset, .unset, .unset, .unset, .unset, .unset, .unset] [])
        refine Go.step (fun _ k => XS.iconst X0.here hx rfl (hb hby at_63) k) ?_
        show Go _ _ _ _ _ _ _ s₁ (mkF m 64 #[.val (.int ia), .val (.int ((1 : Int32) + (ia &&& (3 : Int32)))), .val (.int (((ia.toUInt32 >>> ((2 : Int32) &&& 31).toUInt32).toInt32) &&& (3 : Int32))), .val (.int (((ia.toUInt32 >>> ((4 : Int32) &&& 31).toUInt32).toInt32) &&& (3 : Int32))), .val (.int (0 : Int32)), .val (.int (1 : Int32)), .unset, .unset, .unset, .unset, .unset, .unset, .unset, .unset, .unset, .unset, .unset, .unset] [(.int (0 : Int32))])
        refine Go.step (fun _ k => XS.istore X0.here hx rfl (hb hby at_64) rfl (l' := #[.val (.int ia), .val (.int ((1 : Int32) + (ia &&& (3 : Int32)))), .val (.int (((ia.toUInt32 >>> ((2 : Int32) &&& 31).toUInt32).toInt32) &&& (3 : Int32))), .val (.int (((ia.toUInt32 >>> ((4 : Int32) &&& 31).toUInt32).toInt32) &&& (3 : Int32))), .val (.int (0 : Int32)), .val (.int (1 : Int32)), .val (.int (0 : Int32)), .unset, .unset, .unset, .unset, .unset, .unset, .unset, .unset, .unset, .unset, .unset]) rfl k) ?_
        show Go _ _ _ _ _ _ _ s₁ (mkF m 66 #[.val (.int ia), .val (.int ((1 : Int32) + (ia &&& (3 : Int32)))), .val (.int (((ia.toUInt32 >>> ((2 : Int32) &&& 31).toUInt32).toInt32) &&& (3 : Int32))), .val (.int (((ia.toUInt32 >>> ((4 : Int32) &&& 31).toUInt32).toInt32) &&& (3 : Int32))), .val (.int (0 : Int32)), .val (.int (1 : Int32)), .val (.int (0 : Int32)), .unset, .unset, .unset, .unset, .unset, .unset, .unset, .unset, .unset, .unset, .unset] [])
        refine Go.step (fun _ k => XS.iloadN X0.here hx rfl (hb hby at_66) rfl k) ?_
        show Go _ _ _ _ _ _ _ s₁ (mkF m 67 #[.val (.int ia), .val (.int ((1 : Int32) + (ia &&& (3 : Int32)))), .val (.int (((ia.toUInt32 >>> ((2 : Int32) &&& 31).toUInt32).toInt32) &&& (3 : Int32))), .val (.int (((ia.toUInt32 >>> ((4 : Int32) &&& 31).toUInt32).toInt32) &&& (3 : Int32))), .val (.int (0 : Int32)), .val (.int (1 : Int32)), .val (.int (0 : Int32)), .unset, .unset, .unset, .unset, .unset, .unset, .unset, .unset, .unset, .unset, .unset] [(.int ia)])
        refine Go.step (fun _ k => XS.bipush X0.here hx rfl (hb hby at_67) k) ?_
        show Go _ _ _ _ _ _ _ s₁ (mkF m 69 #[.val (.int ia), .val (.int ((1 : Int32) + (ia &&& (3 : Int32)))), .val (.int (((ia.toUInt32 >>> ((2 : Int32) &&& 31).toUInt32).toInt32) &&& (3 : Int32))), .val (.int (((ia.toUInt32 >>> ((4 : Int32) &&& 31).toUInt32).toInt32) &&& (3 : Int32))), .val (.int (0 : Int32)), .val (.int (1 : Int32)), .val (.int (0 : Int32)), .unset, .unset, .unset, .unset, .unset, .unset, .unset, .unset, .unset, .unset, .unset] [(.int (9 : Int32)), (.int ia)])
        refine Go.step (fun _ k => XS.iushr X0.here hx rfl (hb hby at_69) rfl k) ?_
        show Go _ _ _ _ _ _ _ s₁ (mkF m 70 #[.val (.int ia), .val (.int ((1 : Int32) + (ia &&& (3 : Int32)))), .val (.int (((ia.toUInt32 >>> ((2 : Int32) &&& 31).toUInt32).toInt32) &&& (3 : Int32))), .val (.int (((ia.toUInt32 >>> ((4 : Int32) &&& 31).toUInt32).toInt32) &&& (3 : Int32))), .val (.int (0 : Int32)), .val (.int (1 : Int32)), .val (.int (0 : Int32)), .unset, .unset, .unset, .unset, .unset, .unset, .unset, .unset, .unset, .unset, .unset] [(.int ((ia.toUInt32 >>> ((9 : Int32) &&& 31).toUInt32).toInt32))])
        refine Go.step (fun _ k => XS.iconst X0.here hx rfl (hb hby at_70) k) ?_
        show Go _ _ _ _ _ _ _ s₁ (mkF m 71 #[.val (.int ia), .val (.int ((1 : Int32) + (ia &&& (3 : Int32)))), .val (.int (((ia.toUInt32 >>> ((2 : Int32) &&& 31).toUInt32).toInt32) &&& (3 : Int32))), .val (.int (((ia.toUInt32 >>> ((4 : Int32) &&& 31).toUInt32).toInt32) &&& (3 : Int32))), .val (.int (0 : Int32)), .val (.int (1 : Int32)), .val (.int (0 : Int32)), .unset, .unset, .unset, .unset, .unset, .unset, .unset, .unset, .unset, .unset, .unset] [(.int (3 : Int32)), (.int ((ia.toUInt32 >>> ((9 : Int32) &&& 31).toUInt32).toInt32))])
        refine Go.step (fun _ k => XS.iand X0.here hx rfl (hb hby at_71) rfl k) ?_
        show Go _ _ _ _ _ _ _ s₁ (mkF m 72 #[.val (.int ia), .val (.int ((1 : Int32) + (ia &&& (3 : Int32)))), .val (.int (((ia.toUInt32 >>> ((2 : Int32) &&& 31).toUInt32).toInt32) &&& (3 : Int32))), .val (.int (((ia.toUInt32 >>> ((4 : Int32) &&& 31).toUInt32).toInt32) &&& (3 : Int32))), .val (.int (0 : Int32)), .val (.int (1 : Int32)), .val (.int (0 : Int32)), .unset, .unset, .unset, .unset, .unset, .unset, .unset, .unset, .unset, .unset, .unset] [(.int (((ia.toUInt32 >>> ((9 : Int32) &&& 31).toUInt32).toInt32) &&& (3 : Int32)))])
        refine Go.step (fun _ k => XS.istore X0.here hx rfl (hb hby at_72) rfl (l' := #[.val (.int ia), .val (.int ((1 : Int32) + (ia &&& (3 : Int32)))), .val (.int (((ia.toUInt32 >>> ((2 : Int32) &&& 31).toUInt32).toInt32) &&& (3 : Int32))), .val (.int (((ia.toUInt32 >>> ((4 : Int32) &&& 31).toUInt32).toInt32) &&& (3 : Int32))), .val (.int (0 : Int32)), .val (.int (1 : Int32)), .val (.int (0 : Int32)), .val (.int (((ia.toUInt32 >>> ((9 : Int32) &&& 31).toUInt32).toInt32) &&& (3 : Int32))), .unset, .unset, .unset, .unset, .unset, .unset, .unset, .unset, .unset, .unset]) rfl k) ?_
        show Go _ _ _ _ _ _ _ s₁ (mkF m 74 #[.val (.int ia), .val (.int ((1 : Int32) + (ia &&& (3 : Int32)))), .val (.int (((ia.toUInt32 >>> ((2 : Int32) &&& 31).toUInt32).toInt32) &&& (3 : Int32))), .val (.int (((ia.toUInt32 >>> ((4 : Int32) &&& 31).toUInt32).toInt32) &&& (3 : Int32))), .val (.int (0 : Int32)), .val (.int (1 : Int32)), .val (.int (0 : Int32)), .val (.int (((ia.toUInt32 >>> ((9 : Int32) &&& 31).toUInt32).toInt32) &&& (3 : Int32))), .unset, .unset, .unset, .unset, .unset, .unset, .unset, .unset, .unset, .unset] [])
        exact J s₁ h0 _ ((1 : Int32) + (ia &&& (3 : Int32))) (((ia.toUInt32 >>> ((2 : Int32) &&& 31).toUInt32).toInt32) &&& (3 : Int32)) (((ia.toUInt32 >>> ((4 : Int32) &&& 31).toUInt32).toInt32) &&& (3 : Int32)) (0 : Int32) (1 : Int32) (0 : Int32) (((ia.toUInt32 >>> ((9 : Int32) &&& 31).toUInt32).toInt32) &&& (3 : Int32)) (X0.more (by decide) (by decide)) e0 N0 Z0 O0 (by have : (1 : Int32).toInt = 1 := rfl; have := rng32 ia; have : (3 : Int32).toInt = 3 := rfl; have := rng32 (ia &&& (3 : Int32)); have := c_mask ia (3 : Int32) 2 (by decide) (by decide); have := rng32 ((1 : Int32) + (ia &&& (3 : Int32))); have := c_iadd (1 : Int32) (ia &&& (3 : Int32)); omega) (by have := rng32 ia; have : (2 : Int32).toInt = 2 := rfl; have := rng32 ((ia.toUInt32 >>> ((2 : Int32) &&& 31).toUInt32).toInt32); have := c_iushr ia (2 : Int32) 2 (by decide) (by decide); have : (3 : Int32).toInt = 3 := rfl; have := rng32 (((ia.toUInt32 >>> ((2 : Int32) &&& 31).toUInt32).toInt32) &&& (3 : Int32)); have := c_mask ((ia.toUInt32 >>> ((2 : Int32) &&& 31).toUInt32).toInt32) (3 : Int32) 2 (by decide) (by decide); omega) (by have := rng32 ia; have : (4 : Int32).toInt = 4 := rfl; have := rng32 ((ia.toUInt32 >>> ((4 : Int32) &&& 31).toUInt32).toInt32); have := c_iushr ia (4 : Int32) 4 (by decide) (by decide); have : (3 : Int32).toInt = 3 := rfl; have := rng32 (((ia.toUInt32 >>> ((4 : Int32) &&& 31).toUInt32).toInt32) &&& (3 : Int32)); have := c_mask ((ia.toUInt32 >>> ((4 : Int32) &&& 31).toUInt32).toInt32) (3 : Int32) 2 (by decide) (by decide); omega) (by have := rng32 ia; have : (9 : Int32).toInt = 9 := rfl; have := rng32 ((ia.toUInt32 >>> ((9 : Int32) &&& 31).toUInt32).toInt32); have := c_iushr ia (9 : Int32) 9 (by decide) (by decide); have : (3 : Int32).toInt = 3 := rfl; have := rng32 (((ia.toUInt32 >>> ((9 : Int32) &&& 31).toUInt32).toInt32) &&& (3 : Int32)); have := c_mask ((ia.toUInt32 >>> ((9 : Int32) &&& 31).toUInt32).toInt32) (3 : Int32) 2 (by decide) (by decide); omega)
      · refine Go.step (fun _ k => XS.ifNo X0.here hx rfl (hb hby at_56) rfl ((if0 _ _).trans (feq hc56_110).1) k) ?_
        show Go _ _ _ _ _ _ _ s₁ (mkF m 59 #[.val (.int ia), .val (.int ((1 : Int32) + (ia &&& (3 : Int32)))), .val (.int (((ia.toUInt32 >>> ((2 : Int32) &&& 31).toUInt32).toInt32) &&& (3 : Int32))), .val (.int (((ia.toUInt32 >>> ((4 : Int32) &&& 31).toUInt32).toInt32) &&& (3 : Int32))), .val (.int (0 : Int32)), .val (.int (1 : Int32)), .unset, .unset, .unset, .unset, .unset, .unset, .unset, .unset, .unset, .unset, .unset, .unset] [])
        refine Go.step (fun _ k => XS.iconst X0.here hx rfl (hb hby at_59) k) ?_
        show Go _ _ _ _ _ _ _ s₁ (mkF m 60 #[.val (.int ia), .val (.int ((1 : Int32) + (ia &&& (3 : Int32)))), .val (.int (((ia.toUInt32 >>> ((2 : Int32) &&& 31).toUInt32).toInt32) &&& (3 : Int32))), .val (.int (((ia.toUInt32 >>> ((4 : Int32) &&& 31).toUInt32).toInt32) &&& (3 : Int32))), .val (.int (0 : Int32)), .val (.int (1 : Int32)), .unset, .unset, .unset, .unset, .unset, .unset, .unset, .unset, .unset, .unset, .unset, .unset] [(.int (1 : Int32))])
        refine Go.step (fun _ k => XS.goto X0.here hx rfl (pc0 := 60) (pc' := 64) rfl (hb hby at_60) (by decide) (by decide) k) ?_
        show Go _ _ _ _ _ _ _ s₁ (mkF m 64 #[.val (.int ia), .val (.int ((1 : Int32) + (ia &&& (3 : Int32)))), .val (.int (((ia.toUInt32 >>> ((2 : Int32) &&& 31).toUInt32).toInt32) &&& (3 : Int32))), .val (.int (((ia.toUInt32 >>> ((4 : Int32) &&& 31).toUInt32).toInt32) &&& (3 : Int32))), .val (.int (0 : Int32)), .val (.int (1 : Int32)), .unset, .unset, .unset, .unset, .unset, .unset, .unset, .unset, .unset, .unset, .unset, .unset] [(.int (1 : Int32))])
        refine Go.step (fun _ k => XS.istore X0.here hx rfl (hb hby at_64) rfl (l' := #[.val (.int ia), .val (.int ((1 : Int32) + (ia &&& (3 : Int32)))), .val (.int (((ia.toUInt32 >>> ((2 : Int32) &&& 31).toUInt32).toInt32) &&& (3 : Int32))), .val (.int (((ia.toUInt32 >>> ((4 : Int32) &&& 31).toUInt32).toInt32) &&& (3 : Int32))), .val (.int (0 : Int32)), .val (.int (1 : Int32)), .val (.int (1 : Int32)), .unset, .unset, .unset, .unset, .unset, .unset, .unset, .unset, .unset, .unset, .unset]) rfl k) ?_
        show Go _ _ _ _ _ _ _ s₁ (mkF m 66 #[.val (.int ia), .val (.int ((1 : Int32) + (ia &&& (3 : Int32)))), .val (.int (((ia.toUInt32 >>> ((2 : Int32) &&& 31).toUInt32).toInt32) &&& (3 : Int32))), .val (.int (((ia.toUInt32 >>> ((4 : Int32) &&& 31).toUInt32).toInt32) &&& (3 : Int32))), .val (.int (0 : Int32)), .val (.int (1 : Int32)), .val (.int (1 : Int32)), .unset, .unset, .unset, .unset, .unset, .unset, .unset, .unset, .unset, .unset, .unset] [])
        refine Go.step (fun _ k => XS.iloadN X0.here hx rfl (hb hby at_66) rfl k) ?_
        show Go _ _ _ _ _ _ _ s₁ (mkF m 67 #[.val (.int ia), .val (.int ((1 : Int32) + (ia &&& (3 : Int32)))), .val (.int (((ia.toUInt32 >>> ((2 : Int32) &&& 31).toUInt32).toInt32) &&& (3 : Int32))), .val (.int (((ia.toUInt32 >>> ((4 : Int32) &&& 31).toUInt32).toInt32) &&& (3 : Int32))), .val (.int (0 : Int32)), .val (.int (1 : Int32)), .val (.int (1 : Int32)), .unset, .unset, .unset, .unset, .unset, .unset, .unset, .unset, .unset, .unset, .unset] [(.int ia)])
        refine Go.step (fun _ k => XS.bipush X0.here hx rfl (hb hby at_67) k) ?_
        show Go _ _ _ _ _ _ _ s₁ (mkF m 69 #[.val (.int ia), .val (.int ((1 : Int32) + (ia &&& (3 : Int32)))), .val (.int (((ia.toUInt32 >>> ((2 : Int32) &&& 31).toUInt32).toInt32) &&& (3 : Int32))), .val (.int (((ia.toUInt32 >>> ((4 : Int32) &&& 31).toUInt32).toInt32) &&& (3 : Int32))), .val (.int (0 : Int32)), .val (.int (1 : Int32)), .val (.int (1 : Int32)), .unset, .unset, .unset, .unset, .unset, .unset, .unset, .unset, .unset, .unset, .unset] [(.int (9 : Int32)), (.int ia)])
        refine Go.step (fun _ k => XS.iushr X0.here hx rfl (hb hby at_69) rfl k) ?_
        show Go _ _ _ _ _ _ _ s₁ (mkF m 70 #[.val (.int ia), .val (.int ((1 : Int32) + (ia &&& (3 : Int32)))), .val (.int (((ia.toUInt32 >>> ((2 : Int32) &&& 31).toUInt32).toInt32) &&& (3 : Int32))), .val (.int (((ia.toUInt32 >>> ((4 : Int32) &&& 31).toUInt32).toInt32) &&& (3 : Int32))), .val (.int (0 : Int32)), .val (.int (1 : Int32)), .val (.int (1 : Int32)), .unset, .unset, .unset, .unset, .unset, .unset, .unset, .unset, .unset, .unset, .unset] [(.int ((ia.toUInt32 >>> ((9 : Int32) &&& 31).toUInt32).toInt32))])
        refine Go.step (fun _ k => XS.iconst X0.here hx rfl (hb hby at_70) k) ?_
        show Go _ _ _ _ _ _ _ s₁ (mkF m 71 #[.val (.int ia), .val (.int ((1 : Int32) + (ia &&& (3 : Int32)))), .val (.int (((ia.toUInt32 >>> ((2 : Int32) &&& 31).toUInt32).toInt32) &&& (3 : Int32))), .val (.int (((ia.toUInt32 >>> ((4 : Int32) &&& 31).toUInt32).toInt32) &&& (3 : Int32))), .val (.int (0 : Int32)), .val (.int (1 : Int32)), .val (.int (1 : Int32)), .unset, .unset, .unset, .unset, .unset, .unset, .unset, .unset, .unset, .unset, .unset] [(.int (3 : Int32)), (.int ((ia.toUInt32 >>> ((9 : Int32) &&& 31).toUInt32).toInt32))])
        refine Go.step (fun _ k => XS.iand X0.here hx rfl (hb hby at_71) rfl k) ?_
        show Go _ _ _ _ _ _ _ s₁ (mkF m 72 #[.val (.int ia), .val (.int ((1 : Int32) + (ia &&& (3 : Int32)))), .val (.int (((ia.toUInt32 >>> ((2 : Int32) &&& 31).toUInt32).toInt32) &&& (3 : Int32))), .val (.int (((ia.toUInt32 >>> ((4 : Int32) &&& 31).toUInt32).toInt32) &&& (3 : Int32))), .val (.int (0 : Int32)), .val (.int (1 : Int32)), .val (.int (1 : Int32)), .unset, .unset, .unset, .unset, .unset, .unset, .unset, .unset, .unset, .unset, .unset] [(.int (((ia.toUInt32 >>> ((9 : Int32) &&& 31).toUInt32).toInt32) &&& (3 : Int32)))])
        refine Go.step (fun _ k => XS.istore X0.here hx rfl (hb hby at_72) rfl (l' := #[.val (.int ia), .val (.int ((1 : Int32) + (ia &&& (3 : Int32)))), .val (.int (((ia.toUInt32 >>> ((2 : Int32) &&& 31).toUInt32).toInt32) &&& (3 : Int32))), .val (.int (((ia.toUInt32 >>> ((4 : Int32) &&& 31).toUInt32).toInt32) &&& (3 : Int32))), .val (.int (0 : Int32)), .val (.int (1 : Int32)), .val (.int (1 : Int32)), .val (.int (((ia.toUInt32 >>> ((9 : Int32) &&& 31).toUInt32).toInt32) &&& (3 : Int32))), .unset, .unset, .unset, .unset, .unset, .unset, .unset, .unset, .unset, .unset]) rfl k) ?_
        show Go _ _ _ _ _ _ _ s₁ (mkF m 74 #[.val (.int ia), .val (.int ((1 : Int32) + (ia &&& (3 : Int32)))), .val (.int (((ia.toUInt32 >>> ((2 : Int32) &&& 31).toUInt32).toInt32) &&& (3 : Int32))), .val (.int (((ia.toUInt32 >>> ((4 : Int32) &&& 31).toUInt32).toInt32) &&& (3 : Int32))), .val (.int (0 : Int32)), .val (.int (1 : Int32)), .val (.int (1 : Int32)), .val (.int (((ia.toUInt32 >>> ((9 : Int32) &&& 31).toUInt32).toInt32) &&& (3 : Int32))), .unset, .unset, .unset, .unset, .unset, .unset, .unset, .unset, .unset, .unset] [])
        exact J s₁ h0 _ ((1 : Int32) + (ia &&& (3 : Int32))) (((ia.toUInt32 >>> ((2 : Int32) &&& 31).toUInt32).toInt32) &&& (3 : Int32)) (((ia.toUInt32 >>> ((4 : Int32) &&& 31).toUInt32).toInt32) &&& (3 : Int32)) (0 : Int32) (1 : Int32) (1 : Int32) (((ia.toUInt32 >>> ((9 : Int32) &&& 31).toUInt32).toInt32) &&& (3 : Int32)) (X0.more (by decide) (by decide)) e0 N0 Z0 O0 (by have : (1 : Int32).toInt = 1 := rfl; have := rng32 ia; have : (3 : Int32).toInt = 3 := rfl; have := rng32 (ia &&& (3 : Int32)); have := c_mask ia (3 : Int32) 2 (by decide) (by decide); have := rng32 ((1 : Int32) + (ia &&& (3 : Int32))); have := c_iadd (1 : Int32) (ia &&& (3 : Int32)); omega) (by have := rng32 ia; have : (2 : Int32).toInt = 2 := rfl; have := rng32 ((ia.toUInt32 >>> ((2 : Int32) &&& 31).toUInt32).toInt32); have := c_iushr ia (2 : Int32) 2 (by decide) (by decide); have : (3 : Int32).toInt = 3 := rfl; have := rng32 (((ia.toUInt32 >>> ((2 : Int32) &&& 31).toUInt32).toInt32) &&& (3 : Int32)); have := c_mask ((ia.toUInt32 >>> ((2 : Int32) &&& 31).toUInt32).toInt32) (3 : Int32) 2 (by decide) (by decide); omega) (by have := rng32 ia; have : (4 : Int32).toInt = 4 := rfl; have := rng32 ((ia.toUInt32 >>> ((4 : Int32) &&& 31).toUInt32).toInt32); have := c_iushr ia (4 : Int32) 4 (by decide) (by decide); have : (3 : Int32).toInt = 3 := rfl; have := rng32 (((ia.toUInt32 >>> ((4 : Int32) &&& 31).toUInt32).toInt32) &&& (3 : Int32)); have := c_mask ((ia.toUInt32 >>> ((4 : Int32) &&& 31).toUInt32).toInt32) (3 : Int32) 2 (by decide) (by decide); omega) (by have := rng32 ia; have : (9 : Int32).toInt = 9 := rfl; have := rng32 ((ia.toUInt32 >>> ((9 : Int32) &&& 31).toUInt32).toInt32); have := c_iushr ia (9 : Int32) 9 (by decide) (by decide); have : (3 : Int32).toInt = 3 := rfl; have := rng32 (((ia.toUInt32 >>> ((9 : Int32) &&& 31).toUInt32).toInt32) &&& (3 : Int32)); have := c_mask ((ia.toUInt32 >>> ((9 : Int32) &&& 31).toUInt32).toInt32) (3 : Int32) 2 (by decide) (by decide); omega)
  · refine Go.step (fun _ k => XS.ifNo X0.here hx rfl (hb hby at_24) rfl ((if0 _ _).trans (feq hc24_107).1) k) ?_
    show Go _ _ _ _ _ _ _ s₁ (mkF m 27 #[.val (.int ia), .val (.int ((1 : Int32) + (ia &&& (3 : Int32)))), .val (.int (((ia.toUInt32 >>> ((2 : Int32) &&& 31).toUInt32).toInt32) &&& (3 : Int32))), .val (.int (((ia.toUInt32 >>> ((4 : Int32) &&& 31).toUInt32).toInt32) &&& (3 : Int32))), .unset, .unset, .unset, .unset, .unset, .unset, .unset, .unset, .unset, .unset, .unset, .unset, .unset, .unset] [])
    refine Go.step (fun _ k => XS.iconst X0.here hx rfl (hb hby at_27) k) ?_
    show Go _ _ _ _ _ _ _ s₁ (mkF m 28 #[.val (.int ia), .val (.int ((1 : Int32) + (ia &&& (3 : Int32)))), .val (.int (((ia.toUInt32 >>> ((2 : Int32) &&& 31).toUInt32).toInt32) &&& (3 : Int32))), .val (.int (((ia.toUInt32 >>> ((4 : Int32) &&& 31).toUInt32).toInt32) &&& (3 : Int32))), .unset, .unset, .unset, .unset, .unset, .unset, .unset, .unset, .unset, .unset, .unset, .unset, .unset, .unset] [(.int (1 : Int32))])
    refine Go.step (fun _ k => XS.goto X0.here hx rfl (pc0 := 28) (pc' := 32) rfl (hb hby at_28) (by decide) (by decide) k) ?_
    show Go _ _ _ _ _ _ _ s₁ (mkF m 32 #[.val (.int ia), .val (.int ((1 : Int32) + (ia &&& (3 : Int32)))), .val (.int (((ia.toUInt32 >>> ((2 : Int32) &&& 31).toUInt32).toInt32) &&& (3 : Int32))), .val (.int (((ia.toUInt32 >>> ((4 : Int32) &&& 31).toUInt32).toInt32) &&& (3 : Int32))), .unset, .unset, .unset, .unset, .unset, .unset, .unset, .unset, .unset, .unset, .unset, .unset, .unset, .unset] [(.int (1 : Int32))])
    refine Go.step (fun _ k => XS.istore X0.here hx rfl (hb hby at_32) rfl (l' := #[.val (.int ia), .val (.int ((1 : Int32) + (ia &&& (3 : Int32)))), .val (.int (((ia.toUInt32 >>> ((2 : Int32) &&& 31).toUInt32).toInt32) &&& (3 : Int32))), .val (.int (((ia.toUInt32 >>> ((4 : Int32) &&& 31).toUInt32).toInt32) &&& (3 : Int32))), .val (.int (1 : Int32)), .unset, .unset, .unset, .unset, .unset, .unset, .unset, .unset, .unset, .unset, .unset, .unset, .unset]) rfl k) ?_
    show Go _ _ _ _ _ _ _ s₁ (mkF m 34 #[.val (.int ia), .val (.int ((1 : Int32) + (ia &&& (3 : Int32)))), .val (.int (((ia.toUInt32 >>> ((2 : Int32) &&& 31).toUInt32).toInt32) &&& (3 : Int32))), .val (.int (((ia.toUInt32 >>> ((4 : Int32) &&& 31).toUInt32).toInt32) &&& (3 : Int32))), .val (.int (1 : Int32)), .unset, .unset, .unset, .unset, .unset, .unset, .unset, .unset, .unset, .unset, .unset, .unset, .unset] [])
    refine Go.step (fun _ k => XS.iloadN X0.here hx rfl (hb hby at_34) rfl k) ?_
    show Go _ _ _ _ _ _ _ s₁ (mkF m 35 #[.val (.int ia), .val (.int ((1 : Int32) + (ia &&& (3 : Int32)))), .val (.int (((ia.toUInt32 >>> ((2 : Int32) &&& 31).toUInt32).toInt32) &&& (3 : Int32))), .val (.int (((ia.toUInt32 >>> ((4 : Int32) &&& 31).toUInt32).toInt32) &&& (3 : Int32))), .val (.int (1 : Int32)), .unset, .unset, .unset, .unset, .unset, .unset, .unset, .unset, .unset, .unset, .unset, .unset, .unset] [(.int ia)])
    refine Go.step (fun _ k => XS.bipush X0.here hx rfl (hb hby at_35) k) ?_
    show Go _ _ _ _ _ _ _ s₁ (mkF m 37 #[.val (.int ia), .val (.int ((1 : Int32) + (ia &&& (3 : Int32)))), .val (.int (((ia.toUInt32 >>> ((2 : Int32) &&& 31).toUInt32).toInt32) &&& (3 : Int32))), .val (.int (((ia.toUInt32 >>> ((4 : Int32) &&& 31).toUInt32).toInt32) &&& (3 : Int32))), .val (.int (1 : Int32)), .unset, .unset, .unset, .unset, .unset, .unset, .unset, .unset, .unset, .unset, .unset, .unset, .unset] [(.int (7 : Int32)), (.int ia)])
    refine Go.step (fun _ k => XS.iushr X0.here hx rfl (hb hby at_37) rfl k) ?_
    show Go _ _ _ _ _ _ _ s₁ (mkF m 38 #[.val (.int ia), .val (.int ((1 : Int32) + (ia &&& (3 : Int32)))), .val (.int (((ia.toUInt32 >>> ((2 : Int32) &&& 31).toUInt32).toInt32) &&& (3 : Int32))), .val (.int (((ia.toUInt32 >>> ((4 : Int32) &&& 31).toUInt32).toInt32) &&& (3 : Int32))), .val (.int (1 : Int32)), .unset, .unset, .unset, .unset, .unset, .unset, .unset, .unset, .unset, .unset, .unset, .unset, .unset] [(.int ((ia.toUInt32 >>> ((7 : Int32) &&& 31).toUInt32).toInt32))])
    refine Go.step (fun _ k => XS.iconst X0.here hx rfl (hb hby at_38) k) ?_
    show Go _ _ _ _ _ _ _ s₁ (mkF m 39 #[.val (.int ia), .val (.int ((1 : Int32) + (ia &&& (3 : Int32)))), .val (.int (((ia.toUInt32 >>> ((2 : Int32) &&& 31).toUInt32).toInt32) &&& (3 : Int32))), .val (.int (((ia.toUInt32 >>> ((4 : Int32) &&& 31).toUInt32).toInt32) &&& (3 : Int32))), .val (.int (1 : Int32)), .unset, .unset, .unset, .unset, .unset, .unset, .unset, .unset, .unset, .unset, .unset, .unset, .unset] [(.int (1 : Int32)), (.int ((ia.toUInt32 >>> ((7 : Int32) &&& 31).toUInt32).toInt32))])
    refine Go.step (fun _ k => XS.iand X0.here hx rfl (hb hby at_39) rfl k) ?_
    show Go _ _ _ _ _ _ _ s₁ (mkF m 40 #[.val (.int ia), .val (.int ((1 : Int32) + (ia &&& (3 : Int32)))), .val (.int (((ia.toUInt32 >>> ((2 : Int32) &&& 31).toUInt32).toInt32) &&& (3 : Int32))), .val (.int (((ia.toUInt32 >>> ((4 : Int32) &&& 31).toUInt32).toInt32) &&& (3 : Int32))), .val (.int (1 : Int32)), .unset, .unset, .unset, .unset, .unset, .unset, .unset, .unset, .unset, .unset, .unset, .unset, .unset] [(.int (((ia.toUInt32 >>> ((7 : Int32) &&& 31).toUInt32).toInt32) &&& (1 : Int32)))])
    by_cases hc40_111 : (((ia.toUInt32 >>> ((7 : Int32) &&& 31).toUInt32).toInt32) &&& (1 : Int32)) = (0 : Int32)
    · refine Go.step (fun _ k => XS.ifYes X0.here hx rfl (pc0 := 40) (pc' := 47) rfl (hb hby at_40) rfl ((if0 _ _).trans (teq hc40_111).1) (by decide) (by decide) k) ?_
      show Go _ _ _ _ _ _ _ s₁ (mkF m 47 #[.val (.int ia), .val (.int ((1 : Int32) + (ia &&& (3 : Int32)))), .val (.int (((ia.toUInt32 >>> ((2 : Int32) &&& 31).toUInt32).toInt32) &&& (3 : Int32))), .val (.int (((ia.toUInt32 >>> ((4 : Int32) &&& 31).toUInt32).toInt32) &&& (3 : Int32))), .val (.int (1 : Int32)), .unset, .unset, .unset, .unset, .unset, .unset, .unset, .unset, .unset, .unset, .unset, .unset, .unset] [])
      refine Go.step (fun _ k => XS.iconst X0.here hx rfl (hb hby at_47) k) ?_
      show Go _ _ _ _ _ _ _ s₁ (mkF m 48 #[.val (.int ia), .val (.int ((1 : Int32) + (ia &&& (3 : Int32)))), .val (.int (((ia.toUInt32 >>> ((2 : Int32) &&& 31).toUInt32).toInt32) &&& (3 : Int32))), .val (.int (((ia.toUInt32 >>> ((4 : Int32) &&& 31).toUInt32).toInt32) &&& (3 : Int32))), .val (.int (1 : Int32)), .unset, .unset, .unset, .unset, .unset, .unset, .unset, .unset, .unset, .unset, .unset, .unset, .unset] [(.int (0 : Int32))])
      refine Go.step (fun _ k => XS.istore X0.here hx rfl (hb hby at_48) rfl (l' := #[.val (.int ia), .val (.int ((1 : Int32) + (ia &&& (3 : Int32)))), .val (.int (((ia.toUInt32 >>> ((2 : Int32) &&& 31).toUInt32).toInt32) &&& (3 : Int32))), .val (.int (((ia.toUInt32 >>> ((4 : Int32) &&& 31).toUInt32).toInt32) &&& (3 : Int32))), .val (.int (1 : Int32)), .val (.int (0 : Int32)), .unset, .unset, .unset, .unset, .unset, .unset, .unset, .unset, .unset, .unset, .unset, .unset]) rfl k) ?_
      show Go _ _ _ _ _ _ _ s₁ (mkF m 50 #[.val (.int ia), .val (.int ((1 : Int32) + (ia &&& (3 : Int32)))), .val (.int (((ia.toUInt32 >>> ((2 : Int32) &&& 31).toUInt32).toInt32) &&& (3 : Int32))), .val (.int (((ia.toUInt32 >>> ((4 : Int32) &&& 31).toUInt32).toInt32) &&& (3 : Int32))), .val (.int (1 : Int32)), .val (.int (0 : Int32)), .unset, .unset, .unset, .unset, .unset, .unset, .unset, .unset, .unset, .unset, .unset, .unset] [])
      refine Go.step (fun _ k => XS.iloadN X0.here hx rfl (hb hby at_50) rfl k) ?_
      show Go _ _ _ _ _ _ _ s₁ (mkF m 51 #[.val (.int ia), .val (.int ((1 : Int32) + (ia &&& (3 : Int32)))), .val (.int (((ia.toUInt32 >>> ((2 : Int32) &&& 31).toUInt32).toInt32) &&& (3 : Int32))), .val (.int (((ia.toUInt32 >>> ((4 : Int32) &&& 31).toUInt32).toInt32) &&& (3 : Int32))), .val (.int (1 : Int32)), .val (.int (0 : Int32)), .unset, .unset, .unset, .unset, .unset, .unset, .unset, .unset, .unset, .unset, .unset, .unset] [(.int ia)])
      refine Go.step (fun _ k => XS.bipush X0.here hx rfl (hb hby at_51) k) ?_
      show Go _ _ _ _ _ _ _ s₁ (mkF m 53 #[.val (.int ia), .val (.int ((1 : Int32) + (ia &&& (3 : Int32)))), .val (.int (((ia.toUInt32 >>> ((2 : Int32) &&& 31).toUInt32).toInt32) &&& (3 : Int32))), .val (.int (((ia.toUInt32 >>> ((4 : Int32) &&& 31).toUInt32).toInt32) &&& (3 : Int32))), .val (.int (1 : Int32)), .val (.int (0 : Int32)), .unset, .unset, .unset, .unset, .unset, .unset, .unset, .unset, .unset, .unset, .unset, .unset] [(.int (8 : Int32)), (.int ia)])
      refine Go.step (fun _ k => XS.iushr X0.here hx rfl (hb hby at_53) rfl k) ?_
      show Go _ _ _ _ _ _ _ s₁ (mkF m 54 #[.val (.int ia), .val (.int ((1 : Int32) + (ia &&& (3 : Int32)))), .val (.int (((ia.toUInt32 >>> ((2 : Int32) &&& 31).toUInt32).toInt32) &&& (3 : Int32))), .val (.int (((ia.toUInt32 >>> ((4 : Int32) &&& 31).toUInt32).toInt32) &&& (3 : Int32))), .val (.int (1 : Int32)), .val (.int (0 : Int32)), .unset, .unset, .unset, .unset, .unset, .unset, .unset, .unset, .unset, .unset, .unset, .unset] [(.int ((ia.toUInt32 >>> ((8 : Int32) &&& 31).toUInt32).toInt32))])
      refine Go.step (fun _ k => XS.iconst X0.here hx rfl (hb hby at_54) k) ?_
      show Go _ _ _ _ _ _ _ s₁ (mkF m 55 #[.val (.int ia), .val (.int ((1 : Int32) + (ia &&& (3 : Int32)))), .val (.int (((ia.toUInt32 >>> ((2 : Int32) &&& 31).toUInt32).toInt32) &&& (3 : Int32))), .val (.int (((ia.toUInt32 >>> ((4 : Int32) &&& 31).toUInt32).toInt32) &&& (3 : Int32))), .val (.int (1 : Int32)), .val (.int (0 : Int32)), .unset, .unset, .unset, .unset, .unset, .unset, .unset, .unset, .unset, .unset, .unset, .unset] [(.int (1 : Int32)), (.int ((ia.toUInt32 >>> ((8 : Int32) &&& 31).toUInt32).toInt32))])
      refine Go.step (fun _ k => XS.iand X0.here hx rfl (hb hby at_55) rfl k) ?_
      show Go _ _ _ _ _ _ _ s₁ (mkF m 56 #[.val (.int ia), .val (.int ((1 : Int32) + (ia &&& (3 : Int32)))), .val (.int (((ia.toUInt32 >>> ((2 : Int32) &&& 31).toUInt32).toInt32) &&& (3 : Int32))), .val (.int (((ia.toUInt32 >>> ((4 : Int32) &&& 31).toUInt32).toInt32) &&& (3 : Int32))), .val (.int (1 : Int32)), .val (.int (0 : Int32)), .unset, .unset, .unset, .unset, .unset, .unset, .unset, .unset, .unset, .unset, .unset, .unset] [(.int (((ia.toUInt32 >>> ((8 : Int32) &&& 31).toUInt32).toInt32) &&& (1 : Int32)))])
      by_cases hc56_112 : (((ia.toUInt32 >>> ((8 : Int32) &&& 31).toUInt32).toInt32) &&& (1 : Int32)) = (0 : Int32)
      · refine Go.step (fun _ k => XS.ifYes X0.here hx rfl (pc0 := 56) (pc' := 63) rfl (hb hby at_56) rfl ((if0 _ _).trans (teq hc56_112).1) (by decide) (by decide) k) ?_
        show Go _ _ _ _ _ _ _ s₁ (mkF m 63 #[.val (.int ia), .val (.int ((1 : Int32) + (ia &&& (3 : Int32)))), .val (.int (((ia.toUInt32 >>> ((2 : Int32) &&& 31).toUInt32).toInt32) &&& (3 : Int32))), .val (.int (((ia.toUInt32 >>> ((4 : Int32) &&& 31).toUInt32).toInt32) &&& (3 : Int32))), .val (.int (1 : Int32)), .val (.int (0 : Int32)), .unset, .unset, .unset, .unset, .unset, .unset, .unset, .unset, .unset, .unset, .unset, .unset] [])
        refine Go.step (fun _ k => XS.iconst X0.here hx rfl (hb hby at_63) k) ?_
        show Go _ _ _ _ _ _ _ s₁ (mkF m 64 #[.val (.int ia), .val (.int ((1 : Int32) + (ia &&& (3 : Int32)))), .val (.int (((ia.toUInt32 >>> ((2 : Int32) &&& 31).toUInt32).toInt32) &&& (3 : Int32))), .val (.int (((ia.toUInt32 >>> ((4 : Int32) &&& 31).toUInt32).toInt32) &&& (3 : Int32))), .val (.int (1 : Int32)), .val (.int (0 : Int32)), .unset, .unset, .unset, .unset, .unset, .unset, .unset, .unset, .unset, .unset, .unset, .unset] [(.int (0 : Int32))])
        refine Go.step (fun _ k => XS.istore X0.here hx rfl (hb hby at_64) rfl (l' := #[.val (.int ia), .val (.int ((1 : Int32) + (ia &&& (3 : Int32)))), .val (.int (((ia.toUInt32 >>> ((2 : Int32) &&& 31).toUInt32).toInt32) &&& (3 : Int32))), .val (.int (((ia.toUInt32 >>> ((4 : Int32) &&& 31).toUInt32).toInt32) &&& (3 : Int32))), .val (.int (1 : Int32)), .val (.int (0 : Int32)), .val (.int (0 : Int32)), .unset, .unset, .unset, .unset, .unset, .unset, .unset, .unset, .unset, .unset, .unset]) rfl k) ?_
        show Go _ _ _ _ _ _ _ s₁ (mkF m 66 #[.val (.int ia), .val (.int ((1 : Int32) + (ia &&& (3 : Int32)))), .val (.int (((ia.toUInt32 >>> ((2 : Int32) &&& 31).toUInt32).toInt32) &&& (3 : Int32))), .val (.int (((ia.toUInt32 >>> ((4 : Int32) &&& 31).toUInt32).toInt32) &&& (3 : Int32))), .val (.int (1 : Int32)), .val (.int (0 : Int32)), .val (.int (0 : Int32)), .unset, .unset, .unset, .unset, .unset, .unset, .unset, .unset, .unset, .unset, .unset] [])
        refine Go.step (fun _ k => XS.iloadN X0.here hx rfl (hb hby at_66) rfl k) ?_
        show Go _ _ _ _ _ _ _ s₁ (mkF m 67 #[.val (.int ia), .val (.int ((1 : Int32) + (ia &&& (3 : Int32)))), .val (.int (((ia.toUInt32 >>> ((2 : Int32) &&& 31).toUInt32).toInt32) &&& (3 : Int32))), .val (.int (((ia.toUInt32 >>> ((4 : Int32) &&& 31).toUInt32).toInt32) &&& (3 : Int32))), .val (.int (1 : Int32)), .val (.int (0 : Int32)), .val (.int (0 : Int32)), .unset, .unset, .unset, .unset, .unset, .unset, .unset, .unset, .unset, .unset, .unset] [(.int ia)])
        refine Go.step (fun _ k => XS.bipush X0.here hx rfl (hb hby at_67) k) ?_
        show Go _ _ _ _ _ _ _ s₁ (mkF m 69 #[.val (.int ia), .val (.int ((1 : Int32) + (ia &&& (3 : Int32)))), .val (.int (((ia.toUInt32 >>> ((2 : Int32) &&& 31).toUInt32).toInt32) &&& (3 : Int32))), .val (.int (((ia.toUInt32 >>> ((4 : Int32) &&& 31).toUInt32).toInt32) &&& (3 : Int32))), .val (.int (1 : Int32)), .val (.int (0 : Int32)), .val (.int (0 : Int32)), .unset, .unset, .unset, .unset, .unset, .unset, .unset, .unset, .unset, .unset, .unset] [(.int (9 : Int32)), (.int ia)])
        refine Go.step (fun _ k => XS.iushr X0.here hx rfl (hb hby at_69) rfl k) ?_
        show Go _ _ _ _ _ _ _ s₁ (mkF m 70 #[.val (.int ia), .val (.int ((1 : Int32) + (ia &&& (3 : Int32)))), .val (.int (((ia.toUInt32 >>> ((2 : Int32) &&& 31).toUInt32).toInt32) &&& (3 : Int32))), .val (.int (((ia.toUInt32 >>> ((4 : Int32) &&& 31).toUInt32).toInt32) &&& (3 : Int32))), .val (.int (1 : Int32)), .val (.int (0 : Int32)), .val (.int (0 : Int32)), .unset, .unset, .unset, .unset, .unset, .unset, .unset, .unset, .unset, .unset, .unset] [(.int ((ia.toUInt32 >>> ((9 : Int32) &&& 31).toUInt32).toInt32))])
        refine Go.step (fun _ k => XS.iconst X0.here hx rfl (hb hby at_70) k) ?_
        show Go _ _ _ _ _ _ _ s₁ (mkF m 71 #[.val (.int ia), .val (.int ((1 : Int32) + (ia &&& (3 : Int32)))), .val (.int (((ia.toUInt32 >>> ((2 : Int32) &&& 31).toUInt32).toInt32) &&& (3 : Int32))), .val (.int (((ia.toUInt32 >>> ((4 : Int32) &&& 31).toUInt32).toInt32) &&& (3 : Int32))), .val (.int (1 : Int32)), .val (.int (0 : Int32)), .val (.int (0 : Int32)), .unset, .unset, .unset, .unset, .unset, .unset, .unset, .unset, .unset, .unset, .unset] [(.int (3 : Int32)), (.int ((ia.toUInt32 >>> ((9 : Int32) &&& 31).toUInt32).toInt32))])
        refine Go.step (fun _ k => XS.iand X0.here hx rfl (hb hby at_71) rfl k) ?_
        show Go _ _ _ _ _ _ _ s₁ (mkF m 72 #[.val (.int ia), .val (.int ((1 : Int32) + (ia &&& (3 : Int32)))), .val (.int (((ia.toUInt32 >>> ((2 : Int32) &&& 31).toUInt32).toInt32) &&& (3 : Int32))), .val (.int (((ia.toUInt32 >>> ((4 : Int32) &&& 31).toUInt32).toInt32) &&& (3 : Int32))), .val (.int (1 : Int32)), .val (.int (0 : Int32)), .val (.int (0 : Int32)), .unset, .unset, .unset, .unset, .unset, .unset, .unset, .unset, .unset, .unset, .unset] [(.int (((ia.toUInt32 >>> ((9 : Int32) &&& 31).toUInt32).toInt32) &&& (3 : Int32)))])
        refine Go.step (fun _ k => XS.istore X0.here hx rfl (hb hby at_72) rfl (l' := #[.val (.int ia), .val (.int ((1 : Int32) + (ia &&& (3 : Int32)))), .val (.int (((ia.toUInt32 >>> ((2 : Int32) &&& 31).toUInt32).toInt32) &&& (3 : Int32))), .val (.int (((ia.toUInt32 >>> ((4 : Int32) &&& 31).toUInt32).toInt32) &&& (3 : Int32))), .val (.int (1 : Int32)), .val (.int (0 : Int32)), .val (.int (0 : Int32)), .val (.int (((ia.toUInt32 >>> ((9 : Int32) &&& 31).toUInt32).toInt32) &&& (3 : Int32))), .unset, .unset, .unset, .unset, .unset, .unset, .unset, .unset, .unset, .unset]) rfl k) ?_
        show Go _ _ _ _ _ _ _ s₁ (mkF m 74 #[.val (.int ia), .val (.int ((1 : Int32) + (ia &&& (3 : Int32)))), .val (.int (((ia.toUInt32 >>> ((2 : Int32) &&& 31).toUInt32).toInt32) &&& (3 : Int32))), .val (.int (((ia.toUInt32 >>> ((4 : Int32) &&& 31).toUInt32).toInt32) &&& (3 : Int32))), .val (.int (1 : Int32)), .val (.int (0 : Int32)), .val (.int (0 : Int32)), .val (.int (((ia.toUInt32 >>> ((9 : Int32) &&& 31).toUInt32).toInt32) &&& (3 : Int32))), .unset, .unset, .unset, .unset, .unset, .unset, .unset, .unset, .unset, .unset] [])
        exact J s₁ h0 _ ((1 : Int32) + (ia &&& (3 : Int32))) (((ia.toUInt32 >>> ((2 : Int32) &&& 31).toUInt32).toInt32) &&& (3 : Int32)) (((ia.toUInt32 >>> ((4 : Int32) &&& 31).toUInt32).toInt32) &&& (3 : Int32)) (1 : Int32) (0 : Int32) (0 : Int32) (((ia.toUInt32 >>> ((9 : Int32) &&& 31).toUInt32).toInt32) &&& (3 : Int32)) (X0.more (by decide) (by decide)) e0 N0 Z0 O0 (by have : (1 : Int32).toInt = 1 := rfl; have := rng32 ia; have : (3 : Int32).toInt = 3 := rfl; have := rng32 (ia &&& (3 : Int32)); have := c_mask ia (3 : Int32) 2 (by decide) (by decide); have := rng32 ((1 : Int32) + (ia &&& (3 : Int32))); have := c_iadd (1 : Int32) (ia &&& (3 : Int32)); omega) (by have := rng32 ia; have : (2 : Int32).toInt = 2 := rfl; have := rng32 ((ia.toUInt32 >>> ((2 : Int32) &&& 31).toUInt32).toInt32); have := c_iushr ia (2 : Int32) 2 (by decide) (by decide); have : (3 : Int32).toInt = 3 := rfl; have := rng32 (((ia.toUInt32 >>> ((2 : Int32) &&& 31).toUInt32).toInt32) &&& (3 : Int32)); have := c_mask ((ia.toUInt32 >>> ((2 : Int32) &&& 31).toUInt32).toInt32) (3 : Int32) 2 (by decide) (by decide); omega) (by have := rng32 ia; have : (4 : Int32).toInt = 4 := rfl; have := rng32 ((ia.toUInt32 >>> ((4 : Int32) &&& 31).toUInt32).toInt32); have := c_iushr ia (4 : Int32) 4 (by decide) (by decide); have : (3 : Int32).toInt = 3 := rfl; have := rng32 (((ia.toUInt32 >>> ((4 : Int32) &&& 31).toUInt32).toInt32) &&& (3 : Int32)); have := c_mask ((ia.toUInt32 >>> ((4 : Int32) &&& 31).toUInt32).toInt32) (3 : Int32) 2 (by decide) (by decide); omega) (by have := rng32 ia; have : (9 : Int32).toInt = 9 := rfl; have := rng32 ((ia.toUInt32 >>> ((9 : Int32) &&& 31).toUInt32).toInt32); have := c_iushr ia (9 : Int32) 9 (by decide) (by decide); have : (3 : Int32).toInt = 3 := rfl; have := rng32 (((ia.toUInt32 >>> ((9 : Int32) &&& 31).toUInt32).toInt32) &&& (3 : Int32)); have := c_mask ((ia.toUInt32 >>> ((9 : Int32) &&& 31).toUInt32).toInt32) (3 : Int32) 2 (by decide) (by decide); omega)
      · refine Go.step (fun _ k => XS.ifNo X0.here hx rfl (hb hby at_56) rfl ((if0 _ _).trans (feq hc56_112).1) k) ?_
        show Go _ _ _ _ _ _ _ s₁ (mkF m 59 #[.val (.int ia), .val (.int ((1 : Int32) + (ia &&& (3 : Int32)))), .val (.int (((ia.toUInt32 >>> ((2 : Int32) &&& 31).toUInt32).toInt32) &&& (3 : Int32))), .val (.int (((ia.toUInt32 >>> ((4 : Int32) &&& 31).toUInt32).toInt32) &&& (3 : Int32))), .val (.int (1 : Int32)), .val (.int (0 : Int32)), .unset, .unset, .unset, .unset, .unset, .unset, .unset, .unset, .unset, .unset, .unset, .unset] [])
        refine Go.step (fun _ k => XS.iconst X0.here hx rfl (hb hby at_59) k) ?_
        show Go _ _ _ _ _ _ _ s₁ (mkF m 60 #[.val (.int ia), .val (.int ((1 : Int32) + (ia &&& (3 : Int32)))), .val (.int (((ia.toUInt32 >>> ((2 : Int32) &&& 31).toUInt32).toInt32) &&& (3 : Int32))), .val (.int (((ia.toUInt32 >>> ((4 : Int32) &&& 31).toUInt32).toInt32) &&& (3 : Int32))), .val (.int (1 : Int32)), .val (.int (0 : Int32)), .unset, .unset, .unset, .unset, .unset, .unset, .unset, .unset, .unset, .unset, .unset, .unset] [(.int (1 : Int32))])
        refine Go.step (fun _ k => XS.goto X0.here hx rfl (pc0 := 60) (pc' := 64) rfl (hb hby at_60) (by decide) (by decide) k) ?_
        show Go _ _ _ _ _ _ _ s₁ (mkF m 64 #[.val (.int ia), .val (.int ((1 : Int32) + (ia &&& (3 : Int32)))), .val (.int (((ia.toUInt32 >>> ((2 : Int32) &&& 31).toUInt32).toInt32) &&& (3 : Int32))), .val (.int (((ia.toUInt32 >>> ((4 : Int32) &&& 31).toUInt32).toInt32) &&& (3 : Int32))), .val (.int (1 : Int32)), .val (.int (0 : Int32)), .unset, .unset, .unset, .unset, .unset, .unset, .unset, .unset, .unset, .unset, .unset, .unset] [(.int (1 : Int32))])
        refine Go.step (fun _ k => XS.istore X0.here hx rfl (hb hby at_64) rfl (l' := #[.val (.int ia), .val (.int ((1 : Int32) + (ia &&& (3 : Int32)))), .val (.int (((ia.toUInt32 >>> ((2 : Int32) &&& 31).toUInt32).toInt32) &&& (3 : Int32))), .val (.int (((ia.toUInt32 >>> ((4 : Int32) &&& 31).toUInt32).toInt32) &&& (3 : Int32))), .val (.int (1 : Int32)), .val (.int (0 : Int32)), .val (.int (1 : Int32)), .unset, .unset, .unset, .unset, .unset, .unset, .unset, .unset, .unset, .unset, .unset]) rfl k) ?_
        show Go _ _ _ _ _ _ _ s₁ (mkF m 66 #[.val (.int ia), .val (.int ((1 : Int32) + (ia &&& (3 : Int32)))), .val (.int (((ia.toUInt32 >>> ((2 : Int32) &&& 31).toUInt32).toInt32) &&& (3 : Int32))), .val (.int (((ia.toUInt32 >>> ((4 : Int32) &&& 31).toUInt32).toInt32) &&& (3 : Int32))), .val (.int (1 : Int32)), .val (.int (0 : Int32)), .val (.int (1 : Int32)), .unset, .unset, .unset, .unset, .unset, .unset, .unset, .unset, .unset, .unset, .unset] [])
        refine Go.step (fun _ k => XS.iloadN X0.here hx rfl (hb hby at_66) rfl k) ?_
        show Go _ _ _ _ _ _ _ s₁ (mkF m 67 #[.val (.int ia), .val (.int ((1 : Int32) + (ia &&& (3 : Int32)))), .val (.int (((ia.toUInt32 >>> ((2 : Int32) &&& 31).toUInt32).toInt32) &&& (3 : Int32))), .val (.int (((ia.toUInt32 >>> ((4 : Int32) &&& 31).toUInt32).toInt32) &&& (3 : Int32))), .val (.int (1 : Int32)), .val (.int (0 : Int32)), .val (.int (1 : Int32)), .unset, .unset, .unset, .unset, .unset, .unset, .unset, .unset, .unset, .unset, .unset] [(.int ia)])
        refine Go.step (fun _ k => XS.bipush X0.here hx rfl (hb hby at_67) k) ?_
        show Go _ _ _ _ _ _ _ s₁ (mkF m 69 #[.val (.int ia), .val (.int ((1 : Int32) + (ia &&& (3 : Int32)))), .val (.int (((ia.toUInt32 >>> ((2 : Int32) &&& 31).toUInt32).toInt32) &&& (3 : Int32))), .val (.int (((ia.toUInt32 >>> ((4 : Int32) &&& 31).toUInt32).toInt32) &&& (3 : Int32))), .val (.int (1 : Int32)), .val (.int (0 : Int32)), .val (.int (1 : Int32)), .unset, .unset, .unset, .unset, .unset, .unset, .unset, .unset, .unset, .unset, .unset] [(.int (9 : Int32)), (.int ia)])
        refine Go.step (fun _ k => XS.iushr X0.here hx rfl (hb hby at_69) rfl k) ?_
        show Go _ _ _ _ _ _ _ s₁ (mkF m 70 #[.val (.int ia), .val (.int ((1 : Int32) + (ia &&& (3 : Int32)))), .val (.int (((ia.toUInt32 >>> ((2 : Int32) &&& 31).toUInt32).toInt32) &&& (3 : Int32))), .val (.int (((ia.toUInt32 >>> ((4 : Int32) &&& 31).toUInt32).toInt32) &&& (3 : Int32))), .val (.int (1 : Int32)), .val (.int (0 : Int32)), .val (.int (1 : Int32)), .unset, .unset, .unset, .unset, .unset, .unset, .unset, .unset, .unset, .unset, .unset] [(.int ((ia.toUInt32 >>> ((9 : Int32) &&& 31).toUInt32).toInt32))])
        refine Go.step (fun _ k => XS.iconst X0.here hx rfl (hb hby at_70) k) ?_
        show Go _ _ _ _ _ _ _ s₁ (mkF m 71 #[.val (.int ia), .val (.int ((1 : Int32) + (ia &&& (3 : Int32)))), .val (.int (((ia.toUInt32 >>> ((2 : Int32) &&& 31).toUInt32).toInt32) &&& (3 : Int32))), .val (.int (((ia.toUInt32 >>> ((4 : Int32) &&& 31).toUInt32).toInt32) &&& (3 : Int32))), .val (.int (1 : Int32)), .val (.int (0 : Int32)), .val (.int (1 : Int32)), .unset, .unset, .unset, .unset, .unset, .unset, .unset, .unset, .unset, .unset, .unset] [(.int (3 : Int32)), (.int ((ia.toUInt32 >>> ((9 : Int32) &&& 31).toUInt32).toInt32))])
        refine Go.step (fun _ k => XS.iand X0.here hx rfl (hb hby at_71) rfl k) ?_
        show Go _ _ _ _ _ _ _ s₁ (mkF m 72 #[.val (.int ia), .val (.int ((1 : Int32) + (ia &&& (3 : Int32)))), .val (.int (((ia.toUInt32 >>> ((2 : Int32) &&& 31).toUInt32).toInt32) &&& (3 : Int32))), .val (.int (((ia.toUInt32 >>> ((4 : Int32) &&& 31).toUInt32).toInt32) &&& (3 : Int32))), .val (.int (1 : Int32)), .val (.int (0 : Int32)), .val (.int (1 : Int32)), .unset, .unset, .unset, .unset, .unset, .unset, .unset, .unset, .unset, .unset, .unset] [(.int (((ia.toUInt32 >>> ((9 : Int32) &&& 31).toUInt32).toInt32) &&& (3 : Int32)))])
        refine Go.step (fun _ k => XS.istore X0.here hx rfl (hb hby at_72) rfl (l' := #[.val (.int ia), .val (.int ((1 : Int32) + (ia &&& (3 : Int32)))), .val (.int (((ia.toUInt32 >>> ((2 : Int32) &&& 31).toUInt32).toInt32) &&& (3 : Int32))), .val (.int (((ia.toUInt32 >>> ((4 : Int32) &&& 31).toUInt32).toInt32) &&& (3 : Int32))), .val (.int (1 : Int32)), .val (.int (0 : Int32)), .val (.int (1 : Int32)), .val (.int (((ia.toUInt32 >>> ((9 : Int32) &&& 31).toUInt32).toInt32) &&& (3 : Int32))), .unset, .unset, .unset, .unset, .unset, .unset, .unset, .unset, .unset, .unset]) rfl k) ?_
        show Go _ _ _ _ _ _ _ s₁ (mkF m 74 #[.val (.int ia), .val (.int ((1 : Int32) + (ia &&& (3 : Int32)))), .val (.int (((ia.toUInt32 >>> ((2 : Int32) &&& 31).toUInt32).toInt32) &&& (3 : Int32))), .val (.int (((ia.toUInt32 >>> ((4 : Int32) &&& 31).toUInt32).toInt32) &&& (3 : Int32))), .val (.int (1 : Int32)), .val (.int (0 : Int32)), .val (.int (1 : Int32)), .val (.int (((ia.toUInt32 >>> ((9 : Int32) &&& 31).toUInt32).toInt32) &&& (3 : Int32))), .unset, .unset, .unset, .unset, .unset, .unset, .unset, .unset, .unset, .unset] [])
        exact J s₁ h0 _ ((1 : Int32) + (ia &&& (3 : Int32))) (((ia.toUInt32 >>> ((2 : Int32) &&& 31).toUInt32).toInt32) &&& (3 : Int32)) (((ia.toUInt32 >>> ((4 : Int32) &&& 31).toUInt32).toInt32) &&& (3 : Int32)) (1 : Int32) (0 : Int32) (1 : Int32) (((ia.toUInt32 >>> ((9 : Int32) &&& 31).toUInt32).toInt32) &&& (3 : Int32)) (X0.more (by decide) (by decide)) e0 N0 Z0 O0 (by have : (1 : Int32).toInt = 1 := rfl; have := rng32 ia; have : (3 : Int32).toInt = 3 := rfl; have := rng32 (ia &&& (3 : Int32)); have := c_mask ia (3 : Int32) 2 (by decide) (by decide); have := rng32 ((1 : Int32) + (ia &&& (3 : Int32))); have := c_iadd (1 : Int32) (ia &&& (3 : Int32)); omega) (by have := rng32 ia; have : (2 : Int32).toInt = 2 := rfl; have := rng32 ((ia.toUInt32 >>> ((2 : Int32) &&& 31).toUInt32).toInt32); have := c_iushr ia (2 : Int32) 2 (by decide) (by decide); have : (3 : Int32).toInt = 3 := rfl; have := rng32 (((ia.toUInt32 >>> ((2 : Int32) &&& 31).toUInt32).toInt32) &&& (3 : Int32)); have := c_mask ((ia.toUInt32 >>> ((2 : Int32) &&& 31).toUInt32).toInt32) (3 : Int32) 2 (by decide) (by decide); omega) (by have := rng32 ia; have : (4 : Int32).toInt = 4 := rfl; have := rng32 ((ia.toUInt32 >>> ((4 : Int32) &&& 31).toUInt32).toInt32); have := c_iushr ia (4 : Int32) 4 (by decide) (by decide); have : (3 : Int32).toInt = 3 := rfl; have := rng32 (((ia.toUInt32 >>> ((4 : Int32) &&& 31).toUInt32).toInt32) &&& (3 : Int32)); have := c_mask ((ia.toUInt32 >>> ((4 : Int32) &&& 31).toUInt32).toInt32) (3 : Int32) 2 (by decide) (by decide); omega) (by have := rng32 ia; have : (9 : Int32).toInt = 9 := rfl; have := rng32 ((ia.toUInt32 >>> ((9 : Int32) &&& 31).toUInt32).toInt32); have := c_iushr ia (9 : Int32) 9 (by decide) (by decide); have : (3 : Int32).toInt = 3 := rfl; have := rng32 (((ia.toUInt32 >>> ((9 : Int32) &&& 31).toUInt32).toInt32) &&& (3 : Int32)); have := c_mask ((ia.toUInt32 >>> ((9 : Int32) &&& 31).toUInt32).toInt32) (3 : Int32) 2 (by decide) (by decide); omega)
    · refine Go.step (fun _ k => XS.ifNo X0.here hx rfl (hb hby at_40) rfl ((if0 _ _).trans (feq hc40_111).1) k) ?_
      show Go _ _ _ _ _ _ _ s₁ (mkF m 43 #[.val (.int ia), .val (.int ((1 : Int32) + (ia &&& (3 : Int32)))), .val (.int (((ia.toUInt32 >>> ((2 : Int32) &&& 31).toUInt32).toInt32) &&& (3 : Int32))), .val (.int (((ia.toUInt32 >>> ((4 : Int32) &&& 31).toUInt32).toInt32) &&& (3 : Int32))), .val (.int (1 : Int32)), .unset, .unset, .unset, .unset, .unset, .unset, .unset, .unset, .unset, .unset, .unset, .unset, .unset] [])
      refine Go.step (fun _ k => XS.iconst X0.here hx rfl (hb hby at_43) k) ?_
      show Go _ _ _ _ _ _ _ s₁ (mkF m 44 #[.val (.int ia), .val (.int ((1 : Int32) + (ia &&& (3 : Int32)))), .val (.int (((ia.toUInt32 >>> ((2 : Int32) &&& 31).toUInt32).toInt32) &&& (3 : Int32))), .val (.int (((ia.toUInt32 >>> ((4 : Int32) &&& 31).toUInt32).toInt32) &&& (3 : Int32))), .val (.int (1 : Int32)), .unset, .unset, .unset, .unset, .unset, .unset, .unset, .unset, .unset, .unset, .unset, .unset, .unset] [(.int (1 : Int32))])
      refine Go.step (fun _ k => XS.goto X0.here hx rfl (pc0 := 44) (pc' := 48) rfl (hb hby at_44) (by decide) (by decide) k) ?_
      show Go _ _ _ _ _ _ _ s₁ (mkF m 48 #[.val (.int ia), .val (.int ((1 : Int32) + (ia &&& (3 : Int32)))), .val (.int (((ia.toUInt32 >>> ((2 : Int32) &&& 31).toUInt32).toInt32) &&& (3 : Int32))), .val (.int (((ia.toUInt32 >>> ((4 : Int32) &&& 31).toUInt32).toInt32) &&& (3 : Int32))), .val (.int (1 : Int32)), .unset, .unset, .unset, .unset, .unset, .unset, .unset, .unset, .unset, .unset, .unset, .unset, .unset] [(.int (1 : Int32))])
      refine Go.step (fun _ k => XS.istore X0.here hx rfl (hb hby at_48) rfl (l' := #[.val (.int ia), .val (.int ((1 : Int32) + (ia &&& (3 : Int32)))), .val (.int (((ia.toUInt32 >>> ((2 : Int32) &&& 31).toUInt32).toInt32) &&& (3 : Int32))), .val (.int (((ia.toUInt32 >>> ((4 : Int32) &&& 31).toUInt32).toInt32) &&& (3 : Int32))), .val (.int (1 : Int32)), .val (.int (1 : Int32)), .unset, .unset, .unset, .unset, .unset, .unset, .unset, .unset, .unset, .unset, .unset, .unset]) rfl k) ?_
      show Go _ _ _ _ _ _ _ s₁ (mkF m 50 #[.val (.int ia), .val (.int ((1 : Int32) + (ia &&& (3 : Int32)))), .val (.int (((ia.toUInt32 >>> ((2 : Int32) &&& 31).toUInt32).toInt32) &&& (3 : Int32))), .val (.int (((ia.toUInt32 >>> ((4 : Int32) &&& 31).toUInt32).toInt32) &&& (3 : Int32))), .val (.int (1 : Int32)), .val (.int (1 : Int32)), .unset, .unset, .unset, .unset, .unset, .unset, .unset, .unset, .unset, .unset, .unset, .unset] [])
      refine Go.step (fun _ k => XS.iloadN X0.here hx rfl (hb hby at_50) rfl k) ?_
      show Go _ _ _ _ _ _ _ s₁ (mkF m 51 #[.val (.int ia), .val (.int ((1 : Int32) + (ia &&& (3 : Int32)))), .val (.int (((ia.toUInt32 >>> ((2 : Int32) &&& 31).toUInt32).toInt32) &&& (3 : Int32))), .val (.int (((ia.toUInt32 >>> ((4 : Int32) &&& 31).toUInt32).toInt32) &&& (3 : Int32))), .val (.int (1 : Int32)), .val (.int (1 : Int32)), .unset, .unset, .unset, .unset, .unset, .unset, .unset, .unset, .unset, .unset, .unset, .unset] [(.int ia)])
      refine Go.step (fun _ k => XS.bipush X0.here hx rfl (hb hby at_51) k) ?_
      show Go _ _ _ _ _ _ _ s₁ (mkF m 53 #[.val (.int ia), .val (.int ((1 : Int32) + (ia &&& (3 : Int32)))), .val (.int (((ia.toUInt32 >>> ((2 : Int32) &&& 31).toUInt32).toInt32) &&& (3 : Int32))), .val (.int (((ia.toUInt32 >>> ((4 : Int32) &&& 31).toUInt32).toInt32) &&& (3 : Int32))), .val (.int (1 : Int32)), .val (.int (1 : Int32)), .unset, .unset, .unset, .unset, .unset, .unset, .unset, .unset, .unset, .unset, .unset, .unset] [(.int (8 : Int32)), (.int ia)])
      refine Go.step (fun _ k => XS.iushr X0.here hx rfl (hb hby at_53) rfl k) ?_
      show Go _ _ _ _ _ _ _ s₁ (mkF m 54 #[.val (.int ia), .val (.int ((1 : Int32) + (ia &&& (3 : Int32)))), .val (.int (((ia.toUInt32 >>> ((2 : Int32) &&& 31).toUInt32).toInt32) &&& (3 : Int32))), .val (.int (((ia.toUInt32 >>> ((4 : Int32) &&& 31).toUInt32).toInt32) &&& (3 : Int32))), .val (.int (1 : Int32)), .val (.int (1 : Int32)), .unset, .unset, .unset, .unset, .unset, .unset, .unset, .unset, .unset, .unset, .unset, .unset] [(.int ((ia.toUInt32 >>> ((8 : Int32) &&& 31).toUInt32).toInt32))])
      refine Go.step (fun _ k => XS.iconst X0.here hx rfl (hb hby at_54) k) ?_
      show Go _ _ _ _ _ _ _ s₁ (mkF m 55 #[.val (.int ia), .val (.int ((1 : Int32) + (ia &&& (3 : Int32)))), .val (.int (((ia.toUInt32 >>> ((2 : Int32) &&& 31).toUInt32).toInt32) &&& (3 : Int32))), .val (.int (((ia.toUInt32 >>> ((4 : Int32) &&& 31).toUInt32).toInt32) &&& (3 : Int32))), .val (.int (1 : Int32)), .val (.int (1 : Int32)), .unset, .unset, .unset, .unset, .unset, .unset, .unset, .unset, .unset, .unset, .unset, .unset] [(.int (1 : Int32)), (.int ((ia.toUInt32 >>> ((8 : Int32) &&& 31).toUInt32).toInt32))])
      refine Go.step (fun _ k => XS.iand X0.here hx rfl (hb hby at_55) rfl k) ?_
      show Go _ _ _ _ _ _ _ s₁ (mkF m 56 #[.val (.int ia), .val (.int ((1 : Int32) + (ia &&& (3 : Int32)))), .val (.int (((ia.toUInt32 >>> ((2 : Int32) &&& 31).toUInt32).toInt32) &&& (3 : Int32))), .val (.int (((ia.toUInt32 >>> ((4 : Int32) &&& 31).toUInt32).toInt32) &&& (3 : Int32))), .val (.int (1 : Int32)), .val (.int (1 : Int32)), .unset, .unset, .unset, .unset, .unset, .unset, .unset, .unset, .unset, .unset, .unset, .unset] [(.int (((ia.toUInt32 >>> ((8 : Int32) &&& 31).toUInt32).toInt32) &&& (1 : Int32)))])
      by_cases hc56_113 : (((ia.toUInt32 >>> ((8 : Int32) &&& 31).toUInt32).toInt32) &&& (1 : Int32)) = (0 : Int32)
      · refine Go.step (fun _ k => XS.ifYes X0.here hx rfl (pc0 := 56) (pc' := 63) rfl (hb hby at_56) rfl ((if0 _ _).trans (teq hc56_113).1) (by decide) (by decide) k) ?_
        show Go _ _ _ _ _ _ _ s₁ (mkF m 63 #[.val (.int ia), .val (.int ((1 : Int32) + (ia &&& (3 : Int32)))), .val (.int (((ia.toUInt32 >>> ((2 : Int32) &&& 31).toUInt32).toInt32) &&& (3 : Int32))), .val (.int (((ia.toUInt32 >>> ((4 : Int32) &&& 31).toUInt32).toInt32) &&& (3 : Int32))), .val (.int (1 : Int32)), .val (.int (1 : Int32)), .unset, .unset, .unset, .unset, .unset, .unset, .unset, .unset, .unset, .unset, .unset, .unset] [])
        refine Go.step (fun _ k => XS.iconst X0.here hx rfl (hb hby at_63) k) ?_
        show Go _ _ _ _ _ _ _ s₁ (mkF m 64 #[.val (.int ia), .val (.int ((1 : Int32) + (ia &&& (3 : Int32)))), .val (.int (((ia.toUInt32 >>> ((2 : Int32) &&& 31).toUInt32).toInt32) &&& (3 : Int32))), .val (.int (((ia.toUInt32 >>> ((4 : Int32) &&& 31).toUInt32).toInt32) &&& (3 : Int32))), .val (.int (1 : Int32)), .val (.int (1 : Int32)), .unset, .unset, .unset, .unset, .unset, .unset, .unset, .unset, .unset, .unset, .unset, .unset] [(.int (0 : Int32))])
        refine Go.step (fun _ k => XS.istore X0.here hx rfl (hb hby at_64) rfl (l' := #[.val (.int ia), .val (.int ((1 : Int32) + (ia &&& (3 : Int32)))), .val (.int (((ia.toUInt32 >>> ((2 : Int32) &&& 31).toUInt32).toInt32) &&& (3 : Int32))), .val (.int (((ia.toUInt32 >>> ((4 : Int32) &&& 31).toUInt32).toInt32) &&& (3 : Int32))), .val (.int (1 : Int32)), .val (.int (1 : Int32)), .val (.int (0 : Int32)), .unset, .unset, .unset, .unset, .unset, .unset, .unset, .unset, .unset, .unset, .unset]) rfl k) ?_
        show Go _ _ _ _ _ _ _ s₁ (mkF m 66 #[.val (.int ia), .val (.int ((1 : Int32) + (ia &&& (3 : Int32)))), .val (.int (((ia.toUInt32 >>> ((2 : Int32) &&& 31).toUInt32).toInt32) &&& (3 : Int32))), .val (.int (((ia.toUInt32 >>> ((4 : Int32) &&& 31).toUInt32).toInt32) &&& (3 : Int32))), .val (.int (1 : Int32)), .val (.int (1 : Int32)), .val (.int (0 : Int32)), .unset, .unset, .unset, .unset, .unset, .unset, .unset, .unset, .unset, .unset, .unset] [])
        refine Go.step (fun _ k => XS.iloadN X0.here hx rfl (hb hby at_66) rfl k) ?_
        show Go _ _ _ _ _ _ _ s₁ (mkF m 67 #[.val (.int ia), .val (.int ((1 : Int32) + (ia &&& (3 : Int32)))), .val (.int (((ia.toUInt32 >>> ((2 : Int32) &&& 31).toUInt32).toInt32) &&& (3 : Int32))), .val (.int (((ia.toUInt32 >>> ((4 : Int32) &&& 31).toUInt32).toInt32) &&& (3 : Int32))), .val (.int (1 : Int32)), .val (.int (1 : Int32)), .val (.int (0 : Int32)), .unset, .unset, .unset, .unset, .unset, .unset, .unset, .unset, .unset, .unset, .unset] [(.int ia)])
        refine Go.step (fun _ k => XS.bipush X0.here hx rfl (hb hby at_67) k) ?_
        show Go _ _ _ _ _ _ _ s₁ (mkF m 69 #[.val (.int ia), .val (.int ((1 : Int32) + (ia &&& (3 : Int32)))), .val (.int (((ia.toUInt32 >>> ((2 : Int32) &&& 31).toUInt32).toInt32) &&& (3 : Int32))), .val (.int (((ia.toUInt32 >>> ((4 : Int32) &&& 31).toUInt32).toInt32) &&& (3 : Int32))), .val (.int (1 : Int32)), .val (.int (1 : Int32)), .val (.int (0 : Int32)), .unset, .unset, .unset, .unset, .unset, .unset, .unset, .unset, .unset, .unset, .unset] [(.int (9 : Int32)), (.int ia)])
        refine Go.step (fun _ k => XS.iushr X0.here hx rfl (hb hby at_69) rfl k) ?_
        show Go _ _ _ _ _ _ _ s₁ (mkF m 70 #[.val (.int ia), .val (.int ((1 : Int32) + (ia &&& (3 : Int32)))), .val (.int (((ia.toUInt32 >>> ((2 : Int32) &&& 31).toUInt32).toInt32) &&& (3 : Int32))), .val (.int (((ia.toUInt32 >>> ((4 : Int32) &&& 31).toUInt32).toInt32) &&& (3 : Int32))), .val (.int (1 : Int32)), .val (.int (1 : Int32)), .val (.int (0 : Int32)), .unset, .unset, .unset, .unset, .unset, .unset, .unset, .unset, .unset, .unset, .unset] [(.int ((ia.toUInt32 >>> ((9 : Int32) &&& 31).toUInt32).toInt32))])
        refine Go.step (fun _ k => XS.iconst X0.here hx rfl (hb hby at_70) k) ?_
        show Go _ _ _ _ _ _ _ s₁ (mkF m 71 #[.val (.int ia), .val (.int ((1 : Int32) + (ia &&& (3 : Int32)))), .val (.int (((ia.toUInt32 >>> ((2 : Int32) &&& 31).toUInt32).toInt32) &&& (3 : Int32))), .val (.int (((ia.toUInt32 >>> ((4 : Int32) &&& 31).toUInt32).toInt32) &&& (3 : Int32))), .val (.int (1 : Int32)), .val (.int (1 : Int32)), .val (.int (0 : Int32)), .unset, .unset, .unset, .unset, .unset, .unset, .unset, .unset, .unset, .unset, .unset] [(.int (3 : Int32)), (.int ((ia.toUInt32 >>> ((9 : Int32) &&& 31).toUInt32).toInt32))])
        refine Go.step (fun _ k => XS.iand X0.here hx rfl (hb hby at_71) rfl k) ?_
        show Go _ _ _ _ _ _ _ s₁ (mkF m 72 #[.val (.int ia), .val (.int ((1 : Int32) + (ia &&& (3 : Int32)))), .val (.int (((ia.toUInt32 >>> ((2 : Int32) &&& 31).toUInt32).toInt32) &&& (3 : Int32))), .val (.int (((ia.toUInt32 >>> ((4 : Int32) &&& 31).toUInt32).toInt32) &&& (3 : Int32))), .val (.int (1 : Int32)), .val (.int (1 : Int32)), .val (.int (0 : Int32)), .unset, .unset, .unset, .unset, .unset, .unset, .unset, .unset, .unset, .unset, .unset] [(.int (((ia.toUInt32 >>> ((9 : Int32) &&& 31).toUInt32).toInt32) &&& (3 : Int32)))])
        refine Go.step (fun _ k => XS.istore X0.here hx rfl (hb hby at_72) rfl (l' := #[.val (.int ia), .val (.int ((1 : Int32) + (ia &&& (3 : Int32)))), .val (.int (((ia.toUInt32 >>> ((2 : Int32) &&& 31).toUInt32).toInt32) &&& (3 : Int32))), .val (.int (((ia.toUInt32 >>> ((4 : Int32) &&& 31).toUInt32).toInt32) &&& (3 : Int32))), .val (.int (1 : Int32)), .val (.int (1 : Int32)), .val (.int (0 : Int32)), .val (.int (((ia.toUInt32 >>> ((9 : Int32) &&& 31).toUInt32).toInt32) &&& (3 : Int32))), .unset, .unset, .unset, .unset, .unset, .unset, .unset, .unset, .unset, .unset]) rfl k) ?_
        show Go _ _ _ _ _ _ _ s₁ (mkF m 74 #[.val (.int ia), .val (.int ((1 : Int32) + (ia &&& (3 : Int32)))), .val (.int (((ia.toUInt32 >>> ((2 : Int32) &&& 31).toUInt32).toInt32) &&& (3 : Int32))), .val (.int (((ia.toUInt32 >>> ((4 : Int32) &&& 31).toUInt32).toInt32) &&& (3 : Int32))), .val (.int (1 : Int32)), .val (.int (1 : Int32)), .val (.int (0 : Int32)), .val (.int (((ia.toUInt32 >>> ((9 : Int32) &&& 31).toUInt32).toInt32) &&& (3 : Int32))), .unset, .unset, .unset, .unset, .unset, .unset, .unset, .unset, .unset, .unset] [])
        exact J s₁ h0 _ ((1 : Int32) + (ia &&& (3 : Int32))) (((ia.toUInt32 >>> ((2 : Int32) &&& 31).toUInt32).toInt32) &&& (3 : Int32)) (((ia.toUInt32 >>> ((4 : Int32) &&& 31).toUInt32).toInt32) &&& (3 : Int32)) (1 : Int32) (1 : Int32) (0 : Int32) (((ia.toUInt32 >>> ((9 : Int32) &&& 31).toUInt32).toInt32) &&& (3 : Int32)) (X0.more (by decide) (by decide)) e0 N0 Z0 O0 (by have : (1 : Int32).toInt = 1 := rfl; have := rng32 ia; have : (3 : Int32).toInt = 3 := rfl; have := rng32 (ia &&& (3 : Int32)); have := c_mask ia (3 : Int32) 2 (by decide) (by decide); have := rng32 ((1 : Int32) + (ia &&& (3 : Int32))); have := c_iadd (1 : Int32) (ia &&& (3 : Int32)); omega) (by have := rng32 ia; have : (2 : Int32).toInt = 2 := rfl; have := rng32 ((ia.toUInt32 >>> ((2 : Int32) &&& 31).toUInt32).toInt32); have := c_iushr ia (2 : Int32) 2 (by decide) (by decide); have : (3 : Int32).toInt = 3 := rfl; have := rng32 (((ia.toUInt32 >>> ((2 : Int32) &&& 31).toUInt32).toInt32) &&& (3 : Int32)); have := c_mask ((ia.toUInt32 >>> ((2 : Int32) &&& 31).toUInt32).toInt32) (3 : Int32) 2 (by decide) (by decide); omega) (by have := rng32 ia; have : (4 : Int32).toInt = 4 := rfl; have := rng32 ((ia.toUInt32 >>> ((4 : Int32) &&& 31).toUInt32).toInt32); have := c_iushr ia (4 : Int32) 4 (by decide) (by decide); have : (3 : Int32).toInt = 3 := rfl; have := rng32 (((ia.toUInt32 >>> ((4 : Int32) &&& 31).toUInt32).toInt32) &&& (3 : Int32)); have := c_mask ((ia.toUInt32 >>> ((4 : Int32) &&& 31).toUInt32).toInt32) (3 : Int32) 2 (by decide) (by decide); omega) (by have := rng32 ia; have : (9 : Int32).toInt = 9 := rfl; have := rng32 ((ia.toUInt32 >>> ((9 : Int32) &&& 31).toUInt32).toInt32); have := c_iushr ia (9 : Int32) 9 (by decide) (by decide); have : (3 : Int32).toInt = 3 := rfl; have := rng32 (((ia.toUInt32 >>> ((9 : Int32) &&& 31).toUInt32).toInt32) &&& (3 : Int32)); have := c_mask ((ia.toUInt32 >>> ((9 : Int32) &&& 31).toUInt32).toInt32) (3 : Int32) 2 (by decide) (by decide); omega)
      · refine Go.step (fun _ k => XS.ifNo X0.here hx rfl (hb hby at_56) rfl ((if0 _ _).trans (feq hc56_113).1) k) ?_
        show Go _ _ _ _ _ _ _ s₁ (mkF m 59 #[.val (.int ia), .val (.int ((1 : Int32) + (ia &&& (3 : Int32)))), .val (.int (((ia.toUInt32 >>> ((2 : Int32) &&& 31).toUInt32).toInt32) &&& (3 : Int32))), .val (.int (((ia.toUInt32 >>> ((4 : Int32) &&& 31).toUInt32).toInt32) &&& (3 : Int32))), .val (.int (1 : Int32)), .val (.int (1 : Int32)), .unset, .unset, .unset, .unset, .unset, .unset, .unset, .unset, .unset, .unset, .unset, .unset] [])
        refine Go.step (fun _ k => XS.iconst X0.here hx rfl (hb hby at_59) k) ?_
        show Go _ _ _ _ _ _ _ s₁ (mkF m 60 #[.val (.int ia), .val (.int ((1 : Int32) + (ia &&& (3 : Int32)))), .val (.int (((ia.toUInt32 >>> ((2 : Int32) &&& 31).toUInt32).toInt32) &&& (3 : Int32))), .val (.int (((ia.toUInt32 >>> ((4 : Int32) &&& 31).toUInt32).toInt32) &&& (3 : Int32))), .val (.int (1 : Int32)), .val (.int (1 : Int32)), .unset, .unset, .unset, .unset, .unset, .unset, .unset, .unset, .unset, .unset, .unset, .unset] [(.int (1 : Int32))])
        refine Go.step (fun _ k => XS.goto X0.here hx rfl (pc0 := 60) (pc' := 64) rfl (hb hby at_60) (by decide) (by decide) k) ?_
        show Go _ _ _ _ _ _ _ s₁ (mkF m 64 #[.val (.int ia), .val (.int ((1 : Int32) + (ia &&& (3 : Int32)))), .val (.int (((ia.toUInt32 >>> ((2 : Int32) &&& 31).toUInt32).toInt32) &&& (3 : Int32))), .val (.int (((ia.toUInt32 >>> ((4 : Int32) &&& 31).toUInt32).toInt32) &&& (3 : Int32))), .val (.int (1 : Int32)), .val (.int (1 : Int32)), .unset, .unset, .unset, .unset, .unset, .unset, .unset, .unset, .unset, .unset, .unset, .unset] [(.int (1 : Int32))])
        refine Go.step (fun _ k => XS.istore X0.here hx rfl (hb hby at_64) rfl (l' := #[.val (.int ia), .val (.int ((1 : Int32) + (ia &&& (3 : Int32)))), .val (.int (((ia.toUInt32 >>> ((2 : Int32) &&& 31).toUInt32).toInt32) &&& (3 : Int32))), .val (.int (((ia.toUInt32 >>> ((4 : Int32) &&& 31).toUInt32).toInt32) &&& (3 : Int32))), .val (.int (1 : Int32)), .val (.int (1 : Int32)), .val (.int (1 : Int32)), .unset, .unset, .unset, .unset, .unset, .unset, .unset, .unset, .unset, .unset, .unset]) rfl k) ?_
        show Go _ _ _ _ _ _ _ s₁ (mkF m 66 #[.val (.int ia), .val (.int ((1 : Int32) + (ia &&& (3 : Int32)))), .val (.int (((ia.toUInt32 >>> ((2 : Int32) &&& 31).toUInt32).toInt32) &&& (3 : Int32))), .val (.int (((ia.toUInt32 >>> ((4 : Int32) &&& 31).toUInt32).toInt32) &&& (3 : Int32))), .val (.int (1 : Int32)), .val (.int (1 : Int32)), .val (.int (1 : Int32)), .unset, .unset, .unset, .unset, .unset, .unset, .unset, .unset, .unset, .unset, .unset] [])
        refine Go.step (fun _ k => XS.iloadN X0.here hx rfl (hb hby at_66) rfl k) ?_
        show Go _ _ _ _ _ _ _ s₁ (mkF m 67 #[.val (.int ia), .val (.int ((1 : Int32) + (ia &&& (3 : Int32)))), .val (.int (((ia.toUInt32 >>> ((2 : Int32) &&& 31).toUInt32).toInt32) &&& (3 : Int32))), .val (.int (((ia.toUInt32 >>> ((4 : Int32) &&& 31).toUInt32).toInt32) &&& (3 : Int32))), .val (.int (1 : Int32)), .val (.int (1 : Int32)), .val (.int (1 : Int32)), .unset, .unset, .unset, .unset, .unset, .unset, .unset, .unset, .unset, .unset, .unset] [(.int ia)])
        refine Go.step (fun _ k => XS.bipush X0.here hx rfl (hb hby at_67) k) ?_
        show Go _ _ _ _ _ _ _ s₁ (mkF m 69 #[.val (.int ia), .val (.int ((1 : Int32) + (ia &&& (3 : Int32)))), .val (.int (((ia.toUInt32 >>> ((2 : Int32) &&& 31).toUInt32).toInt32) &&& (3 : Int32))), .val (.int (((ia.toUInt32 >>> ((4 : Int32) &&& 31).toUInt32).toInt32) &&& (3 : Int32))), .val (.int (1 : Int32)), .val (.int (1 : Int32)), .val (.int (1 : Int32)), .unset, .unset, .unset, .unset, .unset, .unset, .unset, .unset, .unset, .unset, .unset] [(.int (9 : Int32)), (.int ia)])
        refine Go.step (fun _ k => XS.iushr X0.here hx rfl (hb hby at_69) rfl k) ?_
        show Go _ _ _ _ _ _ _ s₁ (mkF m 70 #[.val (.int ia), .val (.int ((1 : Int32) + (ia &&& (3 : Int32)))), .val (.int (((ia.toUInt32 >>> ((2 : Int32) &&& 31).toUInt32).toInt32) &&& (3 : Int32))), .val (.int (((ia.toUInt32 >>> ((4 : Int32) &&& 31).toUInt32).toInt32) &&& (3 : Int32))), .val (.int (1 : Int32)), .val (.int (1 : Int32)), .val (.int (1 : Int32)), .unset, .unset, .unset, .unset, .unset, .unset, .unset, .unset, .unset, .unset, .unset] [(.int ((ia.toUInt32 >>> ((9 : Int32) &&& 31).toUInt32).toInt32))])
        refine Go.step (fun _ k => XS.iconst X0.here hx rfl (hb hby at_70) k) ?_
        show Go _ _ _ _ _ _ _ s₁ (mkF m 71 #[.val (.int ia), .val (.int ((1 : Int32) + (ia &&& (3 : Int32)))), .val (.int (((ia.toUInt32 >>> ((2 : Int32) &&& 31).toUInt32).toInt32) &&& (3 : Int32))), .val (.int (((ia.toUInt32 >>> ((4 : Int32) &&& 31).toUInt32).toInt32) &&& (3 : Int32))), .val (.int (1 : Int32)), .val (.int (1 : Int32)), .val (.int (1 : Int32)), .unset, .unset, .unset, .unset, .unset, .unset, .unset, .unset, .unset, .unset, .unset] [(.int (3 : Int32)), (.int ((ia.toUInt32 >>> ((9 : Int32) &&& 31).toUInt32).toInt32))])
        refine Go.step (fun _ k => XS.iand X0.here hx rfl (hb hby at_71) rfl k) ?_
        show Go _ _ _ _ _ _ _ s₁ (mkF m 72 #[.val (.int ia), .val (.int ((1 : Int32) + (ia &&& (3 : Int32)))), .val (.int (((ia.toUInt32 >>> ((2 : Int32) &&& 31).toUInt32).toInt32) &&& (3 : Int32))), .val (.int (((ia.toUInt32 >>> ((4 : Int32) &&& 31).toUInt32).toInt32) &&& (3 : Int32))), .val (.int (1 : Int32)), .val (.int (1 : Int32)), .val (.int (1 : Int32)), .unset, .unset, .unset, .unset, .unset, .unset, .unset, .unset, .unset, .unset, .unset] [(.int (((ia.toUInt32 >>> ((9 : Int32) &&& 31).toUInt32).toInt32) &&& (3 : Int32)))])
        refine Go.step (fun _ k => XS.istore X0.here hx rfl (hb hby at_72) rfl (l' := #[.val (.int ia), .val (.int ((1 : Int32) + (ia &&& (3 : Int32)))), .val (.int (((ia.toUInt32 >>> ((2 : Int32) &&& 31).toUInt32).toInt32) &&& (3 : Int32))), .val (.int (((ia.toUInt32 >>> ((4 : Int32) &&& 31).toUInt32).toInt32) &&& (3 : Int32))), .val (.int (1 : Int32)), .val (.int (1 : Int32)), .val (.int (1 : Int32)), .val (.int (((ia.toUInt32 >>> ((9 : Int32) &&& 31).toUInt32).toInt32) &&& (3 : Int32))), .unset, .unset, .unset, .unset, .unset, .unset, .unset, .unset, .unset, .unset]) rfl k) ?_
        show Go _ _ _ _ _ _ _ s₁ (mkF m 74 #[.val (.int ia), .val (.int ((1 : Int32) + (ia &&& (3 : Int32)))), .val (.int (((ia.toUInt32 >>> ((2 : Int32) &&& 31).toUInt32).toInt32) &&& (3 : Int32))), .val (.int (((ia.toUInt32 >>> ((4 : Int32) &&& 31).toUInt32).toInt32) &&& (3 : Int32))), .val (.int (1 : Int32)), .val (.int (1 : Int32)), .val (.int (1 : Int32)), .val (.int (((ia.toUInt32 >>> ((9 : Int32) &&& 31).toUInt32).toInt32) &&& (3 : Int32))), .unset, .unset, .unset, .unset, .unset, .unset, .unset, .unset, .unset, .unset] [])
        exact J s₁ h0 _ ((1 : Int32) + (ia &&& (3 : Int32))) (((ia.toUInt32 >>> ((2 : Int32) &&& 31).toUInt32).toInt32) &&& (3 : Int32)) (((ia.toUInt32 >>> ((4 : Int32) &&& 31).toUInt32).toInt32) &&& (3 : Int32)) (1 : Int32) (1 : Int32) (1 : Int32) (((ia.toUInt32 >>> ((9 : Int32) &&& 31).toUInt32).toInt32) &&& (3 : Int32)) (X0.more (by decide) (by decide)) e0 N0 Z0 O0 (by have : (1 : Int32).toInt = 1 := rfl; have := rng32 ia; have : (3 : Int32).toInt = 3 := rfl; have := rng32 (ia &&& (3 : Int32)); have := c_mask ia (3 : Int32) 2 (by decide) (by decide); have := rng32 ((1 : Int32) + (ia &&& (3 : Int32))); have := c_iadd (1 : Int32) (ia &&& (3 : Int32)); omega) (by have := rng32 ia; have : (2 : Int32).toInt = 2 := rfl; have := rng32 ((ia.toUInt32 >>> ((2 : Int32) &&& 31).toUInt32).toInt32); have := c_iushr ia (2 : Int32) 2 (by decide) (by decide); have : (3 : Int32).toInt = 3 := rfl; have := rng32 (((ia.toUInt32 >>> ((2 : Int32) &&& 31).toUInt32).toInt32) &&& (3 : Int32)); have := c_mask ((ia.toUInt32 >>> ((2 : Int32) &&& 31).toUInt32).toInt32) (3 : Int32) 2 (by decide) (by decide); omega) (by have := rng32 ia; have : (4 : Int32).toInt = 4 := rfl; have := rng32 ((ia.toUInt32 >>> ((4 : Int32) &&& 31).toUInt32).toInt32); have := c_iushr ia (4 : Int32) 4 (by decide) (by decide); have : (3 : Int32).toInt = 3 := rfl; have := rng32 (((ia.toUInt32 >>> ((4 : Int32) &&& 31).toUInt32).toInt32) &&& (3 : Int32)); have := c_mask ((ia.toUInt32 >>> ((4 : Int32) &&& 31).toUInt32).toInt32) (3 : Int32) 2 (by decide) (by decide); omega) (by have := rng32 ia; have : (9 : Int32).toInt = 9 := rfl; have := rng32 ((ia.toUInt32 >>> ((9 : Int32) &&& 31).toUInt32).toInt32); have := c_iushr ia (9 : Int32) 9 (by decide) (by decide); have : (3 : Int32).toInt = 3 := rfl; have := rng32 (((ia.toUInt32 >>> ((9 : Int32) &&& 31).toUInt32).toInt32) &&& (3 : Int32)); have := c_mask ((ia.toUInt32 >>> ((9 : Int32) &&& 31).toUInt32).toInt32) (3 : Int32) 2 (by decide) (by decide); omega)
set_option maxRecDepth 65536 in
set_option maxHeartbeats 40000000 in
theorem comes_1 {Post : Tables → Env → Array Value → State → Outcome → State → Prop} (hpost : ∀ tb e args s v u, (limb_1_1.after args s (.returned v) u = true ∧ limb_1_2.after args s (.returned v) u = true ∧ True) → FrameEnd s (.returned v) u (Jvm.fieldLocs frame_1_writes args s ++ Jvm.arrayLocs frame_1_arrays args s ++ Jvm.staticLocs frame_1_statics s) 16 192 → Post tb e args s (.returned v) u) :
    ArmFor flags0 classFile x code maxLocals ret World_1 tables_1 room_1 Calls_1 rest_1 Pre_1 Post := by
  intro l hfl _ _ p e ha hc hk s m args below hf hA hF happ hP
  obtain ⟨hcalls, hrest, hpre⟩ := hP
  obtain ⟨-, -, -, hnamed, -, -, -, hat⟩ := (Spec.applies_iff hf).mp happ
  obtain ⟨hg, hn⟩ := and_e (Cond.before_iff.mp (show (Jvm.Cond.and given_1 narrow_1).before args s = true from hpre))
  obtain ⟨gg1, gg2⟩ := and_e hg
  obtain ⟨w0, rfl⟩ : ∃ w0 : Value, args = #[w0] := by
    have hs : args.size = 1 := by simpa [Cond.value, given_1] using gg1
    obtain ⟨L⟩ := args
    match L, hs with
    | [w0], _ => exact ⟨w0, rfl⟩
  have hw := fun d (hd : d ∈ tables_1) => atoms_spec (ws := Jvm.Cond.code x code maxLocals ret :: tables_1) hat d (List.mem_cons_of_mem _ hd)
  have hfit : Fit s := fun {y c} hc i hi => by
    obtain ⟨ha, rfl⟩ := Array.getElem?_eq_some_iff.mp hc
    have q := List.all_eq_true.mp ((Array.all_eq_true_iff_forall_mem.mp hF) _ (Array.getElem_mem ha)) i (List.mem_range.mpr hi)
    simpa [Array.getElem?_eq_getElem hi] using q
  obtain ⟨hsets, hown0⟩ := atoms_of _ (rest_1_c_eq ▸ (show rest_1_c.before _ s = true from hrest))
  have hr0 := Cond.before_iff.mp hown0
  obtain ⟨ia, ei0⟩ := is_v gg2
  obtain rfl : w0 = (.int ia) := Option.some.inj ei0
  obtain ⟨G1, eG1⟩ := is_v (Cond.before_iff.mp (hsets _ (List.mem_of_getElem? (i := 1) rfl)))
  have O2 := Sta.start eG1 (Or.inl (hsets _ (List.mem_of_getElem? (i := 0) rfl)))
  have P5 : ¬ (G1 = (0 : Int32)) := gotF (Cond.eq_ints eG1 (Term.int_eval (0))) (not_v (Cond.before_iff.mp (hsets _ (List.mem_of_getElem? (i := 2) rfl))))
  obtain ⟨G3, eG3, rG3⟩ := isR_v (Cond.before_iff.mp (hsets _ (List.mem_of_getElem? (i := 8) rfl)))
  have O4 := Sta.start eG3 (Or.inl (hsets _ (List.mem_of_getElem? (i := 7) rfl)))
  obtain ⟨n, o, h1, h2, h3, _, L, rfl, ⟨rfl, N, -⟩, hq⟩ := rm0 l s _ hw tables_1 ia G1 G3 s.heap s.heap.size (Nat.le_refl _) (Old.start s) O2 P5 O4 rG3 p e ha hc hk s m _ below hf ((Spec.applies_iff_loose hf).mp happ).1 ⟨rfl, State.Warmed39.refl s, rfl⟩ trivial
  refine ⟨n, _, h1, h2, h3, hpost _ _ _ _ _ _ ⟨Cond.after_iff.mpr rfl, Cond.after_iff.mpr (eq_i res_at (Term.int_eval (1)) rfl), trivial⟩ ⟨hq.1, hq.2.1, (hq.2.2.sift fun y hy => Or.inr (N y hy)).mono (by decide) (by decide)⟩⟩
theorem main_1_1 : Claimed_1_1 := comes_1 fun _ _ _ _ _ _ h hF => ⟨h.1, hF⟩
theorem main_1_2 : Claimed_1_2 := comes_1 fun _ _ _ _ _ _ h hF => ⟨h.2.1, hF⟩
end Jvm.Pilot.@@N@@
namespace Jvm.Pilot.@@N@@
open Jvm Jvm.ClassFile Sem Op Lib Jvm.Free Jvm.Stand Jvm.Pilot.@@N@@.Jvm.D
/-! MADE BY PROGRAM (witnessworld.py) out of the Statement's table words and the real class files: 20 classes; the members and pool entries that the words name. The judged class is class 1, her method 1. -/
namespace start1
open Jvm.ClassFile
def u (s : String) : CpInfo := .utf8 (stringToUtf16 s)
/-- a pool by its gaps: so many unusable entries, then the entry; so many at the end -/
def gap : Nat → List CpInfo → List CpInfo
  | 0, r => r
  | n + 1, r => .unusable :: gap n r
def poolList (es : List (Nat × CpInfo)) (last : Nat) : List CpInfo := es.foldr (fun e r => gap e.1 (e.2 :: r)) (gap last [])
def pool (es : List (Nat × CpInfo)) (last : Nat) : Array CpInfo := ⟨poolList es last⟩
def fileOf (pool : Array CpInfo) (this : Nat) (attrs : Array Attribute := #[]) (ms : Array MethodInfo := #[]) (fl : Nat := 33) (sup : Nat := 0) (ifs : Array Nat := #[]) (fds : Array FieldInfo := #[]) : ClassFile where
  minorVersion := 0
  majorVersion := 65
  constantPool := pool
  accessFlags := fl
  thisClass := this
  superClass := sup
  interfaces := ifs
  fields := fds
  methods := ms
  attributes := attrs
def plain (name : String) (sup : Option ClassId) : Class where
  name := name
  kind := .ordinary
  loader := none
  accessFlags := 33
  super := sup
  interfaces := #[]
  cf := none
  fields := #[]
  methods := #[]
  instanceTypes := #[]
  staticTypes := #[]
  resolved := #[]
  callSites := []
  init := .initialized
  statics := none
  mirror := none

def pool0 : Array CpInfo := pool [(5, u "<init>"), (0, u "()V"), (1, .class_ 10), (1, u "java/lang/Object")] 113

def k0c0 : Code := { maxStack := 0, maxLocals := 1, code := object_method_1_code, exceptionTable := #[], attributes := #[] }
def k0m0 : Method := { name := "<init>", desc := "()V", sig := { parameters := [], returnType := none }, accessFlags := 1, code := some k0c0 }
/-- java/lang/Object -/
def k0 : Class := { plain "java/lang/Object" none with
  accessFlags := 33
  interfaces := #[]
  cf := some (fileOf pool0 8 #[] #[{ accessFlags := 1, nameIndex := 5, descriptorIndex := 6, attributes := #[] }] 33 0 #[] #[])
  fields := #[]
  methods := #[k0m0]
  instanceTypes := #[]
  staticTypes := #[]
  resolved := Array.replicate 124 none
  statics := none }

def pool1 : Array CpInfo := pool [(2, .class_ 4), (1, u "java/lang/Object"), (0, u "<init>"), (0, u "()V"), (0, .class_ 8), (0, u "java/lang/String"), (0, .methodref 7 10), (0, .nameAndType 5 11), (0, u "([C)V"), (0, .class_ 13), (0, u "com/example/eiri/eiri/Iri"), (0, .methodref 12 15), (0, .nameAndType 5 16), (0, u "(Ljava/lang/String;IIIIIIII)V"), (0, .methodref 12 18), (0, .nameAndType 19 20), (0, u "hostStart"), (0, u "()I"), (0, .methodref 7 22), (0, .nameAndType 23 24), (0, u "charAt"), (0, u "(I)C"), (0, .class_ 26), (0, u "com/example/eiri/eiri/IriHostStartPinLaw"), (2, u "law"), (0, u "(I)Z")] 5

def k1m0 : Method := { name := "<init>", desc := "()V", sig := { parameters := [], returnType := none }, accessFlags := 1, code := none }
def k1c1 : Code := { maxStack := 11, maxLocals := 18, code := code, exceptionTable := #[], attributes := #[] }
def k1m1 : Method := { name := "law", desc := "(I)Z", sig := { parameters := [.int], returnType := some .boolean }, accessFlags := 9, code := some k1c1 }
/-- com/example/eiri/eiri/IriHostStartPinLaw -/
def k1 : Class := { plain "com/example/eiri/eiri/IriHostStartPinLaw" (some 0) with
  accessFlags := 49
  interfaces := #[]
  cf := some (fileOf pool1 25 #[] #[{ accessFlags := 1, nameIndex := 5, descriptorIndex := 6, attributes := #[] }, { accessFlags := 9, nameIndex := 29, descriptorIndex := 30, attributes := #[] }] 49 2 #[] #[])
  fields := #[]
  methods := #[k1m0, k1m1]
  instanceTypes := #[]
  staticTypes := #[]
  resolved := Array.replicate 36 none
  statics := none }

def pool2 : Array CpInfo := pool [(1, .class_ 2), (0, u "java/io/Serializable"), (0, .class_ 4), (0, u "java/lang/Object")] 2

/-- java/io/Serializable -/
def k2 : Class := { plain "java/io/Serializable" (some 0) with
  accessFlags := 1537
  interfaces := #[]
  cf := some (fileOf pool2 1 #[] #[] 1537 3 #[] #[])
  fields := #[]
  methods := #[]
  instanceTypes := #[]
  staticTypes := #[]
  resolved := Array.replicate 7 none
  statics := none }

def pool3 : Array CpInfo := pool [(1, .class_ 2), (0, u "java/lang/Comparable"), (0, .class_ 4), (0, u "java/lang/Object")] 7

/-- java/lang/Comparable -/
def k3 : Class := { plain "java/lang/Comparable" (some 0) with
  accessFlags := 1537
  interfaces := #[]
  cf := some (fileOf pool3 1 #[] #[] 1537 3 #[] #[])
  fields := #[]
  methods := #[]
  instanceTypes := #[]
  staticTypes := #[]
  resolved := Array.replicate 12 none
  statics := none }

def pool4 : Array CpInfo := pool [(2, .class_ 4), (1, u "java/lang/CharSequence"), (42, .class_ 48), (0, u "java/lang/CharSequence$1CodePointIterator"), (10, .class_ 60), (0, u "java/lang/CharSequence$1CharIterator"), (5, .class_ 67), (0, u "java/lang/Object")] 63

/-- java/lang/CharSequence -/
def k4 : Class := { plain "java/lang/CharSequence" (some 0) with
  accessFlags := 1537
  interfaces := #[]
  cf := some (fileOf pool4 2 #[.nestMembers #[47, 59]] #[] 1537 66 #[] #[])
  fields := #[]
  methods := #[]
  instanceTypes := #[]
  staticTypes := #[]
  resolved := Array.replicate 131 none
  statics := none }

def pool5 : Array CpInfo := pool [(1, .class_ 2), (0, u "java/lang/constant/Constable"), (0, .class_ 4), (0, u "java/lang/Object")] 6

/-- java/lang/constant/Constable -/
def k5 : Class := { plain "java/lang/constant/Constable" (some 0) with
  accessFlags := 1537
  interfaces := #[]
  cf := some (fileOf pool5 1 #[] #[] 1537 3 #[] #[])
  fields := #[]
  methods := #[]
  instanceTypes := #[]
  staticTypes := #[]
  resolved := Array.replicate 11 none
  statics := none }

def pool6 : Array CpInfo := pool [(1, .class_ 2), (0, u "java/lang/constant/ConstantDesc"), (0, .class_ 4), (0, u "java/lang/Object")] 32

/-- java/lang/constant/ConstantDesc -/
def k6 : Class := { plain "java/lang/constant/ConstantDesc" (some 0) with
  accessFlags := 1537
  interfaces := #[]
  cf := some (fileOf pool6 1 #[] #[] 1537 3 #[] #[])
  fields := #[]
  methods := #[]
  instanceTypes := #[]
  staticTypes := #[]
  resolved := Array.replicate 37 none
  statics := none }

def pool7 : Array CpInfo := pool [(1, .methodref 2 3), (0, .class_ 4), (0, .nameAndType 5 6), (0, u "java/lang/Object"), (0, u "<init>"), (0, u "()V"), (2, .fieldref 10 11), (0, .class_ 12), (0, .nameAndType 13 14), (0, u "java/lang/String"), (0, u "value"), (0, u "[B"), (0, .fieldref 10 16), (0, .nameAndType 17 18), (0, u "coder"), (0, u "B"), (2, u "hash"), (0, u "I"), (2, u "hashIsZero"), (0, u "Z"), (0, .methodref 10 28), (0, .nameAndType 5 29), (0, u "([CIILjava/lang/Void;)V"), (8, .fieldref 10 39), (0, .nameAndType 40 26), (0, u "COMPACT_STRINGS"), (1, .class_ 44), (1, u "java/lang/StringUTF16"), (0, u "compress"), (1, .methodref 42 48), (0, .nameAndType 49 50), (0, u "coderFromArrayLen"), (0, u "([BI)B"), (56, .class_ 109), (1, u "java/lang/StringLatin1"), (32, u "()Z"), (34, .methodref 42 178), (0, .nameAndType 45 179), (0, u "([CII)[B"), (183, u "([BI)C"), (27, u "(II)V"), (35, u "(I)C"), (64, .methodref 10 493), (0, .nameAndType 494 142), (0, u "isLatin1"), (0, .methodref 107 496), (0, .nameAndType 497 363), (0, u "charAt"), (3, u "checkIndex"), (73, .class_ 576), (0, u "java/lang/CharSequence"), (22, u "CASE_INSENSITIVE_ORDER"), (0, u "Ljava/util/Comparator;"), (409, u "([C)V"), (42, .fieldref 1054 1055), (0, .class_ 1056), (0, .nameAndType 1057 1058), (0, u "jdk/internal/util/Preconditions"), (0, u "SIOOBE_FORMATTER"), (0, u "Ljava/util/function/BiFunction;"), (0, .methodref 1054 1060), (0, .nameAndType 501 1061), (0, u "(IILjava/util/function/BiFunction;)I"), (39, u "serialPersistentFields"), (0, u "[Ljava/io/ObjectStreamField;"), (0, .class_ 1104), (0, u "java/lang/String$CaseInsensitiveComparator"), (1, .class_ 1107), (0, u "java/io/Serializable"), (0, .class_ 1109), (0, u "java/lang/Comparable"), (0, .class_ 1111), (0, u "java/lang/constant/Constable"), (0, .class_ 1113), (0, u "java/lang/constant/ConstantDesc"), (2, u "serialVersionUID"), (0, u "J"), (3, u "REPL"), (0, u "C"), (2, u "LATIN1"), (1, u "UTF16")] 323

def k7m0 : Method := { name := "<init>", desc := "()V", sig := { parameters := [], returnType := none }, accessFlags := 1, code := none }
def k7c1 : Code := { maxStack := 5, maxLocals := 2, code := jdk_42_method_3_code, exceptionTable := #[], attributes := #[] }
def k7m1 : Method := { name := "<init>", desc := "([C)V", sig := { parameters := [(.array .char)], returnType := none }, accessFlags := 1, code := some k7c1 }
def k7c2 : Code := { maxStack := 2, maxLocals := 2, code := jdk_42_method_56_code, exceptionTable := #[], attributes := #[] }
def k7m2 : Method := { name := "charAt", desc := "(I)C", sig := { parameters := [.int], returnType := some .char }, accessFlags := 1, code := some k7c2 }
def k7c3 : Code := { maxStack := 4, maxLocals := 6, code := jdk_42_method_149_code, exceptionTable := #[], attributes := #[] }
def k7m3 : Method := { name := "<init>", desc := "([CIILjava/lang/Void;)V", sig := { parameters := [(.array .char), .int, .int, (.object "java/lang/Void")], returnType := none }, accessFlags := 2, code := some k7c3 }
def k7c4 : Code := { maxStack := 1, maxLocals := 1, code := jdk_42_method_154_code, exceptionTable := #[], attributes := #[] }
def k7m4 : Method := { name := "isLatin1", desc := "()Z", sig := { parameters := [], returnType := some .boolean }, accessFlags := 0, code := some k7c4 }
def k7c5 : Code := { maxStack := 3, maxLocals := 2, code := jdk_42_method_155_code, exceptionTable := #[], attributes := #[] }
def k7m5 : Method := { name := "checkIndex", desc := "(II)V", sig := { parameters := [.int, .int], returnType := none }, accessFlags := 8, code := some k7c5 }
/-- java/lang/String -/
def k7 : Class := { plain "java/lang/String" (some 0) with
  accessFlags := 49
  interfaces := #[2, 3, 4, 5, 6]
  cf := some (fileOf pool7 10 #[.nestMembers #[1103]] #[{ accessFlags := 1, nameIndex := 5, descriptorIndex := 6, attributes := #[] }, { accessFlags := 1, nameIndex := 5, descriptorIndex := 1010, attributes := #[] }, { accessFlags := 1, nameIndex := 497, descriptorIndex := 427, attributes := #[] }, { accessFlags := 2, nameIndex := 5, descriptorIndex := 29, attributes := #[] }, { accessFlags := 0, nameIndex := 494, descriptorIndex := 142, attributes := #[] }, { accessFlags := 8, nameIndex := 501, descriptorIndex := 391, attributes := #[] }] 49 2 #[1106, 1108, 575, 1110, 1112] #[{ accessFlags := 18, nameIndex := 13, descriptorIndex := 14, attributes := #[] }, { accessFlags := 18, nameIndex := 17, descriptorIndex := 18, attributes := #[] }, { accessFlags := 2, nameIndex := 21, descriptorIndex := 22, attributes := #[] }, { accessFlags := 2, nameIndex := 25, descriptorIndex := 26, attributes := #[] }, { accessFlags := 26, nameIndex := 1116, descriptorIndex := 1117, attributes := #[] }, { accessFlags := 24, nameIndex := 40, descriptorIndex := 26, attributes := #[] }, { accessFlags := 26, nameIndex := 1101, descriptorIndex := 1102, attributes := #[] }, { accessFlags := 26, nameIndex := 1121, descriptorIndex := 1122, attributes := #[] }, { accessFlags := 25, nameIndex := 599, descriptorIndex := 600, attributes := #[] }, { accessFlags := 24, nameIndex := 1125, descriptorIndex := 18, attributes := #[] }, { accessFlags := 24, nameIndex := 1127, descriptorIndex := 18, attributes := #[] }])
  fields := #[{ name := "value", type := (.array .byte), accessFlags := 18, slot := 0, constantValue := 0 }, { name := "coder", type := .byte, accessFlags := 18, slot := 1, constantValue := 0 }, { name := "hash", type := .int, accessFlags := 2, slot := 2, constantValue := 0 }, { name := "hashIsZero", type := .boolean, accessFlags := 2, slot := 3, constantValue := 0 }, { name := "serialVersionUID", type := .long, accessFlags := 26, slot := 0, constantValue := 0 }, { name := "COMPACT_STRINGS", type := .boolean, accessFlags := 24, slot := 1, constantValue := 0 }, { name := "serialPersistentFields", type := (.array (.object "java/io/ObjectStreamField")), accessFlags := 26, slot := 2, constantValue := 0 }, { name := "REPL", type := .char, accessFlags := 26, slot := 3, constantValue := 0 }, { name := "CASE_INSENSITIVE_ORDER", type := (.object "java/util/Comparator"), accessFlags := 25, slot := 4, constantValue := 0 }, { name := "LATIN1", type := .byte, accessFlags := 24, slot := 5, constantValue := 0 }, { name := "UTF16", type := .byte, accessFlags := 24, slot := 6, constantValue := 0 }]
  methods := #[k7m0, k7m1, k7m2, k7m3, k7m4, k7m5]
  instanceTypes := #[(.array .byte), .byte, .int, .boolean]
  staticTypes := #[.long, .boolean, (.array (.object "java/io/ObjectStreamField")), .char, (.object "java/util/Comparator"), .byte, .byte]
  resolved := Array.replicate 1451 none
  statics := some 0 }

def pool8 : Array CpInfo := pool [(6, .class_ 8), (1, u "java/lang/Object"), (0, u "<init>"), (0, u "()V"), (1, .class_ 14), (1, u "java/lang/StringUTF16"), (31, u "$assertionsDisabled"), (0, u "Z"), (13, u "HI_BYTE_SHIFT"), (0, u "I"), (2, u "LO_BYTE_SHIFT"), (49, .methodref 12 116), (0, .nameAndType 117 118), (0, u "compress"), (0, u "([CI[BII)I"), (3, u "([CII)[B"), (138, u "coderFromArrayLen"), (0, u "([BI)B"), (106, .class_ 371), (1, u "java/lang/StringUTF16$LinesSpliterator"), (58, u "MAX_LENGTH"), (196, .class_ 628), (0, u "java/lang/StringUTF16$CodePointsSpliterator"), (0, .class_ 630), (0, u "java/lang/StringUTF16$CharsSpliterator")] 4

def k8m0 : Method := { name := "<init>", desc := "()V", sig := { parameters := [], returnType := none }, accessFlags := 0, code := none }
def k8c1 : Code := { maxStack := 2, maxLocals := 2, code := jdk_52_method_15_code, exceptionTable := #[], attributes := #[] }
def k8m1 : Method := { name := "coderFromArrayLen", desc := "([BI)B", sig := { parameters := [(.array .byte), .int], returnType := some .byte }, accessFlags := 8, code := some k8c1 }
def k8c2 : Code := { maxStack := 5, maxLocals := 6, code := jdk_52_method_16_code, exceptionTable := #[], attributes := #[] }
def k8m2 : Method := { name := "compress", desc := "([CII)[B", sig := { parameters := [(.array .char), .int, .int], returnType := some (.array .byte) }, accessFlags := 9, code := some k8c2 }
def k8c3 : Code := { maxStack := 3, maxLocals := 7, code := jdk_52_method_21_code, exceptionTable := #[], attributes := #[] }
def k8m3 : Method := { name := "compress", desc := "([CI[BII)I", sig := { parameters := [(.array .char), .int, (.array .byte), .int, .int], returnType := some .int }, accessFlags := 9, code := some k8c3 }
/-- java/lang/StringUTF16 -/
def k8 : Class := { plain "java/lang/StringUTF16" (some 0) with
  accessFlags := 48
  interfaces := #[]
  cf := some (fileOf pool8 12 #[.nestMembers #[627, 629, 369]] #[{ accessFlags := 0, nameIndex := 9, descriptorIndex := 10, attributes := #[] }, { accessFlags := 8, nameIndex := 261, descriptorIndex := 262, attributes := #[] }, { accessFlags := 9, nameIndex := 117, descriptorIndex := 122, attributes := #[] }, { accessFlags := 9, nameIndex := 117, descriptorIndex := 118, attributes := #[] }] 48 6 #[] #[{ accessFlags := 26, nameIndex := 61, descriptorIndex := 62, attributes := #[] }, { accessFlags := 26, nameIndex := 65, descriptorIndex := 62, attributes := #[] }, { accessFlags := 24, nameIndex := 430, descriptorIndex := 62, attributes := #[] }, { accessFlags := 4120, nameIndex := 46, descriptorIndex := 47, attributes := #[] }])
  fields := #[{ name := "HI_BYTE_SHIFT", type := .int, accessFlags := 26, slot := 0, constantValue := 0 }, { name := "LO_BYTE_SHIFT", type := .int, accessFlags := 26, slot := 1, constantValue := 0 }, { name := "MAX_LENGTH", type := .int, accessFlags := 24, slot := 2, constantValue := 0 }, { name := "$assertionsDisabled", type := .boolean, accessFlags := 4120, slot := 3, constantValue := 0 }]
  methods := #[k8m0, k8m1, k8m2, k8m3]
  instanceTypes := #[]
  staticTypes := #[.int, .int, .int, .boolean]
  resolved := Array.replicate 635 none
  statics := none }

def pool9 : Array CpInfo := pool [(1, .methodref 2 3), (0, .class_ 4), (0, .nameAndType 5 6), (0, u "java/lang/Object"), (0, u "<init>"), (0, u "()V"), (0, .fieldref 8 9), (0, .class_ 10), (0, .nameAndType 11 12), (0, u "com/example/eiri/eiri/Iri"), (0, u "text"), (0, u "Ljava/lang/String;"), (0, .fieldref 8 14), (0, .nameAndType 15 16), (0, u "schemeEnd"), (0, u "I"), (0, .fieldref 8 18), (0, .nameAndType 19 16), (0, u "authorityStart"), (0, .fieldref 8 21), (0, .nameAndType 22 16), (0, u "userInfoEnd"), (0, .fieldref 8 24), (0, .nameAndType 25 16), (0, u "portStart"), (0, .fieldref 8 27), (0, .nameAndType 28 16), (0, u "pathStart"), (0, .fieldref 8 30), (0, .nameAndType 31 16), (0, u "pathEnd"), (0, .fieldref 8 33), (0, .nameAndType 34 16), (0, u "queryStart"), (0, .fieldref 8 36), (0, .nameAndType 37 16), (0, u "fragmentStart"), (93, u "hostStart"), (0, u "()I"), (10, u "ABSENT"), (2, u "(Ljava/lang/String;IIIIIIII)V")] 22

def k9c0 : Code := { maxStack := 2, maxLocals := 10, code := prog_4_method_1_code, exceptionTable := #[], attributes := #[] }
def k9m0 : Method := { name := "<init>", desc := "(Ljava/lang/String;IIIIIIII)V", sig := { parameters := [(.object "java/lang/String"), .int, .int, .int, .int, .int, .int, .int, .int], returnType := none }, accessFlags := 0, code := some k9c0 }
def k9c1 : Code := { maxStack := 2, maxLocals := 1, code := prog_4_method_25_code, exceptionTable := #[], attributes := #[] }
def k9m1 : Method := { name := "hostStart", desc := "()I", sig := { parameters := [], returnType := some .int }, accessFlags := 0, code := some k9c1 }
/-- com/example/eiri/eiri/Iri -/
def k9 : Class := { plain "com/example/eiri/eiri/Iri" (some 0) with
  accessFlags := 33
  interfaces := #[]
  cf := some (fileOf pool9 8 #[] #[{ accessFlags := 0, nameIndex := 5, descriptorIndex := 146, attributes := #[] }, { accessFlags := 0, nameIndex := 131, descriptorIndex := 132, attributes := #[] }] 33 2 #[] #[{ accessFlags := 24, nameIndex := 143, descriptorIndex := 16, attributes := #[] }, { accessFlags := 18, nameIndex := 11, descriptorIndex := 12, attributes := #[] }, { accessFlags := 18, nameIndex := 15, descriptorIndex := 16, attributes := #[] }, { accessFlags := 18, nameIndex := 19, descriptorIndex := 16, attributes := #[] }, { accessFlags := 18, nameIndex := 22, descriptorIndex := 16, attributes := #[] }, { accessFlags := 18, nameIndex := 25, descriptorIndex := 16, attributes := #[] }, { accessFlags := 18, nameIndex := 28, descriptorIndex := 16, attributes := #[] }, { accessFlags := 18, nameIndex := 31, descriptorIndex := 16, attributes := #[] }, { accessFlags := 18, nameIndex := 34, descriptorIndex := 16, attributes := #[] }, { accessFlags := 18, nameIndex := 37, descriptorIndex := 16, attributes := #[] }])
  fields := #[{ name := "ABSENT", type := .int, accessFlags := 24, slot := 0, constantValue := 0 }, { name := "text", type := (.object "java/lang/String"), accessFlags := 18, slot := 0, constantValue := 0 }, { name := "schemeEnd", type := .int, accessFlags := 18, slot := 1, constantValue := 0 }, { name := "authorityStart", type := .int, accessFlags := 18, slot := 2, constantValue := 0 }, { name := "userInfoEnd", type := .int, accessFlags := 18, slot := 3, constantValue := 0 }, { name := "portStart", type := .int, accessFlags := 18, slot := 4, constantValue := 0 }, { name := "pathStart", type := .int, accessFlags := 18, slot := 5, constantValue := 0 }, { name := "pathEnd", type := .int, accessFlags := 18, slot := 6, constantValue := 0 }, { name := "queryStart", type := .int, accessFlags := 18, slot := 7, constantValue := 0 }, { name := "fragmentStart", type := .int, accessFlags := 18, slot := 8, constantValue := 0 }]
  methods := #[k9m0, k9m1]
  instanceTypes := #[(.object "java/lang/String"), .int, .int, .int, .int, .int, .int, .int, .int]
  staticTypes := #[.int]
  resolved := Array.replicate 169 none
  statics := none }

def pool10 : Array CpInfo := pool [(1, .class_ 2), (0, u "java/lang/String"), (1, .class_ 6), (1, u "java/lang/Object"), (0, u "<init>"), (0, u "()V"), (0, .methodref 1 10), (0, .nameAndType 11 12), (0, u "checkIndex"), (0, u "(II)V"), (1, .class_ 16), (1, u "java/lang/StringLatin1"), (36, u "([BI)C"), (67, u "$assertionsDisabled"), (0, u "Z"), (98, .class_ 223), (1, u "java/lang/StringLatin1$LinesSpliterator"), (28, u "charAt"), (137, .class_ 391), (0, u "java/lang/StringLatin1$CharsSpliterator")] 3

def k10m0 : Method := { name := "<init>", desc := "()V", sig := { parameters := [], returnType := none }, accessFlags := 0, code := none }
def k10c1 : Code := { maxStack := 2, maxLocals := 2, code := jdk_43_method_2_code, exceptionTable := #[], attributes := #[] }
def k10m1 : Method := { name := "charAt", desc := "([BI)C", sig := { parameters := [(.array .byte), .int], returnType := some .char }, accessFlags := 9, code := some k10c1 }
/-- java/lang/StringLatin1 -/
def k10 : Class := { plain "java/lang/StringLatin1" (some 0) with
  accessFlags := 48
  interfaces := #[]
  cf := some (fileOf pool10 14 #[.nestMembers #[390, 221]] #[{ accessFlags := 0, nameIndex := 7, descriptorIndex := 8, attributes := #[] }, { accessFlags := 9, nameIndex := 252, descriptorIndex := 53, attributes := #[] }] 48 4 #[] #[{ accessFlags := 4120, nameIndex := 121, descriptorIndex := 122, attributes := #[] }])
  fields := #[{ name := "$assertionsDisabled", type := .boolean, accessFlags := 4120, slot := 0, constantValue := 0 }]
  methods := #[k10m0, k10m1]
  instanceTypes := #[]
  staticTypes := #[.boolean]
  resolved := Array.replicate 395 none
  statics := none }

def pool11 : Array CpInfo := pool [(2, .class_ 4), (1, u "java/lang/Object"), (0, u "<init>"), (0, u "()V"), (17, .class_ 26), (1, u "jdk/internal/util/Preconditions"), (6, u "checkIndex"), (21, .class_ 56), (0, u "jdk/internal/util/Preconditions$4"), (57, .class_ 115), (0, u "jdk/internal/util/Preconditions$1"), (7, u "SIOOBE_FORMATTER"), (0, u "Ljava/util/function/BiFunction;"), (0, .class_ 126), (0, u "jdk/internal/util/Preconditions$2"), (3, u "AIOOBE_FORMATTER"), (0, .class_ 132), (0, u "jdk/internal/util/Preconditions$3"), (3, u "IOOBE_FORMATTER"), (41, u "(IILjava/util/function/BiFunction;)I")] 15

def k11m0 : Method := { name := "<init>", desc := "()V", sig := { parameters := [], returnType := none }, accessFlags := 1, code := none }
def k11c1 : Code := { maxStack := 3, maxLocals := 3, code := jdk_41_method_11_code, exceptionTable := #[], attributes := #[] }
def k11m1 : Method := { name := "checkIndex", desc := "(IILjava/util/function/BiFunction;)I", sig := { parameters := [.int, .int, (.object "java/util/function/BiFunction")], returnType := some .int }, accessFlags := 9, code := some k11c1 }
/-- jdk/internal/util/Preconditions -/
def k11 : Class := { plain "jdk/internal/util/Preconditions" (some 0) with
  accessFlags := 33
  interfaces := #[]
  cf := some (fileOf pool11 24 #[.nestMembers #[55, 131, 125, 114]] #[{ accessFlags := 1, nameIndex := 5, descriptorIndex := 6, attributes := #[] }, { accessFlags := 9, nameIndex := 33, descriptorIndex := 178, attributes := #[] }] 33 2 #[] #[{ accessFlags := 25, nameIndex := 123, descriptorIndex := 124, attributes := #[] }, { accessFlags := 25, nameIndex := 130, descriptorIndex := 124, attributes := #[] }, { accessFlags := 25, nameIndex := 136, descriptorIndex := 124, attributes := #[] }])
  fields := #[{ name := "SIOOBE_FORMATTER", type := (.object "java/util/function/BiFunction"), accessFlags := 25, slot := 0, constantValue := 0 }, { name := "AIOOBE_FORMATTER", type := (.object "java/util/function/BiFunction"), accessFlags := 25, slot := 1, constantValue := 0 }, { name := "IOOBE_FORMATTER", type := (.object "java/util/function/BiFunction"), accessFlags := 25, slot := 2, constantValue := 0 }]
  methods := #[k11m0, k11m1]
  instanceTypes := #[]
  staticTypes := #[(.object "java/util/function/BiFunction"), (.object "java/util/function/BiFunction"), (.object "java/util/function/BiFunction")]
  resolved := Array.replicate 194 none
  statics := some 1 }

def pool12 : Array CpInfo := pool [(9, u "<init>"), (6, .class_ 18), (1, u "java/lang/Object"), (0, u "()V"), (1, .class_ 23), (1, u "jdk/internal/util/ArraysSupport"), (0, u "LOG2_ARRAY_LONG_INDEX_SCALE"), (0, u "I"), (2, u "U"), (0, u "Ljdk/internal/misc/Unsafe;"), (8, u "BIG_ENDIAN"), (0, u "Z"), (8, u "LOG2_BYTE_BIT_SIZE"), (4, u "LOG2_ARRAY_INT_INDEX_SCALE"), (54, u "JLA"), (0, u "Ljdk/internal/access/JavaLangAccess;"), (11, u "LOG2_ARRAY_BOOLEAN_INDEX_SCALE"), (9, u "LOG2_ARRAY_BYTE_INDEX_SCALE"), (5, u "LOG2_ARRAY_CHAR_INDEX_SCALE"), (5, u "LOG2_ARRAY_SHORT_INDEX_SCALE"), (18, u "LOG2_ARRAY_FLOAT_INDEX_SCALE"), (24, u "LOG2_ARRAY_DOUBLE_INDEX_SCALE"), (89, u "T_BOOLEAN"), (2, u "T_CHAR"), (1, u "T_FLOAT"), (1, u "T_DOUBLE"), (1, u "T_BYTE"), (1, u "T_SHORT"), (1, u "T_INT"), (1, u "T_LONG"), (1, u "SOFT_MAX_ARRAY_LENGTH")] 83

def k12m0 : Method := { name := "<init>", desc := "()V", sig := { parameters := [], returnType := none }, accessFlags := 2, code := none }
/-- jdk/internal/util/ArraysSupport -/
def k12 : Class := { plain "jdk/internal/util/ArraysSupport" (some 0) with
  accessFlags := 33
  interfaces := #[]
  cf := some (fileOf pool12 21 #[] #[{ accessFlags := 2, nameIndex := 9, descriptorIndex := 19, attributes := #[] }] 33 16 #[] #[{ accessFlags := 24, nameIndex := 28, descriptorIndex := 29, attributes := #[] }, { accessFlags := 26, nameIndex := 38, descriptorIndex := 39, attributes := #[] }, { accessFlags := 25, nameIndex := 121, descriptorIndex := 25, attributes := #[] }, { accessFlags := 25, nameIndex := 131, descriptorIndex := 25, attributes := #[] }, { accessFlags := 25, nameIndex := 137, descriptorIndex := 25, attributes := #[] }, { accessFlags := 25, nameIndex := 143, descriptorIndex := 25, attributes := #[] }, { accessFlags := 25, nameIndex := 53, descriptorIndex := 25, attributes := #[] }, { accessFlags := 25, nameIndex := 24, descriptorIndex := 25, attributes := #[] }, { accessFlags := 25, nameIndex := 162, descriptorIndex := 25, attributes := #[] }, { accessFlags := 25, nameIndex := 187, descriptorIndex := 25, attributes := #[] }, { accessFlags := 26, nameIndex := 48, descriptorIndex := 25, attributes := #[] }, { accessFlags := 25, nameIndex := 277, descriptorIndex := 25, attributes := #[] }, { accessFlags := 25, nameIndex := 280, descriptorIndex := 25, attributes := #[] }, { accessFlags := 25, nameIndex := 282, descriptorIndex := 25, attributes := #[] }, { accessFlags := 25, nameIndex := 284, descriptorIndex := 25, attributes := #[] }, { accessFlags := 25, nameIndex := 286, descriptorIndex := 25, attributes := #[] }, { accessFlags := 25, nameIndex := 288, descriptorIndex := 25, attributes := #[] }, { accessFlags := 25, nameIndex := 290, descriptorIndex := 25, attributes := #[] }, { accessFlags := 25, nameIndex := 292, descriptorIndex := 25, attributes := #[] }, { accessFlags := 26, nameIndex := 108, descriptorIndex := 109, attributes := #[] }, { accessFlags := 25, nameIndex := 294, descriptorIndex := 25, attributes := #[] }])
  fields := #[{ name := "U", type := (.object "jdk/internal/misc/Unsafe"), accessFlags := 24, slot := 0, constantValue := 0 }, { name := "BIG_ENDIAN", type := .boolean, accessFlags := 26, slot := 1, constantValue := 0 }, { name := "LOG2_ARRAY_BOOLEAN_INDEX_SCALE", type := .int, accessFlags := 25, slot := 2, constantValue := 0 }, { name := "LOG2_ARRAY_BYTE_INDEX_SCALE", type := .int, accessFlags := 25, slot := 3, constantValue := 0 }, { name := "LOG2_ARRAY_CHAR_INDEX_SCALE", type := .int, accessFlags := 25, slot := 4, constantValue := 0 }, { name := "LOG2_ARRAY_SHORT_INDEX_SCALE", type := .int, accessFlags := 25, slot := 5, constantValue := 0 }, { name := "LOG2_ARRAY_INT_INDEX_SCALE", type := .int, accessFlags := 25, slot := 6, constantValue := 0 }, { name := "LOG2_ARRAY_LONG_INDEX_SCALE", type := .int, accessFlags := 25, slot := 7, constantValue := 0 }, { name := "LOG2_ARRAY_FLOAT_INDEX_SCALE", type := .int, accessFlags := 25, slot := 8, constantValue := 0 }, { name := "LOG2_ARRAY_DOUBLE_INDEX_SCALE", type := .int, accessFlags := 25, slot := 9, constantValue := 0 }, { name := "LOG2_BYTE_BIT_SIZE", type := .int, accessFlags := 26, slot := 10, constantValue := 0 }, { name := "T_BOOLEAN", type := .int, accessFlags := 25, slot := 11, constantValue := 0 }, { name := "T_CHAR", type := .int, accessFlags := 25, slot := 12, constantValue := 0 }, { name := "T_FLOAT", type := .int, accessFlags := 25, slot := 13, constantValue := 0 }, { name := "T_DOUBLE", type := .int, accessFlags := 25, slot := 14, constantValue := 0 }, { name := "T_BYTE", type := .int, accessFlags := 25, slot := 15, constantValue := 0 }, { name := "T_SHORT", type := .int, accessFlags := 25, slot := 16, constantValue := 0 }, { name := "T_INT", type := .int, accessFlags := 25, slot := 17, constantValue := 0 }, { name := "T_LONG", type := .int, accessFlags := 25, slot := 18, constantValue := 0 }, { name := "JLA", type := (.object "jdk/internal/access/JavaLangAccess"), accessFlags := 26, slot := 19, constantValue := 0 }, { name := "SOFT_MAX_ARRAY_LENGTH", type := .int, accessFlags := 25, slot := 20, constantValue := 0 }]
  methods := #[k12m0]
  instanceTypes := #[]
  staticTypes := #[(.object "jdk/internal/misc/Unsafe"), .boolean, .int, .int, .int, .int, .int, .int, .int, .int, .int, .int, .int, .int, .int, .int, .int, .int, .int, (.object "jdk/internal/access/JavaLangAccess"), .int]
  resolved := Array.replicate 378 none
  statics := none }

def pool13 : Array CpInfo := pool [(1, u "java/lang/Cloneable"), (0, .class_ 1), (0, u "java/lang/Object"), (0, .class_ 3)] 3

/-- java/lang/Cloneable -/
def k13 : Class := { plain "java/lang/Cloneable" (some 0) with
  accessFlags := 1537
  interfaces := #[]
  cf := some (fileOf pool13 2 #[] #[] 1537 4 #[] #[])
  fields := #[]
  methods := #[]
  instanceTypes := #[]
  staticTypes := #[]
  resolved := Array.replicate 8 none
  statics := none }

/-- the primitive byte -/
def k14 : Class := { plain "byte" none with kind := .primitive 'B', accessFlags := 0x411 }
/-- [B -/
def k15 : Class := { plain "[B" (some 0) with kind := .array 14 .byte, interfaces := #[13, 2], accessFlags := 1041 }

/-- the primitive char -/
def k16 : Class := { plain "char" none with kind := .primitive 'C', accessFlags := 0x411 }
/-- [C -/
def k17 : Class := { plain "[C" (some 0) with kind := .array 16 .char, interfaces := #[13, 2], accessFlags := 1041 }

/-- the primitive int -/
def k18 : Class := { plain "int" none with kind := .primitive 'I', accessFlags := 0x411 }
/-- [I -/
def k19 : Class := { plain "[I" (some 0) with kind := .array 18 .int, interfaces := #[13, 2], accessFlags := 1041 }

def heap : Heap := #[{ cls := 7, slots := #[.long 0, .int 1, .null, .int 0, .null, .int 0, .int 0], vm := .statics 7 },
  { cls := 11, slots := #[.null, .null, .null], vm := .statics 11 }]
def classes : Array Class := #[k0, k1, k2, k3, k4, k5, k6, k7, k8, k9, k10, k11, k12, k13, k14, k15, k16, k17, k18, k19]
def interned : List (Array UInt16 × Addr) := []
def slotsUsed : Nat := 10
def theMethod : MethodId := ⟨1, 1⟩
def args0 : Array Value := #[.int 5]
def aboutOver (below : List Frame) : State where
  vm := { classes := classes, interned := interned.toArray }
  heap := heap
  slotsUsed := slotsUsed
  threads := #[{ frames := .invoking theMethod args0 :: below }]
def below0 : List Frame := [.native { method := ⟨0, 0⟩, args := #[] }]
def about1 : State := aboutOver below0
def p0 : Program := .bare "" "" ""
def e0 : Env := launch0.env 0 0 0
theorem w_frames : about1.frames = Frame.invoking theMethod args0 :: below0 := rfl
set_option maxRecDepth 65536 in
theorem w_args : argsFit about1.vm theMethod args0 = true := by decide +kernel
set_option maxRecDepth 65536 in
theorem w_heap : heapFits about1 = true := by decide +kernel
set_option maxRecDepth 65536 in
theorem w_runnable : about1.curStatus? = some .runnable := by decide +kernel
set_option maxRecDepth 65536 in
theorem w_alone : about1.alone = true := by decide +kernel
set_option maxRecDepth 65536 in
theorem w_named : about1.methodNamed? x = some theMethod := by decide +kernel
set_option maxRecDepth 65536 in
theorem w_hears : about1.hears theMethod below0 = true := by decide +kernel
set_option maxRecDepth 65536 in
theorem w_ripe : about1.ripe theMethod args0 below0 = true := by decide +kernel
theorem w_running : about1.status = .running := rfl
set_option maxRecDepth 65536 in
theorem w_room : about1.hasRoom e0.platform room_1 = true :=
  launch0.hasRoom_least _ room_1 (by decide +kernel) (by decide +kernel) (by decide +kernel) (by decide +kernel) (by decide +kernel) (by decide +kernel)
theorem allAtoms_all (ts : List Jvm.Cond) (a : Array Jvm.Value) (st : Jvm.State) : (allAtoms ts).before a st = ts.all (fun c => c.before a st) := by
  induction ts with
  | nil => rfl
  | cons c t ih =>
    show (Jvm.Cond.and c (allAtoms t)).before a st = _
    rw [Jvm.Cond.before_and, ih, List.all_cons]
def words1 : List Jvm.Cond := Jvm.Cond.code x code maxLocals ret :: tables_1
/-- a 'code' word, met by the world's own term for the bytes: nothing is compared byte by byte -/
theorem code_word {y : MethodName} {bytes : ByteArray} {mx : Nat} {rt : Option FieldType} {a : Array Value} {s : State} {m : MethodId} {meth : Method} {c : Code} (h1 : s.methodNamed? y = some m) (h2 : s.vm.method? m = some meth) (h3 : meth.code = some c) (h4 : c.code = bytes)
    (h5 : (c.maxLocals == mx && c.exceptionTable.isEmpty && decide (c.maxStack ≤ mostOperands) && decide (meth.sig.returnType = rt) && !meth.locks && decide (parseMethodDescriptor y.desc = some meth.sig)) = true) : (Jvm.Cond.code y bytes mx rt).before a s = true := by
  simp only [Bool.and_eq_true, beq_iff_eq, Bool.not_eq_true', decide_eq_true_eq] at h5
  obtain ⟨⟨⟨⟨⟨g1, g2⟩, g3⟩, g4⟩, g5⟩, g6⟩ := h5
  simp [Cond.before, Cond.holds, Cond.value, h1, h2, h3, h4, g1, g2, g3, g4, g5, g6]
def isCode : Jvm.Cond → Bool
  | .code _ _ _ _ => true
  | _ => false
theorem all_split {L : List Jvm.Cond} {P : Jvm.Cond → Bool} (h1 : L.all (fun c => isCode c || P c) = true) (h2 : ∀ c ∈ L.filter isCode, P c = true) : L.all P = true := by
  refine List.all_eq_true.mpr fun c hc => ?_
  have h := List.all_eq_true.mp h1 c hc
  rcases Bool.eq_false_or_eq_true (isCode c) with hi | hi
  · exact h2 c (List.mem_filter.mpr ⟨hc, hi⟩)
  · simpa [hi] using h
set_option maxRecDepth 65536 in
theorem w_c0 : (Jvm.Cond.code x code maxLocals ret).before args0 about1 = true := code_word (m := ⟨1, 1⟩) (meth := k1m1) (c := k1c1) (by decide +kernel) rfl rfl rfl (by decide +kernel)
set_option maxRecDepth 65536 in
theorem w_c1 : (Jvm.Cond.code ({ cls := "java/lang/String", name := "<init>", desc := "([C)V" } : Jvm.MethodName) jdk_42_method_3_code (2 : Nat) (Option.none : Option Jvm.ClassFile.FieldType)).before args0 about1 = true := code_word (m := ⟨7, 1⟩) (meth := k7m1) (c := k7c1) (by decide +kernel) rfl rfl rfl (by decide +kernel)
set_option maxRecDepth 65536 in
theorem w_c2 : (Jvm.Cond.code ({ cls := "java/lang/String", name := "<init>", desc := "([CIILjava/lang/Void;)V" } : Jvm.MethodName) jdk_42_method_149_code (6 : Nat) (Option.none : Option Jvm.ClassFile.FieldType)).before args0 about1 = true := code_word (m := ⟨7, 3⟩) (meth := k7m3) (c := k7c3) (by decide +kernel) rfl rfl rfl (by decide +kernel)
set_option maxRecDepth 65536 in
theorem w_c3 : (Jvm.Cond.code ({ cls := "java/lang/Object", name := "<init>", desc := "()V" } : Jvm.MethodName) object_method_1_code (1 : Nat) (Option.none : Option Jvm.ClassFile.FieldType)).before args0 about1 = true := code_word (m := ⟨0, 0⟩) (meth := k0m0) (c := k0c0) (by decide +kernel) rfl rfl rfl (by decide +kernel)
set_option maxRecDepth 65536 in
theorem w_c4 : (Jvm.Cond.code ({ cls := "java/lang/StringUTF16", name := "compress", desc := "([CII)[B" } : Jvm.MethodName) jdk_52_method_16_code (6 : Nat) (Option.some (Jvm.ClassFile.FieldType.array Jvm.ClassFile.FieldType.byte))).before args0 about1 = true := code_word (m := ⟨8, 2⟩) (meth := k8m2) (c := k8c2) (by decide +kernel) rfl rfl rfl (by decide +kernel)
set_option maxRecDepth 65536 in
theorem w_c5 : (Jvm.Cond.code ({ cls := "java/lang/StringUTF16", name := "compress", desc := "([CI[BII)I" } : Jvm.MethodName) jdk_52_method_21_code (7 : Nat) (Option.some Jvm.ClassFile.FieldType.int)).before args0 about1 = true := code_word (m := ⟨8, 3⟩) (meth := k8m3) (c := k8c3) (by decide +kernel) rfl rfl rfl (by decide +kernel)
set_option maxRecDepth 65536 in
theorem w_c6 : (Jvm.Cond.code ({ cls := "java/lang/StringUTF16", name := "coderFromArrayLen", desc := "([BI)B" } : Jvm.MethodName) jdk_52_method_15_code (2 : Nat) (Option.some Jvm.ClassFile.FieldType.byte)).before args0 about1 = true := code_word (m := ⟨8, 1⟩) (meth := k8m1) (c := k8c1) (by decide +kernel) rfl rfl rfl (by decide +kernel)
set_option maxRecDepth 65536 in
theorem w_c7 : (Jvm.Cond.code ({ cls := "com/example/eiri/eiri/Iri", name := "<init>", desc := "(Ljava/lang/String;IIIIIIII)V" } : Jvm.MethodName) prog_4_method_1_code (10 : Nat) (Option.none : Option Jvm.ClassFile.FieldType)).before args0 about1 = true := code_word (m := ⟨9, 0⟩) (meth := k9m0) (c := k9c0) (by decide +kernel) rfl rfl rfl (by decide +kernel)
set_option maxRecDepth 65536 in
theorem w_c8 : (Jvm.Cond.code ({ cls := "com/example/eiri/eiri/Iri", name := "hostStart", desc := "()I" } : Jvm.MethodName) prog_4_method_25_code (1 : Nat) (Option.some Jvm.ClassFile.FieldType.int)).before args0 about1 = true := code_word (m := ⟨9, 1⟩) (meth := k9m1) (c := k9c1) (by decide +kernel) rfl rfl rfl (by decide +kernel)
set_option maxRecDepth 65536 in
theorem w_c9 : (Jvm.Cond.code ({ cls := "java/lang/String", name := "charAt", desc := "(I)C" } : Jvm.MethodName) jdk_42_method_56_code (2 : Nat) (Option.some Jvm.ClassFile.FieldType.char)).before args0 about1 = true := code_word (m := ⟨7, 2⟩) (meth := k7m2) (c := k7c2) (by decide +kernel) rfl rfl rfl (by decide +kernel)
set_option maxRecDepth 65536 in
theorem w_c10 : (Jvm.Cond.code ({ cls := "java/lang/String", name := "isLatin1", desc := "()Z" } : Jvm.MethodName) jdk_42_method_154_code (1 : Nat) (Option.some Jvm.ClassFile.FieldType.boolean)).before args0 about1 = true := code_word (m := ⟨7, 4⟩) (meth := k7m4) (c := k7c4) (by decide +kernel) rfl rfl rfl (by decide +kernel)
set_option maxRecDepth 65536 in
theorem w_c11 : (Jvm.Cond.code ({ cls := "java/lang/StringLatin1", name := "charAt", desc := "([BI)C" } : Jvm.MethodName) jdk_43_method_2_code (2 : Nat) (Option.some Jvm.ClassFile.FieldType.char)).before args0 about1 = true := code_word (m := ⟨10, 1⟩) (meth := k10m1) (c := k10c1) (by decide +kernel) rfl rfl rfl (by decide +kernel)
set_option maxRecDepth 65536 in
theorem w_c12 : (Jvm.Cond.code ({ cls := "java/lang/String", name := "checkIndex", desc := "(II)V" } : Jvm.MethodName) jdk_42_method_155_code (2 : Nat) (Option.none : Option Jvm.ClassFile.FieldType)).before args0 about1 = true := code_word (m := ⟨7, 5⟩) (meth := k7m5) (c := k7c5) (by decide +kernel) rfl rfl rfl (by decide +kernel)
set_option maxRecDepth 65536 in
theorem w_c13 : (Jvm.Cond.code ({ cls := "jdk/internal/util/Preconditions", name := "checkIndex", desc := "(IILjava/util/function/BiFunction;)I" } : Jvm.MethodName) jdk_41_method_11_code (3 : Nat) (Option.some Jvm.ClassFile.FieldType.int)).before args0 about1 = true := code_word (m := ⟨11, 1⟩) (meth := k11m1) (c := k11c1) (by decide +kernel) rfl rfl rfl (by decide +kernel)
def codes1 : List Jvm.Cond := [Jvm.Cond.code x code maxLocals ret, Jvm.Cond.code ({ cls := "java/lang/String", name := "<init>", desc := "([C)V" } : Jvm.MethodName) jdk_42_method_3_code (2 : Nat) (Option.none : Option Jvm.ClassFile.FieldType), Jvm.Cond.code ({ cls := "java/lang/String", name := "<init>", desc := "([CIILjava/lang/Void;)V" } : Jvm.MethodName) jdk_42_method_149_code (6 : Nat) (Option.none : Option Jvm.ClassFile.FieldType), Jvm.Cond.code ({ cls := "java/lang/Object", name := "<init>", desc := "()V" } : Jvm.MethodName) object_method_1_code (1 : Nat) (Option.none : Option Jvm.ClassFile.FieldType), Jvm.Cond.code ({ cls := "java/lang/StringUTF16", name := "compress", desc := "([CII)[B" } : Jvm.MethodName) jdk_52_method_16_code (6 : Nat) (Option.some (Jvm.ClassFile.FieldType.array Jvm.ClassFile.FieldType.byte)), Jvm.Cond.code ({ cls := "java/lang/StringUTF16", name := "compress", desc := "([CI[BII)I" } : Jvm.MethodName) jdk_52_method_21_code (7 : Nat) (Option.some Jvm.ClassFile.FieldType.int), Jvm.Cond.code ({ cls := "java/lang/StringUTF16", name := "coderFromArrayLen", desc := "([BI)B" } : Jvm.MethodName) jdk_52_method_15_code (2 : Nat) (Option.some Jvm.ClassFile.FieldType.byte), Jvm.Cond.code ({ cls := "com/example/eiri/eiri/Iri", name := "<init>", desc := "(Ljava/lang/String;IIIIIIII)V" } : Jvm.MethodName) prog_4_method_1_code (10 : Nat) (Option.none : Option Jvm.ClassFile.FieldType), Jvm.Cond.code ({ cls := "com/example/eiri/eiri/Iri", name := "hostStart", desc := "()I" } : Jvm.MethodName) prog_4_method_25_code (1 : Nat) (Option.some Jvm.ClassFile.FieldType.int), Jvm.Cond.code ({ cls := "java/lang/String", name := "charAt", desc := "(I)C" } : Jvm.MethodName) jdk_42_method_56_code (2 : Nat) (Option.some Jvm.ClassFile.FieldType.char), Jvm.Cond.code ({ cls := "java/lang/String", name := "isLatin1", desc := "()Z" } : Jvm.MethodName) jdk_42_method_154_code (1 : Nat) (Option.some Jvm.ClassFile.FieldType.boolean), Jvm.Cond.code ({ cls := "java/lang/StringLatin1", name := "charAt", desc := "([BI)C" } : Jvm.MethodName) jdk_43_method_2_code (2 : Nat) (Option.some Jvm.ClassFile.FieldType.char), Jvm.Cond.code ({ cls := "java/lang/String", name := "checkIndex", desc := "(II)V" } : Jvm.MethodName) jdk_42_method_155_code (2 : Nat) (Option.none : Option Jvm.ClassFile.FieldType), Jvm.Cond.code ({ cls := "jdk/internal/util/Preconditions", name := "checkIndex", desc := "(IILjava/util/function/BiFunction;)I" } : Jvm.MethodName) jdk_41_method_11_code (3 : Nat) (Option.some Jvm.ClassFile.FieldType.int)]
set_option maxRecDepth 65536 in
theorem codes_eq : words1.filter isCode = codes1 := rfl
theorem w_codes : ∀ c ∈ words1.filter isCode, c.before args0 about1 = true := by
  rw [codes_eq]
  intro c hc
  simp only [codes1, List.mem_cons, List.not_mem_nil, or_false] at hc
  rcases hc with rfl | rfl | rfl | rfl | rfl | rfl | rfl | rfl | rfl | rfl | rfl | rfl | rfl | rfl
  · exact w_c0
  · exact w_c1
  · exact w_c2
  · exact w_c3
  · exact w_c4
  · exact w_c5
  · exact w_c6
  · exact w_c7
  · exact w_c8
  · exact w_c9
  · exact w_c10
  · exact w_c11
  · exact w_c12
  · exact w_c13
set_option maxRecDepth 65536 in
theorem w_t1 : (words1.take 24).all (fun c => isCode c || c.before args0 about1) = true := by decide +kernel
set_option maxRecDepth 65536 in
theorem w_t2 : ((words1.drop 24).take 24).all (fun c => isCode c || c.before args0 about1) = true := by decide +kernel
set_option maxRecDepth 65536 in
theorem w_t3 : (((words1.drop 24).drop 24).take 24).all (fun c => isCode c || c.before args0 about1) = true := by decide +kernel
set_option maxRecDepth 65536 in
theorem w_t4 : (((words1.drop 24).drop 24).drop 24).all (fun c => isCode c || c.before args0 about1) = true := by decide +kernel
theorem w_tables : (allAtoms (Jvm.Cond.code x code maxLocals ret :: tables_1)).before args0 about1 = true := by
  rw [allAtoms_all]
  show words1.all (fun c => c.before args0 about1) = true
  refine all_split ?_ w_codes
  rw [← List.take_append_drop 24 words1, List.all_append, w_t1, ← List.take_append_drop 24 (words1.drop 24), List.all_append, w_t2, ← List.take_append_drop 24 ((words1.drop 24).drop 24), List.all_append, w_t3, w_t4]
  rfl
set_option maxRecDepth 65536 in
theorem w_rest : rest_1_c.before args0 about1 = true := by decide +kernel
set_option maxRecDepth 65536 in
theorem w_case : (Jvm.Cond.and given_1 narrow_1).before args0 about1 = true := by decide +kernel
theorem w_applies : (headSpec (Jvm.Cond.code x code maxLocals ret :: tables_1) room_1).applies x e0.platform about1 = true :=
  (Spec.applies_iff w_frames).mpr ⟨w_running, w_runnable, w_alone, w_named, w_hears, w_ripe, w_room, w_tables⟩
theorem atStart : AtStart classFile x code maxLocals ret World_1 tables_1 room_1 Calls_1 rest_1 Pre_1 launch0 p0 e0 about1 theMethod args0 below0 :=
  ⟨lists_1, trivial, launch0.admits_env _ _ _, launch0.least_env, fairChoices_fair.cas, fairChoices_fair.clock, w_frames, w_args, w_heap, w_applies, trivial, w_rest, w_case⟩
end start1
theorem witness_1 : WitnessClaimed_1 := ⟨start1.p0, start1.e0, start1.about1, start1.theMethod, start1.args0, start1.below0, start1.atStart⟩
end Jvm.Pilot.@@N@@
