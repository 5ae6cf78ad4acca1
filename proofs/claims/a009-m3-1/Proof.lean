import JvmDerived
import JvmDerived.Pilot.@@N@@Statement
import JvmDerived.Pilot.@@N@@Code
set_option linter.unusedVariables false
set_option linter.unusedSimpArgs false
namespace Jvm.RoadKit
open Sem ClassFile Op Lib Jvm.Stand Jvm.Free Jvm.LawKit
section OwnGo
variable {p : Program} {l : Launch} {e : Env} {R : Room} {s : State} {m : MethodId} {args : Array Value} {below : List Frame} {meth : Method} {c : Code} {T T' : State} {locs : List Loc} {cells slots kc ks : Nat} {Q : Option Value → Heap → List Loc → Prop} {f f' : JFrame} {h : Heap}
/-- from the state T with the top frame f the body comes to its end, and what it leaves meets Q -/
def Go (p : Program) (e : Env) (below : List Frame) (s : State) (kc ks : Nat) (Q : Option Value → Heap → List Loc → Prop) (T : State) (f : JFrame) : Prop :=
  ∃ (s₂ : State) (o : Outcome), Steps p.tables e below (T.setTop f) s₂ ∧ s₂.status = .running ∧ Ended s₂ below o ∧ ∃ v L, o = .returned v ∧ Q v s₂.heap L ∧ FrameEnd s o s₂ L kc ks
theorem Go.step (h : ∀ target, Steps p.tables e below (T'.setTop f') target → Steps p.tables e below (T.setTop f) target) (k : Go p e below s kc ks Q T' f') : Go p e below s kc ks Q T f := by
  obtain ⟨s₂, o, h1, r⟩ := k
  exact ⟨s₂, o, h _ h1, r⟩
theorem Go.trans (h : Steps p.tables e below (T.setTop f) (T'.setTop f')) (k : Go p e below s kc ks Q T' f') : Go p e below s kc ks Q T f := by
  obtain ⟨s₂, o, h1, r⟩ := k
  exact ⟨s₂, o, h.trans h1, r⟩
theorem Go.cast (q : f = f') (k : Go p e below s kc ks Q T f') : Go p e below s kc ks Q T f := q ▸ k
theorem Go.enter {g : JFrame} {s₁ : State} (k : Go p e below s kc ks Q s₁ f) (q : g = f) :
    ∃ s₂ o, Steps p.tables e below (s₁.setTop g) s₂ ∧ s₂.status = .running ∧ Ended s₂ below o ∧ ∃ v L, o = .returned v ∧ Q v s₂.heap L ∧ FrameEnd s o s₂ L kc ks := by
  subst q; exact k
theorem Go.ret (X : Stand p l e R s m args below meth c T locs cells slots) (hx : p.tables.exec = Jvm.exec) {pc : Nat} {Ls : Array Slot} {w : Value} {t : FieldType} {i : Instr} {rest : List Value} (hret : meth.sig.returnType = some t) (hlk : meth.locks = false) (hn : narrow t w = w)
    (hi : (i = .ireturn ∧ (t = .int ∨ t = .boolean ∨ t = .byte ∨ t = .char ∨ t = .short) ∧ ∃ z, w = .int z) ∨ (i = .lreturn ∧ t = .long ∧ ∃ z, w = .long z) ∨ (i = .dreturn ∧ t = .double ∧ ∃ z, w = .double z) ∨ (i = .freturn ∧ t = .float ∧ ∃ z, w = .float z) ∨ (i = .areturn ∧ t.isReference = true ∧ w.isRef = true))
    (hd : decode c.code pc = .ok (i, 1)) (eT : T.heap = h) (hc : cells ≤ kc) (hs : slots ≤ ks) (hQ : Q (some w) h locs) : Go p e below s kc ks Q T (mkF m pc Ls (w :: rest)) := by
  obtain ⟨fs, hr, hrun, hended, hW, hsame⟩ := X.leave (v := some w) (fun q => by rw [hret] at q; cases q) hlk
  exact ⟨_, _, retOut X hx hret hn hi hd hr, hrun, hended, _, _, rfl, (by subst eT; exact hQ), ⟨_, rfl⟩, hW, hsame.mono hc hs⟩
theorem Go.retI (X : Stand p l e R s m args below meth c T locs cells slots) (hx : p.tables.exec = Jvm.exec) {pc : Nat} {Ls : Array Slot} {z : Int32} {rest : List Value} (hret : meth.sig.returnType = some .int) (hlk : meth.locks = false)
    (hd : decode c.code pc = .ok (.ireturn, 1)) (eT : T.heap = h) (hc : cells ≤ kc) (hs : slots ≤ ks) (hQ : Q (some (.int z)) h locs) : Go p e below s kc ks Q T (mkF m pc Ls (.int z :: rest)) :=
  Go.ret X hx hret hlk rfl (Or.inl ⟨rfl, Or.inl rfl, _, rfl⟩) hd eT hc hs hQ
theorem Go.retJ (X : Stand p l e R s m args below meth c T locs cells slots) (hx : p.tables.exec = Jvm.exec) {pc : Nat} {Ls : Array Slot} {z : Int64} {rest : List Value} (hret : meth.sig.returnType = some .long) (hlk : meth.locks = false)
    (hd : decode c.code pc = .ok (.lreturn, 1)) (eT : T.heap = h) (hc : cells ≤ kc) (hs : slots ≤ ks) (hQ : Q (some (.long z)) h locs) : Go p e below s kc ks Q T (mkF m pc Ls (.long z :: rest)) :=
  Go.ret X hx hret hlk rfl (Or.inr (Or.inl ⟨rfl, rfl, _, rfl⟩)) hd eT hc hs hQ
theorem Go.retA (X : Stand p l e R s m args below meth c T locs cells slots) (hx : p.tables.exec = Jvm.exec) {pc : Nat} {Ls : Array Slot} {w : Value} {t : FieldType} {rest : List Value} (hret : meth.sig.returnType = some t) (hlk : meth.locks = false) (ht : t.isReference = true) (hv : w.isRef = true)
    (hd : decode c.code pc = .ok (.areturn, 1)) (eT : T.heap = h) (hc : cells ≤ kc) (hs : slots ≤ ks) (hQ : Q (some w) h locs) : Go p e below s kc ks Q T (mkF m pc Ls (w :: rest)) :=
  Go.ret X hx hret hlk (by cases t <;> first | (cases ht; done) | (cases w <;> first | (cases hv; done) | rfl)) (Or.inr (Or.inr (Or.inr (Or.inr ⟨rfl, ht, hv⟩)))) hd eT hc hs hQ
theorem Go.retN (X : Stand p l e R s m args below meth c T locs cells slots) (hx : p.tables.exec = Jvm.exec) {pc : Nat} {Ls : Array Slot} {z : Int32} {t : FieldType} {rest : List Value} (hret : meth.sig.returnType = some t) (hlk : meth.locks = false) (ht : t = .boolean ∨ t = .byte ∨ t = .char ∨ t = .short)
    (hd : decode c.code pc = .ok (.ireturn, 1)) (eT : T.heap = h) (hc : cells ≤ kc) (hs : slots ≤ ks) (hQ : Q (some (.int (nar t z))) h locs) : Go p e below s kc ks Q T (mkF m pc Ls (.int z :: rest)) := by
  obtain ⟨fs, hr, hrun, hended, hW, hsame⟩ := X.leave (v := some (.int (nar t z))) (fun q => by rw [hret] at q; cases q) hlk
  exact ⟨_, _, Jvm.RoadKit.retN X hx hret ht hd hr, hrun, hended, _, _, rfl, (by subst eT; exact hQ), ⟨_, rfl⟩, hW, hsame.mono hc hs⟩
theorem Go.ret0 (X : Stand p l e R s m args below meth c T locs cells slots) (hx : p.tables.exec = Jvm.exec) {pc : Nat} {Ls : Array Slot} (hret : meth.sig.returnType = none) (hlk : meth.locks = false)
    (hd : decode c.code pc = .ok (.return_, 1)) (eT : T.heap = h) (hc : cells ≤ kc) (hs : slots ≤ ks) (hQ : Q none h locs) : Go p e below s kc ks Q T (mkF m pc Ls []) := by
  obtain ⟨fs, hr, hrun, hended, hW, hsame⟩ := X.leave (v := none) (fun _ => rfl) hlk
  exact ⟨_, _, X.returnOut hx hret hd hr, hrun, hended, _, _, rfl, (by subst eT; exact hQ), ⟨_, rfl⟩, hW, hsame.mono hc hs⟩
theorem own_selp {args' : Array Value} {y : MethodName} {n : Nat} (wi : (Cond.instantiable y.cls n).before args' s = true) (hpriv : s.PrivateAt y) (hinst : (Cond.instanceMethod y).before args' s = true) (hy : y.cls ≠ "java/lang/invoke/MethodHandle" ∧ y.cls ≠ "java/lang/invoke/VarHandle") : (Cond.selects y.cls y y).before args' s = true := by
  obtain ⟨c, k, h1, h2, -, h4, -⟩ := Cond.instantiable_spec wi
  exact selects_self_of_private h1 h2 (by simp only [Bool.or_eq_false_iff] at h4; exact h4.1) hpriv hinst hy
theorem own_mvMN {Z : State} {a0 args' : Array Value} {own host : String} {y : MethodName} {index : Nat} (hZ : Z.Warmed39 s.vm) (w : (Cond.methodLinkNest own index y host).before a0 Z = true) : (Cond.methodLinkNest own index y host).before args' s = true := (Cond.methodLinkNest_wide hZ w :)
theorem own_nar01 {z : Int32} (h : z = 0 ∨ z = 1) : nar .boolean z = z := by rcases h with rfl | rfl <;> decide
end OwnGo
end Jvm.RoadKit
namespace Jvm.Pilot.@@N@@
open Jvm Jvm.ClassFile Sem Op Lib Jvm.Free Jvm.Stand Jvm.LawKit Jvm.RoadKit Bundle Jvm.Pilot.@@N@@.Jvm.D
section
open Jvm.FP Jvm.FP.Core Jvm.Free.Fl
theorem own_fit {s : Bool} {c : Nat} {q : Int} (h1 : 4503599627370496 ≤ c) (h2 : c < 9007199254740992) (h3 : -1074 ≤ q) (h4 : q ≤ 971) : Core.fits b64 (Datum.fin s c q) := by
  have e1 : (2 : Nat) ^ b64.p = 9007199254740992 := by decide +kernel
  have e2 : b64.qmin = -1074 := by decide +kernel
  have e3 : b64.qmax = 971 := by decide +kernel
  have e4 : b64.tails = 4503599627370496 := by decide +kernel
  refine ⟨?_, ?_, ?_, Or.inr ?_⟩
  · rw [e1]; exact h2
  · rw [e2]; exact h3
  · rw [e3]; exact h4
  · rw [e4]; exact h1
/-- the bits of a normal number -/
theorem own_bits {a : UInt64} {s : Bool} {c : Nat} {q : Int} (h : val64 a = .fin s c q) (h1 : 4503599627370496 ≤ c) (h2 : c < 9007199254740992) (h3 : -1074 ≤ q) (h4 : q ≤ 971) :
    a.toNat = (s.toNat * 2048 + ((q + 1074).toNat + 1)) * 4503599627370496 + (c - 4503599627370496) := by
  have e2 : b64.qmin = -1074 := by decide +kernel
  have e4 : b64.tails = 4503599627370496 := by decide +kernel
  have e5 : b64.exps = 2048 := by decide +kernel
  have q1 := of64_val64 (a := a) (by rw [h]; exact nofun)
  rw [h] at q1
  have q2 : encode b64 (.fin s c q) = (s.toNat * 2048 + ((q + 1074).toNat + 1)) * 4503599627370496 + (c - 4503599627370496) := by
    show (if c < b64.tails then assemble b64 s 0 c else assemble b64 s ((q - b64.qmin).toNat + 1) (c - b64.tails)) = _
    rw [e4, if_neg (by omega)]
    unfold assemble
    rw [e4, e5, e2, show q - (-1074) = q + 1074 by omega]
  have q3 := encode_lt good_b64 _ (own_fit (s := s) h1 h2 h3 h4)
  rw [size_b64, q2] at q3
  rw [← q1]
  unfold of64
  rw [q2]
  show (UInt64.ofNat _).toNat = _
  rw [UInt64.toNat_ofNat', Nat.mod_eq_of_lt q3]
theorem own_log {n : Nat} (h0 : 0 < n) (h : n < 9007199254740992) : n.log2 ≤ 52 ∧ 4503599627370496 ≤ n * 2 ^ (52 - n.log2) ∧ n * 2 ^ (52 - n.log2) < 9007199254740992 := by
  have l1 := Nat.log2_self_le (n := n) (by omega)
  have l2 := Nat.lt_log2_self (n := n)
  have l3 : n.log2 ≤ 52 := by
    apply Nat.le_of_lt_succ
    rw [Nat.log2_lt (by omega)]
    exact h
  refine ⟨l3, ?_, ?_⟩
  · calc 4503599627370496 = 2 ^ n.log2 * 2 ^ (52 - n.log2) := by rw [← Nat.pow_add, show n.log2 + (52 - n.log2) = 52 by omega]
      _ ≤ _ := Nat.mul_le_mul_right _ l1
  · calc n * 2 ^ (52 - n.log2) < 2 ^ (n.log2 + 1) * 2 ^ (52 - n.log2) := Nat.mul_lt_mul_of_pos_right l2 (Nat.two_pow_pos _)
      _ = 9007199254740992 := by rw [← Nat.pow_add, show n.log2 + 1 + (52 - n.log2) = 53 by omega]
theorem own_l2d (x : Int64) (h0 : x.toInt ≠ 0) (h : x.toInt.natAbs < 9007199254740992) :
    val64 (FP.l2d x) = .fin (decide (x.toInt < 0)) (x.toInt.natAbs * 2 ^ (52 - x.toInt.natAbs.log2)) ((x.toInt.natAbs.log2 : Int) - 52) := by
  obtain ⟨l1, l2, l3⟩ := own_log (n := x.toInt.natAbs) (by omega) h
  rw [show FP.l2d x = Core.l2d x from rfl, val64_l2d]
  show roundRatio b64 (decide (x.toInt < 0)) x.toInt.natAbs 1 0 = _
  refine roundRatio_exact good_b64 (by decide) (own_fit l2 l3 (by omega) (by omega)) ?_
  rw [show (0 - ((x.toInt.natAbs.log2 : Int) - 52)).toNat = 52 - x.toInt.natAbs.log2 by omega, show (((x.toInt.natAbs.log2 : Int) - 52) - 0).toNat = 0 by omega]
  simp
theorem own_two : val64 4611686018427387904 = .fin false 4503599627370496 (-51) := by decide +kernel
/-- half of it -/
theorem own_half (x : Int64) (h0 : x.toInt ≠ 0) (h : x.toInt.natAbs < 9007199254740992) :
    val64 (FP.ddiv (FP.l2d x) 4611686018427387904) = .fin (decide (x.toInt < 0)) (x.toInt.natAbs * 2 ^ (52 - x.toInt.natAbs.log2)) ((x.toInt.natAbs.log2 : Int) - 53) := by
  obtain ⟨l1, l2, l3⟩ := own_log (n := x.toInt.natAbs) (by omega) h
  rw [show FP.ddiv (FP.l2d x) 4611686018427387904 = Core.ddiv (FP.l2d x) 4611686018427387904 from rfl, val64_ddiv, own_l2d x h0 h, own_two]
  unfold quotient
  simp only
  rw [if_neg (by decide)]
  rw [show (decide (x.toInt < 0) != false) = decide (x.toInt < 0) by simp]
  refine roundRatio_exact good_b64 (by decide) (own_fit l2 l3 (by omega) (by omega)) ?_
  rw [show ((x.toInt.natAbs.log2 : Int) - 52 - -51 - ((x.toInt.natAbs.log2 : Int) - 53)).toNat = 52 by omega, show ((x.toInt.natAbs.log2 : Int) - 53 - ((x.toInt.natAbs.log2 : Int) - 52 - -51)).toNat = 0 by omega]
  simp
theorem own_ti (z : Int64) (h : z.toBitVec.toNat < 9223372036854775808) : z.toInt = (z.toBitVec.toNat : Int) := by
  show z.toBitVec.toInt = _
  rw [BitVec.toInt_eq_toNat_cond, if_pos (by omega)]
theorem own_and64 (v : Int64) (h0 : 0 ≤ v.toInt) (h : v.toInt < 64) : v &&& (-64 : Int64) = 0 := by
  have hf : ∀ i : Fin 64, (Int64.ofNat i.val &&& (-64 : Int64)) = 0 := by decide +kernel
  have e : v = Int64.ofNat v.toInt.toNat := by
    rw [← Int64.toInt_inj, Int64.toInt_ofNat_of_lt (by omega)]; omega
  rw [e]; exact hf ⟨v.toInt.toNat, by omega⟩
theorem own_andE {N S E T : Nat} (hE : E < 2048) (hT : T < 4503599627370496) (hN : N = (S * 2048 + E) * 4503599627370496 + T) : N &&& 9218868437227405312 = E * 4503599627370496 := by
  apply Nat.eq_of_testBit_eq
  intro i
  have e1 : N = 2 ^ 52 * (2 ^ 11 * S + E) + T := by rw [hN]; omega
  have e2 : (9218868437227405312 : Nat) = 2 ^ 52 * 2047 + 0 := by decide
  have e3 : E * 4503599627370496 = 2 ^ 52 * E + 0 := by omega
  have a1 := Nat.testBit_two_pow_mul_add (2 ^ 11 * S + E) (show T < 2 ^ 52 by omega) i
  have a2 := Nat.testBit_two_pow_mul_add 2047 (show 0 < 2 ^ 52 by decide) i
  have a3 := Nat.testBit_two_pow_mul_add E (show 0 < 2 ^ 52 by decide) i
  rw [Nat.testBit_and, e1, e2, e3, a1, a2, a3]
  by_cases h : i < 52
  · simp only [if_pos h, Nat.zero_testBit, Bool.and_false]
  · simp only [if_neg h]
    have a4 := Nat.testBit_two_pow_mul_add S (show E < 2 ^ 11 by omega) (i - 52)
    rw [a4, show (2047 : Nat) = 2 ^ 11 - 1 by decide, Nat.testBit_two_pow_sub_one]
    by_cases h2 : i - 52 < 11
    · simp only [h2, if_true, decide_true, Bool.and_true]
    · have : E.testBit (i - 52) = false := Nat.testBit_lt_two_pow (Nat.lt_of_lt_of_le hE (by rw [show (2048 : Nat) = 2 ^ 11 by decide]; exact Nat.pow_le_pow_right (by decide) (by omega)))
      simp only [h2, decide_false, Bool.and_false, this]
/-- what the walk of Math.round meets -/
theorem own_round {xx : Int64} {da : UInt64} (hda : da = FP.ddiv (FP.l2d xx) 4611686018427387904) (h0 : xx.toInt ≠ 0) (h : xx.toInt.natAbs < 9007199254740992) :
    (((1074 : Int64) - ((da.toInt64 &&& (9218868437227405312 : Int64)) >>> ((52 : Int32) &&& 0x3f).toInt64)) &&& (-64 : Int64)) = 0 ∧ (da.toInt64 < 0 ↔ xx < 0) ∧
    (¬ xx < 0 → (((da.toInt64 &&& (4503599627370495 : Int64)) ||| (4503599627370496 : Int64)) >>> ((((1074 : Int64) - ((da.toInt64 &&& (9218868437227405312 : Int64)) >>> ((52 : Int32) &&& 0x3f).toInt64)).toInt32) &&& 0x3f).toInt64) = xx) ∧
    (xx < 0 → ((-((da.toInt64 &&& (4503599627370495 : Int64)) ||| (4503599627370496 : Int64))) >>> ((((1074 : Int64) - ((da.toInt64 &&& (9218868437227405312 : Int64)) >>> ((52 : Int32) &&& 0x3f).toInt64)).toInt32) &&& 0x3f).toInt64) = xx) := by
  obtain ⟨l1, l2, l3⟩ := own_log (n := xx.toInt.natAbs) (by omega) h
  have hb := own_bits (hda ▸ own_half xx h0 h) l2 l3 (by omega) (by omega)
  generalize hk : xx.toInt.natAbs.log2 = k at *
  generalize hcc : xx.toInt.natAbs * 2 ^ (52 - k) = cc at *
  rw [show ((k : Int) - 53 + 1074).toNat + 1 = k + 1022 by omega] at hb
  have hN : da.toInt64.toBitVec.toNat = (((decide (xx.toInt < 0)).toNat * 2048 + (k + 1022)) * 4503599627370496 + (cc - 4503599627370496)) := hb
  -- the exponent
  have m1 : (da.toInt64 &&& (9218868437227405312 : Int64)).toBitVec.toNat = (k + 1022) * 4503599627370496 := by
    show (da.toInt64.toBitVec &&& (9218868437227405312 : Int64).toBitVec).toNat = _
    rw [BitVec.toNat_and, show (9218868437227405312 : Int64).toBitVec.toNat = 9218868437227405312 from rfl]
    exact own_andE (by omega) (by omega) hN
  have m2 := own_ti _ (show (da.toInt64 &&& (9218868437227405312 : Int64)).toBitVec.toNat < _ by rw [m1]; omega)
  rw [m1] at m2
  have m3 := c_lshr (da.toInt64 &&& (9218868437227405312 : Int64)) 52 52 (by decide)
  rw [m2] at m3
  have m4 : ((da.toInt64 &&& (9218868437227405312 : Int64)) >>> ((52 : Int32) &&& 0x3f).toInt64).toInt = (k : Int) + 1022 := by
    rw [m3]; show (((k + 1022) * 4503599627370496 : Nat) : Int) / ((4503599627370496 : Nat) : Int) = _; omega
  generalize hbe : ((da.toInt64 &&& (9218868437227405312 : Int64)) >>> ((52 : Int32) &&& 0x3f).toInt64) = be at *
  have m5 : ((1074 : Int64) - be).toInt = 52 - (k : Int) := by
    have := c_lsub 1074 be; have : (1074 : Int64).toInt = 1074 := rfl; have := rng64 be; have := rng64 (1074 - be); omega
  have s1 : (da.toInt64 < 0 ↔ xx < 0) := by
    have hlt := da.toInt64.toBitVec.isLt
    have e0 : da.toInt64.toInt = if 2 * da.toInt64.toBitVec.toNat < 2 ^ 64 then (da.toInt64.toBitVec.toNat : Int) else da.toInt64.toBitVec.toNat - (2 ^ 64 : Nat) := BitVec.toInt_eq_toNat_cond _
    rw [Int64.lt_iff_toInt_lt, Int64.lt_iff_toInt_lt, show (0 : Int64).toInt = 0 from rfl, e0]
    by_cases hs : xx.toInt < 0
    · rw [decide_eq_true hs] at hN
      have hN' : da.toInt64.toBitVec.toNat = ((1 * 2048 + (k + 1022)) * 4503599627370496 + (cc - 4503599627370496)) := hN
      rw [if_neg (by omega)]; constructor <;> intro _ <;> omega
    · rw [decide_eq_false hs] at hN
      have hN' : da.toInt64.toBitVec.toNat = ((0 * 2048 + (k + 1022)) * 4503599627370496 + (cc - 4503599627370496)) := hN
      rw [if_pos (by omega)]; constructor <;> intro _ <;> omega
  -- the significand
  have r1 : ((da.toInt64 &&& (4503599627370495 : Int64)) ||| (4503599627370496 : Int64)).toBitVec.toNat = cc := by
    show ((da.toInt64.toBitVec &&& (4503599627370495 : Int64).toBitVec) ||| (4503599627370496 : Int64).toBitVec).toNat = _
    rw [BitVec.toNat_or, BitVec.toNat_and, show (4503599627370495 : Int64).toBitVec.toNat = 2 ^ 52 - 1 from rfl, show (4503599627370496 : Int64).toBitVec.toNat = 2 ^ 52 * 1 from rfl, Nat.and_two_pow_sub_one_eq_mod, hN, Nat.or_comm,
      show (((decide (xx.toInt < 0)).toNat * 2048 + (k + 1022)) * 4503599627370496 + (cc - 4503599627370496)) % 2 ^ 52 = cc - 4503599627370496 by omega, ← Nat.two_pow_add_eq_or_of_lt (by omega)]
    omega
  have r2 := own_ti _ (show ((da.toInt64 &&& (4503599627370495 : Int64)) ||| (4503599627370496 : Int64)).toBitVec.toNat < _ by rw [r1]; omega)
  rw [r1] at r2
  generalize ((da.toInt64 &&& (4503599627370495 : Int64)) ||| (4503599627370496 : Int64)) = rr at *
  have s2 : (((1074 : Int64) - be).toInt32).toBitVec.toNat % 64 = 52 - k := by
    have := c_l2i ((1074 : Int64) - be)
    have a1 : (((1074 : Int64) - be).toInt32).toInt = 52 - (k : Int) := by have := rng32 ((1074 : Int64) - be).toInt32; omega
    have a2 : (((1074 : Int64) - be).toInt32).toInt = if 2 * (((1074 : Int64) - be).toInt32).toBitVec.toNat < 2 ^ 32 then ((((1074 : Int64) - be).toInt32).toBitVec.toNat : Int) else (((1074 : Int64) - be).toInt32).toBitVec.toNat - (2 ^ 32 : Nat) := BitVec.toInt_eq_toNat_cond _
    have a3 := (((1074 : Int64) - be).toInt32).toBitVec.isLt
    split at a2 <;> omega
  have pp : (0 : Int) < ((2 ^ (52 - k) : Nat) : Int) := by have := Nat.two_pow_pos (52 - k); omega
  have ecc : (cc : Int) = (xx.toInt.natAbs : Int) * ((2 ^ (52 - k) : Nat) : Int) := by rw [← hcc]; exact Int.natCast_mul _ _
  refine ⟨own_and64 _ (by omega) (by omega), s1, fun hx => ?_, fun hx => ?_⟩
  · rw [← Int64.toInt_inj, c_lshr _ _ _ s2, r2, ecc, Int.mul_ediv_cancel _ (by omega)]
    rw [Int64.lt_iff_toInt_lt, show (0 : Int64).toInt = 0 from rfl] at hx; omega
  · rw [← Int64.toInt_inj, c_lshr _ _ _ s2]
    have hneg : (-rr).toInt = -(cc : Int) := by have := c_lneg rr; have := rng64 rr; have := rng64 (-rr); omega
    rw [hneg, ecc, ← Int.neg_mul, Int.mul_ediv_cancel _ (by omega)]
    rw [Int64.lt_iff_toInt_lt, show (0 : Int64).toInt = 0 from rfl] at hx; omega
end
open Jvm.Free.Fl
def own_min (x y : Int64) : Int64 := if y < x then y else x
def own_max (x y : Int64) : Int64 := if x < y then y else x
theorem own_tt (z : Int32) : z.toInt64.toInt32 = z := by rw [← Int32.toInt_inj]; have := c_i2l z; have := c_l2i z.toInt64; have := rng32 z; have := rng32 z.toInt64.toInt32; omega
theorem own_bA {mn mx : Int32} {r : Int64} (h : mn.toInt ≤ mx.toInt) (h1 : r < mn.toInt64) : (own_max mn.toInt64 (own_min mx.toInt64 r)).toInt32 = mn := by
  have := c_i2l mn; have := c_i2l mx; rw [Int64.lt_iff_toInt_lt] at h1
  unfold own_max own_min; rw [if_pos (show r < mx.toInt64 by rw [Int64.lt_iff_toInt_lt]; omega), if_neg (by rw [Int64.lt_iff_toInt_lt]; omega)]; exact own_tt mn
theorem own_bB {mn mx : Int32} {r : Int64} (h : mn.toInt ≤ mx.toInt) (h1 : mx.toInt64 < r) : (own_max mn.toInt64 (own_min mx.toInt64 r)).toInt32 = mx := by
  have := c_i2l mn; have := c_i2l mx; rw [Int64.lt_iff_toInt_lt] at h1
  unfold own_max own_min; rw [if_neg (show ¬ r < mx.toInt64 by rw [Int64.lt_iff_toInt_lt]; omega)]
  by_cases q : mn.toInt64 < mx.toInt64
  · rw [if_pos q]; exact own_tt mx
  · rw [if_neg q]; have e : mn = mx := by (rw [Int64.lt_iff_toInt_lt] at q; rw [← Int32.toInt_inj]; omega)
    rw [e]; exact own_tt mx
theorem own_bC {mn mx : Int32} {r : Int64} (h : mn.toInt ≤ mx.toInt) (h1 : ¬ r < mn.toInt64) (h2 : ¬ mx.toInt64 < r) : (own_max mn.toInt64 (own_min mx.toInt64 r)).toInt32 = r.toInt32 := by
  have := c_i2l mn; have := c_i2l mx; rw [Int64.lt_iff_toInt_lt] at h1 h2
  have e1 : own_min mx.toInt64 r = r := by unfold own_min; split <;> rename_i q <;> rw [Int64.lt_iff_toInt_lt] at q <;> first | rfl | (rw [← Int64.toInt_inj]; omega)
  have e2 : own_max mn.toInt64 r = r := by unfold own_max; split <;> rename_i q <;> rw [Int64.lt_iff_toInt_lt] at q <;> first | rfl | (rw [← Int64.toInt_inj]; omega)
  rw [e1, e2]
theorem own_al1 (z : Int32) (h : 0 ≤ z.toInt) : ¬ (cmpValue (FP.dcmp (FP.i2d z) (0 : UInt64)) .l < 0) := by
  have e := c_i2l z; have g := rng32 z
  rw [i2d_w z, ← RoadKit.l2d_zero, dcmpV_w (a := z.toInt64) (b := 0) ⟨by omega, by omega⟩ ⟨by decide, by decide⟩]
  rw [lw_lt, Int64.lt_iff_toInt_lt]; have : (0 : Int64).toInt = 0 := rfl; omega
theorem own_al2 (z : Int32) : cmpValue (FP.dcmp (FP.i2d z) (9218868437227405312 : UInt64)) .g < 0 := by rw [dcmp_pinf (i2d_fin z)]; decide
theorem own_nn (x : Int64) : NoNaN64 (FP.ddiv (FP.l2d x) (4611686018427387904 : UInt64)) := ddiv_out (l2d_fin x).noNaN (by unfold Fin64; decide) (by unfold Nz64; decide)
theorem own_c3 {x : Int64} (h : -9007199254740992 ≤ x.toInt ∧ x.toInt < 9007199254740992) : x = 0 ∨ x = -9007199254740992 ∨ (x.toInt ≠ 0 ∧ x.toInt.natAbs < 9007199254740992) := by
  simp only [← Int64.toInt_inj]; have : (0 : Int64).toInt = 0 := rfl; have : (-9007199254740992 : Int64).toInt = -9007199254740992 := rfl; omega
theorem d6_0 : decode jdk_29_method_70_code 0 = .ok (.lload_n 0, 1) := by decide +kernel
theorem d6_1 : decode jdk_29_method_70_code 1 = .ok (.lload_n 2, 1) := by decide +kernel
theorem d6_2 : decode jdk_29_method_70_code 2 = .ok (.lcmp, 1) := by decide +kernel
theorem d6_3 : decode jdk_29_method_70_code 3 = .ok (.ifCond .gt 7, 3) := by decide +kernel
theorem d6_6 : decode jdk_29_method_70_code 6 = .ok (.lload_n 0, 1) := by decide +kernel
theorem d6_7 : decode jdk_29_method_70_code 7 = .ok (.goto 4, 3) := by decide +kernel
theorem d6_10 : decode jdk_29_method_70_code 10 = .ok (.lload_n 2, 1) := by decide +kernel
theorem d6_11 : decode jdk_29_method_70_code 11 = .ok (.lreturn, 1) := by decide +kernel
theorem ef_rmMi (m : MethodId) (jx : Int64) (jy : Int64) : entryFrame m #[(.long jx), (.long jy)] 4 = mkF m 0 #[.val (.long jx), .second, .val (.long jy), .second] [] := by first | (simp [entryFrame, mkF, argsToLocals, Value.category]; done) | rfl
def Q_rmMi (Z : State) (jx : Int64) (jy : Int64) (h0 : Heap) (n0 : Nat) (v : Option Value) (h : Heap) (L : List Loc) : Prop := (v = some (.long (own_min jx jy))) ∧ (Fr n0 L) ∧ (h = h0)
set_option maxRecDepth 65536 in
set_option maxHeartbeats 40000000 in
theorem rmMi (l : Launch) (Z : State) (a0 : Array Value) (hw : ∀ d ∈ tables_1, d.before a0 Z = true) (ws : List Jvm.Cond) (jx : Int64) (jy : Int64) (h0 : Heap) (n0 : Nat) (Z0 : n0 ≤ h0.size) :
    MetFree l (⟨"java/lang/Math", "min", "(JJ)J"⟩ : MethodName) (head1 (Jvm.Cond.code (⟨"java/lang/Math", "min", "(JJ)J"⟩ : MethodName) jdk_29_method_70_code 4 (some .long) :: ws) ({ frames := 0, cells := 0, slots := 0, locals := 0 } : Room)) (fun aA U => aA = #[(.long jx), (.long jy)] ∧ Z.Warmed39 U.vm ∧ U.heap = h0) (fun _ _ _ _ _ => True) (fun _ U o U' => ∃ v L, o = .returned v ∧ Q_rmMi Z jx jy h0 n0 v U'.heap L ∧ FrameEnd U o U' L ({ frames := 0, cells := 0, slots := 0, locals := 0 } : Room).cells ({ frames := 0, cells := 0, slots := 0, locals := 0 } : Room).slots) := by
  refine MetFree.of_bodySF (Jvm.Free.JP.mathPlain rfl (by decide +kernel)) hisR ?_
  intro p e s m args below meth c s₁ Bd hml0 hP hK
  obtain ⟨rfl, hZ, hh⟩ := hP
  have hx := Bd.exec
  have hby := Bd.bytes
  have hml : c.maxLocals = 4 := hml0
  have hown : s.vm.findClass "java/lang/Math" = some m.cls := findClass_of_methodNamed Bd.named
  have hnm := (name_of_methodNamed Bd.named Bd.method).1
  have hret := Bd.returns
  have hlk : meth.locks = false := BodyLoose.notSynchronized Bd
  have X0 : Stand p l e ({ frames := 0, cells := 0, slots := 0, locals := 0 } : Room) s m #[(.long jx), (.long jy)] below meth c s₁ [] 0 0 := Stand.of_body Bd
  have e0 : s₁.heap = h0 := by rw [← hh, Bd.state]; rfl
  have N0 := Fr.nil n0
  suffices hgo : Go p e below s ({ frames := 0, cells := 0, slots := 0, locals := 0 } : Room).cells ({ frames := 0, cells := 0, slots := 0, locals := 0 } : Room).slots (Q_rmMi Z jx jy h0 n0) s₁ (mkF m 0 #[.val (.long jx), .second, .val (.long jy), .second] []) from hgo.enter (ef_rmMi m jx jy)
  refine Go.step (fun _ k => XS.lloadN X0.here hx rfl (hb hby d6_0) rfl k) ?_
  show Go _ _ _ _ _ _ _ s₁ (mkF m 1 #[.val (.long jx), .second, .val (.long jy), .second] [(.long jx)])
  refine Go.step (fun _ k => XS.lloadN X0.here hx rfl (hb hby d6_1) rfl k) ?_
  show Go _ _ _ _ _ _ _ s₁ (mkF m 2 #[.val (.long jx), .second, .val (.long jy), .second] [(.long jy), (.long jx)])
  refine Go.step (fun _ k => XS.lcmp X0.here hx rfl (hb hby d6_2) rfl k) ?_
  show Go _ _ _ _ _ _ _ s₁ (mkF m 3 #[.val (.long jx), .second, .val (.long jy), .second] [(.int (lcmpW jx jy))])
  by_cases hc3_1 : jy < jx
  · refine Go.step (fun _ k => XS.ifYes X0.here hx rfl (pc0 := 3) (pc' := 10) rfl (hb hby d6_3) rfl ((if0 _ _).trans (tlt ((lw_gt _ _).mpr hc3_1)).2.2.1) (by decide) (by decide) k) ?_
    show Go _ _ _ _ _ _ _ s₁ (mkF m 10 #[.val (.long jx), .second, .val (.long jy), .second] [])
    refine Go.step (fun _ k => XS.lloadN X0.here hx rfl (hb hby d6_10) rfl k) ?_
    show Go _ _ _ _ _ _ _ s₁ (mkF m 11 #[.val (.long jx), .second, .val (.long jy), .second] [(.long jy)])
    exact Go.retJ X0 hx hret hlk (hb hby d6_11) e0 (by decide) (by decide) ⟨(congrArg (fun z => some (Value.long z)) (if_pos hc3_1).symm), N0, rfl⟩
  · refine Go.step (fun _ k => XS.ifNo X0.here hx rfl (hb hby d6_3) rfl ((if0 _ _).trans (flt (mt (lw_gt _ _).mp hc3_1)).2.2.1) k) ?_
    show Go _ _ _ _ _ _ _ s₁ (mkF m 6 #[.val (.long jx), .second, .val (.long jy), .second] [])
    refine Go.step (fun _ k => XS.lloadN X0.here hx rfl (hb hby d6_6) rfl k) ?_
    show Go _ _ _ _ _ _ _ s₁ (mkF m 7 #[.val (.long jx), .second, .val (.long jy), .second] [(.long jx)])
    refine Go.step (fun _ k => XS.goto X0.here hx rfl (pc0 := 7) (pc' := 11) rfl (hb hby d6_7) (by decide) (by decide) k) ?_
    show Go _ _ _ _ _ _ _ s₁ (mkF m 11 #[.val (.long jx), .second, .val (.long jy), .second] [(.long jx)])
    exact Go.retJ X0 hx hret hlk (hb hby d6_11) e0 (by decide) (by decide) ⟨(congrArg (fun z => some (Value.long z)) (if_neg hc3_1).symm), N0, rfl⟩
theorem d7_0 : decode jdk_29_method_66_code 0 = .ok (.lload_n 0, 1) := by decide +kernel
theorem d7_1 : decode jdk_29_method_66_code 1 = .ok (.lload_n 2, 1) := by decide +kernel
theorem d7_2 : decode jdk_29_method_66_code 2 = .ok (.lcmp, 1) := by decide +kernel
theorem d7_3 : decode jdk_29_method_66_code 3 = .ok (.ifCond .lt 7, 3) := by decide +kernel
theorem d7_6 : decode jdk_29_method_66_code 6 = .ok (.lload_n 0, 1) := by decide +kernel
theorem d7_7 : decode jdk_29_method_66_code 7 = .ok (.goto 4, 3) := by decide +kernel
theorem d7_10 : decode jdk_29_method_66_code 10 = .ok (.lload_n 2, 1) := by decide +kernel
theorem d7_11 : decode jdk_29_method_66_code 11 = .ok (.lreturn, 1) := by decide +kernel
theorem ef_rmMa (m : MethodId) (jx : Int64) (jy : Int64) : entryFrame m #[(.long jx), (.long jy)] 4 = mkF m 0 #[.val (.long jx), .second, .val (.long jy), .second] [] := by first | (simp [entryFrame, mkF, argsToLocals, Value.category]; done) | rfl
def Q_rmMa (Z : State) (jx : Int64) (jy : Int64) (h0 : Heap) (n0 : Nat) (v : Option Value) (h : Heap) (L : List Loc) : Prop := (v = some (.long (own_max jx jy))) ∧ (Fr n0 L) ∧ (h = h0)
set_option maxRecDepth 65536 in
set_option maxHeartbeats 40000000 in
theorem rmMa (l : Launch) (Z : State) (a0 : Array Value) (hw : ∀ d ∈ tables_1, d.before a0 Z = true) (ws : List Jvm.Cond) (jx : Int64) (jy : Int64) (h0 : Heap) (n0 : Nat) (Z0 : n0 ≤ h0.size) :
    MetFree l (⟨"java/lang/Math", "max", "(JJ)J"⟩ : MethodName) (head1 (Jvm.Cond.code (⟨"java/lang/Math", "max", "(JJ)J"⟩ : MethodName) jdk_29_method_66_code 4 (some .long) :: ws) ({ frames := 0, cells := 0, slots := 0, locals := 0 } : Room)) (fun aA U => aA = #[(.long jx), (.long jy)] ∧ Z.Warmed39 U.vm ∧ U.heap = h0) (fun _ _ _ _ _ => True) (fun _ U o U' => ∃ v L, o = .returned v ∧ Q_rmMa Z jx jy h0 n0 v U'.heap L ∧ FrameEnd U o U' L ({ frames := 0, cells := 0, slots := 0, locals := 0 } : Room).cells ({ frames := 0, cells := 0, slots := 0, locals := 0 } : Room).slots) := by
  refine MetFree.of_bodySF (Jvm.Free.JP.mathPlain rfl (by decide +kernel)) hisR ?_
  intro p e s m args below meth c s₁ Bd hml0 hP hK
  obtain ⟨rfl, hZ, hh⟩ := hP
  have hx := Bd.exec
  have hby := Bd.bytes
  have hml : c.maxLocals = 4 := hml0
  have hown : s.vm.findClass "java/lang/Math" = some m.cls := findClass_of_methodNamed Bd.named
  have hnm := (name_of_methodNamed Bd.named Bd.method).1
  have hret := Bd.returns
  have hlk : meth.locks = false := BodyLoose.notSynchronized Bd
  have X0 : Stand p l e ({ frames := 0, cells := 0, slots := 0, locals := 0 } : Room) s m #[(.long jx), (.long jy)] below meth c s₁ [] 0 0 := Stand.of_body Bd
  have e0 : s₁.heap = h0 := by rw [← hh, Bd.state]; rfl
  have N0 := Fr.nil n0
  suffices hgo : Go p e below s ({ frames := 0, cells := 0, slots := 0, locals := 0 } : Room).cells ({ frames := 0, cells := 0, slots := 0, locals := 0 } : Room).slots (Q_rmMa Z jx jy h0 n0) s₁ (mkF m 0 #[.val (.long jx), .second, .val (.long jy), .second] []) from hgo.enter (ef_rmMa m jx jy)
  refine Go.step (fun _ k => XS.lloadN X0.here hx rfl (hb hby d7_0) rfl k) ?_
  show Go _ _ _ _ _ _ _ s₁ (mkF m 1 #[.val (.long jx), .second, .val (.long jy), .second] [(.long jx)])
  refine Go.step (fun _ k => XS.lloadN X0.here hx rfl (hb hby d7_1) rfl k) ?_
  show Go _ _ _ _ _ _ _ s₁ (mkF m 2 #[.val (.long jx), .second, .val (.long jy), .second] [(.long jy), (.long jx)])
  refine Go.step (fun _ k => XS.lcmp X0.here hx rfl (hb hby d7_2) rfl k) ?_
  show Go _ _ _ _ _ _ _ s₁ (mkF m 3 #[.val (.long jx), .second, .val (.long jy), .second] [(.int (lcmpW jx jy))])
  by_cases hc3_2 : jx < jy
  · refine Go.step (fun _ k => XS.ifYes X0.here hx rfl (pc0 := 3) (pc' := 10) rfl (hb hby d7_3) rfl ((if0 _ _).trans (tlt ((lw_lt _ _).mpr hc3_2)).1) (by decide) (by decide) k) ?_
    show Go _ _ _ _ _ _ _ s₁ (mkF m 10 #[.val (.long jx), .second, .val (.long jy), .second] [])
    refine Go.step (fun _ k => XS.lloadN X0.here hx rfl (hb hby d7_10) rfl k) ?_
    show Go _ _ _ _ _ _ _ s₁ (mkF m 11 #[.val (.long jx), .second, .val (.long jy), .second] [(.long jy)])
    exact Go.retJ X0 hx hret hlk (hb hby d7_11) e0 (by decide) (by decide) ⟨(congrArg (fun z => some (Value.long z)) (if_pos hc3_2).symm), N0, rfl⟩
  · refine Go.step (fun _ k => XS.ifNo X0.here hx rfl (hb hby d7_3) rfl ((if0 _ _).trans (flt (mt (lw_lt _ _).mp hc3_2)).1) k) ?_
    show Go _ _ _ _ _ _ _ s₁ (mkF m 6 #[.val (.long jx), .second, .val (.long jy), .second] [])
    refine Go.step (fun _ k => XS.lloadN X0.here hx rfl (hb hby d7_6) rfl k) ?_
    show Go _ _ _ _ _ _ _ s₁ (mkF m 7 #[.val (.long jx), .second, .val (.long jy), .second] [(.long jx)])
    refine Go.step (fun _ k => XS.goto X0.here hx rfl (pc0 := 7) (pc' := 11) rfl (hb hby d7_7) (by decide) (by decide) k) ?_
    show Go _ _ _ _ _ _ _ s₁ (mkF m 11 #[.val (.long jx), .second, .val (.long jy), .second] [(.long jx)])
    exact Go.retJ X0 hx hret hlk (hb hby d7_11) e0 (by decide) (by decide) ⟨(congrArg (fun z => some (Value.long z)) (if_neg hc3_2).symm), N0, rfl⟩
theorem d2_0 : decode jdk_30_method_1_code 0 = .ok (.aload_n 0, 1) := by decide +kernel
theorem d2_1 : decode jdk_30_method_1_code 1 = .ok (.invokespecial 1, 3) := by decide +kernel
theorem d2_4 : decode jdk_30_method_1_code 4 = .ok (.return_, 1) := by decide +kernel
theorem pd___V : parseMethodDescriptor "()V" = some ⟨[], none⟩ := by decide +kernel
theorem pn_java_lang_Record : plainName "java/lang/Record" = true := by first | (simp [plainName, overriddenIn]; done) | decide +kernel
theorem ef_rmRe (m : MethodId) (ao : Addr) : entryFrame m #[(.ref ao)] 1 = mkF m 0 #[.val (.ref ao)] [] := by first | (simp [entryFrame, mkF, argsToLocals, Value.category]; done) | rfl
def Q_rmRe (Z : State) (ao : Addr) (h0 : Heap) (n0 : Nat) (v : Option Value) (h : Heap) (L : List Loc) : Prop := (v = none) ∧ (Fr n0 L) ∧ (h = h0)
set_option maxRecDepth 65536 in
set_option maxHeartbeats 40000000 in
theorem rmRe (l : Launch) (Z : State) (a0 : Array Value) (hw : ∀ d ∈ tables_1, d.before a0 Z = true) (ws : List Jvm.Cond) (ao : Addr) (h0 : Heap) (n0 : Nat) (Z0 : n0 ≤ h0.size) :
    MetFree l (⟨"java/lang/Record", "<init>", "()V"⟩ : MethodName) (head1 (Jvm.Cond.code (⟨"java/lang/Record", "<init>", "()V"⟩ : MethodName) jdk_30_method_1_code 1 none :: ws) ({ frames := 1, cells := 0, slots := 0, locals := 12 } : Room)) (fun aA U => aA = #[(.ref ao)] ∧ Z.Warmed39 U.vm ∧ U.heap = h0) (fun _ _ _ _ _ => True) (fun _ U o U' => ∃ v L, o = .returned v ∧ Q_rmRe Z ao h0 n0 v U'.heap L ∧ FrameEnd U o U' L ({ frames := 1, cells := 0, slots := 0, locals := 12 } : Room).cells ({ frames := 1, cells := 0, slots := 0, locals := 12 } : Room).slots) := by
  refine MetFree.of_bodySF (plainFor_of_name pn_java_lang_Record) hisR ?_
  intro p e s m args below meth c s₁ Bd hml0 hP hK
  obtain ⟨rfl, hZ, hh⟩ := hP
  have hx := Bd.exec
  have hby := Bd.bytes
  have hml : c.maxLocals = 1 := hml0
  have hown : s.vm.findClass "java/lang/Record" = some m.cls := findClass_of_methodNamed Bd.named
  have hnm := (name_of_methodNamed Bd.named Bd.method).1
  have hret := Bd.returns
  have hlk : meth.locks = false := BodyLoose.notSynchronized Bd
  have X0 : Stand p l e ({ frames := 1, cells := 0, slots := 0, locals := 12 } : Room) s m #[(.ref ao)] below meth c s₁ [] 0 0 := Stand.of_body Bd
  have e0 : s₁.heap = h0 := by rw [← hh, Bd.state]; rfl
  have N0 := Fr.nil n0
  suffices hgo : Go p e below s ({ frames := 1, cells := 0, slots := 0, locals := 12 } : Room).cells ({ frames := 1, cells := 0, slots := 0, locals := 12 } : Room).slots (Q_rmRe Z ao h0 n0) s₁ (mkF m 0 #[.val (.ref ao)] []) from hgo.enter (ef_rmRe m ao)
  refine Go.step (fun _ k => XS.aloadN X0.here hx rfl (hb hby d2_0) rfl rfl k) ?_
  show Go _ _ _ _ _ _ _ s₁ (mkF m 1 #[.val (.ref ao)] [(.ref ao)])
  obtain ⟨T3, X3, e3, st3⟩ := initO X0 hx hZ hown (hw _ (List.mem_of_getElem? (i := 13) rfl)) (hw _ (List.mem_of_getElem? (i := 14) rfl)) (hw _ (List.mem_of_getElem? (i := 15) rfl)) e0 (g := (mkF m 1 #[.val (.ref ao)] [(.ref ao)])) rfl (by rw [hml]; rfl) rfl (hb hby d2_1) (by decide) (W := 0) (by show 2 * 0 + _ ≤ _; exact Nat.le_of_eq rfl) (by decide)
  refine Go.step st3 ?_
  show Go _ _ _ _ _ _ _ T3 (mkF m 4 #[.val (.ref ao)] [])
  exact Go.ret0 X3 hx hret hlk (hb hby d2_4) e3 (by decide) (by decide) ⟨rfl, N0, rfl⟩
theorem d1_0 : decode prog_5_method_1_code 0 = .ok (.aload_n 0, 1) := by decide +kernel
theorem d1_1 : decode prog_5_method_1_code 1 = .ok (.invokespecial 1, 3) := by decide +kernel
theorem d1_4 : decode prog_5_method_1_code 4 = .ok (.dload_n 1, 1) := by decide +kernel
theorem d1_5 : decode prog_5_method_1_code 5 = .ok (.dconst 0, 1) := by decide +kernel
theorem d1_6 : decode prog_5_method_1_code 6 = .ok (.dcmp .l, 1) := by decide +kernel
theorem d1_7 : decode prog_5_method_1_code 7 = .ok (.ifCond .lt 11, 3) := by decide +kernel
theorem d1_10 : decode prog_5_method_1_code 10 = .ok (.dload_n 1, 1) := by decide +kernel
theorem d1_11 : decode prog_5_method_1_code 11 = .ok (.ldc2_w 9, 3) := by decide +kernel
theorem d1_14 : decode prog_5_method_1_code 14 = .ok (.dcmp .g, 1) := by decide +kernel
theorem d1_15 : decode prog_5_method_1_code 15 = .ok (.ifCond .lt 17, 3) := by decide +kernel
theorem d1_18 : decode prog_5_method_1_code 18 = .ok (.new 11, 3) := by decide +kernel
theorem d1_21 : decode prog_5_method_1_code 21 = .ok (.dup, 1) := by decide +kernel
theorem d1_22 : decode prog_5_method_1_code 22 = .ok (.dload_n 1, 1) := by decide +kernel
theorem d1_28 : decode prog_5_method_1_code 28 = .ok (.invokespecial 17, 3) := by decide +kernel
theorem d1_31 : decode prog_5_method_1_code 31 = .ok (.athrow, 1) := by decide +kernel
theorem d1_32 : decode prog_5_method_1_code 32 = .ok (.iload_n 3, 1) := by decide +kernel
theorem d1_33 : decode prog_5_method_1_code 33 = .ok (.iconst 1, 1) := by decide +kernel
theorem d1_34 : decode prog_5_method_1_code 34 = .ok (.if_icmp .ge 17, 3) := by decide +kernel
theorem d1_37 : decode prog_5_method_1_code 37 = .ok (.new 11, 3) := by decide +kernel
theorem d1_40 : decode prog_5_method_1_code 40 = .ok (.dup, 1) := by decide +kernel
theorem d1_41 : decode prog_5_method_1_code 41 = .ok (.iload_n 3, 1) := by decide +kernel
theorem d1_47 : decode prog_5_method_1_code 47 = .ok (.invokespecial 17, 3) := by decide +kernel
theorem d1_50 : decode prog_5_method_1_code 50 = .ok (.athrow, 1) := by decide +kernel
theorem d1_51 : decode prog_5_method_1_code 51 = .ok (.iload 4, 2) := by decide +kernel
theorem d1_53 : decode prog_5_method_1_code 53 = .ok (.iload_n 3, 1) := by decide +kernel
theorem d1_54 : decode prog_5_method_1_code 54 = .ok (.if_icmp .ge 19, 3) := by decide +kernel
theorem d1_57 : decode prog_5_method_1_code 57 = .ok (.new 11, 3) := by decide +kernel
theorem d1_60 : decode prog_5_method_1_code 60 = .ok (.dup, 1) := by decide +kernel
theorem d1_61 : decode prog_5_method_1_code 61 = .ok (.iload 4, 2) := by decide +kernel
theorem d1_63 : decode prog_5_method_1_code 63 = .ok (.iload_n 3, 1) := by decide +kernel
theorem d1_69 : decode prog_5_method_1_code 69 = .ok (.invokespecial 17, 3) := by decide +kernel
theorem d1_72 : decode prog_5_method_1_code 72 = .ok (.athrow, 1) := by decide +kernel
theorem d1_73 : decode prog_5_method_1_code 73 = .ok (.aload_n 0, 1) := by decide +kernel
theorem d1_74 : decode prog_5_method_1_code 74 = .ok (.dload_n 1, 1) := by decide +kernel
theorem d1_75 : decode prog_5_method_1_code 75 = .ok (.putfield 26, 3) := by decide +kernel
theorem d1_78 : decode prog_5_method_1_code 78 = .ok (.aload_n 0, 1) := by decide +kernel
theorem d1_79 : decode prog_5_method_1_code 79 = .ok (.iload_n 3, 1) := by decide +kernel
theorem d1_80 : decode prog_5_method_1_code 80 = .ok (.putfield 32, 3) := by decide +kernel
theorem d1_83 : decode prog_5_method_1_code 83 = .ok (.aload_n 0, 1) := by decide +kernel
theorem d1_84 : decode prog_5_method_1_code 84 = .ok (.iload 4, 2) := by decide +kernel
theorem d1_86 : decode prog_5_method_1_code 86 = .ok (.putfield 36, 3) := by decide +kernel
theorem d1_89 : decode prog_5_method_1_code 89 = .ok (.return_, 1) := by decide +kernel
theorem pn_com_example_moving_ceiling_movingceiling_LimitFormula : plainName "com/example/moving_ceiling/movingceiling/LimitFormula" = true := by first | (simp [plainName, overriddenIn]; done) | decide +kernel
theorem ef_rmIn (m : MethodId) (ao : Addr) (da : UInt64) (mn : Int32) (mx : Int32) : entryFrame m #[(.ref ao), (.double da), (.int mn), (.int mx)] 5 = mkF m 0 #[.val (.ref ao), .val (.double da), .second, .val (.int mn), .val (.int mx)] [] := by first | (simp [entryFrame, mkF, argsToLocals, Value.category]; done) | rfl
def Q_rmIn (Z : State) (ao : Addr) (da : UInt64) (mn : Int32) (mx : Int32) (h0 : Heap) (n0 : Nat) (v : Option Value) (h : Heap) (L : List Loc) : Prop := (v = none) ∧ (Fr n0 L) ∧ (Keep h0 h [ao]) ∧ (Fld Z h ao "com/example/moving_ceiling/movingceiling/LimitFormula" "minLimit" "I" (.int mn)) ∧ (Fld Z h ao "com/example/moving_ceiling/movingceiling/LimitFormula" "maxLimit" "I" (.int mx))
set_option maxRecDepth 65536 in
set_option maxHeartbeats 40000000 in
theorem rmIn (l : Launch) (Z : State) (a0 : Array Value) (hw : ∀ d ∈ tables_1, d.before a0 Z = true) (ws : List Jvm.Cond) (ao : Addr) (da : UInt64) (mn : Int32) (mx : Int32) (h0 : Heap) (n0 : Nat) (Z0 : n0 ≤ h0.size) (E0 : Exa Z h0 ao "com/example/moving_ceiling/movingceiling/LimitFormula") (g0 : n0 ≤ ao) (F1 : Fld Z h0 ao "com/example/moving_ceiling/movingceiling/LimitFormula" "alpha" "D" (.double (0 : UInt64))) (F2 : Fld Z h0 ao "com/example/moving_ceiling/movingceiling/LimitFormula" "minLimit" "I" (.int (0 : Int32))) (F3 : Fld Z h0 ao "com/example/moving_ceiling/movingceiling/LimitFormula" "maxLimit" "I" (.int (0 : Int32))) (c1 : ¬ (cmpValue (FP.dcmp da (0 : UInt64)) .l < 0)) (c2 : cmpValue (FP.dcmp da (9218868437227405312 : UInt64)) .g < 0) (c3 : ¬ (mn < (1 : Int32))) (c4 : ¬ (mx < mn)) :
    MetFree l (⟨"com/example/moving_ceiling/movingceiling/LimitFormula", "<init>", "(DII)V"⟩ : MethodName) (head1 (Jvm.Cond.code (⟨"com/example/moving_ceiling/movingceiling/LimitFormula", "<init>", "(DII)V"⟩ : MethodName) prog_5_method_1_code 5 none :: ws) ({ frames := 2, cells := 0, slots := 0, locals := 24 } : Room)) (fun aA U => aA = #[(.ref ao), (.double da), (.int mn), (.int mx)] ∧ Z.Warmed39 U.vm ∧ U.heap = h0) (fun _ _ _ _ _ => True) (fun _ U o U' => ∃ v L, o = .returned v ∧ Q_rmIn Z ao da mn mx h0 n0 v U'.heap L ∧ FrameEnd U o U' L ({ frames := 2, cells := 0, slots := 0, locals := 24 } : Room).cells ({ frames := 2, cells := 0, slots := 0, locals := 24 } : Room).slots) := by
  refine MetFree.of_bodySF (plainFor_of_name pn_com_example_moving_ceiling_movingceiling_LimitFormula) hisR ?_
  intro p e s m args below meth c s₁ Bd hml0 hP hK
  obtain ⟨rfl, hZ, hh⟩ := hP
  have hx := Bd.exec
  have hby := Bd.bytes
  have hml : c.maxLocals = 5 := hml0
  have hown : s.vm.findClass "com/example/moving_ceiling/movingceiling/LimitFormula" = some m.cls := findClass_of_methodNamed Bd.named
  have hnm := (name_of_methodNamed Bd.named Bd.method).1
  have hret := Bd.returns
  have hlk : meth.locks = false := BodyLoose.notSynchronized Bd
  have X0 : Stand p l e ({ frames := 2, cells := 0, slots := 0, locals := 24 } : Room) s m #[(.ref ao), (.double da), (.int mn), (.int mx)] below meth c s₁ [] 0 0 := Stand.of_body Bd
  have e0 : s₁.heap = h0 := by rw [← hh, Bd.state]; rfl
  have N0 := Fr.nil n0
  suffices hgo : Go p e below s ({ frames := 2, cells := 0, slots := 0, locals := 24 } : Room).cells ({ frames := 2, cells := 0, slots := 0, locals := 24 } : Room).slots (Q_rmIn Z ao da mn mx h0 n0) s₁ (mkF m 0 #[.val (.ref ao), .val (.double da), .second, .val (.int mn), .val (.int mx)] []) from hgo.enter (ef_rmIn m ao da mn mx)
  refine Go.step (fun _ k => XS.aloadN X0.here hx rfl (hb hby d1_0) rfl rfl k) ?_
  show Go _ _ _ _ _ _ _ s₁ (mkF m 1 #[.val (.ref ao), .val (.double da), .second, .val (.int mn), .val (.int mx)] [(.ref ao)])
  obtain ⟨_, _, ⟨T4, L4, k4, n4⟩, -, X4, ⟨Lc4, hQ4, l4, y4, z4⟩, st4⟩ := X0.specialBack hx (y := (⟨"java/lang/Record", "<init>", "()V"⟩ : MethodName)) rfl hown (mvT hZ (hw _ (List.mem_of_getElem? (i := 8) rfl))) (mvT hZ (hw _ (List.mem_of_getElem? (i := 9) rfl))) (mvT hZ (hw _ (List.mem_of_getElem? (i := 12) rfl))) (by decide) (backOf (W := 0) (rmRe l Z a0 hw [] ao h0 n0 Z0 ) hZ (hw _ (List.mem_of_getElem? (i := 12) rfl)) (hw _ (List.mem_of_getElem? (i := 11) rfl)) (by decide) (by decide)) (g := (mkF m 1 #[.val (.ref ao), .val (.double da), .second, .val (.int mn), .val (.int mx)] [(.ref ao)])) rfl (by rw [hml]; rfl) (Steps.refl _) (a := ao) (argsL := []) (rest := []) (lenOf pd___V rfl) rfl (by show 2 * 0 + _ ≤ _; exact Nat.le_of_eq rfl) (hb hby d1_1) (fun _ _ => ⟨rfl, e0, (by decide : 0 + 0 ≤ _), (by decide : 0 + 0 ≤ _)⟩)
  dsimp only [Pt.U, Pt.locs, Pt.cells, Pt.slots] at X4 l4 y4 z4 st4 hQ4
  subst l4 y4 z4
  obtain ⟨h4, e4⟩ : ∃ h, T4.heap = h := ⟨_, rfl⟩
  rw [e4] at hQ4
  obtain ⟨rfl, Nq4, hs4⟩ := hQ4
  have N4 := Fr.app N0 Nq4
  rw [hs4] at e4
  refine Go.trans st4 ?_
  show Go _ _ _ _ _ _ _ T4 (mkF m 4 #[.val (.ref ao), .val (.double da), .second, .val (.int mn), .val (.int mx)] [])
  refine Go.step (fun _ k => XS.dloadN X4.here hx rfl (hb hby d1_4) rfl k) ?_
  show Go _ _ _ _ _ _ _ T4 (mkF m 5 #[.val (.ref ao), .val (.double da), .second, .val (.int mn), .val (.int mx)] [(.double da)])
  refine Go.step (fun _ k => XS.dconst0 X4.here hx rfl (v := (0 : UInt64)) (hb hby d1_5) (by decide +kernel) k) ?_
  show Go _ _ _ _ _ _ _ T4 (mkF m 6 #[.val (.ref ao), .val (.double da), .second, .val (.int mn), .val (.int mx)] [(.double (0 : UInt64)), (.double da)])
  refine Go.step (fun _ k => XS.dcmpS X4.here hx rfl (hb hby d1_6) rfl rfl k) ?_
  show Go _ _ _ _ _ _ _ T4 (mkF m 7 #[.val (.ref ao), .val (.double da), .second, .val (.int mn), .val (.int mx)] [(.int (cmpValue (FP.dcmp da (0 : UInt64)) .l))])
  have hc7_5 : ¬ ((cmpValue (FP.dcmp da (0 : UInt64)) .l) < (0 : Int32)) := c1
  refine Go.step (fun _ k => XS.ifNo X4.here hx rfl (hb hby d1_7) rfl ((if0 _ _).trans (flt hc7_5).1) k) ?_
  show Go _ _ _ _ _ _ _ T4 (mkF m 10 #[.val (.ref ao), .val (.double da), .second, .val (.int mn), .val (.int mx)] [])
  refine Go.step (fun _ k => XS.dloadN X4.here hx rfl (hb hby d1_10) rfl k) ?_
  show Go _ _ _ _ _ _ _ T4 (mkF m 11 #[.val (.ref ao), .val (.double da), .second, .val (.int mn), .val (.int mx)] [(.double da)])
  refine Go.step (X4.ldc2DoubleC hx hown (mvT hZ (hw _ (List.mem_of_getElem? (i := 16) rfl))) (g := (mkF m 11 #[.val (.ref ao), .val (.double da), .second, .val (.int mn), .val (.int mx)] [(.double da)])) rfl (hb hby d1_11)) ?_
  show Go _ _ _ _ _ _ _ T4 (mkF m 14 #[.val (.ref ao), .val (.double da), .second, .val (.int mn), .val (.int mx)] [(.double (9218868437227405312 : UInt64)), (.double da)])
  refine Go.step (fun _ k => XS.dcmpS X4.here hx rfl (hb hby d1_14) rfl rfl k) ?_
  show Go _ _ _ _ _ _ _ T4 (mkF m 15 #[.val (.ref ao), .val (.double da), .second, .val (.int mn), .val (.int mx)] [(.int (cmpValue (FP.dcmp da (9218868437227405312 : UInt64)) .g))])
  have hc15_6 : (cmpValue (FP.dcmp da (9218868437227405312 : UInt64)) .g) < (0 : Int32) := c2
  refine Go.step (fun _ k => XS.ifYes X4.here hx rfl (pc0 := 15) (pc' := 32) rfl (hb hby d1_15) rfl ((if0 _ _).trans (tlt hc15_6).1) (by decide) (by decide) k) ?_
  show Go _ _ _ _ _ _ _ T4 (mkF m 32 #[.val (.ref ao), .val (.double da), .second, .val (.int mn), .val (.int mx)] [])
  refine Go.step (fun _ k => XS.iloadN X4.here hx rfl (hb hby d1_32) rfl k) ?_
  show Go _ _ _ _ _ _ _ T4 (mkF m 33 #[.val (.ref ao), .val (.double da), .second, .val (.int mn), .val (.int mx)] [(.int mn)])
  refine Go.step (fun _ k => XS.iconst X4.here hx rfl (hb hby d1_33) k) ?_
  show Go _ _ _ _ _ _ _ T4 (mkF m 34 #[.val (.ref ao), .val (.double da), .second, .val (.int mn), .val (.int mx)] [(.int (1 : Int32)), (.int mn)])
  have hc34_7 : ¬ (mn < (1 : Int32)) := c3
  refine Go.step (fun _ k => XS.icmpYes X4.here hx rfl (pc0 := 34) (pc' := 51) rfl (hb hby d1_34) rfl (flt hc34_7).2.1 (by decide) (by decide) k) ?_
  show Go _ _ _ _ _ _ _ T4 (mkF m 51 #[.val (.ref ao), .val (.double da), .second, .val (.int mn), .val (.int mx)] [])
  refine Go.step (fun _ k => XS.iload X4.here hx rfl (hb hby d1_51) rfl k) ?_
  show Go _ _ _ _ _ _ _ T4 (mkF m 53 #[.val (.ref ao), .val (.double da), .second, .val (.int mn), .val (.int mx)] [(.int mx)])
  refine Go.step (fun _ k => XS.iloadN X4.here hx rfl (hb hby d1_53) rfl k) ?_
  show Go _ _ _ _ _ _ _ T4 (mkF m 54 #[.val (.ref ao), .val (.double da), .second, .val (.int mn), .val (.int mx)] [(.int mn), (.int mx)])
  have hc54_8 : ¬ (mx < mn) := c4
  refine Go.step (fun _ k => XS.icmpYes X4.here hx rfl (pc0 := 54) (pc' := 73) rfl (hb hby d1_54) rfl (flt hc54_8).2.1 (by decide) (by decide) k) ?_
  show Go _ _ _ _ _ _ _ T4 (mkF m 73 #[.val (.ref ao), .val (.double da), .second, .val (.int mn), .val (.int mx)] [])
  refine Go.step (fun _ k => XS.aloadN X4.here hx rfl (hb hby d1_73) rfl rfl k) ?_
  show Go _ _ _ _ _ _ _ T4 (mkF m 74 #[.val (.ref ao), .val (.double da), .second, .val (.int mn), .val (.int mx)] [(.ref ao)])
  refine Go.step (fun _ k => XS.dloadN X4.here hx rfl (hb hby d1_74) rfl k) ?_
  show Go _ _ _ _ _ _ _ T4 (mkF m 75 #[.val (.ref ao), .val (.double da), .second, .val (.int mn), .val (.int mx)] [(.double da), (.ref ao)])
  obtain ⟨T9, h9, X9, e9, W9, st9⟩ := putF X4 hx hZ hown (host := "") (Or.inl (hw _ (List.mem_of_getElem? (i := 17) rfl))) Via.refl e4 F1 E0 (Or.inr ⟨(hw _ (List.mem_of_getElem? (i := 18) rfl)), rfl, hnm⟩) (hw _ (List.mem_of_getElem? (i := 3) rfl)) (ty := .double) (by decide) rfl rfl (g := (mkF m 75 #[.val (.ref ao), .val (.double da), .second, .val (.int mn), .val (.int mx)] [(.double da), (.ref ao)])) rfl rfl (hb hby d1_75)
  refine Go.step st9 ?_
  have Fw9 := F1.same W9
  have N9 := Fr.snoc X9 N4 g0
  have Z9 : n0 ≤ h9.size := Nat.le_trans Z0 (Keep.of_wr W9).1
  have KK9 : Keep h0 h9 [ao] := (Keep.refl h0 [ao]).wr W9 (Or.inl (List.mem_of_getElem? (i := 0) rfl))
  show Go _ _ _ _ _ _ _ T9 (mkF m 78 #[.val (.ref ao), .val (.double da), .second, .val (.int mn), .val (.int mx)] [])
  refine Go.step (fun _ k => XS.aloadN X9.here hx rfl (hb hby d1_78) rfl rfl k) ?_
  show Go _ _ _ _ _ _ _ T9 (mkF m 79 #[.val (.ref ao), .val (.double da), .second, .val (.int mn), .val (.int mx)] [(.ref ao)])
  refine Go.step (fun _ k => XS.iloadN X9.here hx rfl (hb hby d1_79) rfl k) ?_
  show Go _ _ _ _ _ _ _ T9 (mkF m 80 #[.val (.ref ao), .val (.double da), .second, .val (.int mn), .val (.int mx)] [(.int mn), (.ref ao)])
  have f10 : Fld Z h9 ao "com/example/moving_ceiling/movingceiling/LimitFormula" "minLimit" "I" (.int (0 : Int32)) := (F2.other W9 (Or.inr (slot_ne (a0 := a0) (C := "com/example/moving_ceiling/movingceiling/LimitFormula") (Or.inr (hw _ (List.mem_of_getElem? (i := 20) rfl))) (Or.inr (hw _ (List.mem_of_getElem? (i := 18) rfl))) (by decide) (t := .int) (t' := .double) (by decide) (by decide))))
  have f11 : Exa Z h9 ao "com/example/moving_ceiling/movingceiling/LimitFormula" := (E0.wr W9)
  obtain ⟨T12, h12, X12, e12, W12, st12⟩ := putF X9 hx hZ hown (host := "") (Or.inl (hw _ (List.mem_of_getElem? (i := 19) rfl))) Via.refl e9 f10 f11 (Or.inr ⟨(hw _ (List.mem_of_getElem? (i := 20) rfl)), rfl, hnm⟩) (hw _ (List.mem_of_getElem? (i := 3) rfl)) (ty := .int) (by decide) rfl rfl (g := (mkF m 80 #[.val (.ref ao), .val (.double da), .second, .val (.int mn), .val (.int mx)] [(.int mn), (.ref ao)])) rfl rfl (hb hby d1_80)
  refine Go.step st12 ?_
  have Fw12 := f10.same W12
  have N12 := Fr.snoc X12 N9 g0
  have Z12 : n0 ≤ h12.size := Nat.le_trans Z9 (Keep.of_wr W12).1
  have KK12 : Keep h0 h12 [ao] := KK9.wr W12 (Or.inl (List.mem_of_getElem? (i := 0) rfl))
  show Go _ _ _ _ _ _ _ T12 (mkF m 83 #[.val (.ref ao), .val (.double da), .second, .val (.int mn), .val (.int mx)] [])
  refine Go.step (fun _ k => XS.aloadN X12.here hx rfl (hb hby d1_83) rfl rfl k) ?_
  show Go _ _ _ _ _ _ _ T12 (mkF m 84 #[.val (.ref ao), .val (.double da), .second, .val (.int mn), .val (.int mx)] [(.ref ao)])
  refine Go.step (fun _ k => XS.iload X12.here hx rfl (hb hby d1_84) rfl k) ?_
  show Go _ _ _ _ _ _ _ T12 (mkF m 86 #[.val (.ref ao), .val (.double da), .second, .val (.int mn), .val (.int mx)] [(.int mx), (.ref ao)])
  have f13 : Fld Z h12 ao "com/example/moving_ceiling/movingceiling/LimitFormula" "maxLimit" "I" (.int (0 : Int32)) := ((F3.other W9 (Or.inr (slot_ne (a0 := a0) (C := "com/example/moving_ceiling/movingceiling/LimitFormula") (Or.inr (hw _ (List.mem_of_getElem? (i := 22) rfl))) (Or.inr (hw _ (List.mem_of_getElem? (i := 18) rfl))) (by decide) (t := .int) (t' := .double) (by decide) (by decide)))).other W12 (Or.inr (slot_ne (a0 := a0) (C := "com/example/moving_ceiling/movingceiling/LimitFormula") (Or.inr (hw _ (List.mem_of_getElem? (i := 22) rfl))) (Or.inr (hw _ (List.mem_of_getElem? (i := 20) rfl))) (by decide) (t := .int) (t' := .int) (by decide) (by decide))))
  have f14 : Exa Z h12 ao "com/example/moving_ceiling/movingceiling/LimitFormula" := (f11.wr W12)
  obtain ⟨T15, h15, X15, e15, W15, st15⟩ := putF X12 hx hZ hown (host := "") (Or.inl (hw _ (List.mem_of_getElem? (i := 21) rfl))) Via.refl e12 f13 f14 (Or.inr ⟨(hw _ (List.mem_of_getElem? (i := 22) rfl)), rfl, hnm⟩) (hw _ (List.mem_of_getElem? (i := 3) rfl)) (ty := .int) (by decide) rfl rfl (g := (mkF m 86 #[.val (.ref ao), .val (.double da), .second, .val (.int mn), .val (.int mx)] [(.int mx), (.ref ao)])) rfl rfl (hb hby d1_86)
  refine Go.step st15 ?_
  have Fw15 := f13.same W15
  have N15 := Fr.snoc X15 N12 g0
  have Z15 : n0 ≤ h15.size := Nat.le_trans Z12 (Keep.of_wr W15).1
  have KK15 : Keep h0 h15 [ao] := KK12.wr W15 (Or.inl (List.mem_of_getElem? (i := 0) rfl))
  show Go _ _ _ _ _ _ _ T15 (mkF m 89 #[.val (.ref ao), .val (.double da), .second, .val (.int mn), .val (.int mx)] [])
  have f16 : Fld Z h15 ao "com/example/moving_ceiling/movingceiling/LimitFormula" "minLimit" "I" (.int mn) := (Fw12.other W15 (Or.inr (slot_ne (a0 := a0) (C := "com/example/moving_ceiling/movingceiling/LimitFormula") (Or.inr (hw _ (List.mem_of_getElem? (i := 20) rfl))) (Or.inr (hw _ (List.mem_of_getElem? (i := 22) rfl))) (by decide) (t := .int) (t' := .int) (by decide) (by decide))))
  exact Go.ret0 X15 hx hret hlk (hb hby d1_89) e15 (by decide) (by decide) ⟨rfl, N15, KK15, f16, Fw15⟩
theorem d5_0 : decode jdk_29_method_22_code 0 = .ok (.dload_n 0, 1) := by decide +kernel
theorem d5_1 : decode jdk_29_method_22_code 1 = .ok (.invokestatic 79, 3) := by decide +kernel
theorem d5_4 : decode jdk_29_method_22_code 4 = .ok (.lstore_n 2, 1) := by decide +kernel
theorem d5_5 : decode jdk_29_method_22_code 5 = .ok (.lload_n 2, 1) := by decide +kernel
theorem d5_6 : decode jdk_29_method_22_code 6 = .ok (.ldc2_w 87, 3) := by decide +kernel
theorem d5_9 : decode jdk_29_method_22_code 9 = .ok (.land, 1) := by decide +kernel
theorem d5_10 : decode jdk_29_method_22_code 10 = .ok (.bipush 52, 2) := by decide +kernel
theorem d5_12 : decode jdk_29_method_22_code 12 = .ok (.lshr, 1) := by decide +kernel
theorem d5_13 : decode jdk_29_method_22_code 13 = .ok (.lstore 4, 2) := by decide +kernel
theorem d5_15 : decode jdk_29_method_22_code 15 = .ok (.ldc2_w 89, 3) := by decide +kernel
theorem d5_18 : decode jdk_29_method_22_code 18 = .ok (.lload 4, 2) := by decide +kernel
theorem d5_20 : decode jdk_29_method_22_code 20 = .ok (.lsub, 1) := by decide +kernel
theorem d5_21 : decode jdk_29_method_22_code 21 = .ok (.lstore 6, 2) := by decide +kernel
theorem d5_23 : decode jdk_29_method_22_code 23 = .ok (.lload 6, 2) := by decide +kernel
theorem d5_25 : decode jdk_29_method_22_code 25 = .ok (.ldc2_w 91, 3) := by decide +kernel
theorem d5_28 : decode jdk_29_method_22_code 28 = .ok (.land, 1) := by decide +kernel
theorem d5_29 : decode jdk_29_method_22_code 29 = .ok (.lconst 0, 1) := by decide +kernel
theorem d5_30 : decode jdk_29_method_22_code 30 = .ok (.lcmp, 1) := by decide +kernel
theorem d5_31 : decode jdk_29_method_22_code 31 = .ok (.ifCond .ne 36, 3) := by decide +kernel
theorem d5_34 : decode jdk_29_method_22_code 34 = .ok (.lload_n 2, 1) := by decide +kernel
theorem d5_35 : decode jdk_29_method_22_code 35 = .ok (.ldc2_w 93, 3) := by decide +kernel
theorem d5_38 : decode jdk_29_method_22_code 38 = .ok (.land, 1) := by decide +kernel
theorem d5_39 : decode jdk_29_method_22_code 39 = .ok (.ldc2_w 95, 3) := by decide +kernel
theorem d5_42 : decode jdk_29_method_22_code 42 = .ok (.lor, 1) := by decide +kernel
theorem d5_43 : decode jdk_29_method_22_code 43 = .ok (.lstore 8, 2) := by decide +kernel
theorem d5_45 : decode jdk_29_method_22_code 45 = .ok (.lload_n 2, 1) := by decide +kernel
theorem d5_46 : decode jdk_29_method_22_code 46 = .ok (.lconst 0, 1) := by decide +kernel
theorem d5_47 : decode jdk_29_method_22_code 47 = .ok (.lcmp, 1) := by decide +kernel
theorem d5_48 : decode jdk_29_method_22_code 48 = .ok (.ifCond .ge 8, 3) := by decide +kernel
theorem d5_51 : decode jdk_29_method_22_code 51 = .ok (.lload 8, 2) := by decide +kernel
theorem d5_53 : decode jdk_29_method_22_code 53 = .ok (.lneg, 1) := by decide +kernel
theorem d5_54 : decode jdk_29_method_22_code 54 = .ok (.lstore 8, 2) := by decide +kernel
theorem d5_56 : decode jdk_29_method_22_code 56 = .ok (.lload 8, 2) := by decide +kernel
theorem d5_58 : decode jdk_29_method_22_code 58 = .ok (.lload 6, 2) := by decide +kernel
theorem d5_60 : decode jdk_29_method_22_code 60 = .ok (.l2i, 1) := by decide +kernel
theorem d5_61 : decode jdk_29_method_22_code 61 = .ok (.lshr, 1) := by decide +kernel
theorem d5_62 : decode jdk_29_method_22_code 62 = .ok (.lconst 1, 1) := by decide +kernel
theorem d5_63 : decode jdk_29_method_22_code 63 = .ok (.ladd, 1) := by decide +kernel
theorem d5_64 : decode jdk_29_method_22_code 64 = .ok (.iconst 1, 1) := by decide +kernel
theorem d5_65 : decode jdk_29_method_22_code 65 = .ok (.lshr, 1) := by decide +kernel
theorem d5_66 : decode jdk_29_method_22_code 66 = .ok (.lreturn, 1) := by decide +kernel
theorem d5_67 : decode jdk_29_method_22_code 67 = .ok (.dload_n 0, 1) := by decide +kernel
theorem d5_68 : decode jdk_29_method_22_code 68 = .ok (.d2l, 1) := by decide +kernel
theorem d5_69 : decode jdk_29_method_22_code 69 = .ok (.lreturn, 1) := by decide +kernel
theorem pd__D_J : parseMethodDescriptor "(D)J" = some ⟨[.double], some .long⟩ := by decide +kernel
theorem ef_rmRd (m : MethodId) (da : UInt64) : entryFrame m #[(.double da)] 10 = mkF m 0 #[.val (.double da), .second, .unset, .unset, .unset, .unset, .unset, .unset, .unset, .unset] [] := by first | (simp [entryFrame, mkF, argsToLocals, Value.category]; done) | rfl
def Q_rmRd (Z : State) (da : UInt64) (xx : Int64) (h0 : Heap) (n0 : Nat) (v : Option Value) (h : Heap) (L : List Loc) : Prop := (v = some (.long ((xx + (1 : Int64)) >>> ((1 : Int32) &&& 0x3f).toInt64))) ∧ (Fr n0 L) ∧ (h = h0)
set_option maxRecDepth 65536 in
set_option maxHeartbeats 40000000 in
theorem rmRd (l : Launch) (Z : State) (a0 : Array Value) (hw : ∀ d ∈ tables_1, d.before a0 Z = true) (ws : List Jvm.Cond) (da : UInt64) (xx : Int64) (h0 : Heap) (n0 : Nat) (Z0 : n0 ≤ h0.size) (hda : da = FP.ddiv (FP.l2d xx) 4611686018427387904) (hxx : -9007199254740992 ≤ xx.toInt ∧ xx.toInt < 9007199254740992) :
    MetFree l (⟨"java/lang/Math", "round", "(D)J"⟩ : MethodName) (head1 (Jvm.Cond.code (⟨"java/lang/Math", "round", "(D)J"⟩ : MethodName) jdk_29_method_22_code 10 (some .long) :: ws) ({ frames := 1, cells := 0, slots := 0, locals := 15 } : Room)) (fun aA U => aA = #[(.double da)] ∧ Z.Warmed39 U.vm ∧ U.heap = h0) (fun _ _ _ _ _ => True) (fun _ U o U' => ∃ v L, o = .returned v ∧ Q_rmRd Z da xx h0 n0 v U'.heap L ∧ FrameEnd U o U' L ({ frames := 1, cells := 0, slots := 0, locals := 15 } : Room).cells ({ frames := 1, cells := 0, slots := 0, locals := 15 } : Room).slots) := by
  refine MetFree.of_bodySF (Jvm.Free.JP.mathPlain rfl (by decide +kernel)) hisR ?_
  intro p e s m args below meth c s₁ Bd hml0 hP hK
  obtain ⟨rfl, hZ, hh⟩ := hP
  have hx := Bd.exec
  have hby := Bd.bytes
  have hml : c.maxLocals = 10 := hml0
  have hown : s.vm.findClass "java/lang/Math" = some m.cls := findClass_of_methodNamed Bd.named
  have hnm := (name_of_methodNamed Bd.named Bd.method).1
  have hret := Bd.returns
  have hlk : meth.locks = false := BodyLoose.notSynchronized Bd
  have X0 : Stand p l e ({ frames := 1, cells := 0, slots := 0, locals := 15 } : Room) s m #[(.double da)] below meth c s₁ [] 0 0 := Stand.of_body Bd
  have e0 : s₁.heap = h0 := by rw [← hh, Bd.state]; rfl
  have N0 := Fr.nil n0
  suffices hgo : Go p e below s ({ frames := 1, cells := 0, slots := 0, locals := 15 } : Room).cells ({ frames := 1, cells := 0, slots := 0, locals := 15 } : Room).slots (Q_rmRd Z da xx h0 n0) s₁ (mkF m 0 #[.val (.double da), .second, .unset, .unset, .unset, .unset, .unset, .unset, .unset, .unset] []) from hgo.enter (ef_rmRd m da)
  rcases own_c3 hxx with q | q | q
  · obtain rfl : da = (0 : UInt64) := by rw [hda, q]; decide +kernel
    show Go _ _ _ _ _ _ _ s₁ (mkF m 0 #[.val (.double (0 : UInt64)), .second, .unset, .unset, .unset, .unset, .unset, .unset, .unset, .unset] [])
    refine Go.step (fun _ k => XS.dloadN X0.here hx rfl (hb hby d5_0) rfl k) ?_
    show Go _ _ _ _ _ _ _ s₁ (mkF m 1 #[.val (.double (0 : UInt64)), .second, .unset, .unset, .unset, .unset, .unset, .unset, .unset, .unset] [(.double (0 : UInt64))])
    obtain ⟨vm17, X17, st17⟩ := X0.doubleToRawLongBits hx hown (mvT hZ (hw _ (List.mem_of_getElem? (i := 32) rfl))) (mvT hZ (hw _ (List.mem_of_getElem? (i := 35) rfl))) (mvT hZ (hw _ (List.mem_of_getElem? (i := 33) rfl))) (mvT hZ (hw _ (List.mem_of_getElem? (i := 34) rfl))) (g := (mkF m 1 #[.val (.double (0 : UInt64)), .second, .unset, .unset, .unset, .unset, .unset, .unset, .unset, .unset] [(.double (0 : UInt64))])) rfl (by rw [hml]; rfl) (rest := []) (b := (0 : UInt64)) rfl (hb hby d5_1) (by decide) (by show 2 * 0 + 0 + (nativeFrameWords "java/lang/Double" "doubleToRawLongBits" 2 + 11) ≤ 15; decide)
    obtain ⟨T17, tq17⟩ : ∃ z, z = s₁.setVm vm17 := ⟨_, rfl⟩
    have e17 : T17.heap = h0 := by rw [tq17]; exact e0
    rw [← tq17] at X17 st17
    refine Go.step st17 ?_
    show Go _ _ _ _ _ _ _ T17 (mkF m 4 #[.val (.double (0 : UInt64)), .second, .unset, .unset, .unset, .unset, .unset, .unset, .unset, .unset] [(.long ((0 : UInt64).toInt64))])
    refine Go.step (fun _ k => XS.lstoreN X17.here hx rfl (hb hby d5_4) rfl (l' := #[.val (.double (0 : UInt64)), .second, .val (.long ((0 : UInt64).toInt64)), .second, .unset, .unset, .unset, .unset, .unset, .unset]) rfl k) ?_
    show Go _ _ _ _ _ _ _ T17 (mkF m 5 #[.val (.double (0 : UInt64)), .second, .val (.long ((0 : UInt64).toInt64)), .second, .unset, .unset, .unset, .unset, .unset, .unset] [])
    refine Go.step (fun _ k => XS.lloadN X17.here hx rfl (hb hby d5_5) rfl k) ?_
    show Go _ _ _ _ _ _ _ T17 (mkF m 6 #[.val (.double (0 : UInt64)), .second, .val (.long ((0 : UInt64).toInt64)), .second, .unset, .unset, .unset, .unset, .unset, .unset] [(.long ((0 : UInt64).toInt64))])
    refine Go.step (X17.ldc2Long hx hown (mvT hZ (hw _ (List.mem_of_getElem? (i := 36) rfl))) (g := (mkF m 6 #[.val (.double (0 : UInt64)), .second, .val (.long ((0 : UInt64).toInt64)), .second, .unset, .unset, .unset, .unset, .unset, .unset] [(.long ((0 : UInt64).toInt64))])) rfl (hb hby d5_6)) ?_
    show Go _ _ _ _ _ _ _ T17 (mkF m 9 #[.val (.double (0 : UInt64)), .second, .val (.long ((0 : UInt64).toInt64)), .second, .unset, .unset, .unset, .unset, .unset, .unset] [(.long (9218868437227405312 : Int64)), (.long ((0 : UInt64).toInt64))])
    refine Go.step (fun _ k => XS.land X17.here hx rfl (hb hby d5_9) rfl k) ?_
    show Go _ _ _ _ _ _ _ T17 (mkF m 10 #[.val (.double (0 : UInt64)), .second, .val (.long ((0 : UInt64).toInt64)), .second, .unset, .unset, .unset, .unset, .unset, .unset] [(.long (((0 : UInt64).toInt64) &&& (9218868437227405312 : Int64)))])
    refine Go.step (fun _ k => XS.bipush X17.here hx rfl (hb hby d5_10) k) ?_
    show Go _ _ _ _ _ _ _ T17 (mkF m 12 #[.val (.double (0 : UInt64)), .second, .val (.long ((0 : UInt64).toInt64)), .second, .unset, .unset, .unset, .unset, .unset, .unset] [(.int (52 : Int32)), (.long (((0 : UInt64).toInt64) &&& (9218868437227405312 : Int64)))])
    refine Go.step (fun _ k => XS.lshr X17.here hx rfl (hb hby d5_12) rfl k) ?_
    show Go _ _ _ _ _ _ _ T17 (mkF m 13 #[.val (.double (0 : UInt64)), .second, .val (.long ((0 : UInt64).toInt64)), .second, .unset, .unset, .unset, .unset, .unset, .unset] [(.long ((((0 : UInt64).toInt64) &&& (9218868437227405312 : Int64)) >>> ((52 : Int32) &&& 0x3f).toInt64))])
    refine Go.step (fun _ k => XS.lstore X17.here hx rfl (hb hby d5_13) rfl (l' := #[.val (.double (0 : UInt64)), .second, .val (.long ((0 : UInt64).toInt64)), .second, .val (.long ((((0 : UInt64).toInt64) &&& (9218868437227405312 : Int64)) >>> ((52 : Int32) &&& 0x3f).toInt64)), .second, .unset, .unset, .unset, .unset]) rfl k) ?_
    show Go _ _ _ _ _ _ _ T17 (mkF m 15 #[.val (.double (0 : UInt64)), .second, .val (.long ((0 : UInt64).toInt64)), .second, .val (.long ((((0 : UInt64).toInt64) &&& (9218868437227405312 : Int64)) >>> ((52 : Int32) &&& 0x3f).toInt64)), .second, .unset, .unset, .unset, .unset] [])
    refine Go.step (X17.ldc2Long hx hown (mvT hZ (hw _ (List.mem_of_getElem? (i := 37) rfl))) (g := (mkF m 15 #[.val (.double (0 : UInt64)), .second, .val (.long ((0 : UInt64).toInt64)), .second, .val (.long ((((0 : UInt64).toInt64) &&& (9218868437227405312 : Int64)) >>> ((52 : Int32) &&& 0x3f).toInt64)), .second, .unset, .unset, .unset, .unset] [])) rfl (hb hby d5_15)) ?_
    show Go _ _ _ _ _ _ _ T17 (mkF m 18 #[.val (.double (0 : UInt64)), .second, .val (.long ((0 : UInt64).toInt64)), .second, .val (.long ((((0 : UInt64).toInt64) &&& (9218868437227405312 : Int64)) >>> ((52 : Int32) &&& 0x3f).toInt64)), .second, .unset, .unset, .unset, .unset] [(.long (1074 : Int64))])
    refine Go.step (fun _ k => XS.lload X17.here hx rfl (hb hby d5_18) rfl k) ?_
    show Go _ _ _ _ _ _ _ T17 (mkF m 20 #[.val (.double (0 : UInt64)), .second, .val (.long ((0 : UInt64).toInt64)), .second, .val (.long ((((0 : UInt64).toInt64) &&& (9218868437227405312 : Int64)) >>> ((52 : Int32) &&& 0x3f).toInt64)), .second, .unset, .unset, .unset, .unset] [(.long ((((0 : UInt64).toInt64) &&& (9218868437227405312 : Int64)) >>> ((52 : Int32) &&& 0x3f).toInt64)), (.long (1074 : Int64))])
    refine Go.step (fun _ k => XS.lsub X17.here hx rfl (hb hby d5_20) rfl k) ?_
    show Go _ _ _ _ _ _ _ T17 (mkF m 21 #[.val (.double (0 : UInt64)), .second, .val (.long ((0 : UInt64).toInt64)), .second, .val (.long ((((0 : UInt64).toInt64) &&& (9218868437227405312 : Int64)) >>> ((52 : Int32) &&& 0x3f).toInt64)), .second, .unset, .unset, .unset, .unset] [(.long ((1074 : Int64) - ((((0 : UInt64).toInt64) &&& (9218868437227405312 : Int64)) >>> ((52 : Int32) &&& 0x3f).toInt64)))])
    refine Go.step (fun _ k => XS.lstore X17.here hx rfl (hb hby d5_21) rfl (l' := #[.val (.double (0 : UInt64)), .second, .val (.long ((0 : UInt64).toInt64)), .second, .val (.long ((((0 : UInt64).toInt64) &&& (9218868437227405312 : Int64)) >>> ((52 : Int32) &&& 0x3f).toInt64)), .second, .val (.long ((1074 : Int64) - ((((0 : UInt64).toInt64) &&& (9218868437227405312 : Int64)) >>> ((52 : Int32) &&& 0x3f).toInt64))), .second, .unset, .unset]) rfl k) ?_
    show Go _ _ _ _ _ _ _ T17 (mkF m 23 #[.val (.double (0 : UInt64)), .second, .val (.long ((0 : UInt64).toInt64)), .second, .val (.long ((((0 : UInt64).toInt64) &&& (9218868437227405312 : Int64)) >>> ((52 : Int32) &&& 0x3f).toInt64)), .second, .val (.long ((1074 : Int64) - ((((0 : UInt64).toInt64) &&& (9218868437227405312 : Int64)) >>> ((52 : Int32) &&& 0x3f).toInt64))), .second, .unset, .unset] [])
    refine Go.step (fun _ k => XS.lload X17.here hx rfl (hb hby d5_23) rfl k) ?_
    show Go _ _ _ _ _ _ _ T17 (mkF m 25 #[.val (.double (0 : UInt64)), .second, .val (.long ((0 : UInt64).toInt64)), .second, .val (.long ((((0 : UInt64).toInt64) &&& (9218868437227405312 : Int64)) >>> ((52 : Int32) &&& 0x3f).toInt64)), .second, .val (.long ((1074 : Int64) - ((((0 : UInt64).toInt64) &&& (9218868437227405312 : Int64)) >>> ((52 : Int32) &&& 0x3f).toInt64))), .second, .unset, .unset] [(.long ((1074 : Int64) - ((((0 : UInt64).toInt64) &&& (9218868437227405312 : Int64)) >>> ((52 : Int32) &&& 0x3f).toInt64)))])
    refine Go.step (X17.ldc2Long hx hown (mvT hZ (hw _ (List.mem_of_getElem? (i := 38) rfl))) (g := (mkF m 25 #[.val (.double (0 : UInt64)), .second, .val (.long ((0 : UInt64).toInt64)), .second, .val (.long ((((0 : UInt64).toInt64) &&& (9218868437227405312 : Int64)) >>> ((52 : Int32) &&& 0x3f).toInt64)), .second, .val (.long ((1074 : Int64) - ((((0 : UInt64).toInt64) &&& (9218868437227405312 : Int64)) >>> ((52 : Int32) &&& 0x3f).toInt64))), .second, .unset, .unset] [(.long ((1074 : Int64) - ((((0 : UInt64).toInt64) &&& (9218868437227405312 : Int64)) >>> ((52 : Int32) &&& 0x3f).toInt64)))])) rfl (hb hby d5_25)) ?_
    show Go _ _ _ _ _ _ _ T17 (mkF m 28 #[.val (.double (0 : UInt64)), .second, .val (.long ((0 : UInt64).toInt64)), .second, .val (.long ((((0 : UInt64).toInt64) &&& (9218868437227405312 : Int64)) >>> ((52 : Int32) &&& 0x3f).toInt64)), .second, .val (.long ((1074 : Int64) - ((((0 : UInt64).toInt64) &&& (9218868437227405312 : Int64)) >>> ((52 : Int32) &&& 0x3f).toInt64))), .second, .unset, .unset] [(.long (-64 : Int64)), (.long ((1074 : Int64) - ((((0 : UInt64).toInt64) &&& (9218868437227405312 : Int64)) >>> ((52 : Int32) &&& 0x3f).toInt64)))])
    refine Go.step (fun _ k => XS.land X17.here hx rfl (hb hby d5_28) rfl k) ?_
    show Go _ _ _ _ _ _ _ T17 (mkF m 29 #[.val (.double (0 : UInt64)), .second, .val (.long ((0 : UInt64).toInt64)), .second, .val (.long ((((0 : UInt64).toInt64) &&& (9218868437227405312 : Int64)) >>> ((52 : Int32) &&& 0x3f).toInt64)), .second, .val (.long ((1074 : Int64) - ((((0 : UInt64).toInt64) &&& (9218868437227405312 : Int64)) >>> ((52 : Int32) &&& 0x3f).toInt64))), .second, .unset, .unset] [(.long (((1074 : Int64) - ((((0 : UInt64).toInt64) &&& (9218868437227405312 : Int64)) >>> ((52 : Int32) &&& 0x3f).toInt64)) &&& (-64 : Int64)))])
    refine Go.step (fun _ k => XS.lconst X17.here hx rfl (hb hby d5_29) k) ?_
    show Go _ _ _ _ _ _ _ T17 (mkF m 30 #[.val (.double (0 : UInt64)), .second, .val (.long ((0 : UInt64).toInt64)), .second, .val (.long ((((0 : UInt64).toInt64) &&& (9218868437227405312 : Int64)) >>> ((52 : Int32) &&& 0x3f).toInt64)), .second, .val (.long ((1074 : Int64) - ((((0 : UInt64).toInt64) &&& (9218868437227405312 : Int64)) >>> ((52 : Int32) &&& 0x3f).toInt64))), .second, .unset, .unset] [(.long (0 : Int64)), (.long (((1074 : Int64) - ((((0 : UInt64).toInt64) &&& (9218868437227405312 : Int64)) >>> ((52 : Int32) &&& 0x3f).toInt64)) &&& (-64 : Int64)))])
    refine Go.step (fun _ k => XS.lcmp X17.here hx rfl (hb hby d5_30) rfl k) ?_
    show Go _ _ _ _ _ _ _ T17 (mkF m 31 #[.val (.double (0 : UInt64)), .second, .val (.long ((0 : UInt64).toInt64)), .second, .val (.long ((((0 : UInt64).toInt64) &&& (9218868437227405312 : Int64)) >>> ((52 : Int32) &&& 0x3f).toInt64)), .second, .val (.long ((1074 : Int64) - ((((0 : UInt64).toInt64) &&& (9218868437227405312 : Int64)) >>> ((52 : Int32) &&& 0x3f).toInt64))), .second, .unset, .unset] [(.int (lcmpW (((1074 : Int64) - ((((0 : UInt64).toInt64) &&& (9218868437227405312 : Int64)) >>> ((52 : Int32) &&& 0x3f).toInt64)) &&& (-64 : Int64)) (0 : Int64)))])
    have hc31_18 : ¬ ((((1074 : Int64) - ((((0 : UInt64).toInt64) &&& (9218868437227405312 : Int64)) >>> ((52 : Int32) &&& 0x3f).toInt64)) &&& (-64 : Int64)) = (0 : Int64)) := (by decide +kernel)
    refine Go.step (fun _ k => XS.ifYes X17.here hx rfl (pc0 := 31) (pc' := 67) rfl (hb hby d5_31) rfl ((if0 _ _).trans (feq (mt (lw_eq _ _).mp hc31_18)).2) (by decide) (by decide) k) ?_
    show Go _ _ _ _ _ _ _ T17 (mkF m 67 #[.val (.double (0 : UInt64)), .second, .val (.long ((0 : UInt64).toInt64)), .second, .val (.long ((((0 : UInt64).toInt64) &&& (9218868437227405312 : Int64)) >>> ((52 : Int32) &&& 0x3f).toInt64)), .second, .val (.long ((1074 : Int64) - ((((0 : UInt64).toInt64) &&& (9218868437227405312 : Int64)) >>> ((52 : Int32) &&& 0x3f).toInt64))), .second, .unset, .unset] [])
    refine Go.step (fun _ k => XS.dloadN X17.here hx rfl (hb hby d5_67) rfl k) ?_
    show Go _ _ _ _ _ _ _ T17 (mkF m 68 #[.val (.double (0 : UInt64)), .second, .val (.long ((0 : UInt64).toInt64)), .second, .val (.long ((((0 : UInt64).toInt64) &&& (9218868437227405312 : Int64)) >>> ((52 : Int32) &&& 0x3f).toInt64)), .second, .val (.long ((1074 : Int64) - ((((0 : UInt64).toInt64) &&& (9218868437227405312 : Int64)) >>> ((52 : Int32) &&& 0x3f).toInt64))), .second, .unset, .unset] [(.double (0 : UInt64))])
    refine Go.step (fun _ k => XS.d2lS X17.here hx rfl (hb hby d5_68) rfl rfl k) ?_
    show Go _ _ _ _ _ _ _ T17 (mkF m 69 #[.val (.double (0 : UInt64)), .second, .val (.long ((0 : UInt64).toInt64)), .second, .val (.long ((((0 : UInt64).toInt64) &&& (9218868437227405312 : Int64)) >>> ((52 : Int32) &&& 0x3f).toInt64)), .second, .val (.long ((1074 : Int64) - ((((0 : UInt64).toInt64) &&& (9218868437227405312 : Int64)) >>> ((52 : Int32) &&& 0x3f).toInt64))), .second, .unset, .unset] [(.long (FP.d2l (0 : UInt64)))])
    exact Go.retJ X17 hx hret hlk (hb hby d5_69) e17 (by decide) (by decide) ⟨(by rw [q]; decide +kernel), N0, rfl⟩
  · obtain rfl : da = (14064741636278059008 : UInt64) := by rw [hda, q]; decide +kernel
    show Go _ _ _ _ _ _ _ s₁ (mkF m 0 #[.val (.double (14064741636278059008 : UInt64)), .second, .unset, .unset, .unset, .unset, .unset, .unset, .unset, .unset] [])
    refine Go.step (fun _ k => XS.dloadN X0.here hx rfl (hb hby d5_0) rfl k) ?_
    show Go _ _ _ _ _ _ _ s₁ (mkF m 1 #[.val (.double (14064741636278059008 : UInt64)), .second, .unset, .unset, .unset, .unset, .unset, .unset, .unset, .unset] [(.double (14064741636278059008 : UInt64))])
    obtain ⟨vm19, X19, st19⟩ := X0.doubleToRawLongBits hx hown (mvT hZ (hw _ (List.mem_of_getElem? (i := 32) rfl))) (mvT hZ (hw _ (List.mem_of_getElem? (i := 35) rfl))) (mvT hZ (hw _ (List.mem_of_getElem? (i := 33) rfl))) (mvT hZ (hw _ (List.mem_of_getElem? (i := 34) rfl))) (g := (mkF m 1 #[.val (.double (14064741636278059008 : UInt64)), .second, .unset, .unset, .unset, .unset, .unset, .unset, .unset, .unset] [(.double (14064741636278059008 : UInt64))])) rfl (by rw [hml]; rfl) (rest := []) (b := (14064741636278059008 : UInt64)) rfl (hb hby d5_1) (by decide) (by show 2 * 0 + 0 + (nativeFrameWords "java/lang/Double" "doubleToRawLongBits" 2 + 11) ≤ 15; decide)
    obtain ⟨T19, tq19⟩ : ∃ z, z = s₁.setVm vm19 := ⟨_, rfl⟩
    have e19 : T19.heap = h0 := by rw [tq19]; exact e0
    rw [← tq19] at X19 st19
    refine Go.step st19 ?_
    show Go _ _ _ _ _ _ _ T19 (mkF m 4 #[.val (.double (14064741636278059008 : UInt64)), .second, .unset, .unset, .unset, .unset, .unset, .unset, .unset, .unset] [(.long ((14064741636278059008 : UInt64).toInt64))])
    refine Go.step (fun _ k => XS.lstoreN X19.here hx rfl (hb hby d5_4) rfl (l' := #[.val (.double (14064741636278059008 : UInt64)), .second, .val (.long ((14064741636278059008 : UInt64).toInt64)), .second, .unset, .unset, .unset, .unset, .unset, .unset]) rfl k) ?_
    show Go _ _ _ _ _ _ _ T19 (mkF m 5 #[.val (.double (14064741636278059008 : UInt64)), .second, .val (.long ((14064741636278059008 : UInt64).toInt64)), .second, .unset, .unset, .unset, .unset, .unset, .unset] [])
    refine Go.step (fun _ k => XS.lloadN X19.here hx rfl (hb hby d5_5) rfl k) ?_
    show Go _ _ _ _ _ _ _ T19 (mkF m 6 #[.val (.double (14064741636278059008 : UInt64)), .second, .val (.long ((14064741636278059008 : UInt64).toInt64)), .second, .unset, .unset, .unset, .unset, .unset, .unset] [(.long ((14064741636278059008 : UInt64).toInt64))])
    refine Go.step (X19.ldc2Long hx hown (mvT hZ (hw _ (List.mem_of_getElem? (i := 36) rfl))) (g := (mkF m 6 #[.val (.double (14064741636278059008 : UInt64)), .second, .val (.long ((14064741636278059008 : UInt64).toInt64)), .second, .unset, .unset, .unset, .unset, .unset, .unset] [(.long ((14064741636278059008 : UInt64).toInt64))])) rfl (hb hby d5_6)) ?_
    show Go _ _ _ _ _ _ _ T19 (mkF m 9 #[.val (.double (14064741636278059008 : UInt64)), .second, .val (.long ((14064741636278059008 : UInt64).toInt64)), .second, .unset, .unset, .unset, .unset, .unset, .unset] [(.long (9218868437227405312 : Int64)), (.long ((14064741636278059008 : UInt64).toInt64))])
    refine Go.step (fun _ k => XS.land X19.here hx rfl (hb hby d5_9) rfl k) ?_
    show Go _ _ _ _ _ _ _ T19 (mkF m 10 #[.val (.double (14064741636278059008 : UInt64)), .second, .val (.long ((14064741636278059008 : UInt64).toInt64)), .second, .unset, .unset, .unset, .unset, .unset, .unset] [(.long (((14064741636278059008 : UInt64).toInt64) &&& (9218868437227405312 : Int64)))])
    refine Go.step (fun _ k => XS.bipush X19.here hx rfl (hb hby d5_10) k) ?_
    show Go _ _ _ _ _ _ _ T19 (mkF m 12 #[.val (.double (14064741636278059008 : UInt64)), .second, .val (.long ((14064741636278059008 : UInt64).toInt64)), .second, .unset, .unset, .unset, .unset, .unset, .unset] [(.int (52 : Int32)), (.long (((14064741636278059008 : UInt64).toInt64) &&& (9218868437227405312 : Int64)))])
    refine Go.step (fun _ k => XS.lshr X19.here hx rfl (hb hby d5_12) rfl k) ?_
    show Go _ _ _ _ _ _ _ T19 (mkF m 13 #[.val (.double (14064741636278059008 : UInt64)), .second, .val (.long ((14064741636278059008 : UInt64).toInt64)), .second, .unset, .unset, .unset, .unset, .unset, .unset] [(.long ((((14064741636278059008 : UInt64).toInt64) &&& (9218868437227405312 : Int64)) >>> ((52 : Int32) &&& 0x3f).toInt64))])
    refine Go.step (fun _ k => XS.lstore X19.here hx rfl (hb hby d5_13) rfl (l' := #[.val (.double (14064741636278059008 : UInt64)), .second, .val (.long ((14064741636278059008 : UInt64).toInt64)), .second, .val (.long ((((14064741636278059008 : UInt64).toInt64) &&& (9218868437227405312 : Int64)) >>> ((52 : Int32) &&& 0x3f).toInt64)), .second, .unset, .unset, .unset, .unset]) rfl k) ?_
    show Go _ _ _ _ _ _ _ T19 (mkF m 15 #[.val (.double (14064741636278059008 : UInt64)), .second, .val (.long ((14064741636278059008 : UInt64).toInt64)), .second, .val (.long ((((14064741636278059008 : UInt64).toInt64) &&& (9218868437227405312 : Int64)) >>> ((52 : Int32) &&& 0x3f).toInt64)), .second, .unset, .unset, .unset, .unset] [])
    refine Go.step (X19.ldc2Long hx hown (mvT hZ (hw _ (List.mem_of_getElem? (i := 37) rfl))) (g := (mkF m 15 #[.val (.double (14064741636278059008 : UInt64)), .second, .val (.long ((14064741636278059008 : UInt64).toInt64)), .second, .val (.long ((((14064741636278059008 : UInt64).toInt64) &&& (9218868437227405312 : Int64)) >>> ((52 : Int32) &&& 0x3f).toInt64)), .second, .unset, .unset, .unset, .unset] [])) rfl (hb hby d5_15)) ?_
    show Go _ _ _ _ _ _ _ T19 (mkF m 18 #[.val (.double (14064741636278059008 : UInt64)), .second, .val (.long ((14064741636278059008 : UInt64).toInt64)), .second, .val (.long ((((14064741636278059008 : UInt64).toInt64) &&& (9218868437227405312 : Int64)) >>> ((52 : Int32) &&& 0x3f).toInt64)), .second, .unset, .unset, .unset, .unset] [(.long (1074 : Int64))])
    refine Go.step (fun _ k => XS.lload X19.here hx rfl (hb hby d5_18) rfl k) ?_
    show Go _ _ _ _ _ _ _ T19 (mkF m 20 #[.val (.double (14064741636278059008 : UInt64)), .second, .val (.long ((14064741636278059008 : UInt64).toInt64)), .second, .val (.long ((((14064741636278059008 : UInt64).toInt64) &&& (9218868437227405312 : Int64)) >>> ((52 : Int32) &&& 0x3f).toInt64)), .second, .unset, .unset, .unset, .unset] [(.long ((((14064741636278059008 : UInt64).toInt64) &&& (9218868437227405312 : Int64)) >>> ((52 : Int32) &&& 0x3f).toInt64)), (.long (1074 : Int64))])
    refine Go.step (fun _ k => XS.lsub X19.here hx rfl (hb hby d5_20) rfl k) ?_
    show Go _ _ _ _ _ _ _ T19 (mkF m 21 #[.val (.double (14064741636278059008 : UInt64)), .second, .val (.long ((14064741636278059008 : UInt64).toInt64)), .second, .val (.long ((((14064741636278059008 : UInt64).toInt64) &&& (9218868437227405312 : Int64)) >>> ((52 : Int32) &&& 0x3f).toInt64)), .second, .unset, .unset, .unset, .unset] [(.long ((1074 : Int64) - ((((14064741636278059008 : UInt64).toInt64) &&& (9218868437227405312 : Int64)) >>> ((52 : Int32) &&& 0x3f).toInt64)))])
    refine Go.step (fun _ k => XS.lstore X19.here hx rfl (hb hby d5_21) rfl (l' := #[.val (.double (14064741636278059008 : UInt64)), .second, .val (.long ((14064741636278059008 : UInt64).toInt64)), .second, .val (.long ((((14064741636278059008 : UInt64).toInt64) &&& (9218868437227405312 : Int64)) >>> ((52 : Int32) &&& 0x3f).toInt64)), .second, .val (.long ((1074 : Int64) - ((((14064741636278059008 : UInt64).toInt64) &&& (9218868437227405312 : Int64)) >>> ((52 : Int32) &&& 0x3f).toInt64))), .second, .unset, .unset]) rfl k) ?_
    show Go _ _ _ _ _ _ _ T19 (mkF m 23 #[.val (.double (14064741636278059008 : UInt64)), .second, .val (.long ((14064741636278059008 : UInt64).toInt64)), .second, .val (.long ((((14064741636278059008 : UInt64).toInt64) &&& (9218868437227405312 : Int64)) >>> ((52 : Int32) &&& 0x3f).toInt64)), .second, .val (.long ((1074 : Int64) - ((((14064741636278059008 : UInt64).toInt64) &&& (9218868437227405312 : Int64)) >>> ((52 : Int32) &&& 0x3f).toInt64))), .second, .unset, .unset] [])
    refine Go.step (fun _ k => XS.lload X19.here hx rfl (hb hby d5_23) rfl k) ?_
    show Go _ _ _ _ _ _ _ T19 (mkF m 25 #[.val (.double (14064741636278059008 : UInt64)), .second, .val (.long ((14064741636278059008 : UInt64).toInt64)), .second, .val (.long ((((14064741636278059008 : UInt64).toInt64) &&& (9218868437227405312 : Int64)) >>> ((52 : Int32) &&& 0x3f).toInt64)), .second, .val (.long ((1074 : Int64) - ((((14064741636278059008 : UInt64).toInt64) &&& (9218868437227405312 : Int64)) >>> ((52 : Int32) &&& 0x3f).toInt64))), .second, .unset, .unset] [(.long ((1074 : Int64) - ((((14064741636278059008 : UInt64).toInt64) &&& (9218868437227405312 : Int64)) >>> ((52 : Int32) &&& 0x3f).toInt64)))])
    refine Go.step (X19.ldc2Long hx hown (mvT hZ (hw _ (List.mem_of_getElem? (i := 38) rfl))) (g := (mkF m 25 #[.val (.double (14064741636278059008 : UInt64)), .second, .val (.long ((14064741636278059008 : UInt64).toInt64)), .second, .val (.long ((((14064741636278059008 : UInt64).toInt64) &&& (9218868437227405312 : Int64)) >>> ((52 : Int32) &&& 0x3f).toInt64)), .second, .val (.long ((1074 : Int64) - ((((14064741636278059008 : UInt64).toInt64) &&& (9218868437227405312 : Int64)) >>> ((52 : Int32) &&& 0x3f).toInt64))), .second, .unset, .unset] [(.long ((1074 : Int64) - ((((14064741636278059008 : UInt64).toInt64) &&& (9218868437227405312 : Int64)) >>> ((52 : Int32) &&& 0x3f).toInt64)))])) rfl (hb hby d5_25)) ?_
    show Go _ _ _ _ _ _ _ T19 (mkF m 28 #[.val (.double (14064741636278059008 : UInt64)), .second, .val (.long ((14064741636278059008 : UInt64).toInt64)), .second, .val (.long ((((14064741636278059008 : UInt64).toInt64) &&& (9218868437227405312 : Int64)) >>> ((52 : Int32) &&& 0x3f).toInt64)), .second, .val (.long ((1074 : Int64) - ((((14064741636278059008 : UInt64).toInt64) &&& (9218868437227405312 : Int64)) >>> ((52 : Int32) &&& 0x3f).toInt64))), .second, .unset, .unset] [(.long (-64 : Int64)), (.long ((1074 : Int64) - ((((14064741636278059008 : UInt64).toInt64) &&& (9218868437227405312 : Int64)) >>> ((52 : Int32) &&& 0x3f).toInt64)))])
    refine Go.step (fun _ k => XS.land X19.here hx rfl (hb hby d5_28) rfl k) ?_
    show Go _ _ _ _ _ _ _ T19 (mkF m 29 #[.val (.double (14064741636278059008 : UInt64)), .second, .val (.long ((14064741636278059008 : UInt64).toInt64)), .second, .val (.long ((((14064741636278059008 : UInt64).toInt64) &&& (9218868437227405312 : Int64)) >>> ((52 : Int32) &&& 0x3f).toInt64)), .second, .val (.long ((1074 : Int64) - ((((14064741636278059008 : UInt64).toInt64) &&& (9218868437227405312 : Int64)) >>> ((52 : Int32) &&& 0x3f).toInt64))), .second, .unset, .unset] [(.long (((1074 : Int64) - ((((14064741636278059008 : UInt64).toInt64) &&& (9218868437227405312 : Int64)) >>> ((52 : Int32) &&& 0x3f).toInt64)) &&& (-64 : Int64)))])
    refine Go.step (fun _ k => XS.lconst X19.here hx rfl (hb hby d5_29) k) ?_
    show Go _ _ _ _ _ _ _ T19 (mkF m 30 #[.val (.double (14064741636278059008 : UInt64)), .second, .val (.long ((14064741636278059008 : UInt64).toInt64)), .second, .val (.long ((((14064741636278059008 : UInt64).toInt64) &&& (9218868437227405312 : Int64)) >>> ((52 : Int32) &&& 0x3f).toInt64)), .second, .val (.long ((1074 : Int64) - ((((14064741636278059008 : UInt64).toInt64) &&& (9218868437227405312 : Int64)) >>> ((52 : Int32) &&& 0x3f).toInt64))), .second, .unset, .unset] [(.long (0 : Int64)), (.long (((1074 : Int64) - ((((14064741636278059008 : UInt64).toInt64) &&& (9218868437227405312 : Int64)) >>> ((52 : Int32) &&& 0x3f).toInt64)) &&& (-64 : Int64)))])
    refine Go.step (fun _ k => XS.lcmp X19.here hx rfl (hb hby d5_30) rfl k) ?_
    show Go _ _ _ _ _ _ _ T19 (mkF m 31 #[.val (.double (14064741636278059008 : UInt64)), .second, .val (.long ((14064741636278059008 : UInt64).toInt64)), .second, .val (.long ((((14064741636278059008 : UInt64).toInt64) &&& (9218868437227405312 : Int64)) >>> ((52 : Int32) &&& 0x3f).toInt64)), .second, .val (.long ((1074 : Int64) - ((((14064741636278059008 : UInt64).toInt64) &&& (9218868437227405312 : Int64)) >>> ((52 : Int32) &&& 0x3f).toInt64))), .second, .unset, .unset] [(.int (lcmpW (((1074 : Int64) - ((((14064741636278059008 : UInt64).toInt64) &&& (9218868437227405312 : Int64)) >>> ((52 : Int32) &&& 0x3f).toInt64)) &&& (-64 : Int64)) (0 : Int64)))])
    have hc31_20 : ¬ ((((1074 : Int64) - ((((14064741636278059008 : UInt64).toInt64) &&& (9218868437227405312 : Int64)) >>> ((52 : Int32) &&& 0x3f).toInt64)) &&& (-64 : Int64)) = (0 : Int64)) := (by decide +kernel)
    refine Go.step (fun _ k => XS.ifYes X19.here hx rfl (pc0 := 31) (pc' := 67) rfl (hb hby d5_31) rfl ((if0 _ _).trans (feq (mt (lw_eq _ _).mp hc31_20)).2) (by decide) (by decide) k) ?_
    show Go _ _ _ _ _ _ _ T19 (mkF m 67 #[.val (.double (14064741636278059008 : UInt64)), .second, .val (.long ((14064741636278059008 : UInt64).toInt64)), .second, .val (.long ((((14064741636278059008 : UInt64).toInt64) &&& (9218868437227405312 : Int64)) >>> ((52 : Int32) &&& 0x3f).toInt64)), .second, .val (.long ((1074 : Int64) - ((((14064741636278059008 : UInt64).toInt64) &&& (9218868437227405312 : Int64)) >>> ((52 : Int32) &&& 0x3f).toInt64))), .second, .unset, .unset] [])
    refine Go.step (fun _ k => XS.dloadN X19.here hx rfl (hb hby d5_67) rfl k) ?_
    show Go _ _ _ _ _ _ _ T19 (mkF m 68 #[.val (.double (14064741636278059008 : UInt64)), .second, .val (.long ((14064741636278059008 : UInt64).toInt64)), .second, .val (.long ((((14064741636278059008 : UInt64).toInt64) &&& (9218868437227405312 : Int64)) >>> ((52 : Int32) &&& 0x3f).toInt64)), .second, .val (.long ((1074 : Int64) - ((((14064741636278059008 : UInt64).toInt64) &&& (9218868437227405312 : Int64)) >>> ((52 : Int32) &&& 0x3f).toInt64))), .second, .unset, .unset] [(.double (14064741636278059008 : UInt64))])
    refine Go.step (fun _ k => XS.d2lS X19.here hx rfl (hb hby d5_68) rfl rfl k) ?_
    show Go _ _ _ _ _ _ _ T19 (mkF m 69 #[.val (.double (14064741636278059008 : UInt64)), .second, .val (.long ((14064741636278059008 : UInt64).toInt64)), .second, .val (.long ((((14064741636278059008 : UInt64).toInt64) &&& (9218868437227405312 : Int64)) >>> ((52 : Int32) &&& 0x3f).toInt64)), .second, .val (.long ((1074 : Int64) - ((((14064741636278059008 : UInt64).toInt64) &&& (9218868437227405312 : Int64)) >>> ((52 : Int32) &&& 0x3f).toInt64))), .second, .unset, .unset] [(.long (FP.d2l (14064741636278059008 : UInt64)))])
    exact Go.retJ X19 hx hret hlk (hb hby d5_69) e19 (by decide) (by decide) ⟨(by rw [q]; decide +kernel), N0, rfl⟩
  · obtain ⟨k1, k2, k3, k4⟩ := own_round hda q.1 q.2
    show Go _ _ _ _ _ _ _ s₁ (mkF m 0 #[.val (.double da), .second, .unset, .unset, .unset, .unset, .unset, .unset, .unset, .unset] [])
    refine Go.step (fun _ k => XS.dloadN X0.here hx rfl (hb hby d5_0) rfl k) ?_
    show Go _ _ _ _ _ _ _ s₁ (mkF m 1 #[.val (.double da), .second, .unset, .unset, .unset, .unset, .unset, .unset, .unset, .unset] [(.double da)])
    obtain ⟨vm21, X21, st21⟩ := X0.doubleToRawLongBits hx hown (mvT hZ (hw _ (List.mem_of_getElem? (i := 32) rfl))) (mvT hZ (hw _ (List.mem_of_getElem? (i := 35) rfl))) (mvT hZ (hw _ (List.mem_of_getElem? (i := 33) rfl))) (mvT hZ (hw _ (List.mem_of_getElem? (i := 34) rfl))) (g := (mkF m 1 #[.val (.double da), .second, .unset, .unset, .unset, .unset, .unset, .unset, .unset, .unset] [(.double da)])) rfl (by rw [hml]; rfl) (rest := []) (b := da) rfl (hb hby d5_1) (by decide) (by show 2 * 0 + 0 + (nativeFrameWords "java/lang/Double" "doubleToRawLongBits" 2 + 11) ≤ 15; decide)
    obtain ⟨T21, tq21⟩ : ∃ z, z = s₁.setVm vm21 := ⟨_, rfl⟩
    have e21 : T21.heap = h0 := by rw [tq21]; exact e0
    rw [← tq21] at X21 st21
    refine Go.step st21 ?_
    show Go _ _ _ _ _ _ _ T21 (mkF m 4 #[.val (.double da), .second, .unset, .unset, .unset, .unset, .unset, .unset, .unset, .unset] [(.long (da.toInt64))])
    refine Go.step (fun _ k => XS.lstoreN X21.here hx rfl (hb hby d5_4) rfl (l' := #[.val (.double da), .second, .val (.long (da.toInt64)), .second, .unset, .unset, .unset, .unset, .unset, .unset]) rfl k) ?_
    show Go _ _ _ _ _ _ _ T21 (mkF m 5 #[.val (.double da), .second, .val (.long (da.toInt64)), .second, .unset, .unset, .unset, .unset, .unset, .unset] [])
    refine Go.step (fun _ k => XS.lloadN X21.here hx rfl (hb hby d5_5) rfl k) ?_
    show Go _ _ _ _ _ _ _ T21 (mkF m 6 #[.val (.double da), .second, .val (.long (da.toInt64)), .second, .unset, .unset, .unset, .unset, .unset, .unset] [(.long (da.toInt64))])
    refine Go.step (X21.ldc2Long hx hown (mvT hZ (hw _ (List.mem_of_getElem? (i := 36) rfl))) (g := (mkF m 6 #[.val (.double da), .second, .val (.long (da.toInt64)), .second, .unset, .unset, .unset, .unset, .unset, .unset] [(.long (da.toInt64))])) rfl (hb hby d5_6)) ?_
    show Go _ _ _ _ _ _ _ T21 (mkF m 9 #[.val (.double da), .second, .val (.long (da.toInt64)), .second, .unset, .unset, .unset, .unset, .unset, .unset] [(.long (9218868437227405312 : Int64)), (.long (da.toInt64))])
    refine Go.step (fun _ k => XS.land X21.here hx rfl (hb hby d5_9) rfl k) ?_
    show Go _ _ _ _ _ _ _ T21 (mkF m 10 #[.val (.double da), .second, .val (.long (da.toInt64)), .second, .unset, .unset, .unset, .unset, .unset, .unset] [(.long ((da.toInt64) &&& (9218868437227405312 : Int64)))])
    refine Go.step (fun _ k => XS.bipush X21.here hx rfl (hb hby d5_10) k) ?_
    show Go _ _ _ _ _ _ _ T21 (mkF m 12 #[.val (.double da), .second, .val (.long (da.toInt64)), .second, .unset, .unset, .unset, .unset, .unset, .unset] [(.int (52 : Int32)), (.long ((da.toInt64) &&& (9218868437227405312 : Int64)))])
    refine Go.step (fun _ k => XS.lshr X21.here hx rfl (hb hby d5_12) rfl k) ?_
    show Go _ _ _ _ _ _ _ T21 (mkF m 13 #[.val (.double da), .second, .val (.long (da.toInt64)), .second, .unset, .unset, .unset, .unset, .unset, .unset] [(.long (((da.toInt64) &&& (9218868437227405312 : Int64)) >>> ((52 : Int32) &&& 0x3f).toInt64))])
    refine Go.step (fun _ k => XS.lstore X21.here hx rfl (hb hby d5_13) rfl (l' := #[.val (.double da), .second, .val (.long (da.toInt64)), .second, .val (.long (((da.toInt64) &&& (9218868437227405312 : Int64)) >>> ((52 : Int32) &&& 0x3f).toInt64)), .second, .unset, .unset, .unset, .unset]) rfl k) ?_
    show Go _ _ _ _ _ _ _ T21 (mkF m 15 #[.val (.double da), .second, .val (.long (da.toInt64)), .second, .val (.long (((da.toInt64) &&& (9218868437227405312 : Int64)) >>> ((52 : Int32) &&& 0x3f).toInt64)), .second, .unset, .unset, .unset, .unset] [])
    refine Go.step (X21.ldc2Long hx hown (mvT hZ (hw _ (List.mem_of_getElem? (i := 37) rfl))) (g := (mkF m 15 #[.val (.double da), .second, .val (.long (da.toInt64)), .second, .val (.long (((da.toInt64) &&& (9218868437227405312 : Int64)) >>> ((52 : Int32) &&& 0x3f).toInt64)), .second, .unset, .unset, .unset, .unset] [])) rfl (hb hby d5_15)) ?_
    show Go _ _ _ _ _ _ _ T21 (mkF m 18 #[.val (.double da), .second, .val (.long (da.toInt64)), .second, .val (.long (((da.toInt64) &&& (9218868437227405312 : Int64)) >>> ((52 : Int32) &&& 0x3f).toInt64)), .second, .unset, .unset, .unset, .unset] [(.long (1074 : Int64))])
    refine Go.step (fun _ k => XS.lload X21.here hx rfl (hb hby d5_18) rfl k) ?_
    show Go _ _ _ _ _ _ _ T21 (mkF m 20 #[.val (.double da), .second, .val (.long (da.toInt64)), .second, .val (.long (((da.toInt64) &&& (9218868437227405312 : Int64)) >>> ((52 : Int32) &&& 0x3f).toInt64)), .second, .unset, .unset, .unset, .unset] [(.long (((da.toInt64) &&& (9218868437227405312 : Int64)) >>> ((52 : Int32) &&& 0x3f).toInt64)), (.long (1074 : Int64))])
    refine Go.step (fun _ k => XS.lsub X21.here hx rfl (hb hby d5_20) rfl k) ?_
    show Go _ _ _ _ _ _ _ T21 (mkF m 21 #[.val (.double da), .second, .val (.long (da.toInt64)), .second, .val (.long (((da.toInt64) &&& (9218868437227405312 : Int64)) >>> ((52 : Int32) &&& 0x3f).toInt64)), .second, .unset, .unset, .unset, .unset] [(.long ((1074 : Int64) - (((da.toInt64) &&& (9218868437227405312 : Int64)) >>> ((52 : Int32) &&& 0x3f).toInt64)))])
    refine Go.step (fun _ k => XS.lstore X21.here hx rfl (hb hby d5_21) rfl (l' := #[.val (.double da), .second, .val (.long (da.toInt64)), .second, .val (.long (((da.toInt64) &&& (9218868437227405312 : Int64)) >>> ((52 : Int32) &&& 0x3f).toInt64)), .second, .val (.long ((1074 : Int64) - (((da.toInt64) &&& (9218868437227405312 : Int64)) >>> ((52 : Int32) &&& 0x3f).toInt64))), .second, .unset, .unset]) rfl k) ?_
    show Go _ _ _ _ _ _ _ T21 (mkF m 23 #[.val (.double da), .second, .val (.long (da.toInt64)), .second, .val (.long (((da.toInt64) &&& (9218868437227405312 : Int64)) >>> ((52 : Int32) &&& 0x3f).toInt64)), .second, .val (.long ((1074 : Int64) - (((da.toInt64) &&& (9218868437227405312 : Int64)) >>> ((52 : Int32) &&& 0x3f).toInt64))), .second, .unset, .unset] [])
    refine Go.step (fun _ k => XS.lload X21.here hx rfl (hb hby d5_23) rfl k) ?_
    show Go _ _ _ _ _ _ _ T21 (mkF m 25 #[.val (.double da), .second, .val (.long (da.toInt64)), .second, .val (.long (((da.toInt64) &&& (9218868437227405312 : Int64)) >>> ((52 : Int32) &&& 0x3f).toInt64)), .second, .val (.long ((1074 : Int64) - (((da.toInt64) &&& (9218868437227405312 : Int64)) >>> ((52 : Int32) &&& 0x3f).toInt64))), .second, .unset, .unset] [(.long ((1074 : Int64) - (((da.toInt64) &&& (9218868437227405312 : Int64)) >>> ((52 : Int32) &&& 0x3f).toInt64)))])
    refine Go.step (X21.ldc2Long hx hown (mvT hZ (hw _ (List.mem_of_getElem? (i := 38) rfl))) (g := (mkF m 25 #[.val (.double da), .second, .val (.long (da.toInt64)), .second, .val (.long (((da.toInt64) &&& (9218868437227405312 : Int64)) >>> ((52 : Int32) &&& 0x3f).toInt64)), .second, .val (.long ((1074 : Int64) - (((da.toInt64) &&& (9218868437227405312 : Int64)) >>> ((52 : Int32) &&& 0x3f).toInt64))), .second, .unset, .unset] [(.long ((1074 : Int64) - (((da.toInt64) &&& (9218868437227405312 : Int64)) >>> ((52 : Int32) &&& 0x3f).toInt64)))])) rfl (hb hby d5_25)) ?_
    show Go _ _ _ _ _ _ _ T21 (mkF m 28 #[.val (.double da), .second, .val (.long (da.toInt64)), .second, .val (.long (((da.toInt64) &&& (9218868437227405312 : Int64)) >>> ((52 : Int32) &&& 0x3f).toInt64)), .second, .val (.long ((1074 : Int64) - (((da.toInt64) &&& (9218868437227405312 : Int64)) >>> ((52 : Int32) &&& 0x3f).toInt64))), .second, .unset, .unset] [(.long (-64 : Int64)), (.long ((1074 : Int64) - (((da.toInt64) &&& (9218868437227405312 : Int64)) >>> ((52 : Int32) &&& 0x3f).toInt64)))])
    refine Go.step (fun _ k => XS.land X21.here hx rfl (hb hby d5_28) rfl k) ?_
    show Go _ _ _ _ _ _ _ T21 (mkF m 29 #[.val (.double da), .second, .val (.long (da.toInt64)), .second, .val (.long (((da.toInt64) &&& (9218868437227405312 : Int64)) >>> ((52 : Int32) &&& 0x3f).toInt64)), .second, .val (.long ((1074 : Int64) - (((da.toInt64) &&& (9218868437227405312 : Int64)) >>> ((52 : Int32) &&& 0x3f).toInt64))), .second, .unset, .unset] [(.long (((1074 : Int64) - (((da.toInt64) &&& (9218868437227405312 : Int64)) >>> ((52 : Int32) &&& 0x3f).toInt64)) &&& (-64 : Int64)))])
    refine Go.step (fun _ k => XS.lconst X21.here hx rfl (hb hby d5_29) k) ?_
    show Go _ _ _ _ _ _ _ T21 (mkF m 30 #[.val (.double da), .second, .val (.long (da.toInt64)), .second, .val (.long (((da.toInt64) &&& (9218868437227405312 : Int64)) >>> ((52 : Int32) &&& 0x3f).toInt64)), .second, .val (.long ((1074 : Int64) - (((da.toInt64) &&& (9218868437227405312 : Int64)) >>> ((52 : Int32) &&& 0x3f).toInt64))), .second, .unset, .unset] [(.long (0 : Int64)), (.long (((1074 : Int64) - (((da.toInt64) &&& (9218868437227405312 : Int64)) >>> ((52 : Int32) &&& 0x3f).toInt64)) &&& (-64 : Int64)))])
    refine Go.step (fun _ k => XS.lcmp X21.here hx rfl (hb hby d5_30) rfl k) ?_
    show Go _ _ _ _ _ _ _ T21 (mkF m 31 #[.val (.double da), .second, .val (.long (da.toInt64)), .second, .val (.long (((da.toInt64) &&& (9218868437227405312 : Int64)) >>> ((52 : Int32) &&& 0x3f).toInt64)), .second, .val (.long ((1074 : Int64) - (((da.toInt64) &&& (9218868437227405312 : Int64)) >>> ((52 : Int32) &&& 0x3f).toInt64))), .second, .unset, .unset] [(.int (lcmpW (((1074 : Int64) - (((da.toInt64) &&& (9218868437227405312 : Int64)) >>> ((52 : Int32) &&& 0x3f).toInt64)) &&& (-64 : Int64)) (0 : Int64)))])
    have hc31_22 : (((1074 : Int64) - (((da.toInt64) &&& (9218868437227405312 : Int64)) >>> ((52 : Int32) &&& 0x3f).toInt64)) &&& (-64 : Int64)) = (0 : Int64) := k1
    refine Go.step (fun _ k => XS.ifNo X21.here hx rfl (hb hby d5_31) rfl ((if0 _ _).trans (teq ((lw_eq _ _).mpr hc31_22)).2) k) ?_
    show Go _ _ _ _ _ _ _ T21 (mkF m 34 #[.val (.double da), .second, .val (.long (da.toInt64)), .second, .val (.long (((da.toInt64) &&& (9218868437227405312 : Int64)) >>> ((52 : Int32) &&& 0x3f).toInt64)), .second, .val (.long ((1074 : Int64) - (((da.toInt64) &&& (9218868437227405312 : Int64)) >>> ((52 : Int32) &&& 0x3f).toInt64))), .second, .unset, .unset] [])
    refine Go.step (fun _ k => XS.lloadN X21.here hx rfl (hb hby d5_34) rfl k) ?_
    show Go _ _ _ _ _ _ _ T21 (mkF m 35 #[.val (.double da), .second, .val (.long (da.toInt64)), .second, .val (.long (((da.toInt64) &&& (9218868437227405312 : Int64)) >>> ((52 : Int32) &&& 0x3f).toInt64)), .second, .val (.long ((1074 : Int64) - (((da.toInt64) &&& (9218868437227405312 : Int64)) >>> ((52 : Int32) &&& 0x3f).toInt64))), .second, .unset, .unset] [(.long (da.toInt64))])
    refine Go.step (X21.ldc2Long hx hown (mvT hZ (hw _ (List.mem_of_getElem? (i := 39) rfl))) (g := (mkF m 35 #[.val (.double da), .second, .val (.long (da.toInt64)), .second, .val (.long (((da.toInt64) &&& (9218868437227405312 : Int64)) >>> ((52 : Int32) &&& 0x3f).toInt64)), .second, .val (.long ((1074 : Int64) - (((da.toInt64) &&& (9218868437227405312 : Int64)) >>> ((52 : Int32) &&& 0x3f).toInt64))), .second, .unset, .unset] [(.long (da.toInt64))])) rfl (hb hby d5_35)) ?_
    show Go _ _ _ _ _ _ _ T21 (mkF m 38 #[.val (.double da), .second, .val (.long (da.toInt64)), .second, .val (.long (((da.toInt64) &&& (9218868437227405312 : Int64)) >>> ((52 : Int32) &&& 0x3f).toInt64)), .second, .val (.long ((1074 : Int64) - (((da.toInt64) &&& (9218868437227405312 : Int64)) >>> ((52 : Int32) &&& 0x3f).toInt64))), .second, .unset, .unset] [(.long (4503599627370495 : Int64)), (.long (da.toInt64))])
    refine Go.step (fun _ k => XS.land X21.here hx rfl (hb hby d5_38) rfl k) ?_
    show Go _ _ _ _ _ _ _ T21 (mkF m 39 #[.val (.double da), .second, .val (.long (da.toInt64)), .second, .val (.long (((da.toInt64) &&& (9218868437227405312 : Int64)) >>> ((52 : Int32) &&& 0x3f).toInt64)), .second, .val (.long ((1074 : Int64) - (((da.toInt64) &&& (9218868437227405312 : Int64)) >>> ((52 : Int32) &&& 0x3f).toInt64))), .second, .unset, .unset] [(.long ((da.toInt64) &&& (4503599627370495 : Int64)))])
    refine Go.step (X21.ldc2Long hx hown (mvT hZ (hw _ (List.mem_of_getElem? (i := 40) rfl))) (g := (mkF m 39 #[.val (.double da), .second, .val (.long (da.toInt64)), .second, .val (.long (((da.toInt64) &&& (9218868437227405312 : Int64)) >>> ((52 : Int32) &&& 0x3f).toInt64)), .second, .val (.long ((1074 : Int64) - (((da.toInt64) &&& (9218868437227405312 : Int64)) >>> ((52 : Int32) &&& 0x3f).toInt64))), .second, .unset, .unset] [(.long ((da.toInt64) &&& (4503599627370495 : Int64)))])) rfl (hb hby d5_39)) ?_
    show Go _ _ _ _ _ _ _ T21 (mkF m 42 #[.val (.double da), .second, .val (.long (da.toInt64)), .second, .val (.long (((da.toInt64) &&& (9218868437227405312 : Int64)) >>> ((52 : Int32) &&& 0x3f).toInt64)), .second, .val (.long ((1074 : Int64) - (((da.toInt64) &&& (9218868437227405312 : Int64)) >>> ((52 : Int32) &&& 0x3f).toInt64))), .second, .unset, .unset] [(.long (4503599627370496 : Int64)), (.long ((da.toInt64) &&& (4503599627370495 : Int64)))])
    refine Go.step (fun _ k => XS.lor X21.here hx rfl (hb hby d5_42) rfl k) ?_
    show Go _ _ _ _ _ _ _ T21 (mkF m 43 #[.val (.double da), .second, .val (.long (da.toInt64)), .second, .val (.long (((da.toInt64) &&& (9218868437227405312 : Int64)) >>> ((52 : Int32) &&& 0x3f).toInt64)), .second, .val (.long ((1074 : Int64) - (((da.toInt64) &&& (9218868437227405312 : Int64)) >>> ((52 : Int32) &&& 0x3f).toInt64))), .second, .unset, .unset] [(.long (((da.toInt64) &&& (4503599627370495 : Int64)) ||| (4503599627370496 : Int64)))])
    refine Go.step (fun _ k => XS.lstore X21.here hx rfl (hb hby d5_43) rfl (l' := #[.val (.double da), .second, .val (.long (da.toInt64)), .second, .val (.long (((da.toInt64) &&& (9218868437227405312 : Int64)) >>> ((52 : Int32) &&& 0x3f).toInt64)), .second, .val (.long ((1074 : Int64) - (((da.toInt64) &&& (9218868437227405312 : Int64)) >>> ((52 : Int32) &&& 0x3f).toInt64))), .second, .val (.long (((da.toInt64) &&& (4503599627370495 : Int64)) ||| (4503599627370496 : Int64))), .second]) rfl k) ?_
    show Go _ _ _ _ _ _ _ T21 (mkF m 45 #[.val (.double da), .second, .val (.long (da.toInt64)), .second, .val (.long (((da.toInt64) &&& (9218868437227405312 : Int64)) >>> ((52 : Int32) &&& 0x3f).toInt64)), .second, .val (.long ((1074 : Int64) - (((da.toInt64) &&& (9218868437227405312 : Int64)) >>> ((52 : Int32) &&& 0x3f).toInt64))), .second, .val (.long (((da.toInt64) &&& (4503599627370495 : Int64)) ||| (4503599627370496 : Int64))), .second] [])
    refine Go.step (fun _ k => XS.lloadN X21.here hx rfl (hb hby d5_45) rfl k) ?_
    show Go _ _ _ _ _ _ _ T21 (mkF m 46 #[.val (.double da), .second, .val (.long (da.toInt64)), .second, .val (.long (((da.toInt64) &&& (9218868437227405312 : Int64)) >>> ((52 : Int32) &&& 0x3f).toInt64)), .second, .val (.long ((1074 : Int64) - (((da.toInt64) &&& (9218868437227405312 : Int64)) >>> ((52 : Int32) &&& 0x3f).toInt64))), .second, .val (.long (((da.toInt64) &&& (4503599627370495 : Int64)) ||| (4503599627370496 : Int64))), .second] [(.long (da.toInt64))])
    refine Go.step (fun _ k => XS.lconst X21.here hx rfl (hb hby d5_46) k) ?_
    show Go _ _ _ _ _ _ _ T21 (mkF m 47 #[.val (.double da), .second, .val (.long (da.toInt64)), .second, .val (.long (((da.toInt64) &&& (9218868437227405312 : Int64)) >>> ((52 : Int32) &&& 0x3f).toInt64)), .second, .val (.long ((1074 : Int64) - (((da.toInt64) &&& (9218868437227405312 : Int64)) >>> ((52 : Int32) &&& 0x3f).toInt64))), .second, .val (.long (((da.toInt64) &&& (4503599627370495 : Int64)) ||| (4503599627370496 : Int64))), .second] [(.long (0 : Int64)), (.long (da.toInt64))])
    refine Go.step (fun _ k => XS.lcmp X21.here hx rfl (hb hby d5_47) rfl k) ?_
    show Go _ _ _ _ _ _ _ T21 (mkF m 48 #[.val (.double da), .second, .val (.long (da.toInt64)), .second, .val (.long (((da.toInt64) &&& (9218868437227405312 : Int64)) >>> ((52 : Int32) &&& 0x3f).toInt64)), .second, .val (.long ((1074 : Int64) - (((da.toInt64) &&& (9218868437227405312 : Int64)) >>> ((52 : Int32) &&& 0x3f).toInt64))), .second, .val (.long (((da.toInt64) &&& (4503599627370495 : Int64)) ||| (4503599627370496 : Int64))), .second] [(.int (lcmpW (da.toInt64) (0 : Int64)))])
    by_cases hc48_23 : (da.toInt64) < (0 : Int64)
    · refine Go.step (fun _ k => XS.ifNo X21.here hx rfl (hb hby d5_48) rfl ((if0 _ _).trans (tlt ((lw_lt _ _).mpr hc48_23)).2.1) k) ?_
      show Go _ _ _ _ _ _ _ T21 (mkF m 51 #[.val (.double da), .second, .val (.long (da.toInt64)), .second, .val (.long (((da.toInt64) &&& (9218868437227405312 : Int64)) >>> ((52 : Int32) &&& 0x3f).toInt64)), .second, .val (.long ((1074 : Int64) - (((da.toInt64) &&& (9218868437227405312 : Int64)) >>> ((52 : Int32) &&& 0x3f).toInt64))), .second, .val (.long (((da.toInt64) &&& (4503599627370495 : Int64)) ||| (4503599627370496 : Int64))), .second] [])
      refine Go.step (fun _ k => XS.lload X21.here hx rfl (hb hby d5_51) rfl k) ?_
      show Go _ _ _ _ _ _ _ T21 (mkF m 53 #[.val (.double da), .second, .val (.long (da.toInt64)), .second, .val (.long (((da.toInt64) &&& (9218868437227405312 : Int64)) >>> ((52 : Int32) &&& 0x3f).toInt64)), .second, .val (.long ((1074 : Int64) - (((da.toInt64) &&& (9218868437227405312 : Int64)) >>> ((52 : Int32) &&& 0x3f).toInt64))), .second, .val (.long (((da.toInt64) &&& (4503599627370495 : Int64)) ||| (4503599627370496 : Int64))), .second] [(.long (((da.toInt64) &&& (4503599627370495 : Int64)) ||| (4503599627370496 : Int64)))])
      refine Go.step (fun _ k => XS.lneg X21.here hx rfl (hb hby d5_53) rfl k) ?_
      show Go _ _ _ _ _ _ _ T21 (mkF m 54 #[.val (.double da), .second, .val (.long (da.toInt64)), .second, .val (.long (((da.toInt64) &&& (9218868437227405312 : Int64)) >>> ((52 : Int32) &&& 0x3f).toInt64)), .second, .val (.long ((1074 : Int64) - (((da.toInt64) &&& (9218868437227405312 : Int64)) >>> ((52 : Int32) &&& 0x3f).toInt64))), .second, .val (.long (((da.toInt64) &&& (4503599627370495 : Int64)) ||| (4503599627370496 : Int64))), .second] [(.long ((-(((da.toInt64) &&& (4503599627370495 : Int64)) ||| (4503599627370496 : Int64)))))])
      refine Go.step (fun _ k => XS.lstore X21.here hx rfl (hb hby d5_54) rfl (l' := #[.val (.double da), .second, .val (.long (da.toInt64)), .second, .val (.long (((da.toInt64) &&& (9218868437227405312 : Int64)) >>> ((52 : Int32) &&& 0x3f).toInt64)), .second, .val (.long ((1074 : Int64) - (((da.toInt64) &&& (9218868437227405312 : Int64)) >>> ((52 : Int32) &&& 0x3f).toInt64))), .second, .val (.long ((-(((da.toInt64) &&& (4503599627370495 : Int64)) ||| (4503599627370496 : Int64))))), .second]) rfl k) ?_
      show Go _ _ _ _ _ _ _ T21 (mkF m 56 #[.val (.double da), .second, .val (.long (da.toInt64)), .second, .val (.long (((da.toInt64) &&& (9218868437227405312 : Int64)) >>> ((52 : Int32) &&& 0x3f).toInt64)), .second, .val (.long ((1074 : Int64) - (((da.toInt64) &&& (9218868437227405312 : Int64)) >>> ((52 : Int32) &&& 0x3f).toInt64))), .second, .val (.long ((-(((da.toInt64) &&& (4503599627370495 : Int64)) ||| (4503599627370496 : Int64))))), .second] [])
      refine Go.step (fun _ k => XS.lload X21.here hx rfl (hb hby d5_56) rfl k) ?_
      show Go _ _ _ _ _ _ _ T21 (mkF m 58 #[.val (.double da), .second, .val (.long (da.toInt64)), .second, .val (.long (((da.toInt64) &&& (9218868437227405312 : Int64)) >>> ((52 : Int32) &&& 0x3f).toInt64)), .second, .val (.long ((1074 : Int64) - (((da.toInt64) &&& (9218868437227405312 : Int64)) >>> ((52 : Int32) &&& 0x3f).toInt64))), .second, .val (.long ((-(((da.toInt64) &&& (4503599627370495 : Int64)) ||| (4503599627370496 : Int64))))), .second] [(.long ((-(((da.toInt64) &&& (4503599627370495 : Int64)) ||| (4503599627370496 : Int64)))))])
      refine Go.step (fun _ k => XS.lload X21.here hx rfl (hb hby d5_58) rfl k) ?_
      show Go _ _ _ _ _ _ _ T21 (mkF m 60 #[.val (.double da), .second, .val (.long (da.toInt64)), .second, .val (.long (((da.toInt64) &&& (9218868437227405312 : Int64)) >>> ((52 : Int32) &&& 0x3f).toInt64)), .second, .val (.long ((1074 : Int64) - (((da.toInt64) &&& (9218868437227405312 : Int64)) >>> ((52 : Int32) &&& 0x3f).toInt64))), .second, .val (.long ((-(((da.toInt64) &&& (4503599627370495 : Int64)) ||| (4503599627370496 : Int64))))), .second] [(.long ((1074 : Int64) - (((da.toInt64) &&& (9218868437227405312 : Int64)) >>> ((52 : Int32) &&& 0x3f).toInt64))), (.long ((-(((da.toInt64) &&& (4503599627370495 : Int64)) ||| (4503599627370496 : Int64)))))])
      refine Go.step (fun _ k => XS.l2i X21.here hx rfl (hb hby d5_60) rfl k) ?_
      show Go _ _ _ _ _ _ _ T21 (mkF m 61 #[.val (.double da), .second, .val (.long (da.toInt64)), .second, .val (.long (((da.toInt64) &&& (9218868437227405312 : Int64)) >>> ((52 : Int32) &&& 0x3f).toInt64)), .second, .val (.long ((1074 : Int64) - (((da.toInt64) &&& (9218868437227405312 : Int64)) >>> ((52 : Int32) &&& 0x3f).toInt64))), .second, .val (.long ((-(((da.toInt64) &&& (4503599627370495 : Int64)) ||| (4503599627370496 : Int64))))), .second] [(.int (((1074 : Int64) - (((da.toInt64) &&& (9218868437227405312 : Int64)) >>> ((52 : Int32) &&& 0x3f).toInt64)).toInt32)), (.long ((-(((da.toInt64) &&& (4503599627370495 : Int64)) ||| (4503599627370496 : Int64)))))])
      refine Go.step (fun _ k => XS.lshr X21.here hx rfl (hb hby d5_61) rfl k) ?_
      show Go _ _ _ _ _ _ _ T21 (mkF m 62 #[.val (.double da), .second, .val (.long (da.toInt64)), .second, .val (.long (((da.toInt64) &&& (9218868437227405312 : Int64)) >>> ((52 : Int32) &&& 0x3f).toInt64)), .second, .val (.long ((1074 : Int64) - (((da.toInt64) &&& (9218868437227405312 : Int64)) >>> ((52 : Int32) &&& 0x3f).toInt64))), .second, .val (.long ((-(((da.toInt64) &&& (4503599627370495 : Int64)) ||| (4503599627370496 : Int64))))), .second] [(.long (((-(((da.toInt64) &&& (4503599627370495 : Int64)) ||| (4503599627370496 : Int64)))) >>> ((((1074 : Int64) - (((da.toInt64) &&& (9218868437227405312 : Int64)) >>> ((52 : Int32) &&& 0x3f).toInt64)).toInt32) &&& 0x3f).toInt64))])
      refine Go.step (fun _ k => XS.lconst X21.here hx rfl (hb hby d5_62) k) ?_
      show Go _ _ _ _ _ _ _ T21 (mkF m 63 #[.val (.double da), .second, .val (.long (da.toInt64)), .second, .val (.long (((da.toInt64) &&& (9218868437227405312 : Int64)) >>> ((52 : Int32) &&& 0x3f).toInt64)), .second, .val (.long ((1074 : Int64) - (((da.toInt64) &&& (9218868437227405312 : Int64)) >>> ((52 : Int32) &&& 0x3f).toInt64))), .second, .val (.long ((-(((da.toInt64) &&& (4503599627370495 : Int64)) ||| (4503599627370496 : Int64))))), .second] [(.long (1 : Int64)), (.long (((-(((da.toInt64) &&& (4503599627370495 : Int64)) ||| (4503599627370496 : Int64)))) >>> ((((1074 : Int64) - (((da.toInt64) &&& (9218868437227405312 : Int64)) >>> ((52 : Int32) &&& 0x3f).toInt64)).toInt32) &&& 0x3f).toInt64))])
      refine Go.step (fun _ k => XS.ladd X21.here hx rfl (hb hby d5_63) rfl k) ?_
      show Go _ _ _ _ _ _ _ T21 (mkF m 64 #[.val (.double da), .second, .val (.long (da.toInt64)), .second, .val (.long (((da.toInt64) &&& (9218868437227405312 : Int64)) >>> ((52 : Int32) &&& 0x3f).toInt64)), .second, .val (.long ((1074 : Int64) - (((da.toInt64) &&& (9218868437227405312 : Int64)) >>> ((52 : Int32) &&& 0x3f).toInt64))), .second, .val (.long ((-(((da.toInt64) &&& (4503599627370495 : Int64)) ||| (4503599627370496 : Int64))))), .second] [(.long ((((-(((da.toInt64) &&& (4503599627370495 : Int64)) ||| (4503599627370496 : Int64)))) >>> ((((1074 : Int64) - (((da.toInt64) &&& (9218868437227405312 : Int64)) >>> ((52 : Int32) &&& 0x3f).toInt64)).toInt32) &&& 0x3f).toInt64) + (1 : Int64)))])
      refine Go.step (fun _ k => XS.iconst X21.here hx rfl (hb hby d5_64) k) ?_
      show Go _ _ _ _ _ _ _ T21 (mkF m 65 #[.val (.double da), .second, .val (.long (da.toInt64)), .second, .val (.long (((da.toInt64) &&& (9218868437227405312 : Int64)) >>> ((52 : Int32) &&& 0x3f).toInt64)), .second, .val (.long ((1074 : Int64) - (((da.toInt64) &&& (9218868437227405312 : Int64)) >>> ((52 : Int32) &&& 0x3f).toInt64))), .second, .val (.long ((-(((da.toInt64) &&& (4503599627370495 : Int64)) ||| (4503599627370496 : Int64))))), .second] [(.int (1 : Int32)), (.long ((((-(((da.toInt64) &&& (4503599627370495 : Int64)) ||| (4503599627370496 : Int64)))) >>> ((((1074 : Int64) - (((da.toInt64) &&& (9218868437227405312 : Int64)) >>> ((52 : Int32) &&& 0x3f).toInt64)).toInt32) &&& 0x3f).toInt64) + (1 : Int64)))])
      refine Go.step (fun _ k => XS.lshr X21.here hx rfl (hb hby d5_65) rfl k) ?_
      show Go _ _ _ _ _ _ _ T21 (mkF m 66 #[.val (.double da), .second, .val (.long (da.toInt64)), .second, .val (.long (((da.toInt64) &&& (9218868437227405312 : Int64)) >>> ((52 : Int32) &&& 0x3f).toInt64)), .second, .val (.long ((1074 : Int64) - (((da.toInt64) &&& (9218868437227405312 : Int64)) >>> ((52 : Int32) &&& 0x3f).toInt64))), .second, .val (.long ((-(((da.toInt64) &&& (4503599627370495 : Int64)) ||| (4503599627370496 : Int64))))), .second] [(.long (((((-(((da.toInt64) &&& (4503599627370495 : Int64)) ||| (4503599627370496 : Int64)))) >>> ((((1074 : Int64) - (((da.toInt64) &&& (9218868437227405312 : Int64)) >>> ((52 : Int32) &&& 0x3f).toInt64)).toInt32) &&& 0x3f).toInt64) + (1 : Int64)) >>> ((1 : Int32) &&& 0x3f).toInt64))])
      exact Go.retJ X21 hx hret hlk (hb hby d5_66) e21 (by decide) (by decide) ⟨(congrArg (fun z : Int64 => some (Value.long ((z + 1) >>> ((1 : Int32) &&& 0x3f).toInt64))) (k4 (k2.mp hc48_23))), N0, rfl⟩
    · refine Go.step (fun _ k => XS.ifYes X21.here hx rfl (pc0 := 48) (pc' := 56) rfl (hb hby d5_48) rfl ((if0 _ _).trans (flt (mt (lw_lt _ _).mp hc48_23)).2.1) (by decide) (by decide) k) ?_
      show Go _ _ _ _ _ _ _ T21 (mkF m 56 #[.val (.double da), .second, .val (.long (da.toInt64)), .second, .val (.long (((da.toInt64) &&& (9218868437227405312 : Int64)) >>> ((52 : Int32) &&& 0x3f).toInt64)), .second, .val (.long ((1074 : Int64) - (((da.toInt64) &&& (9218868437227405312 : Int64)) >>> ((52 : Int32) &&& 0x3f).toInt64))), .second, .val (.long (((da.toInt64) &&& (4503599627370495 : Int64)) ||| (4503599627370496 : Int64))), .second] [])
      refine Go.step (fun _ k => XS.lload X21.here hx rfl (hb hby d5_56) rfl k) ?_
      show Go _ _ _ _ _ _ _ T21 (mkF m 58 #[.val (.double da), .second, .val (.long (da.toInt64)), .second, .val (.long (((da.toInt64) &&& (9218868437227405312 : Int64)) >>> ((52 : Int32) &&& 0x3f).toInt64)), .second, .val (.long ((1074 : Int64) - (((da.toInt64) &&& (9218868437227405312 : Int64)) >>> ((52 : Int32) &&& 0x3f).toInt64))), .second, .val (.long (((da.toInt64) &&& (4503599627370495 : Int64)) ||| (4503599627370496 : Int64))), .second] [(.long (((da.toInt64) &&& (4503599627370495 : Int64)) ||| (4503599627370496 : Int64)))])
      refine Go.step (fun _ k => XS.lload X21.here hx rfl (hb hby d5_58) rfl k) ?_
      show Go _ _ _ _ _ _ _ T21 (mkF m 60 #[.val (.double da), .second, .val (.long (da.toInt64)), .second, .val (.long (((da.toInt64) &&& (9218868437227405312 : Int64)) >>> ((52 : Int32) &&& 0x3f).toInt64)), .second, .val (.long ((1074 : Int64) - (((da.toInt64) &&& (9218868437227405312 : Int64)) >>> ((52 : Int32) &&& 0x3f).toInt64))), .second, .val (.long (((da.toInt64) &&& (4503599627370495 : Int64)) ||| (4503599627370496 : Int64))), .second] [(.long ((1074 : Int64) - (((da.toInt64) &&& (9218868437227405312 : Int64)) >>> ((52 : Int32) &&& 0x3f).toInt64))), (.long (((da.toInt64) &&& (4503599627370495 : Int64)) ||| (4503599627370496 : Int64)))])
      refine Go.step (fun _ k => XS.l2i X21.here hx rfl (hb hby d5_60) rfl k) ?_
      show Go _ _ _ _ _ _ _ T21 (mkF m 61 #[.val (.double da), .second, .val (.long (da.toInt64)), .second, .val (.long (((da.toInt64) &&& (9218868437227405312 : Int64)) >>> ((52 : Int32) &&& 0x3f).toInt64)), .second, .val (.long ((1074 : Int64) - (((da.toInt64) &&& (9218868437227405312 : Int64)) >>> ((52 : Int32) &&& 0x3f).toInt64))), .second, .val (.long (((da.toInt64) &&& (4503599627370495 : Int64)) ||| (4503599627370496 : Int64))), .second] [(.int (((1074 : Int64) - (((da.toInt64) &&& (9218868437227405312 : Int64)) >>> ((52 : Int32) &&& 0x3f).toInt64)).toInt32)), (.long (((da.toInt64) &&& (4503599627370495 : Int64)) ||| (4503599627370496 : Int64)))])
      refine Go.step (fun _ k => XS.lshr X21.here hx rfl (hb hby d5_61) rfl k) ?_
      show Go _ _ _ _ _ _ _ T21 (mkF m 62 #[.val (.double da), .second, .val (.long (da.toInt64)), .second, .val (.long (((da.toInt64) &&& (9218868437227405312 : Int64)) >>> ((52 : Int32) &&& 0x3f).toInt64)), .second, .val (.long ((1074 : Int64) - (((da.toInt64) &&& (9218868437227405312 : Int64)) >>> ((52 : Int32) &&& 0x3f).toInt64))), .second, .val (.long (((da.toInt64) &&& (4503599627370495 : Int64)) ||| (4503599627370496 : Int64))), .second] [(.long ((((da.toInt64) &&& (4503599627370495 : Int64)) ||| (4503599627370496 : Int64)) >>> ((((1074 : Int64) - (((da.toInt64) &&& (9218868437227405312 : Int64)) >>> ((52 : Int32) &&& 0x3f).toInt64)).toInt32) &&& 0x3f).toInt64))])
      refine Go.step (fun _ k => XS.lconst X21.here hx rfl (hb hby d5_62) k) ?_
      show Go _ _ _ _ _ _ _ T21 (mkF m 63 #[.val (.double da), .second, .val (.long (da.toInt64)), .second, .val (.long (((da.toInt64) &&& (9218868437227405312 : Int64)) >>> ((52 : Int32) &&& 0x3f).toInt64)), .second, .val (.long ((1074 : Int64) - (((da.toInt64) &&& (9218868437227405312 : Int64)) >>> ((52 : Int32) &&& 0x3f).toInt64))), .second, .val (.long (((da.toInt64) &&& (4503599627370495 : Int64)) ||| (4503599627370496 : Int64))), .second] [(.long (1 : Int64)), (.long ((((da.toInt64) &&& (4503599627370495 : Int64)) ||| (4503599627370496 : Int64)) >>> ((((1074 : Int64) - (((da.toInt64) &&& (9218868437227405312 : Int64)) >>> ((52 : Int32) &&& 0x3f).toInt64)).toInt32) &&& 0x3f).toInt64))])
      refine Go.step (fun _ k => XS.ladd X21.here hx rfl (hb hby d5_63) rfl k) ?_
      show Go _ _ _ _ _ _ _ T21 (mkF m 64 #[.val (.double da), .second, .val (.long (da.toInt64)), .second, .val (.long (((da.toInt64) &&& (9218868437227405312 : Int64)) >>> ((52 : Int32) &&& 0x3f).toInt64)), .second, .val (.long ((1074 : Int64) - (((da.toInt64) &&& (9218868437227405312 : Int64)) >>> ((52 : Int32) &&& 0x3f).toInt64))), .second, .val (.long (((da.toInt64) &&& (4503599627370495 : Int64)) ||| (4503599627370496 : Int64))), .second] [(.long (((((da.toInt64) &&& (4503599627370495 : Int64)) ||| (4503599627370496 : Int64)) >>> ((((1074 : Int64) - (((da.toInt64) &&& (9218868437227405312 : Int64)) >>> ((52 : Int32) &&& 0x3f).toInt64)).toInt32) &&& 0x3f).toInt64) + (1 : Int64)))])
      refine Go.step (fun _ k => XS.iconst X21.here hx rfl (hb hby d5_64) k) ?_
      show Go _ _ _ _ _ _ _ T21 (mkF m 65 #[.val (.double da), .second, .val (.long (da.toInt64)), .second, .val (.long (((da.toInt64) &&& (9218868437227405312 : Int64)) >>> ((52 : Int32) &&& 0x3f).toInt64)), .second, .val (.long ((1074 : Int64) - (((da.toInt64) &&& (9218868437227405312 : Int64)) >>> ((52 : Int32) &&& 0x3f).toInt64))), .second, .val (.long (((da.toInt64) &&& (4503599627370495 : Int64)) ||| (4503599627370496 : Int64))), .second] [(.int (1 : Int32)), (.long (((((da.toInt64) &&& (4503599627370495 : Int64)) ||| (4503599627370496 : Int64)) >>> ((((1074 : Int64) - (((da.toInt64) &&& (9218868437227405312 : Int64)) >>> ((52 : Int32) &&& 0x3f).toInt64)).toInt32) &&& 0x3f).toInt64) + (1 : Int64)))])
      refine Go.step (fun _ k => XS.lshr X21.here hx rfl (hb hby d5_65) rfl k) ?_
      show Go _ _ _ _ _ _ _ T21 (mkF m 66 #[.val (.double da), .second, .val (.long (da.toInt64)), .second, .val (.long (((da.toInt64) &&& (9218868437227405312 : Int64)) >>> ((52 : Int32) &&& 0x3f).toInt64)), .second, .val (.long ((1074 : Int64) - (((da.toInt64) &&& (9218868437227405312 : Int64)) >>> ((52 : Int32) &&& 0x3f).toInt64))), .second, .val (.long (((da.toInt64) &&& (4503599627370495 : Int64)) ||| (4503599627370496 : Int64))), .second] [(.long ((((((da.toInt64) &&& (4503599627370495 : Int64)) ||| (4503599627370496 : Int64)) >>> ((((1074 : Int64) - (((da.toInt64) &&& (9218868437227405312 : Int64)) >>> ((52 : Int32) &&& 0x3f).toInt64)).toInt32) &&& 0x3f).toInt64) + (1 : Int64)) >>> ((1 : Int32) &&& 0x3f).toInt64))])
      exact Go.retJ X21 hx hret hlk (hb hby d5_66) e21 (by decide) (by decide) ⟨(congrArg (fun z : Int64 => some (Value.long ((z + 1) >>> ((1 : Int32) &&& 0x3f).toInt64))) (k3 (mt k2.mpr hc48_23))), N0, rfl⟩
theorem d4_0 : decode prog_5_method_3_code 0 = .ok (.dload_n 1, 1) := by decide +kernel
theorem d4_1 : decode prog_5_method_3_code 1 = .ok (.invokestatic 47, 3) := by decide +kernel
theorem d4_4 : decode prog_5_method_3_code 4 = .ok (.lstore_n 3, 1) := by decide +kernel
theorem d4_5 : decode prog_5_method_3_code 5 = .ok (.aload_n 0, 1) := by decide +kernel
theorem d4_6 : decode prog_5_method_3_code 6 = .ok (.getfield 32, 3) := by decide +kernel
theorem d4_9 : decode prog_5_method_3_code 9 = .ok (.i2l, 1) := by decide +kernel
theorem d4_10 : decode prog_5_method_3_code 10 = .ok (.aload_n 0, 1) := by decide +kernel
theorem d4_11 : decode prog_5_method_3_code 11 = .ok (.getfield 36, 3) := by decide +kernel
theorem d4_14 : decode prog_5_method_3_code 14 = .ok (.i2l, 1) := by decide +kernel
theorem d4_15 : decode prog_5_method_3_code 15 = .ok (.lload_n 3, 1) := by decide +kernel
theorem d4_16 : decode prog_5_method_3_code 16 = .ok (.invokestatic 53, 3) := by decide +kernel
theorem d4_19 : decode prog_5_method_3_code 19 = .ok (.invokestatic 57, 3) := by decide +kernel
theorem d4_22 : decode prog_5_method_3_code 22 = .ok (.l2i, 1) := by decide +kernel
theorem d4_23 : decode prog_5_method_3_code 23 = .ok (.ireturn, 1) := by decide +kernel
theorem pd__JJ_J : parseMethodDescriptor "(JJ)J" = some ⟨[.long, .long], some .long⟩ := by decide +kernel
theorem ef_rmBd (m : MethodId) (ao : Addr) (da : UInt64) : entryFrame m #[(.ref ao), (.double da)] 5 = mkF m 0 #[.val (.ref ao), .val (.double da), .second, .unset, .unset] [] := by first | (simp [entryFrame, mkF, argsToLocals, Value.category]; done) | rfl
def Q_rmBd (Z : State) (ao : Addr) (da : UInt64) (mn : Int32) (mx : Int32) (xx : Int64) (h0 : Heap) (n0 : Nat) (v : Option Value) (h : Heap) (L : List Loc) : Prop := (v = some (.int ((own_max (mn.toInt64) (own_min (mx.toInt64) ((xx + (1 : Int64)) >>> ((1 : Int32) &&& 0x3f).toInt64))).toInt32))) ∧ (Fr n0 L) ∧ (h = h0)
set_option maxRecDepth 65536 in
set_option maxHeartbeats 40000000 in
theorem rmBd (l : Launch) (Z : State) (a0 : Array Value) (hw : ∀ d ∈ tables_1, d.before a0 Z = true) (ws : List Jvm.Cond) (ao : Addr) (da : UInt64) (mn : Int32) (mx : Int32) (xx : Int64) (h0 : Heap) (n0 : Nat) (Z0 : n0 ≤ h0.size) (G2 : Fld Z h0 ao "com/example/moving_ceiling/movingceiling/LimitFormula" "minLimit" "I" (.int mn)) (G3 : Fld Z h0 ao "com/example/moving_ceiling/movingceiling/LimitFormula" "maxLimit" "I" (.int mx)) (hda : da = FP.ddiv (FP.l2d xx) 4611686018427387904) (hxx : -9007199254740992 ≤ xx.toInt ∧ xx.toInt < 9007199254740992) :
    MetFree l (⟨"com/example/moving_ceiling/movingceiling/LimitFormula", "bounded", "(D)I"⟩ : MethodName) (head1 (Jvm.Cond.code (⟨"com/example/moving_ceiling/movingceiling/LimitFormula", "bounded", "(D)I"⟩ : MethodName) prog_5_method_3_code 5 (some .int) :: ws) ({ frames := 2, cells := 0, slots := 0, locals := 36 } : Room)) (fun aA U => aA = #[(.ref ao), (.double da)] ∧ Z.Warmed39 U.vm ∧ U.heap = h0) (fun _ _ _ _ _ => True) (fun _ U o U' => ∃ v L, o = .returned v ∧ Q_rmBd Z ao da mn mx xx h0 n0 v U'.heap L ∧ FrameEnd U o U' L ({ frames := 2, cells := 0, slots := 0, locals := 36 } : Room).cells ({ frames := 2, cells := 0, slots := 0, locals := 36 } : Room).slots) := by
  refine MetFree.of_bodySF (plainFor_of_name pn_com_example_moving_ceiling_movingceiling_LimitFormula) hisR ?_
  intro p e s m args below meth c s₁ Bd hml0 hP hK
  obtain ⟨rfl, hZ, hh⟩ := hP
  have hx := Bd.exec
  have hby := Bd.bytes
  have hml : c.maxLocals = 5 := hml0
  have hown : s.vm.findClass "com/example/moving_ceiling/movingceiling/LimitFormula" = some m.cls := findClass_of_methodNamed Bd.named
  have hnm := (name_of_methodNamed Bd.named Bd.method).1
  have hret := Bd.returns
  have hlk : meth.locks = false := BodyLoose.notSynchronized Bd
  have X0 : Stand p l e ({ frames := 2, cells := 0, slots := 0, locals := 36 } : Room) s m #[(.ref ao), (.double da)] below meth c s₁ [] 0 0 := Stand.of_body Bd
  have e0 : s₁.heap = h0 := by rw [← hh, Bd.state]; rfl
  have N0 := Fr.nil n0
  suffices hgo : Go p e below s ({ frames := 2, cells := 0, slots := 0, locals := 36 } : Room).cells ({ frames := 2, cells := 0, slots := 0, locals := 36 } : Room).slots (Q_rmBd Z ao da mn mx xx h0 n0) s₁ (mkF m 0 #[.val (.ref ao), .val (.double da), .second, .unset, .unset] []) from hgo.enter (ef_rmBd m ao da)
  refine Go.step (fun _ k => XS.dloadN X0.here hx rfl (hb hby d4_0) rfl k) ?_
  show Go _ _ _ _ _ _ _ s₁ (mkF m 1 #[.val (.ref ao), .val (.double da), .second, .unset, .unset] [(.double da)])
  obtain ⟨_, _, ⟨T24, L24, k24, n24⟩, -, X24, ⟨Lc24, hQ24, l24, y24, z24⟩, st24⟩ := Jvm.LawKit.callS X0 hx (y := (⟨"java/lang/Math", "round", "(D)J"⟩ : MethodName)) hown (mvT hZ (hw _ (List.mem_of_getElem? (i := 28) rfl))) (mvT hZ (hw _ (List.mem_of_getElem? (i := 29) rfl))) (mvT hZ (hw _ (List.mem_of_getElem? (i := 30) rfl))) (mvT hZ (hw _ (List.mem_of_getElem? (i := 31) rfl))) (by decide) (backOf (W := 0) (rmRd l Z a0 hw [] da xx h0 n0 Z0 hda hxx) hZ (hw _ (List.mem_of_getElem? (i := 31) rfl)) (hw _ (List.mem_of_getElem? (i := 30) rfl)) (by decide) (by decide)) (g := (mkF m 1 #[.val (.ref ao), .val (.double da), .second, .unset, .unset] [(.double da)])) rfl (by rw [hml]; rfl) (argsL := [(.double da)]) (rest := []) (lenOf pd__D_J rfl) rfl (by show 2 * 0 + _ ≤ _; exact Nat.le_of_eq rfl) (hb hby d4_1) (fun _ _ => ⟨rfl, e0, (by decide : 0 + 0 ≤ _), (by decide : 0 + 0 ≤ _)⟩)
  dsimp only [Pt.U, Pt.locs, Pt.cells, Pt.slots] at X24 l24 y24 z24 st24 hQ24
  subst l24 y24 z24
  obtain ⟨h24, e24⟩ : ∃ h, T24.heap = h := ⟨_, rfl⟩
  rw [e24] at hQ24
  obtain ⟨rfl, Nq24, hs24⟩ := hQ24
  have N24 := Fr.app N0 Nq24
  rw [hs24] at e24
  refine Go.step st24 ?_
  show Go _ _ _ _ _ _ _ T24 (mkF m 4 #[.val (.ref ao), .val (.double da), .second, .unset, .unset] [(.long ((xx + (1 : Int64)) >>> ((1 : Int32) &&& 0x3f).toInt64))])
  refine Go.step (fun _ k => XS.lstoreN X24.here hx rfl (hb hby d4_4) rfl (l' := #[.val (.ref ao), .val (.double da), .second, .val (.long ((xx + (1 : Int64)) >>> ((1 : Int32) &&& 0x3f).toInt64)), .second]) rfl k) ?_
  show Go _ _ _ _ _ _ _ T24 (mkF m 5 #[.val (.ref ao), .val (.double da), .second, .val (.long ((xx + (1 : Int64)) >>> ((1 : Int32) &&& 0x3f).toInt64)), .second] [])
  refine Go.step (fun _ k => XS.aloadN X24.here hx rfl (hb hby d4_5) rfl rfl k) ?_
  show Go _ _ _ _ _ _ _ T24 (mkF m 6 #[.val (.ref ao), .val (.double da), .second, .val (.long ((xx + (1 : Int64)) >>> ((1 : Int32) &&& 0x3f).toInt64)), .second] [(.ref ao)])
  obtain ⟨T25, X25, e25, st25⟩ := getF X24 hx hZ hown (host := "") (Or.inl (hw _ (List.mem_of_getElem? (i := 19) rfl))) Via.refl e24 G2 (g := (mkF m 6 #[.val (.ref ao), .val (.double da), .second, .val (.long ((xx + (1 : Int64)) >>> ((1 : Int32) &&& 0x3f).toInt64)), .second] [(.ref ao)])) rfl rfl (hb hby d4_6)
  refine Go.step st25 ?_
  show Go _ _ _ _ _ _ _ T25 (mkF m 9 #[.val (.ref ao), .val (.double da), .second, .val (.long ((xx + (1 : Int64)) >>> ((1 : Int32) &&& 0x3f).toInt64)), .second] [(.int mn)])
  refine Go.step (fun _ k => XS.i2l X25.here hx rfl (hb hby d4_9) rfl k) ?_
  show Go _ _ _ _ _ _ _ T25 (mkF m 10 #[.val (.ref ao), .val (.double da), .second, .val (.long ((xx + (1 : Int64)) >>> ((1 : Int32) &&& 0x3f).toInt64)), .second] [(.long (mn.toInt64))])
  refine Go.step (fun _ k => XS.aloadN X25.here hx rfl (hb hby d4_10) rfl rfl k) ?_
  show Go _ _ _ _ _ _ _ T25 (mkF m 11 #[.val (.ref ao), .val (.double da), .second, .val (.long ((xx + (1 : Int64)) >>> ((1 : Int32) &&& 0x3f).toInt64)), .second] [(.ref ao), (.long (mn.toInt64))])
  obtain ⟨T26, X26, e26, st26⟩ := getF X25 hx hZ hown (host := "") (Or.inl (hw _ (List.mem_of_getElem? (i := 21) rfl))) Via.refl e25 G3 (g := (mkF m 11 #[.val (.ref ao), .val (.double da), .second, .val (.long ((xx + (1 : Int64)) >>> ((1 : Int32) &&& 0x3f).toInt64)), .second] [(.ref ao), (.long (mn.toInt64))])) rfl rfl (hb hby d4_11)
  refine Go.step st26 ?_
  show Go _ _ _ _ _ _ _ T26 (mkF m 14 #[.val (.ref ao), .val (.double da), .second, .val (.long ((xx + (1 : Int64)) >>> ((1 : Int32) &&& 0x3f).toInt64)), .second] [(.int mx), (.long (mn.toInt64))])
  refine Go.step (fun _ k => XS.i2l X26.here hx rfl (hb hby d4_14) rfl k) ?_
  show Go _ _ _ _ _ _ _ T26 (mkF m 15 #[.val (.ref ao), .val (.double da), .second, .val (.long ((xx + (1 : Int64)) >>> ((1 : Int32) &&& 0x3f).toInt64)), .second] [(.long (mx.toInt64)), (.long (mn.toInt64))])
  refine Go.step (fun _ k => XS.lloadN X26.here hx rfl (hb hby d4_15) rfl k) ?_
  show Go _ _ _ _ _ _ _ T26 (mkF m 16 #[.val (.ref ao), .val (.double da), .second, .val (.long ((xx + (1 : Int64)) >>> ((1 : Int32) &&& 0x3f).toInt64)), .second] [(.long ((xx + (1 : Int64)) >>> ((1 : Int32) &&& 0x3f).toInt64)), (.long (mx.toInt64)), (.long (mn.toInt64))])
  obtain ⟨_, _, ⟨T27, L27, k27, n27⟩, -, X27, ⟨Lc27, hQ27, l27, y27, z27⟩, st27⟩ := Jvm.LawKit.callS X26 hx (y := (⟨"java/lang/Math", "min", "(JJ)J"⟩ : MethodName)) hown (mvT hZ (hw _ (List.mem_of_getElem? (i := 41) rfl))) (mvT hZ (hw _ (List.mem_of_getElem? (i := 42) rfl))) (mvT hZ (hw _ (List.mem_of_getElem? (i := 30) rfl))) (mvT hZ (hw _ (List.mem_of_getElem? (i := 43) rfl))) (by decide) (backOf (W := 2) (rmMi l Z a0 hw [] (mx.toInt64) ((xx + (1 : Int64)) >>> ((1 : Int32) &&& 0x3f).toInt64) h0 n0 Z0 ) hZ (hw _ (List.mem_of_getElem? (i := 43) rfl)) (hw _ (List.mem_of_getElem? (i := 30) rfl)) (by decide) (by decide)) (g := (mkF m 16 #[.val (.ref ao), .val (.double da), .second, .val (.long ((xx + (1 : Int64)) >>> ((1 : Int32) &&& 0x3f).toInt64)), .second] [(.long ((xx + (1 : Int64)) >>> ((1 : Int32) &&& 0x3f).toInt64)), (.long (mx.toInt64)), (.long (mn.toInt64))])) rfl (by rw [hml]; rfl) (argsL := [(.long (mx.toInt64)), (.long ((xx + (1 : Int64)) >>> ((1 : Int32) &&& 0x3f).toInt64))]) (rest := [(.long (mn.toInt64))]) (lenOf pd__JJ_J rfl) rfl (by show 2 * 0 + _ ≤ _; exact Nat.le_of_eq rfl) (hb hby d4_16) (fun _ _ => ⟨rfl, e26, (by decide : 0 + 0 ≤ _), (by decide : 0 + 0 ≤ _)⟩)
  dsimp only [Pt.U, Pt.locs, Pt.cells, Pt.slots] at X27 l27 y27 z27 st27 hQ27
  subst l27 y27 z27
  obtain ⟨h27, e27⟩ : ∃ h, T27.heap = h := ⟨_, rfl⟩
  rw [e27] at hQ27
  obtain ⟨rfl, Nq27, hs27⟩ := hQ27
  have N27 := Fr.app N24 Nq27
  rw [hs27] at e27
  refine Go.step st27 ?_
  show Go _ _ _ _ _ _ _ T27 (mkF m 19 #[.val (.ref ao), .val (.double da), .second, .val (.long ((xx + (1 : Int64)) >>> ((1 : Int32) &&& 0x3f).toInt64)), .second] [(.long (own_min (mx.toInt64) ((xx + (1 : Int64)) >>> ((1 : Int32) &&& 0x3f).toInt64))), (.long (mn.toInt64))])
  obtain ⟨_, _, ⟨T28, L28, k28, n28⟩, -, X28, ⟨Lc28, hQ28, l28, y28, z28⟩, st28⟩ := Jvm.LawKit.callS X27 hx (y := (⟨"java/lang/Math", "max", "(JJ)J"⟩ : MethodName)) hown (mvT hZ (hw _ (List.mem_of_getElem? (i := 44) rfl))) (mvT hZ (hw _ (List.mem_of_getElem? (i := 45) rfl))) (mvT hZ (hw _ (List.mem_of_getElem? (i := 30) rfl))) (mvT hZ (hw _ (List.mem_of_getElem? (i := 46) rfl))) (by decide) (backOf (W := 0) (rmMa l Z a0 hw [] (mn.toInt64) (own_min (mx.toInt64) ((xx + (1 : Int64)) >>> ((1 : Int32) &&& 0x3f).toInt64)) h0 n0 Z0 ) hZ (hw _ (List.mem_of_getElem? (i := 46) rfl)) (hw _ (List.mem_of_getElem? (i := 30) rfl)) (by decide) (by decide)) (g := (mkF m 19 #[.val (.ref ao), .val (.double da), .second, .val (.long ((xx + (1 : Int64)) >>> ((1 : Int32) &&& 0x3f).toInt64)), .second] [(.long (own_min (mx.toInt64) ((xx + (1 : Int64)) >>> ((1 : Int32) &&& 0x3f).toInt64))), (.long (mn.toInt64))])) rfl (by rw [hml]; rfl) (argsL := [(.long (mn.toInt64)), (.long (own_min (mx.toInt64) ((xx + (1 : Int64)) >>> ((1 : Int32) &&& 0x3f).toInt64)))]) (rest := []) (lenOf pd__JJ_J rfl) rfl (by show 2 * 0 + _ ≤ _; exact Nat.le_of_eq rfl) (hb hby d4_19) (fun _ _ => ⟨rfl, e27, (by decide : 0 + 0 ≤ _), (by decide : 0 + 0 ≤ _)⟩)
  dsimp only [Pt.U, Pt.locs, Pt.cells, Pt.slots] at X28 l28 y28 z28 st28 hQ28
  subst l28 y28 z28
  obtain ⟨h28, e28⟩ : ∃ h, T28.heap = h := ⟨_, rfl⟩
  rw [e28] at hQ28
  obtain ⟨rfl, Nq28, hs28⟩ := hQ28
  have N28 := Fr.app N27 Nq28
  rw [hs28] at e28
  refine Go.step st28 ?_
  show Go _ _ _ _ _ _ _ T28 (mkF m 22 #[.val (.ref ao), .val (.double da), .second, .val (.long ((xx + (1 : Int64)) >>> ((1 : Int32) &&& 0x3f).toInt64)), .second] [(.long (own_max (mn.toInt64) (own_min (mx.toInt64) ((xx + (1 : Int64)) >>> ((1 : Int32) &&& 0x3f).toInt64))))])
  refine Go.step (fun _ k => XS.l2i X28.here hx rfl (hb hby d4_22) rfl k) ?_
  show Go _ _ _ _ _ _ _ T28 (mkF m 23 #[.val (.ref ao), .val (.double da), .second, .val (.long ((xx + (1 : Int64)) >>> ((1 : Int32) &&& 0x3f).toInt64)), .second] [(.int ((own_max (mn.toInt64) (own_min (mx.toInt64) ((xx + (1 : Int64)) >>> ((1 : Int32) &&& 0x3f).toInt64))).toInt32))])
  exact Go.retI X28 hx hret hlk (hb hby d4_23) e28 (by decide) (by decide) ⟨rfl, N28, rfl⟩
theorem pd__DII_V : parseMethodDescriptor "(DII)V" = some ⟨[.double, .int, .int], none⟩ := by decide +kernel
theorem pd__D_I : parseMethodDescriptor "(D)I" = some ⟨[.double], some .int⟩ := by decide +kernel
theorem pn_com_example_moving_ceiling_movingceiling_LimitFormulaBoundedPinLaw : plainName "com/example/moving_ceiling/movingceiling/LimitFormulaBoundedPinLaw" = true := by first | (simp [plainName, overriddenIn]; done) | decide +kernel
theorem ef_rm0 (m : MethodId) (ia : Int32) (ip : Int32) (iq : Int32) (jr : Int64) : entryFrame m #[(.int ia), (.int ip), (.int iq), (.long jr)] maxLocals = mkF m 0 #[.val (.int ia), .val (.int ip), .val (.int iq), .val (.long jr), .second, .unset, .unset, .unset, .unset, .unset, .unset, .unset, .unset, .unset, .unset] [] := by first | (simp [entryFrame, mkF, argsToLocals, Value.category, maxLocals]; done) | rfl
theorem own_ar1 (mn : Int32) (hh0 : 1 ≤ mn.toInt) : (((2147483647 : Int32) - mn) + (1 : Int32)) ≠ 0 := by have : (2147483647 : Int32).toInt = 2147483647 := rfl; have := rng32 mn; have := rng32 ((2147483647 : Int32) - mn); have := c_isub (2147483647 : Int32) mn; have : (1 : Int32).toInt = 1 := rfl; have := rng32 (((2147483647 : Int32) - mn) + (1 : Int32)); have := c_iadd ((2147483647 : Int32) - mn) (1 : Int32); have : (0 : Int32).toInt = 0 := rfl; intro q; rw [← Int32.toInt_inj] at q; omega
theorem own_ar2 (mn : Int32) (iq : Int32) (hh0 : 1 ≤ mn.toInt) : mn.toInt ≤ (mn + ((iq &&& (2147483647 : Int32)) % (((2147483647 : Int32) - mn) + (1 : Int32)))).toInt := by have := rng32 mn; have := rng32 iq; have : (2147483647 : Int32).toInt = 2147483647 := rfl; have := rng32 (iq &&& (2147483647 : Int32)); have := c_mask iq (2147483647 : Int32) 31 (by decide) (by decide); have := rng32 ((2147483647 : Int32) - mn); have := c_isub (2147483647 : Int32) mn; have : (1 : Int32).toInt = 1 := rfl; have := rng32 (((2147483647 : Int32) - mn) + (1 : Int32)); have := c_iadd ((2147483647 : Int32) - mn) (1 : Int32); have := rng32 ((iq &&& (2147483647 : Int32)) % (((2147483647 : Int32) - mn) + (1 : Int32))); have := c_iremV (iq &&& (2147483647 : Int32)) (((2147483647 : Int32) - mn) + (1 : Int32)); have := rng32 (mn + ((iq &&& (2147483647 : Int32)) % (((2147483647 : Int32) - mn) + (1 : Int32)))); have := c_iadd mn ((iq &&& (2147483647 : Int32)) % (((2147483647 : Int32) - mn) + (1 : Int32))); omega
theorem own_ar3 (jr : Int64) : -9007199254740992 ≤ ((jr <<< ((10 : Int32) &&& 0x3f).toInt64) >>> ((10 : Int32) &&& 0x3f).toInt64).toInt ∧ ((jr <<< ((10 : Int32) &&& 0x3f).toInt64) >>> ((10 : Int32) &&& 0x3f).toInt64).toInt < 9007199254740992 := by have := rng64 jr; have : (10 : Int32).toInt = 10 := rfl; have := rng64 (jr <<< ((10 : Int32) &&& 0x3f).toInt64); have := c_lshl jr (10 : Int32) 10 (by decide); have := rng64 ((jr <<< ((10 : Int32) &&& 0x3f).toInt64) >>> ((10 : Int32) &&& 0x3f).toInt64); have := c_lshr (jr <<< ((10 : Int32) &&& 0x3f).toInt64) (10 : Int32) 10 (by decide); omega
theorem own_ar4 (ia : Int32) : 0 ≤ (ia &&& (7 : Int32)).toInt := by have := rng32 ia; have : (7 : Int32).toInt = 7 := rfl; have := rng32 (ia &&& (7 : Int32)); have := c_mask ia (7 : Int32) 3 (by decide) (by decide); omega
theorem own_ar5 (mn : Int32) (hh0 : 1 ≤ mn.toInt) : ¬ (mn < (1 : Int32)) := by have := rng32 mn; have : (1 : Int32).toInt = 1 := rfl; simp only [Int32.lt_iff_toInt_lt, Int32.le_iff_toInt_le, ← Int32.toInt_inj, Int64.lt_iff_toInt_lt, Int64.le_iff_toInt_le, ← Int64.toInt_inj] at hh0 ⊢; omega
theorem own_ar6 (mn : Int32) (mx : Int32) (hh0 : mn.toInt ≤ mx.toInt) : ¬ (mx < mn) := by have := rng32 mn; have := rng32 mx; simp only [Int32.lt_iff_toInt_lt, Int32.le_iff_toInt_le, ← Int32.toInt_inj, Int64.lt_iff_toInt_lt, Int64.le_iff_toInt_le, ← Int64.toInt_inj] at hh0 ⊢; omega
theorem own_ar7 (ip : Int32) (hh0 : ¬ ((ip &&& (2147483647 : Int32)) = (0 : Int32))) : 1 ≤ (ip &&& (2147483647 : Int32)).toInt := by have := rng32 ip; have : (2147483647 : Int32).toInt = 2147483647 := rfl; have := rng32 (ip &&& (2147483647 : Int32)); have := c_mask ip (2147483647 : Int32) 31 (by decide) (by decide); have : (0 : Int32).toInt = 0 := rfl; simp only [Int32.lt_iff_toInt_lt, Int32.le_iff_toInt_le, ← Int32.toInt_inj, Int64.lt_iff_toInt_lt, Int64.le_iff_toInt_le, ← Int64.toInt_inj] at hh0 ; omega
def Q_rm0 (Z : State) (ia : Int32) (ip : Int32) (iq : Int32) (jr : Int64) (h0 : Heap) (n0 : Nat) (v : Option Value) (h : Heap) (L : List Loc) : Prop := (v = some (.int (1 : Int32))) ∧ (Fr n0 L) ∧ (True)
set_option maxRecDepth 65536 in
set_option maxHeartbeats 40000000 in
theorem rm0 (l : Launch) (Z : State) (a0 : Array Value) (hw : ∀ d ∈ tables_1, d.before a0 Z = true) (ws : List Jvm.Cond) (ia : Int32) (ip : Int32) (iq : Int32) (jr : Int64) (h0 : Heap) (n0 : Nat) (Z0 : n0 ≤ h0.size) :
    MetFree l x (head1 (Jvm.Cond.code x code maxLocals ret :: ws) room_1) (fun aA U => aA = #[(.int ia), (.int ip), (.int iq), (.long jr)] ∧ Z.Warmed39 U.vm ∧ U.heap = h0) (fun _ _ _ _ _ => True) (fun _ U o U' => ∃ v L, o = .returned v ∧ Q_rm0 Z ia ip iq jr h0 n0 v U'.heap L ∧ FrameEnd U o U' L room_1.cells room_1.slots) := by
  refine MetFree.of_bodySF (plainFor_of_name pn_com_example_moving_ceiling_movingceiling_LimitFormulaBoundedPinLaw) hisR ?_
  intro p e s m args below meth c s₁ Bd hml0 hP hK
  obtain ⟨rfl, hZ, hh⟩ := hP
  have hx := Bd.exec
  have hby := Bd.bytes
  have hml : c.maxLocals = 15 := hml0
  have hown : s.vm.findClass "com/example/moving_ceiling/movingceiling/LimitFormulaBoundedPinLaw" = some m.cls := findClass_of_methodNamed Bd.named
  have hnm := (name_of_methodNamed Bd.named Bd.method).1
  have hret := Bd.returns
  have hlk : meth.locks = false := BodyLoose.notSynchronized Bd
  have X0 : Stand p l e room_1 s m #[(.int ia), (.int ip), (.int iq), (.long jr)] below meth c s₁ [] 0 0 := Stand.of_body Bd
  have e0 : s₁.heap = h0 := by rw [← hh, Bd.state]; rfl
  have N0 := Fr.nil n0
  suffices hgo : Go p e below s room_1.cells room_1.slots (Q_rm0 Z ia ip iq jr h0 n0) s₁ (mkF m 0 #[.val (.int ia), .val (.int ip), .val (.int iq), .val (.long jr), .second, .unset, .unset, .unset, .unset, .unset, .unset, .unset, .unset, .unset, .unset] []) from hgo.enter (ef_rm0 m ia ip iq jr)
  refine Go.step (fun _ k => XS.iloadN X0.here hx rfl (hb hby at_0) rfl k) ?_
  refine Go.step (X0.ldcInt hx hown (mvT hZ (hw _ (List.mem_of_getElem? (i := 0) rfl))) (g := (mkF m 1 #[.val (.int ia), .val (.int ip), .val (.int iq), .val (.long jr), .second, .unset, .unset, .unset, .unset, .unset, .unset, .unset, .unset, .unset, .unset] [(.int ip)])) rfl (hb hby at_1)) ?_
  refine Go.step (fun _ k => XS.iand X0.here hx rfl (hb hby at_3) rfl k) ?_
  refine Go.step (fun _ k => XS.istore X0.here hx rfl (hb hby at_4) rfl (l' := #[.val (.int ia), .val (.int ip), .val (.int iq), .val (.long jr), .second, .val (.int (ip &&& (2147483647 : Int32))), .unset, .unset, .unset, .unset, .unset, .unset, .unset, .unset, .unset]) rfl k) ?_
  show Go _ _ _ _ _ _ _ s₁ (mkF m 6 #[.val (.int ia), .val (.int ip), .val (.int iq), .val (.long jr), .second, .val (.int (ip &&& (2147483647 : Int32))), .unset, .unset, .unset, .unset, .unset, .unset, .unset, .unset, .unset] [])
  have J : ∀ (TJ : State) (hJ : Heap) (LJ : List Loc) (mn : Int32), (Stand p l e room_1 s m #[(.int ia), (.int ip), (.int iq), (.long jr)] below meth c TJ LJ 0 0) → (TJ.heap = hJ) → (Fr n0 LJ) → (n0 ≤ hJ.size) → (1 ≤ mn.toInt) → Go p e below s room_1.cells room_1.slots (Q_rm0 Z ia ip iq jr h0 n0) TJ (mkF m 14 #[.val (.int ia), .val (.int ip), .val (.int iq), .val (.long jr), .second, .val (.int mn), .unset, .unset, .unset, .unset, .unset, .unset, .unset, .unset, .unset] []) := by
    intro TJ hJ LJ mn XJ eJ NJ ZJ  hmn
    refine Go.step (fun _ k => XS.iload XJ.here hx rfl (hb hby at_14) rfl k) ?_
    refine Go.step (fun _ k => XS.iloadN XJ.here hx rfl (hb hby at_16) rfl k) ?_
    refine Go.step (XJ.ldcInt hx hown (mvT hZ (hw _ (List.mem_of_getElem? (i := 0) rfl))) (g := (mkF m 17 #[.val (.int ia), .val (.int ip), .val (.int iq), .val (.long jr), .second, .val (.int mn), .unset, .unset, .unset, .unset, .unset, .unset, .unset, .unset, .unset] [(.int iq), (.int mn)])) rfl (hb hby at_17)) ?_
    refine Go.step (fun _ k => XS.iand XJ.here hx rfl (hb hby at_19) rfl k) ?_
    refine Go.step (XJ.ldcInt hx hown (mvT hZ (hw _ (List.mem_of_getElem? (i := 0) rfl))) (g := (mkF m 20 #[.val (.int ia), .val (.int ip), .val (.int iq), .val (.long jr), .second, .val (.int mn), .unset, .unset, .unset, .unset, .unset, .unset, .unset, .unset, .unset] [(.int (iq &&& (2147483647 : Int32))), (.int mn)])) rfl (hb hby at_20)) ?_
    refine Go.step (fun _ k => XS.iload XJ.here hx rfl (hb hby at_22) rfl k) ?_
    refine Go.step (fun _ k => XS.isub XJ.here hx rfl (hb hby at_24) rfl k) ?_
    refine Go.step (fun _ k => XS.iconst XJ.here hx rfl (hb hby at_25) k) ?_
    refine Go.step (fun _ k => XS.iadd XJ.here hx rfl (hb hby at_26) rfl k) ?_
    refine Go.step (fun _ k => iremM XJ hx rfl (hb hby at_27) rfl (own_ar1 mn hmn) k) ?_
    refine Go.step (fun _ k => XS.iadd XJ.here hx rfl (hb hby at_28) rfl k) ?_
    refine Go.step (fun _ k => XS.istore XJ.here hx rfl (hb hby at_29) rfl (l' := #[.val (.int ia), .val (.int ip), .val (.int iq), .val (.long jr), .second, .val (.int mn), .val (.int (mn + ((iq &&& (2147483647 : Int32)) % (((2147483647 : Int32) - mn) + (1 : Int32))))), .unset, .unset, .unset, .unset, .unset, .unset, .unset, .unset]) rfl k) ?_
    show Go _ _ _ _ _ _ _ TJ (mkF m 31 #[.val (.int ia), .val (.int ip), .val (.int iq), .val (.long jr), .second, .val (.int mn), .val (.int (mn + ((iq &&& (2147483647 : Int32)) % (((2147483647 : Int32) - mn) + (1 : Int32))))), .unset, .unset, .unset, .unset, .unset, .unset, .unset, .unset] [])
    have hmx : mn.toInt ≤ (mn + ((iq &&& (2147483647 : Int32)) % (((2147483647 : Int32) - mn) + (1 : Int32)))).toInt := (own_ar2 mn iq hmn)
    generalize (mn + ((iq &&& (2147483647 : Int32)) % (((2147483647 : Int32) - mn) + (1 : Int32)))) = mx at hmx ⊢
    show Go _ _ _ _ _ _ _ TJ (mkF m 31 #[.val (.int ia), .val (.int ip), .val (.int iq), .val (.long jr), .second, .val (.int mn), .val (.int mx), .unset, .unset, .unset, .unset, .unset, .unset, .unset, .unset] [])
    refine Go.step (fun _ k => XS.lloadN XJ.here hx rfl (hb hby at_31) rfl k) ?_
    refine Go.step (fun _ k => XS.bipush XJ.here hx rfl (hb hby at_32) k) ?_
    refine Go.step (fun _ k => XS.lshl XJ.here hx rfl (hb hby at_34) rfl k) ?_
    show Go _ _ _ _ _ _ _ TJ (mkF m 35 #[.val (.int ia), .val (.int ip), .val (.int iq), .val (.long jr), .second, .val (.int mn), .val (.int mx), .unset, .unset, .unset, .unset, .unset, .unset, .unset, .unset] [(.long (jr <<< ((10 : Int32) &&& 0x3f).toInt64))])
    refine Go.step (fun _ k => XS.bipush XJ.here hx rfl (hb hby at_35) k) ?_
    refine Go.step (fun _ k => XS.lshr XJ.here hx rfl (hb hby at_37) rfl k) ?_
    show Go _ _ _ _ _ _ _ TJ (mkF m 38 #[.val (.int ia), .val (.int ip), .val (.int iq), .val (.long jr), .second, .val (.int mn), .val (.int mx), .unset, .unset, .unset, .unset, .unset, .unset, .unset, .unset] [(.long ((jr <<< ((10 : Int32) &&& 0x3f).toInt64) >>> ((10 : Int32) &&& 0x3f).toInt64))])
    refine Go.step (fun _ k => XS.lstore XJ.here hx rfl (hb hby at_38) rfl (l' := #[.val (.int ia), .val (.int ip), .val (.int iq), .val (.long jr), .second, .val (.int mn), .val (.int mx), .val (.long ((jr <<< ((10 : Int32) &&& 0x3f).toInt64) >>> ((10 : Int32) &&& 0x3f).toInt64)), .second, .unset, .unset, .unset, .unset, .unset, .unset]) rfl k) ?_
    show Go _ _ _ _ _ _ _ TJ (mkF m 40 #[.val (.int ia), .val (.int ip), .val (.int iq), .val (.long jr), .second, .val (.int mn), .val (.int mx), .val (.long ((jr <<< ((10 : Int32) &&& 0x3f).toInt64) >>> ((10 : Int32) &&& 0x3f).toInt64)), .second, .unset, .unset, .unset, .unset, .unset, .unset] [])
    have hxx : -9007199254740992 ≤ ((jr <<< ((10 : Int32) &&& 0x3f).toInt64) >>> ((10 : Int32) &&& 0x3f).toInt64).toInt ∧ ((jr <<< ((10 : Int32) &&& 0x3f).toInt64) >>> ((10 : Int32) &&& 0x3f).toInt64).toInt < 9007199254740992 := (own_ar3 jr)
    generalize ((jr <<< ((10 : Int32) &&& 0x3f).toInt64) >>> ((10 : Int32) &&& 0x3f).toInt64) = xx at hxx ⊢
    show Go _ _ _ _ _ _ _ TJ (mkF m 40 #[.val (.int ia), .val (.int ip), .val (.int iq), .val (.long jr), .second, .val (.int mn), .val (.int mx), .val (.long xx), .second, .unset, .unset, .unset, .unset, .unset, .unset] [])
    refine Go.step (fun _ k => XS.lload XJ.here hx rfl (hb hby at_40) rfl k) ?_
    refine Go.step (fun _ k => XS.l2dS XJ.here hx rfl (hb hby at_42) rfl rfl k) ?_
    show Go _ _ _ _ _ _ _ TJ (mkF m 43 #[.val (.int ia), .val (.int ip), .val (.int iq), .val (.long jr), .second, .val (.int mn), .val (.int mx), .val (.long xx), .second, .unset, .unset, .unset, .unset, .unset, .unset] [(.double (FP.l2d xx))])
    refine Go.step (XJ.ldc2DoubleC hx hown (mvT hZ (hw _ (List.mem_of_getElem? (i := 1) rfl))) (g := (mkF m 43 #[.val (.int ia), .val (.int ip), .val (.int iq), .val (.long jr), .second, .val (.int mn), .val (.int mx), .val (.long xx), .second, .unset, .unset, .unset, .unset, .unset, .unset] [(.double (FP.l2d xx))])) rfl (hb hby at_43)) ?_
    show Go _ _ _ _ _ _ _ TJ (mkF m 46 #[.val (.int ia), .val (.int ip), .val (.int iq), .val (.long jr), .second, .val (.int mn), .val (.int mx), .val (.long xx), .second, .unset, .unset, .unset, .unset, .unset, .unset] [(.double (4611686018427387904 : UInt64)), (.double (FP.l2d xx))])
    refine Go.step (fun _ k => XS.ddivS XJ.here hx rfl (hb hby at_46) rfl (own_nn _) rfl k) ?_
    show Go _ _ _ _ _ _ _ TJ (mkF m 47 #[.val (.int ia), .val (.int ip), .val (.int iq), .val (.long jr), .second, .val (.int mn), .val (.int mx), .val (.long xx), .second, .unset, .unset, .unset, .unset, .unset, .unset] [(.double (FP.ddiv (FP.l2d xx) (4611686018427387904 : UInt64)))])
    refine Go.step (fun _ k => XS.dstore XJ.here hx rfl (hb hby at_47) rfl (l' := #[.val (.int ia), .val (.int ip), .val (.int iq), .val (.long jr), .second, .val (.int mn), .val (.int mx), .val (.long xx), .second, .val (.double (FP.ddiv (FP.l2d xx) (4611686018427387904 : UInt64))), .second, .unset, .unset, .unset, .unset]) rfl k) ?_
    show Go _ _ _ _ _ _ _ TJ (mkF m 49 #[.val (.int ia), .val (.int ip), .val (.int iq), .val (.long jr), .second, .val (.int mn), .val (.int mx), .val (.long xx), .second, .val (.double (FP.ddiv (FP.l2d xx) (4611686018427387904 : UInt64))), .second, .unset, .unset, .unset, .unset] [])
    obtain ⟨T29, h29, X29, e29, E29, A29, D29, -, st29⟩ := newO XJ hx hZ hown (hw _ (List.mem_of_getElem? (i := 2) rfl)) (hw _ (List.mem_of_getElem? (i := 3) rfl)) (hw _ (List.mem_of_getElem? (i := 4) rfl)) eJ (g := (mkF m 49 #[.val (.int ia), .val (.int ip), .val (.int iq), .val (.long jr), .second, .val (.int mn), .val (.int mx), .val (.long xx), .second, .val (.double (FP.ddiv (FP.l2d xx) (4611686018427387904 : UInt64))), .second, .unset, .unset, .unset, .unset] [])) rfl (hb hby at_49) (by decide) (by decide)
    obtain ⟨b29, g29⟩ : ∃ z, z = hJ.size := ⟨_, rfl⟩
    rw [← g29] at A29 D29 st29
    refine Go.step st29 ?_
    have g_b29 : n0 ≤ b29 := Nat.le_trans ZJ (Nat.le_of_eq g29.symm)
    have Z29 : n0 ≤ h29.size := Nat.le_trans ZJ E29.1
    have Falpha_29 : Fld Z h29 b29 "com/example/moving_ceiling/movingceiling/LimitFormula" "alpha" "D" (.double (0 : UInt64)) := D29 (Or.inr (hw _ (List.mem_of_getElem? (i := 18) rfl))) (ty := .double) (by decide)
    have FminLimit_29 : Fld Z h29 b29 "com/example/moving_ceiling/movingceiling/LimitFormula" "minLimit" "I" (.int (0 : Int32)) := D29 (Or.inr (hw _ (List.mem_of_getElem? (i := 20) rfl))) (ty := .int) (by decide)
    have FmaxLimit_29 : Fld Z h29 b29 "com/example/moving_ceiling/movingceiling/LimitFormula" "maxLimit" "I" (.int (0 : Int32)) := D29 (Or.inr (hw _ (List.mem_of_getElem? (i := 22) rfl))) (ty := .int) (by decide)
    show Go _ _ _ _ _ _ _ T29 (mkF m 52 #[.val (.int ia), .val (.int ip), .val (.int iq), .val (.long jr), .second, .val (.int mn), .val (.int mx), .val (.long xx), .second, .val (.double (FP.ddiv (FP.l2d xx) (4611686018427387904 : UInt64))), .second, .unset, .unset, .unset, .unset] [(.ref b29)])
    refine Go.step (fun _ k => XS.dup X29.here hx rfl (hb hby at_52) rfl rfl k) ?_
    refine Go.step (fun _ k => XS.iloadN X29.here hx rfl (hb hby at_53) rfl k) ?_
    refine Go.step (fun _ k => XS.bipush X29.here hx rfl (hb hby at_54) k) ?_
    refine Go.step (fun _ k => XS.iand X29.here hx rfl (hb hby at_56) rfl k) ?_
    refine Go.step (fun _ k => XS.i2dS X29.here hx rfl (hb hby at_57) rfl rfl k) ?_
    show Go _ _ _ _ _ _ _ T29 (mkF m 58 #[.val (.int ia), .val (.int ip), .val (.int iq), .val (.long jr), .second, .val (.int mn), .val (.int mx), .val (.long xx), .second, .val (.double (FP.ddiv (FP.l2d xx) (4611686018427387904 : UInt64))), .second, .unset, .unset, .unset, .unset] [(.double (FP.i2d (ia &&& (7 : Int32)))), (.ref b29), (.ref b29)])
    refine Go.step (fun _ k => XS.iload X29.here hx rfl (hb hby at_58) rfl k) ?_
    refine Go.step (fun _ k => XS.iload X29.here hx rfl (hb hby at_60) rfl k) ?_
    obtain ⟨_, _, ⟨T30, L30, k30, n30⟩, -, X30, ⟨Lc30, hQ30, l30, y30, z30⟩, st30⟩ := X29.specialBack hx (y := (⟨"com/example/moving_ceiling/movingceiling/LimitFormula", "<init>", "(DII)V"⟩ : MethodName)) rfl hown (mvT hZ (hw _ (List.mem_of_getElem? (i := 5) rfl))) (mvT hZ (hw _ (List.mem_of_getElem? (i := 6) rfl))) (mvT hZ (hw _ (List.mem_of_getElem? (i := 7) rfl))) (by decide) (backOf (W := 1) (rmIn l Z a0 hw [] b29 (FP.i2d (ia &&& (7 : Int32))) mn mx h29 n0 Z29 A29 g_b29 Falpha_29 FminLimit_29 FmaxLimit_29 (own_al1 _ (own_ar4 ia)) (own_al2 _) (own_ar5 mn hmn) (own_ar6 mn mx hmx)) hZ (hw _ (List.mem_of_getElem? (i := 7) rfl)) (hw _ (List.mem_of_getElem? (i := 4) rfl)) (by decide) (by decide)) (g := (mkF m 62 #[.val (.int ia), .val (.int ip), .val (.int iq), .val (.long jr), .second, .val (.int mn), .val (.int mx), .val (.long xx), .second, .val (.double (FP.ddiv (FP.l2d xx) (4611686018427387904 : UInt64))), .second, .unset, .unset, .unset, .unset] [(.int mx), (.int mn), (.double (FP.i2d (ia &&& (7 : Int32)))), (.ref b29), (.ref b29)])) rfl (by rw [hml]; rfl) (Steps.refl _) (a := b29) (argsL := [(.double (FP.i2d (ia &&& (7 : Int32)))), (.int mn), (.int mx)]) (rest := [(.ref b29)]) (lenOf pd__DII_V rfl) rfl (by show 2 * 0 + _ ≤ _; exact Nat.le_of_eq rfl) (hb hby at_62) (fun _ _ => ⟨rfl, e29, (by decide : 1 + 0 ≤ _), (by decide : 3 + 0 ≤ _)⟩)
    dsimp only [Pt.U, Pt.locs, Pt.cells, Pt.slots] at X30 l30 y30 z30 st30 hQ30
    subst l30 y30 z30
    obtain ⟨h30, e30⟩ : ∃ h, T30.heap = h := ⟨_, rfl⟩
    rw [e30] at hQ30
    obtain ⟨rfl, Nq30, Kq30, G2_30, G3_30⟩ := hQ30
    have N30 := Fr.app NJ Nq30
    have Z30 : n0 ≤ h30.size := Nat.le_trans Z29 Kq30.1
    refine Go.trans st30 ?_
    show Go _ _ _ _ _ _ _ T30 (mkF m 65 #[.val (.int ia), .val (.int ip), .val (.int iq), .val (.long jr), .second, .val (.int mn), .val (.int mx), .val (.long xx), .second, .val (.double (FP.ddiv (FP.l2d xx) (4611686018427387904 : UInt64))), .second, .unset, .unset, .unset, .unset] [(.ref b29)])
    refine Go.step (fun _ k => XS.astore X30.here hx rfl (hb hby at_65) rfl rfl (l' := #[.val (.int ia), .val (.int ip), .val (.int iq), .val (.long jr), .second, .val (.int mn), .val (.int mx), .val (.long xx), .second, .val (.double (FP.ddiv (FP.l2d xx) (4611686018427387904 : UInt64))), .second, .val (.ref b29), .unset, .unset, .unset]) rfl k) ?_
    show Go _ _ _ _ _ _ _ T30 (mkF m 67 #[.val (.int ia), .val (.int ip), .val (.int iq), .val (.long jr), .second, .val (.int mn), .val (.int mx), .val (.long xx), .second, .val (.double (FP.ddiv (FP.l2d xx) (4611686018427387904 : UInt64))), .second, .val (.ref b29), .unset, .unset, .unset] [])
    refine Go.step (fun _ k => XS.lload X30.here hx rfl (hb hby at_67) rfl k) ?_
    refine Go.step (fun _ k => XS.lconst X30.here hx rfl (hb hby at_69) k) ?_
    refine Go.step (fun _ k => XS.ladd X30.here hx rfl (hb hby at_70) rfl k) ?_
    refine Go.step (fun _ k => XS.iconst X30.here hx rfl (hb hby at_71) k) ?_
    refine Go.step (fun _ k => XS.lshr X30.here hx rfl (hb hby at_72) rfl k) ?_
    show Go _ _ _ _ _ _ _ T30 (mkF m 73 #[.val (.int ia), .val (.int ip), .val (.int iq), .val (.long jr), .second, .val (.int mn), .val (.int mx), .val (.long xx), .second, .val (.double (FP.ddiv (FP.l2d xx) (4611686018427387904 : UInt64))), .second, .val (.ref b29), .unset, .unset, .unset] [(.long ((xx + (1 : Int64)) >>> ((1 : Int32) &&& 0x3f).toInt64))])
    refine Go.step (fun _ k => XS.lstore X30.here hx rfl (hb hby at_73) rfl (l' := #[.val (.int ia), .val (.int ip), .val (.int iq), .val (.long jr), .second, .val (.int mn), .val (.int mx), .val (.long xx), .second, .val (.double (FP.ddiv (FP.l2d xx) (4611686018427387904 : UInt64))), .second, .val (.ref b29), .val (.long ((xx + (1 : Int64)) >>> ((1 : Int32) &&& 0x3f).toInt64)), .second, .unset]) rfl k) ?_
    show Go _ _ _ _ _ _ _ T30 (mkF m 75 #[.val (.int ia), .val (.int ip), .val (.int iq), .val (.long jr), .second, .val (.int mn), .val (.int mx), .val (.long xx), .second, .val (.double (FP.ddiv (FP.l2d xx) (4611686018427387904 : UInt64))), .second, .val (.ref b29), .val (.long ((xx + (1 : Int64)) >>> ((1 : Int32) &&& 0x3f).toInt64)), .second, .unset] [])
    refine Go.step (fun _ k => XS.lload X30.here hx rfl (hb hby at_75) rfl k) ?_
    refine Go.step (fun _ k => XS.iload X30.here hx rfl (hb hby at_77) rfl k) ?_
    refine Go.step (fun _ k => XS.i2l X30.here hx rfl (hb hby at_79) rfl k) ?_
    refine Go.step (fun _ k => XS.lcmp X30.here hx rfl (hb hby at_80) rfl k) ?_
    show Go _ _ _ _ _ _ _ T30 (mkF m 81 #[.val (.int ia), .val (.int ip), .val (.int iq), .val (.long jr), .second, .val (.int mn), .val (.int mx), .val (.long xx), .second, .val (.double (FP.ddiv (FP.l2d xx) (4611686018427387904 : UInt64))), .second, .val (.ref b29), .val (.long ((xx + (1 : Int64)) >>> ((1 : Int32) &&& 0x3f).toInt64)), .second, .unset] [(.int (lcmpW ((xx + (1 : Int64)) >>> ((1 : Int32) &&& 0x3f).toInt64) (mn.toInt64)))])
    by_cases hc81_31 : ((xx + (1 : Int64)) >>> ((1 : Int32) &&& 0x3f).toInt64) < (mn.toInt64)
    · refine Go.step (fun _ k => XS.ifNo X30.here hx rfl (hb hby at_81) rfl ((if0 _ _).trans (tlt ((lw_lt _ _).mpr hc81_31)).2.1) k) ?_
      show Go _ _ _ _ _ _ _ T30 (mkF m 84 #[.val (.int ia), .val (.int ip), .val (.int iq), .val (.long jr), .second, .val (.int mn), .val (.int mx), .val (.long xx), .second, .val (.double (FP.ddiv (FP.l2d xx) (4611686018427387904 : UInt64))), .second, .val (.ref b29), .val (.long ((xx + (1 : Int64)) >>> ((1 : Int32) &&& 0x3f).toInt64)), .second, .unset] [])
      refine Go.step (fun _ k => XS.iload X30.here hx rfl (hb hby at_84) rfl k) ?_
      refine Go.step (fun _ k => XS.istore X30.here hx rfl (hb hby at_86) rfl (l' := #[.val (.int ia), .val (.int ip), .val (.int iq), .val (.long jr), .second, .val (.int mn), .val (.int mx), .val (.long xx), .second, .val (.double (FP.ddiv (FP.l2d xx) (4611686018427387904 : UInt64))), .second, .val (.ref b29), .val (.long ((xx + (1 : Int64)) >>> ((1 : Int32) &&& 0x3f).toInt64)), .second, .val (.int mn)]) rfl k) ?_
      show Go _ _ _ _ _ _ _ T30 (mkF m 88 #[.val (.int ia), .val (.int ip), .val (.int iq), .val (.long jr), .second, .val (.int mn), .val (.int mx), .val (.long xx), .second, .val (.double (FP.ddiv (FP.l2d xx) (4611686018427387904 : UInt64))), .second, .val (.ref b29), .val (.long ((xx + (1 : Int64)) >>> ((1 : Int32) &&& 0x3f).toInt64)), .second, .val (.int mn)] [])
      refine Go.step (fun _ k => XS.goto X30.here hx rfl (pc0 := 88) (pc' := 112) rfl (hb hby at_88) (by decide) (by decide) k) ?_
      show Go _ _ _ _ _ _ _ T30 (mkF m 112 #[.val (.int ia), .val (.int ip), .val (.int iq), .val (.long jr), .second, .val (.int mn), .val (.int mx), .val (.long xx), .second, .val (.double (FP.ddiv (FP.l2d xx) (4611686018427387904 : UInt64))), .second, .val (.ref b29), .val (.long ((xx + (1 : Int64)) >>> ((1 : Int32) &&& 0x3f).toInt64)), .second, .val (.int mn)] [])
      refine Go.step (fun _ k => XS.aload X30.here hx rfl (hb hby at_112) rfl rfl k) ?_
      refine Go.step (fun _ k => XS.dload X30.here hx rfl (hb hby at_114) rfl k) ?_
      have f33 : Exa Z h30 b29 "com/example/moving_ceiling/movingceiling/LimitFormula" := (A29.keep Kq30)
      obtain ⟨cq32, kq32, q32a, q32b, q32c⟩ := isOf hZ e30 f33
      obtain ⟨_, _, ⟨T32, L32, k32, n32⟩, -, X32, ⟨Lc32, hQ32, l32, y32, z32⟩, st32⟩ := X30.virtualBack hx (y := (⟨"com/example/moving_ceiling/movingceiling/LimitFormula", "bounded", "(D)I"⟩ : MethodName)) (z := (⟨"com/example/moving_ceiling/movingceiling/LimitFormula", "bounded", "(D)I"⟩ : MethodName)) hown (mvT hZ (hw _ (List.mem_of_getElem? (i := 23) rfl))) (mvT hZ (hw _ (List.mem_of_getElem? (i := 24) rfl))) (notFace_of_selects (args := #[]) (mvT hZ (hw _ (List.mem_of_getElem? (i := 26) rfl)))) (mvT hZ (hw _ (List.mem_of_getElem? (i := 26) rfl))) (mvT hZ (hw _ (List.mem_of_getElem? (i := 25) rfl))) (by decide) (backOf (W := 0) (rmBd l Z a0 hw [] b29 (FP.ddiv (FP.l2d xx) (4611686018427387904 : UInt64)) mn mx xx h30 n0 Z30 G2_30 G3_30 rfl hxx) hZ (hw _ (List.mem_of_getElem? (i := 27) rfl)) (hw _ (List.mem_of_getElem? (i := 4) rfl)) (by decide) (by decide)) q32a q32c (g := (mkF m 116 #[.val (.int ia), .val (.int ip), .val (.int iq), .val (.long jr), .second, .val (.int mn), .val (.int mx), .val (.long xx), .second, .val (.double (FP.ddiv (FP.l2d xx) (4611686018427387904 : UInt64))), .second, .val (.ref b29), .val (.long ((xx + (1 : Int64)) >>> ((1 : Int32) &&& 0x3f).toInt64)), .second, .val (.int mn)] [(.double (FP.ddiv (FP.l2d xx) (4611686018427387904 : UInt64))), (.ref b29)])) rfl (by rw [hml]; rfl) (Steps.refl _) (argsL := [(.double (FP.ddiv (FP.l2d xx) (4611686018427387904 : UInt64)))]) (rest := []) (lenOf pd__D_I rfl) rfl (by show 2 * 0 + _ ≤ _; exact Nat.le_of_eq rfl) (hb hby at_116) (fun _ _ => ⟨rfl, e30, (by decide : 1 + 0 ≤ _), (by decide : 3 + 0 ≤ _)⟩)
      dsimp only [Pt.U, Pt.locs, Pt.cells, Pt.slots] at X32 l32 y32 z32 st32 hQ32
      subst l32 y32 z32
      obtain ⟨h32, e32⟩ : ∃ h, T32.heap = h := ⟨_, rfl⟩
      rw [e32] at hQ32
      obtain ⟨rfl, Nq32, hs32⟩ := hQ32
      have N32 := Fr.app N30 Nq32
      rw [hs32] at e32
      refine Go.trans st32 ?_
      show Go _ _ _ _ _ _ _ T32 (mkF m 119 #[.val (.int ia), .val (.int ip), .val (.int iq), .val (.long jr), .second, .val (.int mn), .val (.int mx), .val (.long xx), .second, .val (.double (FP.ddiv (FP.l2d xx) (4611686018427387904 : UInt64))), .second, .val (.ref b29), .val (.long ((xx + (1 : Int64)) >>> ((1 : Int32) &&& 0x3f).toInt64)), .second, .val (.int mn)] [(.int ((own_max (mn.toInt64) (own_min (mx.toInt64) ((xx + (1 : Int64)) >>> ((1 : Int32) &&& 0x3f).toInt64))).toInt32))])
      refine Go.step (fun _ k => XS.iload X32.here hx rfl (hb hby at_119) rfl k) ?_
      have hc121_34 : ((own_max (mn.toInt64) (own_min (mx.toInt64) ((xx + (1 : Int64)) >>> ((1 : Int32) &&& 0x3f).toInt64))).toInt32) = mn := (own_bA hmx hc81_31)
      refine Go.step (fun _ k => XS.icmpNo X32.here hx rfl (hb hby at_121) rfl (teq hc121_34).2 k) ?_
      show Go _ _ _ _ _ _ _ T32 (mkF m 124 #[.val (.int ia), .val (.int ip), .val (.int iq), .val (.long jr), .second, .val (.int mn), .val (.int mx), .val (.long xx), .second, .val (.double (FP.ddiv (FP.l2d xx) (4611686018427387904 : UInt64))), .second, .val (.ref b29), .val (.long ((xx + (1 : Int64)) >>> ((1 : Int32) &&& 0x3f).toInt64)), .second, .val (.int mn)] [])
      refine Go.step (fun _ k => XS.iconst X32.here hx rfl (hb hby at_124) k) ?_
      refine Go.step (fun _ k => XS.goto X32.here hx rfl (pc0 := 125) (pc' := 129) rfl (hb hby at_125) (by decide) (by decide) k) ?_
      show Go _ _ _ _ _ _ _ T32 (mkF m 129 #[.val (.int ia), .val (.int ip), .val (.int iq), .val (.long jr), .second, .val (.int mn), .val (.int mx), .val (.long xx), .second, .val (.double (FP.ddiv (FP.l2d xx) (4611686018427387904 : UInt64))), .second, .val (.ref b29), .val (.long ((xx + (1 : Int64)) >>> ((1 : Int32) &&& 0x3f).toInt64)), .second, .val (.int mn)] [(.int (1 : Int32))])
      exact Go.retN X32 hx (t := .boolean) hret hlk (by simp) (hb hby at_129) e32 (by decide) (by decide) ⟨rfl, N32, trivial⟩
    · refine Go.step (fun _ k => XS.ifYes X30.here hx rfl (pc0 := 81) (pc' := 91) rfl (hb hby at_81) rfl ((if0 _ _).trans (flt (mt (lw_lt _ _).mp hc81_31)).2.1) (by decide) (by decide) k) ?_
      show Go _ _ _ _ _ _ _ T30 (mkF m 91 #[.val (.int ia), .val (.int ip), .val (.int iq), .val (.long jr), .second, .val (.int mn), .val (.int mx), .val (.long xx), .second, .val (.double (FP.ddiv (FP.l2d xx) (4611686018427387904 : UInt64))), .second, .val (.ref b29), .val (.long ((xx + (1 : Int64)) >>> ((1 : Int32) &&& 0x3f).toInt64)), .second, .unset] [])
      refine Go.step (fun _ k => XS.lload X30.here hx rfl (hb hby at_91) rfl k) ?_
      refine Go.step (fun _ k => XS.iload X30.here hx rfl (hb hby at_93) rfl k) ?_
      refine Go.step (fun _ k => XS.i2l X30.here hx rfl (hb hby at_95) rfl k) ?_
      refine Go.step (fun _ k => XS.lcmp X30.here hx rfl (hb hby at_96) rfl k) ?_
      show Go _ _ _ _ _ _ _ T30 (mkF m 97 #[.val (.int ia), .val (.int ip), .val (.int iq), .val (.long jr), .second, .val (.int mn), .val (.int mx), .val (.long xx), .second, .val (.double (FP.ddiv (FP.l2d xx) (4611686018427387904 : UInt64))), .second, .val (.ref b29), .val (.long ((xx + (1 : Int64)) >>> ((1 : Int32) &&& 0x3f).toInt64)), .second, .unset] [(.int (lcmpW ((xx + (1 : Int64)) >>> ((1 : Int32) &&& 0x3f).toInt64) (mx.toInt64)))])
      by_cases hc97_35 : (mx.toInt64) < ((xx + (1 : Int64)) >>> ((1 : Int32) &&& 0x3f).toInt64)
      · refine Go.step (fun _ k => XS.ifNo X30.here hx rfl (hb hby at_97) rfl ((if0 _ _).trans (tlt ((lw_gt _ _).mpr hc97_35)).2.2.2) k) ?_
        show Go _ _ _ _ _ _ _ T30 (mkF m 100 #[.val (.int ia), .val (.int ip), .val (.int iq), .val (.long jr), .second, .val (.int mn), .val (.int mx), .val (.long xx), .second, .val (.double (FP.ddiv (FP.l2d xx) (4611686018427387904 : UInt64))), .second, .val (.ref b29), .val (.long ((xx + (1 : Int64)) >>> ((1 : Int32) &&& 0x3f).toInt64)), .second, .unset] [])
        refine Go.step (fun _ k => XS.iload X30.here hx rfl (hb hby at_100) rfl k) ?_
        refine Go.step (fun _ k => XS.istore X30.here hx rfl (hb hby at_102) rfl (l' := #[.val (.int ia), .val (.int ip), .val (.int iq), .val (.long jr), .second, .val (.int mn), .val (.int mx), .val (.long xx), .second, .val (.double (FP.ddiv (FP.l2d xx) (4611686018427387904 : UInt64))), .second, .val (.ref b29), .val (.long ((xx + (1 : Int64)) >>> ((1 : Int32) &&& 0x3f).toInt64)), .second, .val (.int mx)]) rfl k) ?_
        show Go _ _ _ _ _ _ _ T30 (mkF m 104 #[.val (.int ia), .val (.int ip), .val (.int iq), .val (.long jr), .second, .val (.int mn), .val (.int mx), .val (.long xx), .second, .val (.double (FP.ddiv (FP.l2d xx) (4611686018427387904 : UInt64))), .second, .val (.ref b29), .val (.long ((xx + (1 : Int64)) >>> ((1 : Int32) &&& 0x3f).toInt64)), .second, .val (.int mx)] [])
        refine Go.step (fun _ k => XS.goto X30.here hx rfl (pc0 := 104) (pc' := 112) rfl (hb hby at_104) (by decide) (by decide) k) ?_
        show Go _ _ _ _ _ _ _ T30 (mkF m 112 #[.val (.int ia), .val (.int ip), .val (.int iq), .val (.long jr), .second, .val (.int mn), .val (.int mx), .val (.long xx), .second, .val (.double (FP.ddiv (FP.l2d xx) (4611686018427387904 : UInt64))), .second, .val (.ref b29), .val (.long ((xx + (1 : Int64)) >>> ((1 : Int32) &&& 0x3f).toInt64)), .second, .val (.int mx)] [])
        refine Go.step (fun _ k => XS.aload X30.here hx rfl (hb hby at_112) rfl rfl k) ?_
        refine Go.step (fun _ k => XS.dload X30.here hx rfl (hb hby at_114) rfl k) ?_
        have f37 : Exa Z h30 b29 "com/example/moving_ceiling/movingceiling/LimitFormula" := (A29.keep Kq30)
        obtain ⟨cq36, kq36, q36a, q36b, q36c⟩ := isOf hZ e30 f37
        obtain ⟨_, _, ⟨T36, L36, k36, n36⟩, -, X36, ⟨Lc36, hQ36, l36, y36, z36⟩, st36⟩ := X30.virtualBack hx (y := (⟨"com/example/moving_ceiling/movingceiling/LimitFormula", "bounded", "(D)I"⟩ : MethodName)) (z := (⟨"com/example/moving_ceiling/movingceiling/LimitFormula", "bounded", "(D)I"⟩ : MethodName)) hown (mvT hZ (hw _ (List.mem_of_getElem? (i := 23) rfl))) (mvT hZ (hw _ (List.mem_of_getElem? (i := 24) rfl))) (notFace_of_selects (args := #[]) (mvT hZ (hw _ (List.mem_of_getElem? (i := 26) rfl)))) (mvT hZ (hw _ (List.mem_of_getElem? (i := 26) rfl))) (mvT hZ (hw _ (List.mem_of_getElem? (i := 25) rfl))) (by decide) (backOf (W := 0) (rmBd l Z a0 hw [] b29 (FP.ddiv (FP.l2d xx) (4611686018427387904 : UInt64)) mn mx xx h30 n0 Z30 G2_30 G3_30 rfl hxx) hZ (hw _ (List.mem_of_getElem? (i := 27) rfl)) (hw _ (List.mem_of_getElem? (i := 4) rfl)) (by decide) (by decide)) q36a q36c (g := (mkF m 116 #[.val (.int ia), .val (.int ip), .val (.int iq), .val (.long jr), .second, .val (.int mn), .val (.int mx), .val (.long xx), .second, .val (.double (FP.ddiv (FP.l2d xx) (4611686018427387904 : UInt64))), .second, .val (.ref b29), .val (.long ((xx + (1 : Int64)) >>> ((1 : Int32) &&& 0x3f).toInt64)), .second, .val (.int mx)] [(.double (FP.ddiv (FP.l2d xx) (4611686018427387904 : UInt64))), (.ref b29)])) rfl (by rw [hml]; rfl) (Steps.refl _) (argsL := [(.double (FP.ddiv (FP.l2d xx) (4611686018427387904 : UInt64)))]) (rest := []) (lenOf pd__D_I rfl) rfl (by show 2 * 0 + _ ≤ _; exact Nat.le_of_eq rfl) (hb hby at_116) (fun _ _ => ⟨rfl, e30, (by decide : 1 + 0 ≤ _), (by decide : 3 + 0 ≤ _)⟩)
        dsimp only [Pt.U, Pt.locs, Pt.cells, Pt.slots] at X36 l36 y36 z36 st36 hQ36
        subst l36 y36 z36
        obtain ⟨h36, e36⟩ : ∃ h, T36.heap = h := ⟨_, rfl⟩
        rw [e36] at hQ36
        obtain ⟨rfl, Nq36, hs36⟩ := hQ36
        have N36 := Fr.app N30 Nq36
        rw [hs36] at e36
        refine Go.trans st36 ?_
        show Go _ _ _ _ _ _ _ T36 (mkF m 119 #[.val (.int ia), .val (.int ip), .val (.int iq), .val (.long jr), .second, .val (.int mn), .val (.int mx), .val (.long xx), .second, .val (.double (FP.ddiv (FP.l2d xx) (4611686018427387904 : UInt64))), .second, .val (.ref b29), .val (.long ((xx + (1 : Int64)) >>> ((1 : Int32) &&& 0x3f).toInt64)), .second, .val (.int mx)] [(.int ((own_max (mn.toInt64) (own_min (mx.toInt64) ((xx + (1 : Int64)) >>> ((1 : Int32) &&& 0x3f).toInt64))).toInt32))])
        refine Go.step (fun _ k => XS.iload X36.here hx rfl (hb hby at_119) rfl k) ?_
        have hc121_38 : ((own_max (mn.toInt64) (own_min (mx.toInt64) ((xx + (1 : Int64)) >>> ((1 : Int32) &&& 0x3f).toInt64))).toInt32) = mx := (own_bB hmx hc97_35)
        refine Go.step (fun _ k => XS.icmpNo X36.here hx rfl (hb hby at_121) rfl (teq hc121_38).2 k) ?_
        show Go _ _ _ _ _ _ _ T36 (mkF m 124 #[.val (.int ia), .val (.int ip), .val (.int iq), .val (.long jr), .second, .val (.int mn), .val (.int mx), .val (.long xx), .second, .val (.double (FP.ddiv (FP.l2d xx) (4611686018427387904 : UInt64))), .second, .val (.ref b29), .val (.long ((xx + (1 : Int64)) >>> ((1 : Int32) &&& 0x3f).toInt64)), .second, .val (.int mx)] [])
        refine Go.step (fun _ k => XS.iconst X36.here hx rfl (hb hby at_124) k) ?_
        refine Go.step (fun _ k => XS.goto X36.here hx rfl (pc0 := 125) (pc' := 129) rfl (hb hby at_125) (by decide) (by decide) k) ?_
        show Go _ _ _ _ _ _ _ T36 (mkF m 129 #[.val (.int ia), .val (.int ip), .val (.int iq), .val (.long jr), .second, .val (.int mn), .val (.int mx), .val (.long xx), .second, .val (.double (FP.ddiv (FP.l2d xx) (4611686018427387904 : UInt64))), .second, .val (.ref b29), .val (.long ((xx + (1 : Int64)) >>> ((1 : Int32) &&& 0x3f).toInt64)), .second, .val (.int mx)] [(.int (1 : Int32))])
        exact Go.retN X36 hx (t := .boolean) hret hlk (by simp) (hb hby at_129) e36 (by decide) (by decide) ⟨rfl, N36, trivial⟩
      · refine Go.step (fun _ k => XS.ifYes X30.here hx rfl (pc0 := 97) (pc' := 107) rfl (hb hby at_97) rfl ((if0 _ _).trans (flt (mt (lw_gt _ _).mp hc97_35)).2.2.2) (by decide) (by decide) k) ?_
        show Go _ _ _ _ _ _ _ T30 (mkF m 107 #[.val (.int ia), .val (.int ip), .val (.int iq), .val (.long jr), .second, .val (.int mn), .val (.int mx), .val (.long xx), .second, .val (.double (FP.ddiv (FP.l2d xx) (4611686018427387904 : UInt64))), .second, .val (.ref b29), .val (.long ((xx + (1 : Int64)) >>> ((1 : Int32) &&& 0x3f).toInt64)), .second, .unset] [])
        refine Go.step (fun _ k => XS.lload X30.here hx rfl (hb hby at_107) rfl k) ?_
        refine Go.step (fun _ k => XS.l2i X30.here hx rfl (hb hby at_109) rfl k) ?_
        refine Go.step (fun _ k => XS.istore X30.here hx rfl (hb hby at_110) rfl (l' := #[.val (.int ia), .val (.int ip), .val (.int iq), .val (.long jr), .second, .val (.int mn), .val (.int mx), .val (.long xx), .second, .val (.double (FP.ddiv (FP.l2d xx) (4611686018427387904 : UInt64))), .second, .val (.ref b29), .val (.long ((xx + (1 : Int64)) >>> ((1 : Int32) &&& 0x3f).toInt64)), .second, .val (.int (((xx + (1 : Int64)) >>> ((1 : Int32) &&& 0x3f).toInt64).toInt32))]) rfl k) ?_
        show Go _ _ _ _ _ _ _ T30 (mkF m 112 #[.val (.int ia), .val (.int ip), .val (.int iq), .val (.long jr), .second, .val (.int mn), .val (.int mx), .val (.long xx), .second, .val (.double (FP.ddiv (FP.l2d xx) (4611686018427387904 : UInt64))), .second, .val (.ref b29), .val (.long ((xx + (1 : Int64)) >>> ((1 : Int32) &&& 0x3f).toInt64)), .second, .val (.int (((xx + (1 : Int64)) >>> ((1 : Int32) &&& 0x3f).toInt64).toInt32))] [])
        refine Go.step (fun _ k => XS.aload X30.here hx rfl (hb hby at_112) rfl rfl k) ?_
        refine Go.step (fun _ k => XS.dload X30.here hx rfl (hb hby at_114) rfl k) ?_
        have f40 : Exa Z h30 b29 "com/example/moving_ceiling/movingceiling/LimitFormula" := (A29.keep Kq30)
        obtain ⟨cq39, kq39, q39a, q39b, q39c⟩ := isOf hZ e30 f40
        obtain ⟨_, _, ⟨T39, L39, k39, n39⟩, -, X39, ⟨Lc39, hQ39, l39, y39, z39⟩, st39⟩ := X30.virtualBack hx (y := (⟨"com/example/moving_ceiling/movingceiling/LimitFormula", "bounded", "(D)I"⟩ : MethodName)) (z := (⟨"com/example/moving_ceiling/movingceiling/LimitFormula", "bounded", "(D)I"⟩ : MethodName)) hown (mvT hZ (hw _ (List.mem_of_getElem? (i := 23) rfl))) (mvT hZ (hw _ (List.mem_of_getElem? (i := 24) rfl))) (notFace_of_selects (args := #[]) (mvT hZ (hw _ (List.mem_of_getElem? (i := 26) rfl)))) (mvT hZ (hw _ (List.mem_of_getElem? (i := 26) rfl))) (mvT hZ (hw _ (List.mem_of_getElem? (i := 25) rfl))) (by decide) (backOf (W := 0) (rmBd l Z a0 hw [] b29 (FP.ddiv (FP.l2d xx) (4611686018427387904 : UInt64)) mn mx xx h30 n0 Z30 G2_30 G3_30 rfl hxx) hZ (hw _ (List.mem_of_getElem? (i := 27) rfl)) (hw _ (List.mem_of_getElem? (i := 4) rfl)) (by decide) (by decide)) q39a q39c (g := (mkF m 116 #[.val (.int ia), .val (.int ip), .val (.int iq), .val (.long jr), .second, .val (.int mn), .val (.int mx), .val (.long xx), .second, .val (.double (FP.ddiv (FP.l2d xx) (4611686018427387904 : UInt64))), .second, .val (.ref b29), .val (.long ((xx + (1 : Int64)) >>> ((1 : Int32) &&& 0x3f).toInt64)), .second, .val (.int (((xx + (1 : Int64)) >>> ((1 : Int32) &&& 0x3f).toInt64).toInt32))] [(.double (FP.ddiv (FP.l2d xx) (4611686018427387904 : UInt64))), (.ref b29)])) rfl (by rw [hml]; rfl) (Steps.refl _) (argsL := [(.double (FP.ddiv (FP.l2d xx) (4611686018427387904 : UInt64)))]) (rest := []) (lenOf pd__D_I rfl) rfl (by show 2 * 0 + _ ≤ _; exact Nat.le_of_eq rfl) (hb hby at_116) (fun _ _ => ⟨rfl, e30, (by decide : 1 + 0 ≤ _), (by decide : 3 + 0 ≤ _)⟩)
        dsimp only [Pt.U, Pt.locs, Pt.cells, Pt.slots] at X39 l39 y39 z39 st39 hQ39
        subst l39 y39 z39
        obtain ⟨h39, e39⟩ : ∃ h, T39.heap = h := ⟨_, rfl⟩
        rw [e39] at hQ39
        obtain ⟨rfl, Nq39, hs39⟩ := hQ39
        have N39 := Fr.app N30 Nq39
        rw [hs39] at e39
        refine Go.trans st39 ?_
        show Go _ _ _ _ _ _ _ T39 (mkF m 119 #[.val (.int ia), .val (.int ip), .val (.int iq), .val (.long jr), .second, .val (.int mn), .val (.int mx), .val (.long xx), .second, .val (.double (FP.ddiv (FP.l2d xx) (4611686018427387904 : UInt64))), .second, .val (.ref b29), .val (.long ((xx + (1 : Int64)) >>> ((1 : Int32) &&& 0x3f).toInt64)), .second, .val (.int (((xx + (1 : Int64)) >>> ((1 : Int32) &&& 0x3f).toInt64).toInt32))] [(.int ((own_max (mn.toInt64) (own_min (mx.toInt64) ((xx + (1 : Int64)) >>> ((1 : Int32) &&& 0x3f).toInt64))).toInt32))])
        refine Go.step (fun _ k => XS.iload X39.here hx rfl (hb hby at_119) rfl k) ?_
        have hc121_41 : ((own_max (mn.toInt64) (own_min (mx.toInt64) ((xx + (1 : Int64)) >>> ((1 : Int32) &&& 0x3f).toInt64))).toInt32) = (((xx + (1 : Int64)) >>> ((1 : Int32) &&& 0x3f).toInt64).toInt32) := (own_bC hmx hc81_31 hc97_35)
        refine Go.step (fun _ k => XS.icmpNo X39.here hx rfl (hb hby at_121) rfl (teq hc121_41).2 k) ?_
        show Go _ _ _ _ _ _ _ T39 (mkF m 124 #[.val (.int ia), .val (.int ip), .val (.int iq), .val (.long jr), .second, .val (.int mn), .val (.int mx), .val (.long xx), .second, .val (.double (FP.ddiv (FP.l2d xx) (4611686018427387904 : UInt64))), .second, .val (.ref b29), .val (.long ((xx + (1 : Int64)) >>> ((1 : Int32) &&& 0x3f).toInt64)), .second, .val (.int (((xx + (1 : Int64)) >>> ((1 : Int32) &&& 0x3f).toInt64).toInt32))] [])
        refine Go.step (fun _ k => XS.iconst X39.here hx rfl (hb hby at_124) k) ?_
        refine Go.step (fun _ k => XS.goto X39.here hx rfl (pc0 := 125) (pc' := 129) rfl (hb hby at_125) (by decide) (by decide) k) ?_
        show Go _ _ _ _ _ _ _ T39 (mkF m 129 #[.val (.int ia), .val (.int ip), .val (.int iq), .val (.long jr), .second, .val (.int mn), .val (.int mx), .val (.long xx), .second, .val (.double (FP.ddiv (FP.l2d xx) (4611686018427387904 : UInt64))), .second, .val (.ref b29), .val (.long ((xx + (1 : Int64)) >>> ((1 : Int32) &&& 0x3f).toInt64)), .second, .val (.int (((xx + (1 : Int64)) >>> ((1 : Int32) &&& 0x3f).toInt64).toInt32))] [(.int (1 : Int32))])
        exact Go.retN X39 hx (t := .boolean) hret hlk (by simp) (hb hby at_129) e39 (by decide) (by decide) ⟨rfl, N39, trivial⟩
  show Go _ _ _ _ _ _ _ s₁ (mkF m 6 #[.val (.int ia), .val (.int ip), .val (.int iq), .val (.long jr), .second, .val (.int (ip &&& (2147483647 : Int32))), .unset, .unset, .unset, .unset, .unset, .unset, .unset, .unset, .unset] [])
  refine Go.step (fun _ k => XS.iload X0.here hx rfl (hb hby at_6) rfl k) ?_
  by_cases hc8_42 : (ip &&& (2147483647 : Int32)) = (0 : Int32)
  · refine Go.step (fun _ k => XS.ifNo X0.here hx rfl (hb hby at_8) rfl ((if0 _ _).trans (teq hc8_42).2) k) ?_
    show Go _ _ _ _ _ _ _ s₁ (mkF m 11 #[.val (.int ia), .val (.int ip), .val (.int iq), .val (.long jr), .second, .val (.int (ip &&& (2147483647 : Int32))), .unset, .unset, .unset, .unset, .unset, .unset, .unset, .unset, .unset] [])
    refine Go.step (fun _ k => XS.iconst X0.here hx rfl (hb hby at_11) k) ?_
    refine Go.step (fun _ k => XS.istore X0.here hx rfl (hb hby at_12) rfl (l' := #[.val (.int ia), .val (.int ip), .val (.int iq), .val (.long jr), .second, .val (.int (1 : Int32)), .unset, .unset, .unset, .unset, .unset, .unset, .unset, .unset, .unset]) rfl k) ?_
    show Go _ _ _ _ _ _ _ s₁ (mkF m 14 #[.val (.int ia), .val (.int ip), .val (.int iq), .val (.long jr), .second, .val (.int (1 : Int32)), .unset, .unset, .unset, .unset, .unset, .unset, .unset, .unset, .unset] [])
    exact J s₁ h0 _ (1 : Int32) (X0.more (by decide) (by decide)) e0 N0 Z0 (by decide)
  · refine Go.step (fun _ k => XS.ifYes X0.here hx rfl (pc0 := 8) (pc' := 14) rfl (hb hby at_8) rfl ((if0 _ _).trans (feq hc8_42).2) (by decide) (by decide) k) ?_
    show Go _ _ _ _ _ _ _ s₁ (mkF m 14 #[.val (.int ia), .val (.int ip), .val (.int iq), .val (.long jr), .second, .val (.int (ip &&& (2147483647 : Int32))), .unset, .unset, .unset, .unset, .unset, .unset, .unset, .unset, .unset] [])
    exact J s₁ h0 _ (ip &&& (2147483647 : Int32)) (X0.more (by decide) (by decide)) e0 N0 Z0 (own_ar7 ip hc8_42)
set_option maxRecDepth 65536 in
set_option maxHeartbeats 40000000 in
theorem comes_1 {Post : Tables → Env → Array Value → State → Outcome → State → Prop} (hpost : ∀ tb e args s v u, (limb_1_1.after args s (.returned v) u = true ∧ limb_1_2.after args s (.returned v) u = true ∧ True) → FrameEnd s (.returned v) u (Jvm.fieldLocs frame_1_writes args s ++ Jvm.arrayLocs frame_1_arrays args s ++ Jvm.staticLocs frame_1_statics s) 16 128 → Post tb e args s (.returned v) u) :
    ArmFor flags0 classFile x code maxLocals ret World_1 tables_1 room_1 Calls_1 rest_1 Pre_1 Post := by
  intro l hfl _ _ p e ha hc hk s m args below hf hA hF happ hP
  obtain ⟨hcalls, hrest, hpre⟩ := hP
  obtain ⟨-, -, -, hnamed, -, -, -, hat⟩ := (Spec.applies_iff hf).mp happ
  obtain ⟨hg, hn⟩ := and_e (Cond.before_iff.mp (show (Jvm.Cond.and given_1 narrow_1).before args s = true from hpre))
  obtain ⟨gg1, gg2⟩ := and_e hg
  obtain ⟨gg3, gg4⟩ := and_e gg2
  obtain ⟨gg5, gg6⟩ := and_e gg4
  obtain ⟨gg7, gg8⟩ := and_e gg6
  obtain ⟨w0, w1, w2, w3, rfl⟩ : ∃ w0 w1 w2 w3 : Value, args = #[w0, w1, w2, w3] := by
    have hs : args.size = 4 := by simpa [Cond.value, given_1] using gg1
    obtain ⟨L⟩ := args
    match L, hs with
    | [w0, w1, w2, w3], _ => exact ⟨w0, w1, w2, w3, rfl⟩
  have hw := fun d (hd : d ∈ tables_1) => atoms_spec (ws := Jvm.Cond.code x code maxLocals ret :: tables_1) hat d (List.mem_cons_of_mem _ hd)
  have hfit : Fit s := fun {y c} hc i hi => by
    obtain ⟨ha, rfl⟩ := Array.getElem?_eq_some_iff.mp hc
    have q := List.all_eq_true.mp ((Array.all_eq_true_iff_forall_mem.mp hF) _ (Array.getElem_mem ha)) i (List.mem_range.mpr hi)
    simpa [Array.getElem?_eq_getElem hi] using q
  obtain ⟨ia, ei0⟩ := is_v gg3
  obtain rfl : w0 = (.int ia) := Option.some.inj ei0
  obtain ⟨ip, ei1⟩ := is_v gg5
  obtain rfl : w1 = (.int ip) := Option.some.inj ei1
  obtain ⟨iq, ei2⟩ := is_v gg7
  obtain rfl : w2 = (.int iq) := Option.some.inj ei2
  obtain ⟨jr, ei3⟩ := isL_v gg8
  obtain rfl : w3 = (.long jr) := Option.some.inj ei3
  obtain ⟨n, o, h1, h2, h3, _, L, rfl, ⟨rfl, N, -⟩, hq⟩ := rm0 l s _ hw tables_1 ia ip iq jr s.heap s.heap.size (Nat.le_refl _)  p e ha hc hk s m _ below hf ((Spec.applies_iff_loose hf).mp happ).1 ⟨rfl, State.Warmed39.refl s, rfl⟩ trivial
  refine ⟨n, _, h1, h2, h3, hpost _ _ _ _ _ _ ⟨Cond.after_iff.mpr rfl, Cond.after_iff.mpr (eq_i res_at (Term.int_eval (1)) rfl), trivial⟩ ⟨hq.1, hq.2.1, (hq.2.2.sift fun y hy => Or.inr (N y hy)).mono (by decide) (by decide)⟩⟩
theorem main_1_1 : Claimed_1_1 := comes_1 fun _ _ _ _ _ _ h hF => ⟨h.1, hF⟩
theorem main_1_2 : Claimed_1_2 := comes_1 fun _ _ _ _ _ _ h hF => ⟨h.2.1, hF⟩
end Jvm.Pilot.@@N@@
namespace Jvm.Pilot.@@N@@
open Jvm Jvm.ClassFile Sem Op Lib Jvm.Free Jvm.Stand Jvm.Pilot.@@N@@.Jvm.D
/-! MADE BY PROGRAM (witnessworld.py) out of the Statement's table words and the real class files: 16 classes; the members and pool entries that the words name. The judged class is class 1, her method 1. -/
namespace start1
open Jvm.ClassFile
def u (s : String) : CpInfo := .utf8 (stringToUtf16 s)
/-- a pool by its gaps: so many unusable entries, then the entry; so many at the end -/
def gap : Nat → List CpInfo → List CpInfo
  | 0, r => r
  | n + 1, r => .unusable :: gap n r
def poolList (es : List (Nat × CpInfo)) (last : Nat) : List CpInfo := es.foldr (fun e r => gap e.1 (e.2 :: r)) (gap last [])
def pool (es : List (Nat × CpInfo)) (last : Nat) : Array CpInfo := ⟨poolList es last⟩
def fileOf (pool : Array CpInfo) (this : Nat) (attrs : Array Attribute := #[]) (ms : Array MethodInfo := #[]) (fl : Nat := 33) (sup : Nat := 0) (ifs : Array Nat := #[]) (fds : Array FieldInfo := #[]) : ClassFile where
  minorVersion := 0
  majorVersion := 65
  constantPool := pool
  accessFlags := fl
  thisClass := this
  superClass := sup
  interfaces := ifs
  fields := fds
  methods := ms
  attributes := attrs
def plain (name : String) (sup : Option ClassId) : Class where
  name := name
  kind := .ordinary
  loader := none
  accessFlags := 33
  super := sup
  interfaces := #[]
  cf := none
  fields := #[]
  methods := #[]
  instanceTypes := #[]
  staticTypes := #[]
  resolved := #[]
  callSites := []
  init := .initialized
  statics := none
  mirror := none

def pool0 : Array CpInfo := pool [(5, u "<init>"), (0, u "()V"), (1, .class_ 10), (1, u "java/lang/Object")] 113

def k0c0 : Code := { maxStack := 0, maxLocals := 1, code := object_method_1_code, exceptionTable := #[], attributes := #[] }
def k0m0 : Method := { name := "<init>", desc := "()V", sig := { parameters := [], returnType := none }, accessFlags := 1, code := some k0c0 }
/-- java/lang/Object -/
def k0 : Class := { plain "java/lang/Object" none with
  accessFlags := 33
  interfaces := #[]
  cf := some (fileOf pool0 8 #[] #[{ accessFlags := 1, nameIndex := 5, descriptorIndex := 6, attributes := #[] }] 33 0 #[] #[])
  fields := #[]
  methods := #[k0m0]
  instanceTypes := #[]
  staticTypes := #[]
  resolved := Array.replicate 124 none
  statics := none }

def pool1 : Array CpInfo := pool [(2, .class_ 4), (1, u "java/lang/Object"), (0, u "<init>"), (0, u "()V"), (0, .integer 2147483647), (2, .double 4611686018427387904), (1, .class_ 13), (0, u "com/example/moving_ceiling/movingceiling/LimitFormula"), (0, .methodref 12 15), (0, .nameAndType 5 16), (0, u "(DII)V"), (0, .methodref 12 18), (0, .nameAndType 19 20), (0, u "bounded"), (0, u "(D)I"), (0, .class_ 22), (0, u "com/example/moving_ceiling/movingceiling/LimitFormulaBoundedPinLaw"), (2, u "law"), (0, u "(IIIJ)Z")] 3

def k1m0 : Method := { name := "<init>", desc := "()V", sig := { parameters := [], returnType := none }, accessFlags := 1, code := none }
def k1c1 : Code := { maxStack := 6, maxLocals := 15, code := code, exceptionTable := #[], attributes := #[] }
def k1m1 : Method := { name := "law", desc := "(IIIJ)Z", sig := { parameters := [.int, .int, .int, .long], returnType := some .boolean }, accessFlags := 9, code := some k1c1 }
/-- com/example/moving_ceiling/movingceiling/LimitFormulaBoundedPinLaw -/
def k1 : Class := { plain "com/example/moving_ceiling/movingceiling/LimitFormulaBoundedPinLaw" (some 0) with
  accessFlags := 49
  interfaces := #[]
  cf := some (fileOf pool1 21 #[] #[{ accessFlags := 1, nameIndex := 5, descriptorIndex := 6, attributes := #[] }, { accessFlags := 9, nameIndex := 25, descriptorIndex := 26, attributes := #[] }] 49 2 #[] #[])
  fields := #[]
  methods := #[k1m0, k1m1]
  instanceTypes := #[]
  staticTypes := #[]
  resolved := Array.replicate 30 none
  statics := none }

def pool2 : Array CpInfo := pool [(1, .methodref 2 3), (0, .class_ 4), (0, .nameAndType 5 6), (0, u "java/lang/Object"), (0, u "<init>"), (0, u "()V"), (0, .class_ 8), (0, u "java/lang/Record")] 13

def k2c0 : Code := { maxStack := 1, maxLocals := 1, code := jdk_30_method_1_code, exceptionTable := #[], attributes := #[] }
def k2m0 : Method := { name := "<init>", desc := "()V", sig := { parameters := [], returnType := none }, accessFlags := 4, code := some k2c0 }
/-- java/lang/Record -/
def k2 : Class := { plain "java/lang/Record" (some 0) with
  accessFlags := 1057
  interfaces := #[]
  cf := some (fileOf pool2 7 #[] #[{ accessFlags := 4, nameIndex := 5, descriptorIndex := 6, attributes := #[] }] 1057 2 #[] #[])
  fields := #[]
  methods := #[k2m0]
  instanceTypes := #[]
  staticTypes := #[]
  resolved := Array.replicate 22 none
  statics := none }

def pool3 : Array CpInfo := pool [(1, .methodref 2 3), (0, .class_ 4), (0, .nameAndType 5 6), (0, u "java/lang/Record"), (0, u "<init>"), (0, u "()V"), (2, .double 9218868437227405312), (16, .fieldref 27 28), (0, .class_ 29), (0, .nameAndType 30 31), (0, u "com/example/moving_ceiling/movingceiling/LimitFormula"), (0, u "alpha"), (0, u "D"), (0, .fieldref 27 33), (0, .nameAndType 34 35), (0, u "minLimit"), (0, u "I"), (0, .fieldref 27 37), (0, .nameAndType 38 35), (0, u "maxLimit"), (6, u "bounded"), (0, u "(D)I"), (0, .methodref 48 49), (0, .class_ 50), (0, .nameAndType 51 52), (0, u "java/lang/Math"), (0, u "round"), (0, u "(D)J"), (0, .methodref 48 54), (0, .nameAndType 55 56), (0, u "min"), (0, u "(JJ)J"), (0, .methodref 48 58), (0, .nameAndType 59 56), (0, u "max"), (12, u "NANOS_PER_SECOND"), (1, u "(DII)V")] 44

def k3c0 : Code := { maxStack := 4, maxLocals := 5, code := prog_5_method_1_code, exceptionTable := #[], attributes := #[] }
def k3m0 : Method := { name := "<init>", desc := "(DII)V", sig := { parameters := [.double, .int, .int], returnType := none }, accessFlags := 0, code := some k3c0 }
def k3c1 : Code := { maxStack := 6, maxLocals := 5, code := prog_5_method_3_code, exceptionTable := #[], attributes := #[] }
def k3m1 : Method := { name := "bounded", desc := "(D)I", sig := { parameters := [.double], returnType := some .int }, accessFlags := 0, code := some k3c1 }
/-- com/example/moving_ceiling/movingceiling/LimitFormula -/
def k3 : Class := { plain "com/example/moving_ceiling/movingceiling/LimitFormula" (some 2) with
  accessFlags := 48
  interfaces := #[]
  cf := some (fileOf pool3 27 #[] #[{ accessFlags := 0, nameIndex := 5, descriptorIndex := 74, attributes := #[] }, { accessFlags := 0, nameIndex := 45, descriptorIndex := 46, attributes := #[] }] 48 2 #[] #[{ accessFlags := 18, nameIndex := 30, descriptorIndex := 31, attributes := #[] }, { accessFlags := 18, nameIndex := 34, descriptorIndex := 35, attributes := #[] }, { accessFlags := 18, nameIndex := 38, descriptorIndex := 35, attributes := #[] }, { accessFlags := 26, nameIndex := 72, descriptorIndex := 31, attributes := #[] }])
  fields := #[{ name := "alpha", type := .double, accessFlags := 18, slot := 0, constantValue := 0 }, { name := "minLimit", type := .int, accessFlags := 18, slot := 1, constantValue := 0 }, { name := "maxLimit", type := .int, accessFlags := 18, slot := 2, constantValue := 0 }, { name := "NANOS_PER_SECOND", type := .double, accessFlags := 26, slot := 0, constantValue := 0 }]
  methods := #[k3m0, k3m1]
  instanceTypes := #[.double, .int, .int]
  staticTypes := #[.double]
  resolved := Array.replicate 119 none
  statics := none }

def pool4 : Array CpInfo := pool [(1, .class_ 2), (0, u "java/lang/Math"), (1, .class_ 6), (1, u "java/lang/Object"), (0, u "<init>"), (0, u "()V"), (70, .methodref 80 81), (0, .class_ 82), (0, .nameAndType 83 84), (0, u "java/lang/Double"), (0, u "doubleToRawLongBits"), (0, u "(D)J"), (2, .long 9218868437227405312), (1, .long 1074), (1, .long 18446744073709551552), (1, .long 4503599627370495), (1, .long 4503599627370496), (2, .class_ 100), (1, u "java/lang/Math$RandomNumberGeneratorHolder"), (20, u "(JJ)J"), (50, u "negativeZeroFloatBits"), (0, u "J"), (2, u "negativeZeroDoubleBits"), (21, u "max"), (2, u "min"), (43, u "$assertionsDisabled"), (0, u "Z"), (91, u "twoToTheDoubleScaleDown"), (0, u "D"), (4, u "twoToTheDoubleScaleUp"), (9, u "E"), (3, u "PI"), (2, u "TAU"), (2, u "DEGREES_TO_RADIANS"), (0, u "RADIANS_TO_DEGREES"), (17, u "round")] 76

def k4m0 : Method := { name := "<init>", desc := "()V", sig := { parameters := [], returnType := none }, accessFlags := 2, code := none }
def k4c1 : Code := { maxStack := 4, maxLocals := 10, code := jdk_29_method_22_code, exceptionTable := #[], attributes := #[] }
def k4m1 : Method := { name := "round", desc := "(D)J", sig := { parameters := [.double], returnType := some .long }, accessFlags := 9, code := some k4c1 }
def k4c2 : Code := { maxStack := 4, maxLocals := 4, code := jdk_29_method_66_code, exceptionTable := #[], attributes := #[] }
def k4m2 : Method := { name := "max", desc := "(JJ)J", sig := { parameters := [.long, .long], returnType := some .long }, accessFlags := 9, code := some k4c2 }
def k4c3 : Code := { maxStack := 4, maxLocals := 4, code := jdk_29_method_70_code, exceptionTable := #[], attributes := #[] }
def k4m3 : Method := { name := "min", desc := "(JJ)J", sig := { parameters := [.long, .long], returnType := some .long }, accessFlags := 9, code := some k4c3 }
/-- java/lang/Math -/
def k4 : Class := { plain "java/lang/Math" (some 0) with
  accessFlags := 49
  interfaces := #[]
  cf := some (fileOf pool4 1 #[.nestMembers #[98]] #[{ accessFlags := 2, nameIndex := 7, descriptorIndex := 8, attributes := #[] }, { accessFlags := 9, nameIndex := 383, descriptorIndex := 84, attributes := #[] }, { accessFlags := 9, nameIndex := 198, descriptorIndex := 121, attributes := #[] }, { accessFlags := 9, nameIndex := 201, descriptorIndex := 121, attributes := #[] }] 49 4 #[] #[{ accessFlags := 25, nameIndex := 354, descriptorIndex := 339, attributes := #[] }, { accessFlags := 25, nameIndex := 358, descriptorIndex := 339, attributes := #[] }, { accessFlags := 25, nameIndex := 361, descriptorIndex := 339, attributes := #[] }, { accessFlags := 26, nameIndex := 364, descriptorIndex := 339, attributes := #[] }, { accessFlags := 26, nameIndex := 365, descriptorIndex := 339, attributes := #[] }, { accessFlags := 26, nameIndex := 172, descriptorIndex := 173, attributes := #[] }, { accessFlags := 26, nameIndex := 176, descriptorIndex := 173, attributes := #[] }, { accessFlags := 8, nameIndex := 344, descriptorIndex := 339, attributes := #[] }, { accessFlags := 8, nameIndex := 338, descriptorIndex := 339, attributes := #[] }, { accessFlags := 4120, nameIndex := 245, descriptorIndex := 246, attributes := #[] }])
  fields := #[{ name := "E", type := .double, accessFlags := 25, slot := 0, constantValue := 0 }, { name := "PI", type := .double, accessFlags := 25, slot := 1, constantValue := 0 }, { name := "TAU", type := .double, accessFlags := 25, slot := 2, constantValue := 0 }, { name := "DEGREES_TO_RADIANS", type := .double, accessFlags := 26, slot := 3, constantValue := 0 }, { name := "RADIANS_TO_DEGREES", type := .double, accessFlags := 26, slot := 4, constantValue := 0 }, { name := "negativeZeroFloatBits", type := .long, accessFlags := 26, slot := 5, constantValue := 0 }, { name := "negativeZeroDoubleBits", type := .long, accessFlags := 26, slot := 6, constantValue := 0 }, { name := "twoToTheDoubleScaleUp", type := .double, accessFlags := 8, slot := 7, constantValue := 0 }, { name := "twoToTheDoubleScaleDown", type := .double, accessFlags := 8, slot := 8, constantValue := 0 }, { name := "$assertionsDisabled", type := .boolean, accessFlags := 4120, slot := 9, constantValue := 0 }]
  methods := #[k4m0, k4m1, k4m2, k4m3]
  instanceTypes := #[]
  staticTypes := #[.double, .double, .double, .double, .double, .long, .long, .double, .double, .boolean]
  resolved := Array.replicate 460 none
  statics := none }

def pool5 : Array CpInfo := pool [(1, .class_ 2), (0, u "java/io/Serializable"), (0, .class_ 4), (0, u "java/lang/Object")] 2

/-- java/io/Serializable -/
def k5 : Class := { plain "java/io/Serializable" (some 0) with
  accessFlags := 1537
  interfaces := #[]
  cf := some (fileOf pool5 1 #[] #[] 1537 3 #[] #[])
  fields := #[]
  methods := #[]
  instanceTypes := #[]
  staticTypes := #[]
  resolved := Array.replicate 7 none
  statics := none }

def pool6 : Array CpInfo := pool [(2, .class_ 4), (1, u "java/lang/Object"), (0, u "<init>"), (0, u "()V"), (1, .class_ 10), (1, u "java/lang/Number"), (2, .class_ 14), (0, u "java/io/Serializable"), (0, u "serialVersionUID"), (0, u "J")] 20

def k6m0 : Method := { name := "<init>", desc := "()V", sig := { parameters := [], returnType := none }, accessFlags := 1, code := none }
/-- java/lang/Number -/
def k6 : Class := { plain "java/lang/Number" (some 0) with
  accessFlags := 1057
  interfaces := #[5]
  cf := some (fileOf pool6 8 #[] #[{ accessFlags := 1, nameIndex := 5, descriptorIndex := 6, attributes := #[] }] 1057 2 #[13] #[{ accessFlags := 26, nameIndex := 15, descriptorIndex := 16, attributes := #[] }])
  fields := #[{ name := "serialVersionUID", type := .long, accessFlags := 26, slot := 0, constantValue := 0 }]
  methods := #[k6m0]
  instanceTypes := #[]
  staticTypes := #[.long]
  resolved := Array.replicate 37 none
  statics := none }

def pool7 : Array CpInfo := pool [(1, .class_ 2), (0, u "java/lang/Comparable"), (0, .class_ 4), (0, u "java/lang/Object")] 7

/-- java/lang/Comparable -/
def k7 : Class := { plain "java/lang/Comparable" (some 0) with
  accessFlags := 1537
  interfaces := #[]
  cf := some (fileOf pool7 1 #[] #[] 1537 3 #[] #[])
  fields := #[]
  methods := #[]
  instanceTypes := #[]
  staticTypes := #[]
  resolved := Array.replicate 12 none
  statics := none }

def pool8 : Array CpInfo := pool [(1, .class_ 2), (0, u "java/lang/constant/Constable"), (0, .class_ 4), (0, u "java/lang/Object")] 6

/-- java/lang/constant/Constable -/
def k8 : Class := { plain "java/lang/constant/Constable" (some 0) with
  accessFlags := 1537
  interfaces := #[]
  cf := some (fileOf pool8 1 #[] #[] 1537 3 #[] #[])
  fields := #[]
  methods := #[]
  instanceTypes := #[]
  staticTypes := #[]
  resolved := Array.replicate 11 none
  statics := none }

def pool9 : Array CpInfo := pool [(1, .class_ 2), (0, u "java/lang/constant/ConstantDesc"), (0, .class_ 4), (0, u "java/lang/Object")] 32

/-- java/lang/constant/ConstantDesc -/
def k9 : Class := { plain "java/lang/constant/ConstantDesc" (some 0) with
  accessFlags := 1537
  interfaces := #[]
  cf := some (fileOf pool9 1 #[] #[] 1537 3 #[] #[])
  fields := #[]
  methods := #[]
  instanceTypes := #[]
  staticTypes := #[]
  resolved := Array.replicate 37 none
  statics := none }

def pool10 : Array CpInfo := pool [(1, .class_ 2), (0, u "java/lang/Double"), (46, u "(D)J"), (64, .class_ 116), (1, u "java/lang/Number"), (3, u "value"), (0, u "D"), (14, u "doubleToRawLongBits"), (36, u "TYPE"), (0, u "Ljava/lang/Class;"), (0, .class_ 176), (0, u "java/lang/Comparable"), (0, .class_ 178), (0, u "java/lang/constant/Constable"), (0, .class_ 180), (0, u "java/lang/constant/ConstantDesc"), (0, u "POSITIVE_INFINITY"), (3, u "NEGATIVE_INFINITY"), (2, u "NaN"), (2, u "MAX_VALUE"), (0, u "MIN_NORMAL"), (0, u "MIN_VALUE"), (2, u "SIZE"), (0, u "I"), (1, u "PRECISION"), (1, u "MAX_EXPONENT"), (1, u "MIN_EXPONENT"), (1, u "BYTES"), (3, u "serialVersionUID"), (0, u "J")] 79

def k10m0 : Method := { name := "doubleToRawLongBits", desc := "(D)J", sig := { parameters := [.double], returnType := some .long }, accessFlags := 265, code := none }
/-- java/lang/Double -/
def k10 : Class := { plain "java/lang/Double" (some 6) with
  accessFlags := 49
  interfaces := #[7, 8, 9]
  cf := some (fileOf pool10 1 #[] #[{ accessFlags := 265, nameIndex := 136, descriptorIndex := 49, attributes := #[] }] 49 114 #[175, 177, 179] #[{ accessFlags := 25, nameIndex := 181, descriptorIndex := 121, attributes := #[] }, { accessFlags := 25, nameIndex := 185, descriptorIndex := 121, attributes := #[] }, { accessFlags := 25, nameIndex := 188, descriptorIndex := 121, attributes := #[] }, { accessFlags := 25, nameIndex := 191, descriptorIndex := 121, attributes := #[] }, { accessFlags := 25, nameIndex := 192, descriptorIndex := 121, attributes := #[] }, { accessFlags := 25, nameIndex := 193, descriptorIndex := 121, attributes := #[] }, { accessFlags := 25, nameIndex := 196, descriptorIndex := 197, attributes := #[] }, { accessFlags := 25, nameIndex := 199, descriptorIndex := 197, attributes := #[] }, { accessFlags := 25, nameIndex := 201, descriptorIndex := 197, attributes := #[] }, { accessFlags := 25, nameIndex := 203, descriptorIndex := 197, attributes := #[] }, { accessFlags := 25, nameIndex := 205, descriptorIndex := 197, attributes := #[] }, { accessFlags := 25, nameIndex := 173, descriptorIndex := 174, attributes := #[] }, { accessFlags := 18, nameIndex := 120, descriptorIndex := 121, attributes := #[] }, { accessFlags := 26, nameIndex := 209, descriptorIndex := 210, attributes := #[] }])
  fields := #[{ name := "POSITIVE_INFINITY", type := .double, accessFlags := 25, slot := 0, constantValue := 0 }, { name := "NEGATIVE_INFINITY", type := .double, accessFlags := 25, slot := 1, constantValue := 0 }, { name := "NaN", type := .double, accessFlags := 25, slot := 2, constantValue := 0 }, { name := "MAX_VALUE", type := .double, accessFlags := 25, slot := 3, constantValue := 0 }, { name := "MIN_NORMAL", type := .double, accessFlags := 25, slot := 4, constantValue := 0 }, { name := "MIN_VALUE", type := .double, accessFlags := 25, slot := 5, constantValue := 0 }, { name := "SIZE", type := .int, accessFlags := 25, slot := 6, constantValue := 0 }, { name := "PRECISION", type := .int, accessFlags := 25, slot := 7, constantValue := 0 }, { name := "MAX_EXPONENT", type := .int, accessFlags := 25, slot := 8, constantValue := 0 }, { name := "MIN_EXPONENT", type := .int, accessFlags := 25, slot := 9, constantValue := 0 }, { name := "BYTES", type := .int, accessFlags := 25, slot := 10, constantValue := 0 }, { name := "TYPE", type := (.object "java/lang/Class"), accessFlags := 25, slot := 11, constantValue := 0 }, { name := "value", type := .double, accessFlags := 18, slot := 0, constantValue := 0 }, { name := "serialVersionUID", type := .long, accessFlags := 26, slot := 12, constantValue := 0 }]
  methods := #[k10m0]
  instanceTypes := #[.double]
  staticTypes := #[.double, .double, .double, .double, .double, .double, .int, .int, .int, .int, .int, (.object "java/lang/Class"), .long]
  resolved := Array.replicate 290 none
  statics := none }

def pool11 : Array CpInfo := pool [(1, u "java/lang/Cloneable"), (0, .class_ 1), (0, u "java/lang/Object"), (0, .class_ 3)] 3

/-- java/lang/Cloneable -/
def k11 : Class := { plain "java/lang/Cloneable" (some 0) with
  accessFlags := 1537
  interfaces := #[]
  cf := some (fileOf pool11 2 #[] #[] 1537 4 #[] #[])
  fields := #[]
  methods := #[]
  instanceTypes := #[]
  staticTypes := #[]
  resolved := Array.replicate 8 none
  statics := none }

/-- the primitive byte -/
def k12 : Class := { plain "byte" none with kind := .primitive 'B', accessFlags := 0x411 }
/-- [B -/
def k13 : Class := { plain "[B" (some 0) with kind := .array 12 .byte, interfaces := #[11, 5], accessFlags := 1041 }

/-- the primitive int -/
def k14 : Class := { plain "int" none with kind := .primitive 'I', accessFlags := 0x411 }
/-- [I -/
def k15 : Class := { plain "[I" (some 0) with kind := .array 14 .int, interfaces := #[11, 5], accessFlags := 1041 }

def heap : Heap := #[]
def classes : Array Class := #[k0, k1, k2, k3, k4, k5, k6, k7, k8, k9, k10, k11, k12, k13, k14, k15]
def interned : List (Array UInt16 × Addr) := []
def slotsUsed : Nat := 0
def theMethod : MethodId := ⟨1, 1⟩
def args0 : Array Value := #[.int 5, .int 7, .int 3, .long 9]
def aboutOver (below : List Frame) : State where
  vm := { classes := classes, interned := interned.toArray }
  heap := heap
  slotsUsed := slotsUsed
  threads := #[{ frames := .invoking theMethod args0 :: below }]
def below0 : List Frame := [.native { method := ⟨0, 0⟩, args := #[] }]
def about1 : State := aboutOver below0
def p0 : Program := .bare "" "" ""
def e0 : Env := launch0.env 0 0 0
theorem w_frames : about1.frames = Frame.invoking theMethod args0 :: below0 := rfl
set_option maxRecDepth 65536 in
theorem w_args : argsFit about1.vm theMethod args0 = true := by decide +kernel
set_option maxRecDepth 65536 in
theorem w_heap : heapFits about1 = true := by decide +kernel
set_option maxRecDepth 65536 in
theorem w_runnable : about1.curStatus? = some .runnable := by decide +kernel
set_option maxRecDepth 65536 in
theorem w_alone : about1.alone = true := by decide +kernel
set_option maxRecDepth 65536 in
theorem w_named : about1.methodNamed? x = some theMethod := by decide +kernel
set_option maxRecDepth 65536 in
theorem w_hears : about1.hears theMethod below0 = true := by decide +kernel
set_option maxRecDepth 65536 in
theorem w_ripe : about1.ripe theMethod args0 below0 = true := by decide +kernel
theorem w_running : about1.status = .running := rfl
set_option maxRecDepth 65536 in
theorem w_room : about1.hasRoom e0.platform room_1 = true :=
  launch0.hasRoom_least _ room_1 (by decide +kernel) (by decide +kernel) (by decide +kernel) (by decide +kernel) (by decide +kernel) (by decide +kernel)
theorem allAtoms_all (ts : List Jvm.Cond) (a : Array Jvm.Value) (st : Jvm.State) : (allAtoms ts).before a st = ts.all (fun c => c.before a st) := by
  induction ts with
  | nil => rfl
  | cons c t ih =>
    show (Jvm.Cond.and c (allAtoms t)).before a st = _
    rw [Jvm.Cond.before_and, ih, List.all_cons]
def words1 : List Jvm.Cond := Jvm.Cond.code x code maxLocals ret :: tables_1
/-- a 'code' word, met by the world's own term for the bytes: nothing is compared byte by byte -/
theorem code_word {y : MethodName} {bytes : ByteArray} {mx : Nat} {rt : Option FieldType} {a : Array Value} {s : State} {m : MethodId} {meth : Method} {c : Code} (h1 : s.methodNamed? y = some m) (h2 : s.vm.method? m = some meth) (h3 : meth.code = some c) (h4 : c.code = bytes)
    (h5 : (c.maxLocals == mx && c.exceptionTable.isEmpty && decide (c.maxStack ≤ mostOperands) && decide (meth.sig.returnType = rt) && !meth.locks && decide (parseMethodDescriptor y.desc = some meth.sig)) = true) : (Jvm.Cond.code y bytes mx rt).before a s = true := by
  simp only [Bool.and_eq_true, beq_iff_eq, Bool.not_eq_true', decide_eq_true_eq] at h5
  obtain ⟨⟨⟨⟨⟨g1, g2⟩, g3⟩, g4⟩, g5⟩, g6⟩ := h5
  simp [Cond.before, Cond.holds, Cond.value, h1, h2, h3, h4, g1, g2, g3, g4, g5, g6]
def isCode : Jvm.Cond → Bool
  | .code _ _ _ _ => true
  | _ => false
theorem all_split {L : List Jvm.Cond} {P : Jvm.Cond → Bool} (h1 : L.all (fun c => isCode c || P c) = true) (h2 : ∀ c ∈ L.filter isCode, P c = true) : L.all P = true := by
  refine List.all_eq_true.mpr fun c hc => ?_
  have h := List.all_eq_true.mp h1 c hc
  rcases Bool.eq_false_or_eq_true (isCode c) with hi | hi
  · exact h2 c (List.mem_filter.mpr ⟨hc, hi⟩)
  · simpa [hi] using h
set_option maxRecDepth 65536 in
theorem w_c0 : (Jvm.Cond.code x code maxLocals ret).before args0 about1 = true := code_word (m := ⟨1, 1⟩) (meth := k1m1) (c := k1c1) (by decide +kernel) rfl rfl rfl (by decide +kernel)
set_option maxRecDepth 65536 in
theorem w_c1 : (Jvm.Cond.code ({ cls := "com/example/moving_ceiling/movingceiling/LimitFormula", name := "<init>", desc := "(DII)V" } : Jvm.MethodName) prog_5_method_1_code (5 : Nat) (Option.none : Option Jvm.ClassFile.FieldType)).before args0 about1 = true := code_word (m := ⟨3, 0⟩) (meth := k3m0) (c := k3c0) (by decide +kernel) rfl rfl rfl (by decide +kernel)
set_option maxRecDepth 65536 in
theorem w_c2 : (Jvm.Cond.code ({ cls := "java/lang/Record", name := "<init>", desc := "()V" } : Jvm.MethodName) jdk_30_method_1_code (1 : Nat) (Option.none : Option Jvm.ClassFile.FieldType)).before args0 about1 = true := code_word (m := ⟨2, 0⟩) (meth := k2m0) (c := k2c0) (by decide +kernel) rfl rfl rfl (by decide +kernel)
set_option maxRecDepth 65536 in
theorem w_c3 : (Jvm.Cond.code ({ cls := "java/lang/Object", name := "<init>", desc := "()V" } : Jvm.MethodName) object_method_1_code (1 : Nat) (Option.none : Option Jvm.ClassFile.FieldType)).before args0 about1 = true := code_word (m := ⟨0, 0⟩) (meth := k0m0) (c := k0c0) (by decide +kernel) rfl rfl rfl (by decide +kernel)
set_option maxRecDepth 65536 in
theorem w_c4 : (Jvm.Cond.code ({ cls := "com/example/moving_ceiling/movingceiling/LimitFormula", name := "bounded", desc := "(D)I" } : Jvm.MethodName) prog_5_method_3_code (5 : Nat) (Option.some Jvm.ClassFile.FieldType.int)).before args0 about1 = true := code_word (m := ⟨3, 1⟩) (meth := k3m1) (c := k3c1) (by decide +kernel) rfl rfl rfl (by decide +kernel)
set_option maxRecDepth 65536 in
theorem w_c5 : (Jvm.Cond.code ({ cls := "java/lang/Math", name := "round", desc := "(D)J" } : Jvm.MethodName) jdk_29_method_22_code (10 : Nat) (Option.some Jvm.ClassFile.FieldType.long)).before args0 about1 = true := code_word (m := ⟨4, 1⟩) (meth := k4m1) (c := k4c1) (by decide +kernel) rfl rfl rfl (by decide +kernel)
set_option maxRecDepth 65536 in
theorem w_c6 : (Jvm.Cond.code ({ cls := "java/lang/Math", name := "min", desc := "(JJ)J" } : Jvm.MethodName) jdk_29_method_70_code (4 : Nat) (Option.some Jvm.ClassFile.FieldType.long)).before args0 about1 = true := code_word (m := ⟨4, 3⟩) (meth := k4m3) (c := k4c3) (by decide +kernel) rfl rfl rfl (by decide +kernel)
set_option maxRecDepth 65536 in
theorem w_c7 : (Jvm.Cond.code ({ cls := "java/lang/Math", name := "max", desc := "(JJ)J" } : Jvm.MethodName) jdk_29_method_66_code (4 : Nat) (Option.some Jvm.ClassFile.FieldType.long)).before args0 about1 = true := code_word (m := ⟨4, 2⟩) (meth := k4m2) (c := k4c2) (by decide +kernel) rfl rfl rfl (by decide +kernel)
def codes1 : List Jvm.Cond := [Jvm.Cond.code x code maxLocals ret, Jvm.Cond.code ({ cls := "com/example/moving_ceiling/movingceiling/LimitFormula", name := "<init>", desc := "(DII)V" } : Jvm.MethodName) prog_5_method_1_code (5 : Nat) (Option.none : Option Jvm.ClassFile.FieldType), Jvm.Cond.code ({ cls := "java/lang/Record", name := "<init>", desc := "()V" } : Jvm.MethodName) jdk_30_method_1_code (1 : Nat) (Option.none : Option Jvm.ClassFile.FieldType), Jvm.Cond.code ({ cls := "java/lang/Object", name := "<init>", desc := "()V" } : Jvm.MethodName) object_method_1_code (1 : Nat) (Option.none : Option Jvm.ClassFile.FieldType), Jvm.Cond.code ({ cls := "com/example/moving_ceiling/movingceiling/LimitFormula", name := "bounded", desc := "(D)I" } : Jvm.MethodName) prog_5_method_3_code (5 : Nat) (Option.some Jvm.ClassFile.FieldType.int), Jvm.Cond.code ({ cls := "java/lang/Math", name := "round", desc := "(D)J" } : Jvm.MethodName) jdk_29_method_22_code (10 : Nat) (Option.some Jvm.ClassFile.FieldType.long), Jvm.Cond.code ({ cls := "java/lang/Math", name := "min", desc := "(JJ)J" } : Jvm.MethodName) jdk_29_method_70_code (4 : Nat) (Option.some Jvm.ClassFile.FieldType.long), Jvm.Cond.code ({ cls := "java/lang/Math", name := "max", desc := "(JJ)J" } : Jvm.MethodName) jdk_29_method_66_code (4 : Nat) (Option.some Jvm.ClassFile.FieldType.long)]
set_option maxRecDepth 65536 in
theorem codes_eq : words1.filter isCode = codes1 := rfl
theorem w_codes : ∀ c ∈ words1.filter isCode, c.before args0 about1 = true := by
  rw [codes_eq]
  intro c hc
  simp only [codes1, List.mem_cons, List.not_mem_nil, or_false] at hc
  rcases hc with rfl | rfl | rfl | rfl | rfl | rfl | rfl | rfl
  · exact w_c0
  · exact w_c1
  · exact w_c2
  · exact w_c3
  · exact w_c4
  · exact w_c5
  · exact w_c6
  · exact w_c7
set_option maxRecDepth 65536 in
theorem w_t1 : (words1.take 24).all (fun c => isCode c || c.before args0 about1) = true := by decide +kernel
set_option maxRecDepth 65536 in
theorem w_t2 : (words1.drop 24).all (fun c => isCode c || c.before args0 about1) = true := by decide +kernel
theorem w_tables : (allAtoms (Jvm.Cond.code x code maxLocals ret :: tables_1)).before args0 about1 = true := by
  rw [allAtoms_all]
  show words1.all (fun c => c.before args0 about1) = true
  refine all_split ?_ w_codes
  rw [← List.take_append_drop 24 words1, List.all_append, w_t1, w_t2]
  rfl
set_option maxRecDepth 65536 in
theorem w_case : (Jvm.Cond.and given_1 narrow_1).before args0 about1 = true := by decide +kernel
theorem w_applies : (headSpec (Jvm.Cond.code x code maxLocals ret :: tables_1) room_1).applies x e0.platform about1 = true :=
  (Spec.applies_iff w_frames).mpr ⟨w_running, w_runnable, w_alone, w_named, w_hears, w_ripe, w_room, w_tables⟩
theorem atStart : AtStart classFile x code maxLocals ret World_1 tables_1 room_1 Calls_1 rest_1 Pre_1 launch0 p0 e0 about1 theMethod args0 below0 :=
  ⟨lists_1, trivial, launch0.admits_env _ _ _, launch0.least_env, fairChoices_fair.cas, fairChoices_fair.clock, w_frames, w_args, w_heap, w_applies, trivial, trivial, w_case⟩
end start1
theorem witness_1 : WitnessClaimed_1 := ⟨start1.p0, start1.e0, start1.about1, start1.theMethod, start1.args0, start1.below0, start1.atStart⟩
end Jvm.Pilot.@@N@@
