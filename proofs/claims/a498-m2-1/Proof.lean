import JvmDerived
import JvmDerived.Pilot.@@N@@Statement
import JvmDerived.Pilot.@@N@@Code
set_option linter.unusedVariables false
set_option linter.unusedSimpArgs false
namespace Jvm.RoadKit
open Sem ClassFile Op Lib Jvm.Stand Jvm.Free Jvm.LawKit
section OwnGo
variable {p : Program} {l : Launch} {e : Env} {R : Room} {s : State} {m : MethodId} {args : Array Value} {below : List Frame} {meth : Method} {c : Code} {T T' : State} {locs : List Loc} {cells slots kc ks : Nat} {Q : Option Value → Heap → List Loc → Prop} {f f' : JFrame} {h : Heap}
/-- from the state T with the top frame f the body comes to its end, and what it leaves meets Q -/
def Go (p : Program) (e : Env) (below : List Frame) (s : State) (kc ks : Nat) (Q : Option Value → Heap → List Loc → Prop) (T : State) (f : JFrame) : Prop :=
  ∃ (s₂ : State) (o : Outcome), Steps p.tables e below (T.setTop f) s₂ ∧ s₂.status = .running ∧ Ended s₂ below o ∧ ∃ v L, o = .returned v ∧ Q v s₂.heap L ∧ FrameEnd s o s₂ L kc ks
theorem Go.step (h : ∀ target, Steps p.tables e below (T'.setTop f') target → Steps p.tables e below (T.setTop f) target) (k : Go p e below s kc ks Q T' f') : Go p e below s kc ks Q T f := by
  obtain ⟨s₂, o, h1, r⟩ := k
  exact ⟨s₂, o, h _ h1, r⟩
theorem Go.trans (h : Steps p.tables e below (T.setTop f) (T'.setTop f')) (k : Go p e below s kc ks Q T' f') : Go p e below s kc ks Q T f := by
  obtain ⟨s₂, o, h1, r⟩ := k
  exact ⟨s₂, o, h.trans h1, r⟩
theorem Go.cast (q : f = f') (k : Go p e below s kc ks Q T f') : Go p e below s kc ks Q T f := q ▸ k
theorem Go.enter {g : JFrame} {s₁ : State} (k : Go p e below s kc ks Q s₁ f) (q : g = f) :
    ∃ s₂ o, Steps p.tables e below (s₁.setTop g) s₂ ∧ s₂.status = .running ∧ Ended s₂ below o ∧ ∃ v L, o = .returned v ∧ Q v s₂.heap L ∧ FrameEnd s o s₂ L kc ks := by
  subst q; exact k
theorem Go.ret (X : Stand p l e R s m args below meth c T locs cells slots) (hx : p.tables.exec = Jvm.exec) {pc : Nat} {Ls : Array Slot} {w : Value} {t : FieldType} {i : Instr} {rest : List Value} (hret : meth.sig.returnType = some t) (hlk : meth.locks = false) (hn : narrow t w = w)
    (hi : (i = .ireturn ∧ (t = .int ∨ t = .boolean ∨ t = .byte ∨ t = .char ∨ t = .short) ∧ ∃ z, w = .int z) ∨ (i = .lreturn ∧ t = .long ∧ ∃ z, w = .long z) ∨ (i = .dreturn ∧ t = .double ∧ ∃ z, w = .double z) ∨ (i = .freturn ∧ t = .float ∧ ∃ z, w = .float z) ∨ (i = .areturn ∧ t.isReference = true ∧ w.isRef = true))
    (hd : decode c.code pc = .ok (i, 1)) (eT : T.heap = h) (hc : cells ≤ kc) (hs : slots ≤ ks) (hQ : Q (some w) h locs) : Go p e below s kc ks Q T (mkF m pc Ls (w :: rest)) := by
  obtain ⟨fs, hr, hrun, hended, hW, hsame⟩ := X.leave (v := some w) (fun q => by rw [hret] at q; cases q) hlk
  exact ⟨_, _, retOut X hx hret hn hi hd hr, hrun, hended, _, _, rfl, (by subst eT; exact hQ), ⟨_, rfl⟩, hW, hsame.mono hc hs⟩
theorem Go.retI (X : Stand p l e R s m args below meth c T locs cells slots) (hx : p.tables.exec = Jvm.exec) {pc : Nat} {Ls : Array Slot} {z : Int32} {rest : List Value} (hret : meth.sig.returnType = some .int) (hlk : meth.locks = false)
    (hd : decode c.code pc = .ok (.ireturn, 1)) (eT : T.heap = h) (hc : cells ≤ kc) (hs : slots ≤ ks) (hQ : Q (some (.int z)) h locs) : Go p e below s kc ks Q T (mkF m pc Ls (.int z :: rest)) :=
  Go.ret X hx hret hlk rfl (Or.inl ⟨rfl, Or.inl rfl, _, rfl⟩) hd eT hc hs hQ
theorem Go.retJ (X : Stand p l e R s m args below meth c T locs cells slots) (hx : p.tables.exec = Jvm.exec) {pc : Nat} {Ls : Array Slot} {z : Int64} {rest : List Value} (hret : meth.sig.returnType = some .long) (hlk : meth.locks = false)
    (hd : decode c.code pc = .ok (.lreturn, 1)) (eT : T.heap = h) (hc : cells ≤ kc) (hs : slots ≤ ks) (hQ : Q (some (.long z)) h locs) : Go p e below s kc ks Q T (mkF m pc Ls (.long z :: rest)) :=
  Go.ret X hx hret hlk rfl (Or.inr (Or.inl ⟨rfl, rfl, _, rfl⟩)) hd eT hc hs hQ
theorem Go.retA (X : Stand p l e R s m args below meth c T locs cells slots) (hx : p.tables.exec = Jvm.exec) {pc : Nat} {Ls : Array Slot} {w : Value} {t : FieldType} {rest : List Value} (hret : meth.sig.returnType = some t) (hlk : meth.locks = false) (ht : t.isReference = true) (hv : w.isRef = true)
    (hd : decode c.code pc = .ok (.areturn, 1)) (eT : T.heap = h) (hc : cells ≤ kc) (hs : slots ≤ ks) (hQ : Q (some w) h locs) : Go p e below s kc ks Q T (mkF m pc Ls (w :: rest)) :=
  Go.ret X hx hret hlk (by cases t <;> first | (cases ht; done) | (cases w <;> first | (cases hv; done) | rfl)) (Or.inr (Or.inr (Or.inr (Or.inr ⟨rfl, ht, hv⟩)))) hd eT hc hs hQ
theorem Go.retN (X : Stand p l e R s m args below meth c T locs cells slots) (hx : p.tables.exec = Jvm.exec) {pc : Nat} {Ls : Array Slot} {z : Int32} {t : FieldType} {rest : List Value} (hret : meth.sig.returnType = some t) (hlk : meth.locks = false) (ht : t = .boolean ∨ t = .byte ∨ t = .char ∨ t = .short)
    (hd : decode c.code pc = .ok (.ireturn, 1)) (eT : T.heap = h) (hc : cells ≤ kc) (hs : slots ≤ ks) (hQ : Q (some (.int (nar t z))) h locs) : Go p e below s kc ks Q T (mkF m pc Ls (.int z :: rest)) := by
  obtain ⟨fs, hr, hrun, hended, hW, hsame⟩ := X.leave (v := some (.int (nar t z))) (fun q => by rw [hret] at q; cases q) hlk
  exact ⟨_, _, Jvm.RoadKit.retN X hx hret ht hd hr, hrun, hended, _, _, rfl, (by subst eT; exact hQ), ⟨_, rfl⟩, hW, hsame.mono hc hs⟩
theorem Go.ret0 (X : Stand p l e R s m args below meth c T locs cells slots) (hx : p.tables.exec = Jvm.exec) {pc : Nat} {Ls : Array Slot} (hret : meth.sig.returnType = none) (hlk : meth.locks = false)
    (hd : decode c.code pc = .ok (.return_, 1)) (eT : T.heap = h) (hc : cells ≤ kc) (hs : slots ≤ ks) (hQ : Q none h locs) : Go p e below s kc ks Q T (mkF m pc Ls []) := by
  obtain ⟨fs, hr, hrun, hended, hW, hsame⟩ := X.leave (v := none) (fun _ => rfl) hlk
  exact ⟨_, _, X.returnOut hx hret hd hr, hrun, hended, _, _, rfl, (by subst eT; exact hQ), ⟨_, rfl⟩, hW, hsame.mono hc hs⟩
theorem own_selp {args' : Array Value} {y : MethodName} {n : Nat} (wi : (Cond.instantiable y.cls n).before args' s = true) (hpriv : s.PrivateAt y) (hinst : (Cond.instanceMethod y).before args' s = true) (hy : y.cls ≠ "java/lang/invoke/MethodHandle" ∧ y.cls ≠ "java/lang/invoke/VarHandle") : (Cond.selects y.cls y y).before args' s = true := by
  obtain ⟨c, k, h1, h2, -, h4, -⟩ := Cond.instantiable_spec wi
  exact selects_self_of_private h1 h2 (by simp only [Bool.or_eq_false_iff] at h4; exact h4.1) hpriv hinst hy
theorem own_mvMN {Z : State} {a0 args' : Array Value} {own host : String} {y : MethodName} {index : Nat} (hZ : Z.Warmed39 s.vm) (w : (Cond.methodLinkNest own index y host).before a0 Z = true) : (Cond.methodLinkNest own index y host).before args' s = true := (Cond.methodLinkNest_wide hZ w :)
theorem own_nar01 {z : Int32} (h : z = 0 ∨ z = 1) : nar .boolean z = z := by rcases h with rfl | rfl <;> decide
end OwnGo
end Jvm.RoadKit
namespace Jvm.Pilot.@@N@@
open Jvm Jvm.ClassFile Sem Op Lib Jvm.Free Jvm.Stand Jvm.LawKit Jvm.RoadKit Bundle Jvm.Pilot.@@N@@.Jvm.D
section
open Jvm.FP Jvm.FP.Core Jvm.Free.Fl
/-- a is a finite double; its value in units of 2^-1074 is z -/
def own_Z (a : UInt64) (z : Int) : Prop := ∃ (s : Bool) (c : Nat) (q : Int), val64 a = .fin s c q ∧ -1074 ≤ q ∧ signed s (c * 2 ^ (q + 1074).toNat) = z
/-- z units are a number of the format -/
def own_rep (z : Int) : Prop := ∃ c j : Nat, z.natAbs = c * 2 ^ j ∧ c < 9007199254740992 ∧ j ≤ 2045
theorem own_e1 : (2 : Nat) ^ b64.p = 9007199254740992 := by decide +kernel
theorem own_e2 : b64.qmin = -1074 := by decide +kernel
theorem own_e3 : b64.qmax = 971 := by decide +kernel
theorem own_Z.fin {a : UInt64} {z : Int} (h : own_Z a z) : Fin64 a := by
  obtain ⟨s, c, q, h1, -⟩ := h
  exact fin64_core.mpr ⟨s, c, q, h1⟩
theorem own_Z.nn {a : UInt64} {z : Int} (h : own_Z a z) : NoNaN64 a := h.fin.noNaN
theorem own_sabs (s : Bool) (n : Nat) : (signed s n).natAbs = n := by cases s <;> simp [signed]
theorem own_sc {A B : Nat} {a b : Int} (n : Nat) (ha : 0 ≤ a + n) (hb : 0 ≤ b + n) (h : A * 2 ^ (a + n).toNat = B * 2 ^ (b + n).toNat) : A * 2 ^ (a - b).toNat = B * 2 ^ (b - a).toNat := by
  by_cases q : a ≤ b
  · rw [show (a - b).toNat = 0 by omega, show (b + n).toNat = (a + n).toNat + (b - a).toNat by omega] at *
    rw [Nat.pow_add] at h
    have hp := Nat.two_pow_pos (a + n).toNat
    have : A * 2 ^ (a + n).toNat = (B * 2 ^ (b - a).toNat) * 2 ^ (a + n).toNat := by rw [h]; ac_rfl
    have := Nat.eq_of_mul_eq_mul_right hp this
    simpa using this
  · rw [show (b - a).toNat = 0 by omega, show (a + n).toNat = (b + n).toNat + (a - b).toNat by omega] at *
    rw [Nat.pow_add] at h
    have hp := Nat.two_pow_pos (b + n).toNat
    have : (A * 2 ^ (a - b).toNat) * 2 ^ (b + n).toNat = B * 2 ^ (b + n).toNat := by rw [← h]; ac_rfl
    have := Nat.eq_of_mul_eq_mul_right hp this
    simpa using this
/-- a ratio that is a number of the format -/
theorem own_ratio {s : Bool} {A B c j : Nat} {e : Int} (hB : 0 < B) (n : Nat) (hn : 1074 ≤ n) (he : 0 ≤ e + n) (hc : c < 9007199254740992) (hj : j ≤ 2045) (h : A * 2 ^ (e + n).toNat = (c * B) * 2 ^ ((j : Int) - 1074 + n).toNat) :
    ∃ c' q', roundRatio b64 s A B e = .fin s c' q' ∧ -1074 ≤ q' ∧ c' * 2 ^ (q' + 1074).toNat = c * 2 ^ j := by
  have h1 := own_sc n he (by omega) h
  rw [roundRatio_congr (A' := c) (B' := 1) (e' := (j : Int) - 1074) hB (by decide) (by simpa using h1)]
  obtain ⟨c', q', r1, r2⟩ := round_exact good_b64 s (c := c) (q := (j : Int) - 1074) (by rw [own_e1]; exact hc) (by rw [own_e2]; omega) (by rw [own_e3]; omega)
  have hf := round_fits good_b64 (.fin s c ((j : Int) - 1074))
  rw [r1] at hf
  have hq : -1074 ≤ q' := by have := hf.2.1; rw [own_e2] at this; exact this
  refine ⟨c', q', r1, hq, ?_⟩
  unfold inUnits at r2
  rw [own_e2, show (q' - -1074).toNat = (q' + 1074).toNat by omega, show ((j : Int) - 1074 - -1074).toNat = j by omega] at r2
  exact r2
theorem own_signed {s t : Bool} {n m : Nat} (h : signed s n = signed t m) : n = m := by
  have := congrArg Int.natAbs h; rwa [own_sabs, own_sabs] at this
def own_U : Nat := 2 ^ 1074
theorem own_Upos : 0 < own_U := Nat.two_pow_pos _
theorem own_Zint (x : Int64) (h : x.toInt.natAbs < 9007199254740992) : own_Z (FP.l2d x) (x.toInt * (own_U : Int)) := by
  obtain ⟨c', q', r1, r2, r3⟩ := own_ratio (s := decide (x.toInt < 0)) (A := x.toInt.natAbs) (B := 1) (c := x.toInt.natAbs) (j := 1074) (e := 0) (by decide) 1074 (by omega) (by omega) h (by omega) (by simp)
  refine ⟨decide (x.toInt < 0), c', q', ?_, r2, ?_⟩
  · rw [show FP.l2d x = Core.l2d x from rfl, val64_l2d]; exact r1
  · rw [r3]; unfold signed
    by_cases q : x.toInt < 0
    · rw [decide_eq_true q, if_pos rfl, Int.natCast_mul, show ((x.toInt.natAbs : Nat) : Int) = -x.toInt by omega, Int.neg_mul, Int.neg_neg]; rfl
    · rw [decide_eq_false q, if_neg (by decide), Int.natCast_mul, show ((x.toInt.natAbs : Nat) : Int) = x.toInt by omega]; rfl
theorem own_Zsum {s t : Bool} {c d : Nat} {q r : Int} {x y : Int} {a : UInt64} (ha : val64 a = round b64 (exactSum (.fin s c q) (.fin t d r))) (hq : -1074 ≤ q) (hr : -1074 ≤ r) (hx : signed s (c * 2 ^ (q + 1074).toNat) = x) (hy : signed t (d * 2 ^ (r + 1074).toNat) = y) (hz : own_rep (x + y)) : own_Z a (x + y) := by
  obtain ⟨c0, j, e1, e2, e3⟩ := hz
  have hu : sumUnits s c q t d r (min q r) * ((2 ^ (min q r + 1074).toNat : Nat) : Int) = x + y := by
    unfold sumUnits inUnits
    rw [Int.add_mul, ← signed_mul, ← signed_mul, ← hx, ← hy, Nat.mul_assoc, Nat.mul_assoc, ← Nat.pow_add, ← Nat.pow_add, show (q - min q r).toNat + (min q r + 1074).toNat = (q + 1074).toNat by omega, show (r - min q r).toNat + (min q r + 1074).toNat = (r + 1074).toNat by omega]
  have ha' : val64 a = roundRatio b64 (sumSign s t (sumUnits s c q t d r (min q r))) (sumUnits s c q t d r (min q r)).natAbs 1 (min q r) := ha
  generalize sumUnits s c q t d r (min q r) = v at *
  have hna : v.natAbs * 2 ^ (min q r + 1074).toNat = c0 * 2 ^ j := by
    rw [← e1, ← hu, Int.natAbs_mul, Int.natAbs_natCast]
  obtain ⟨c', q', r1, r2, r3⟩ := own_ratio (s := sumSign s t v) (A := v.natAbs) (B := 1) (c := c0) (j := j) (e := min q r) (by decide) 1074 (by omega) (by omega) e2 e3 (by rw [show ((j : Int) - 1074 + ((1074 : Nat) : Int)).toNat = j by omega, Nat.mul_one]; exact hna)
  refine ⟨sumSign s t v, c', q', by rw [ha']; exact r1, r2, ?_⟩
  rw [r3, ← hna, signed_mul, ← hu]
  congr 1
  unfold sumSign signed
  by_cases v0 : v = 0
  · subst v0; split <;> simp
  · rw [if_neg v0]
    by_cases v1 : v < 0
    · rw [decide_eq_true v1, if_pos rfl]; omega
    · rw [decide_eq_false v1, if_neg (by decide)]; omega
theorem own_Zadd {a b : UInt64} {x y : Int} (ha : own_Z a x) (hb : own_Z b y) (hz : own_rep (x + y)) : own_Z (FP.dadd a b) (x + y) := by
  obtain ⟨s, c, q, h1, h2, h3⟩ := ha
  obtain ⟨t, d, r, k1, k2, k3⟩ := hb
  refine own_Zsum (by rw [show FP.dadd a b = Core.dadd a b from rfl, val64_dadd, h1, k1]) h2 k2 h3 k3 hz
theorem own_Zsub {a b : UInt64} {x y : Int} (ha : own_Z a x) (hb : own_Z b y) (hz : own_rep (x - y)) : own_Z (FP.dsub a b) (x - y) := by
  obtain ⟨s, c, q, h1, h2, h3⟩ := ha
  obtain ⟨t, d, r, k1, k2, k3⟩ := hb
  rw [show x - y = x + -y by omega] at hz ⊢
  refine own_Zsum (t := !t) (d := d) (r := r) (by rw [show FP.dsub a b = Core.dsub a b from rfl, val64_dsub, h1, k1]; rfl) h2 k2 h3 (by rw [← k3]; cases t <;> simp [signed]) hz
theorem own_Zcmp {a b : UInt64} {x y : Int} (ha : own_Z a x) (hb : own_Z b y) : FP.dcmp a b = some (compare x y) := by
  obtain ⟨s, c, q, h1, h2, h3⟩ := ha
  obtain ⟨t, d, r, k1, k2, k3⟩ := hb
  have e : FP.dcmp a b = order (val64 a) (val64 b) := rfl
  rw [e, order_zval good_b64 (val64_fits a) (val64_fits b) (by rw [h1]; exact nofun) (by rw [k1]; exact nofun), h1, k1]
  have z1 : zval b64 (.fin s c q) = x := by rw [← h3]; show signed s (inUnits c q b64.qmin) = _; unfold inUnits; rw [own_e2, show (q - -1074).toNat = (q + 1074).toNat by omega]
  have z2 : zval b64 (.fin t d r) = y := by rw [← k3]; show signed t (inUnits d r b64.qmin) = _; unfold inUnits; rw [own_e2, show (r - -1074).toNat = (r + 1074).toNat by omega]
  rw [z1, z2]
theorem own_sgn {s t : Bool} {X Y W : Nat} {z : Int} (hY : 0 < Y) (h : z * signed t Y = signed s X * (W : Int)) : signed (s != t) z.natAbs = z := by
  have hY' : (0 : Int) < (Y : Int) := by omega
  have hXW : (0 : Int) ≤ (X : Int) * (W : Int) := Int.mul_nonneg (by omega) (by omega)
  by_cases z0 : z = 0
  · subst z0; cases s <;> cases t <;> rfl
  by_cases zn : z < 0
  · have hm : z * (Y : Int) < 0 := Int.mul_neg_of_neg_of_pos zn hY'
    cases s <;> cases t <;> simp [signed, Int.neg_mul, Int.mul_neg] at h ⊢ <;> omega
  · have hm : 0 < z * (Y : Int) := Int.mul_pos (by omega) hY'
    cases s <;> cases t <;> simp [signed, Int.neg_mul, Int.mul_neg] at h ⊢ <;> omega
theorem own_rle {a : UInt64} {s : Bool} {c : Nat} {q : Int} (h : val64 a = .fin s c q) : q ≤ 971 := by
  have := val64_fits a; rw [h] at this; have := this.2.2.1; rw [own_e3] at this; exact this
theorem own_Zdiv {a b : UInt64} {x y z : Int} (ha : own_Z a x) (hb : own_Z b y) (hy : y ≠ 0) (hz : own_rep z) (h : z * y = x * (own_U : Int)) : own_Z (FP.ddiv a b) z := by
  obtain ⟨s, c, q, h1, h2, h3⟩ := ha
  obtain ⟨t, d, r, k1, k2, k3⟩ := hb
  obtain ⟨c0, j, e1, e2, e3⟩ := hz
  have hr := own_rle k1
  have hd : d ≠ 0 := by intro d0; subst d0; apply hy; rw [← k3]; cases t <;> simp [signed]
  have hR := Nat.two_pow_pos (r + 1074).toNat
  have hY : 0 < d * 2 ^ (r + 1074).toNat := Nat.mul_pos (by omega) hR
  have hs := own_sgn (s := s) (t := t) (X := c * 2 ^ (q + 1074).toNat) (W := own_U) hY (by rw [k3, h3]; exact h)
  have hn : c0 * 2 ^ j * (d * 2 ^ (r + 1074).toNat) = c * 2 ^ (q + 1074).toNat * 2 ^ 1074 := by
    have := congrArg Int.natAbs h
    rw [Int.natAbs_mul, Int.natAbs_mul, e1, ← k3, ← h3, own_sabs, own_sabs, Int.natAbs_natCast] at this
    exact this
  have hE : c * 2 ^ (q - r + ((4000 : Nat) : Int)).toNat = (c0 * d) * 2 ^ ((j : Int) - 1074 + ((4000 : Nat) : Int)).toNat := by
    have h5 := congrArg (· * 2 ^ (4000 - 1074 - (r + 1074).toNat)) hn
    have l1 : c0 * 2 ^ j * (d * 2 ^ (r + 1074).toNat) * 2 ^ (4000 - 1074 - (r + 1074).toNat) = (c0 * d) * 2 ^ ((j : Int) - 1074 + ((4000 : Nat) : Int)).toNat := by
      rw [show ((j : Int) - 1074 + ((4000 : Nat) : Int)).toNat = j + ((r + 1074).toNat + (4000 - 1074 - (r + 1074).toNat)) by omega, Nat.pow_add, Nat.pow_add]; ac_rfl
    have l2 : c * 2 ^ (q + 1074).toNat * 2 ^ 1074 * 2 ^ (4000 - 1074 - (r + 1074).toNat) = c * 2 ^ (q - r + ((4000 : Nat) : Int)).toNat := by
      rw [show (q - r + ((4000 : Nat) : Int)).toNat = (q + 1074).toNat + (1074 + (4000 - 1074 - (r + 1074).toNat)) by omega, Nat.pow_add, Nat.pow_add]; generalize (2 : Nat) ^ 1074 = P1; ac_rfl
    rw [← l1, ← l2, h5]
  obtain ⟨c', q', r1, r2, r3⟩ := own_ratio (s := s != t) (A := c) (B := d) (c := c0) (j := j) (e := q - r) (by omega) 4000 (by omega) (by omega) e2 e3 hE
  refine ⟨s != t, c', q', ?_, r2, ?_⟩
  · rw [show FP.ddiv a b = Core.ddiv a b from rfl, val64_ddiv, h1, k1]
    show (if d = 0 then _ else roundRatio b64 (s != t) c d (q - r)) = _
    rw [if_neg hd]; exact r1
  · rw [r3, ← e1]; exact hs
theorem own_sgn2 {s t : Bool} {X Y W : Nat} {z : Int} (hW : 0 < W) (h : z * (W : Int) = signed s X * signed t Y) : signed (s != t) z.natAbs = z := by
  have hW' : (0 : Int) < (W : Int) := by omega
  have hXY : (0 : Int) ≤ (X : Int) * (Y : Int) := Int.mul_nonneg (by omega) (by omega)
  by_cases z0 : z = 0
  · subst z0; cases s <;> cases t <;> rfl
  by_cases zn : z < 0
  · have hm : z * (W : Int) < 0 := Int.mul_neg_of_neg_of_pos zn hW'
    cases s <;> cases t <;> simp [signed, Int.neg_mul, Int.mul_neg] at h ⊢ <;> omega
  · have hm : 0 < z * (W : Int) := Int.mul_pos (by omega) hW'
    cases s <;> cases t <;> simp [signed, Int.neg_mul, Int.mul_neg] at h ⊢ <;> omega
theorem own_Zmul {a b : UInt64} {x y z : Int} (ha : own_Z a x) (hb : own_Z b y) (hz : own_rep z) (h : z * (own_U : Int) = x * y) : own_Z (FP.dmul a b) z := by
  obtain ⟨s, c, q, h1, h2, h3⟩ := ha
  obtain ⟨t, d, r, k1, k2, k3⟩ := hb
  obtain ⟨c0, j, e1, e2, e3⟩ := hz
  have hs := own_sgn2 (s := s) (t := t) (X := c * 2 ^ (q + 1074).toNat) (Y := d * 2 ^ (r + 1074).toNat) own_Upos (by rw [k3, h3]; exact h)
  have hn : c0 * 2 ^ j * 2 ^ 1074 = c * 2 ^ (q + 1074).toNat * (d * 2 ^ (r + 1074).toNat) := by
    have := congrArg Int.natAbs h
    rw [Int.natAbs_mul, Int.natAbs_mul, e1, ← k3, ← h3, own_sabs, own_sabs, Int.natAbs_natCast] at this
    exact this
  have hE : (c * d) * 2 ^ (q + r + ((4000 : Nat) : Int)).toNat = (c0 * 1) * 2 ^ ((j : Int) - 1074 + ((4000 : Nat) : Int)).toNat := by
    have h5 := congrArg (· * 2 ^ (4000 - 2148)) hn
    have l1 : c0 * 2 ^ j * 2 ^ 1074 * 2 ^ (4000 - 2148) = (c0 * 1) * 2 ^ ((j : Int) - 1074 + ((4000 : Nat) : Int)).toNat := by
      rw [show ((j : Int) - 1074 + ((4000 : Nat) : Int)).toNat = j + (1074 + (4000 - 2148)) by omega, Nat.pow_add, Nat.pow_add]; generalize (2 : Nat) ^ 1074 = P1; generalize (2 : Nat) ^ (4000 - 2148) = P2; ac_rfl
    have l2 : c * 2 ^ (q + 1074).toNat * (d * 2 ^ (r + 1074).toNat) * 2 ^ (4000 - 2148) = (c * d) * 2 ^ (q + r + ((4000 : Nat) : Int)).toNat := by
      rw [show (q + r + ((4000 : Nat) : Int)).toNat = (q + 1074).toNat + ((r + 1074).toNat + (4000 - 2148)) by omega, Nat.pow_add, Nat.pow_add]; generalize (2 : Nat) ^ (4000 - 2148) = P2; ac_rfl
    rw [← l1, ← l2, h5]
  obtain ⟨c', q', r1, r2, r3⟩ := own_ratio (s := s != t) (A := c * d) (B := 1) (c := c0) (j := j) (e := q + r) (by decide) 4000 (by omega) (by omega) e2 e3 hE
  refine ⟨s != t, c', q', ?_, r2, ?_⟩
  · rw [show FP.dmul a b = Core.dmul a b from rfl, val64_dmul, h1, k1]; exact r1
  · rw [r3, ← e1]; exact hs
end
section
open Jvm Jvm.ClassFile Sem Op Lib Jvm.Free Jvm.Stand Jvm.LawKit Jvm.RoadKit Jvm.FP Jvm.Free.Fl
theorem own_alg1 (j q u : Int) : j * q * (4 * u) = j * (4 * q) * u := by ac_rfl
theorem own_alg2 (m q : Int) : m * (4 * q) = (4 * m) * q := by ac_rfl
theorem own_alg3 (j t D u : Int) : j * t * (D * u) = j * (t * D) * u := by ac_rfl
theorem own_alg4 (j t D u : Int) : j * t * (4 * D * u) = j * (4 * (t * D)) * u := by ac_rfl
theorem own_repP (m : Int) (k : Nat) (h : m.natAbs < 9007199254740992) (hk : k ≤ 2045) : own_rep (m * ((2 ^ k : Nat) : Int)) := ⟨m.natAbs, k, by rw [Int.natAbs_mul, Int.natAbs_natCast], h, hk⟩
def own_Q : Nat := 2 ^ 1072
theorem own_U4 : (own_U : Int) = 4 * (own_Q : Int) := by
  have : own_U = 4 * own_Q := by unfold own_U own_Q; rw [show (1074 : Nat) = 2 + 1072 from rfl, Nat.pow_add]
  omega
theorem own_Qpos : (0 : Int) < (own_Q : Int) := by have : 0 < own_Q := Nat.two_pow_pos _; omega
theorem own_four : own_Z 4616189618054758400 (4 * (own_U : Int)) := by
  have := own_Zint 4 (by decide); rw [show FP.l2d 4 = 4616189618054758400 by decide +kernel] at this; exact this
theorem own_quart (j : Int32) : own_Z (FP.ddiv (FP.i2d j) 4616189618054758400) (j.toInt * (own_Q : Int)) := by
  have g := rng32 j; have e := c_i2l j
  rw [i2d_w j]
  have h1 := own_Zint j.toInt64 (by omega)
  rw [e] at h1
  refine own_Zdiv h1 own_four (by have := own_Upos; omega) (own_repP _ 1072 (by omega) (by omega)) ?_
  show j.toInt * (own_Q : Int) * (4 * (own_U : Int)) = _
  rw [own_alg1, ← own_U4]
theorem own_adv {jp : Int64} {j : Int32} (hp : 0 ≤ jp.toInt ∧ jp.toInt ≤ 65790) : own_Z (FP.dadd (FP.l2d jp) (FP.ddiv (FP.i2d j) 4616189618054758400)) ((4 * jp.toInt + j.toInt) * (own_Q : Int)) := by
  have g := rng32 j
  have e : jp.toInt * (own_U : Int) + j.toInt * (own_Q : Int) = (4 * jp.toInt + j.toInt) * (own_Q : Int) := by rw [own_U4, Int.add_mul, own_alg2]
  have := own_Zadd (own_Zint jp (by omega)) (own_quart j) (by rw [e]; exact own_repP _ 1072 (by omega) (by omega))
  rw [e] at this; exact this
theorem own_cv (x y : Int) (o : CmpOp) : cmpValue (some (compare x y)) o = if x < y then -1 else if x = y then 0 else 1 := by
  simp only [compare, compareOfLessAndEq]
  by_cases h : x < y
  · simp only [if_pos h]; rfl
  · simp only [if_neg h]
    by_cases h2 : x = y
    · simp only [if_pos h2]; rfl
    · simp only [if_neg h2]; rfl
theorem own_cvg {a b : UInt64} {x y : Int} (ha : own_Z a x) (hb : own_Z b y) (o : CmpOp) : ((0 : Int32) < cmpValue (FP.dcmp a b) o ↔ y < x) := by
  rw [own_Zcmp ha hb, own_cv]
  by_cases h : x < y
  · rw [if_pos h]; exact ⟨fun q => absurd q (by decide), fun q => by omega⟩
  · rw [if_neg h]
    by_cases h2 : x = y
    · rw [if_pos h2]; exact ⟨fun q => absurd q (by decide), fun q => by omega⟩
    · rw [if_neg h2]; exact ⟨fun _ => by omega, fun _ => by decide⟩
theorem own_cve {a b : UInt64} {x : Int} (ha : own_Z a x) (hb : own_Z b x) (o : CmpOp) : cmpValue (FP.dcmp a b) o = 0 := by
  rw [own_Zcmp ha hb, own_cv, if_neg (by omega), if_pos rfl]
theorem own_mulQ {m n : Int} : m * (own_Q : Int) < n * (own_Q : Int) ↔ m < n := by
  have := own_Qpos
  constructor
  · intro h; exact Int.lt_of_mul_lt_mul_right h (by omega)
  · intro h; exact Int.mul_lt_mul_of_pos_right h this
theorem own_UQ (m : Int) : m * (own_U : Int) = (4 * m) * (own_Q : Int) := by rw [own_U4, own_alg2]
theorem own_g1 {da : UInt64} {jp : Int64} {j : Int32} (hp : 0 ≤ jp.toInt ∧ jp.toInt ≤ 65790) (ZA : own_Z da ((4 * jp.toInt + j.toInt) * (own_Q : Int))) (o : CmpOp) : ((0 : Int32) < cmpValue (FP.dcmp da (FP.l2d jp)) o ↔ 0 < j.toInt) := by
  rw [own_cvg ZA (own_Zint jp (by omega)), own_UQ, own_mulQ]; omega
theorem own_g2 {da : UInt64} {jp jv : Int64} {j : Int32} {D : Int} (hp : 0 ≤ jp.toInt ∧ jp.toInt ≤ 65790) (hD : 0 ≤ D ∧ D ≤ 128) (hv : jv.toInt = jp.toInt + D) (ZA : own_Z da ((4 * jp.toInt + j.toInt) * (own_Q : Int))) (o : CmpOp) : ((0 : Int32) < cmpValue (FP.dcmp da (FP.l2d jv)) o ↔ 4 * D < j.toInt) := by
  rw [own_cvg ZA (own_Zint jv (by omega)), own_UQ, own_mulQ]; omega
theorem own_fin3 {da : UInt64} {jp jv : Int64} {j sp : Int32} {D : Int} {e : Nat} (hp : 0 ≤ jp.toInt ∧ jp.toInt ≤ 65790) (hD : D = ((2 ^ e : Nat) : Int)) (he : e ≤ 7) (hv : jv.toInt = jp.toInt + D) (hs : sp.toInt = 4 * D) (hj : 0 < j.toInt ∧ j.toInt ≤ 4 * D) (ZA : own_Z da ((4 * jp.toInt + j.toInt) * (own_Q : Int))) :
    NoNaN64 (FP.dsub da (FP.l2d jp)) ∧ NoNaN64 (FP.dsub (FP.l2d jv) (FP.l2d jp)) ∧ NoNaN64 (FP.ddiv (FP.dsub da (FP.l2d jp)) (FP.dsub (FP.l2d jv) (FP.l2d jp))) ∧
    NoNaN64 (FP.dmul (FP.ddiv (FP.dsub da (FP.l2d jp)) (FP.dsub (FP.l2d jv) (FP.l2d jp))) (FP.i2d sp)) ∧ cmpValue (FP.dcmp (FP.dmul (FP.ddiv (FP.dsub da (FP.l2d jp)) (FP.dsub (FP.l2d jv) (FP.l2d jp))) (FP.i2d sp)) (FP.i2d j)) .l = 0 := by
  have hD1 : 1 ≤ D ∧ D ≤ 128 := by
    have p1 := Nat.two_pow_pos e
    have p2 : 2 ^ e ≤ 2 ^ 7 := Nat.pow_le_pow_right (by decide) he
    have : (2 : Nat) ^ 7 = 128 := rfl
    omega
  have gj := rng32 j
  have e1 : (4 * jp.toInt + j.toInt) * (own_Q : Int) - jp.toInt * (own_U : Int) = j.toInt * (own_Q : Int) := by rw [own_UQ, ← Int.sub_mul]; congr 1; omega
  have Z1 := own_Zsub ZA (own_Zint jp (by omega)) (by rw [e1]; exact own_repP _ 1072 (by omega) (by omega))
  rw [e1] at Z1
  have e2 : jv.toInt * (own_U : Int) - jp.toInt * (own_U : Int) = D * (own_U : Int) := by rw [← Int.sub_mul, hv]; congr 1; omega
  have Z2 := own_Zsub (own_Zint jv (by omega)) (own_Zint jp (by omega)) (by rw [e2]; exact own_repP _ 1074 (by omega) (by omega))
  rw [e2] at Z2
  have hU := own_Upos
  have hUi : (0 : Int) < (own_U : Int) := by omega
  have Z3 : own_Z (FP.ddiv (FP.dsub da (FP.l2d jp)) (FP.dsub (FP.l2d jv) (FP.l2d jp))) (j.toInt * ((2 ^ (1072 - e) : Nat) : Int)) := by
    refine own_Zdiv Z1 Z2 ?_ (own_repP _ _ (by omega) (by omega)) ?_
    · have := Int.mul_pos (show (0 : Int) < D by omega) hUi; omega
    · have : ((2 ^ (1072 - e) : Nat) : Int) * D = (own_Q : Int) := by
        rw [hD, ← Int.natCast_mul, ← Nat.pow_add, show 1072 - e + e = 1072 by omega]; rfl
      rw [own_alg3, this]
  have es := c_i2l sp
  have ej := c_i2l j
  have Zs : own_Z (FP.i2d sp) ((4 * D) * (own_U : Int)) := by have := own_Zint sp.toInt64 (by omega); rw [es, hs] at this; rw [i2d_w sp]; exact this
  have Zj : own_Z (FP.i2d j) (j.toInt * (own_U : Int)) := by have := own_Zint j.toInt64 (by omega); rw [ej] at this; rw [i2d_w j]; exact this
  have Z4 : own_Z (FP.dmul (FP.ddiv (FP.dsub da (FP.l2d jp)) (FP.dsub (FP.l2d jv) (FP.l2d jp))) (FP.i2d sp)) (j.toInt * (own_U : Int)) := by
    refine own_Zmul Z3 Zs (own_repP _ 1074 (by omega) (by omega)) ?_
    have : ((2 ^ (1072 - e) : Nat) : Int) * D = (own_Q : Int) := by
      rw [hD, ← Int.natCast_mul, ← Nat.pow_add, show 1072 - e + e = 1072 by omega]; rfl
    rw [own_alg4, this, ← own_U4]
  exact ⟨Z1.nn, Z2.nn, Z3.nn, Z4.nn, own_cve Z4 Zj .l⟩
theorem own_max : own_Z 9218868437227405311 (9007199254740991 * ((2 ^ 2045 : Nat) : Int)) := ⟨false, 9007199254740991, 971, by decide +kernel, by decide, by show ((9007199254740991 * 2 ^ (971 + 1074 : Int).toNat : Nat) : Int) = _; rw [show (971 + 1074 : Int).toNat = 2045 from rfl, Int.natCast_mul]; rfl⟩
theorem own_isfin {jx : Int64} (h : 0 ≤ jx.toInt ∧ jx.toInt < 9007199254740992) : ¬ ((0 : Int32) < cmpValue (FP.dcmp (FP.l2d jx &&& 0x7fffffffffffffff) 9218868437227405311) .g) := by
  rw [abs_w (by rw [Int64.lt_iff_toInt_lt]; show ¬ jx.toInt < 0; omega), own_cvg (own_Zint jx (by omega)) own_max]
  have h1 : jx.toInt * (own_U : Int) ≤ 9007199254740991 * (own_U : Int) := Int.mul_le_mul_of_nonneg_right (by omega) (by omega)
  have h2 : (own_U : Int) ≤ ((2 ^ 2045 : Nat) : Int) := by have : own_U ≤ 2 ^ 2045 := Nat.pow_le_pow_right (by decide) (by decide); omega
  have h3 : 9007199254740991 * (own_U : Int) ≤ 9007199254740991 * ((2 ^ 2045 : Nat) : Int) := Int.mul_le_mul_of_nonneg_left h2 (by decide)
  omega
theorem own_le {a b : Int64} (ha : 0 ≤ a.toInt ∧ a.toInt < 9007199254740992) (hb : 0 ≤ b.toInt ∧ b.toInt < 9007199254740992) (h : a.toInt ≤ b.toInt) (o : CmpOp) : ¬ ((0 : Int32) < cmpValue (FP.dcmp (FP.l2d a) (FP.l2d b)) o) := by
  rw [own_cvg (own_Zint a (by omega)) (own_Zint b (by omega))]
  have hU := own_Upos
  have := Int.mul_le_mul_of_nonneg_right h (show (0 : Int) ≤ (own_U : Int) by omega)
  omega
end
section
open Jvm Jvm.ClassFile Sem Op Lib Jvm.Free Jvm.Stand Jvm.LawKit Jvm.RoadKit Jvm.FP Jvm.FP.Core Jvm.Free.Fl
/-- a number of the format as a datum -/
theorem own_dat {n : Nat} (h : own_rep (n : Int)) : ∃ V : Datum, Core.fits b64 V ∧ V ≠ .nan ∧ zmag b64 V = n ∧ zmag b64 V < b64.tails * 2 ^ (b64.exps - 2) := by
  obtain ⟨c, j, e1, e2, e3⟩ := h
  rw [Int.natAbs_natCast] at e1
  obtain ⟨c', q', r1, r2⟩ := round_exact good_b64 false (c := c) (q := (j : Int) - 1074) (by rw [own_e1]; exact e2) (by rw [own_e2]; omega) (by rw [own_e3]; omega)
  have hf := round_fits good_b64 (.fin false c ((j : Int) - 1074))
  rw [r1] at hf
  refine ⟨.fin false c' q', hf, nofun, ?_, zmag_lt_top good_b64 hf⟩
  show inUnits c' q' b64.qmin = n
  rw [r2, e1, own_e2]
  unfold inUnits
  rw [show ((j : Int) - 1074 - -1074).toNat = j by omega]
/-- a rounded ratio lies between the numbers of the format that the ratio lies between -/
theorem own_rr {a : UInt64} {s : Bool} {A B : Nat} {e : Int} (h : val64 a = roundRatio b64 s A B e) (hB : 0 < B) (n : Nat) (hn : 1074 ≤ n) (he : 0 ≤ e + n) {lo hi : Nat} (rl : own_rep (lo : Int)) (rh : own_rep (hi : Int)) (h1 : lo * 2 ^ (n - 1074) * B ≤ A * 2 ^ (e + n).toNat) (h2 : A * 2 ^ (e + n).toNat ≤ hi * 2 ^ (n - 1074) * B) :
    ∃ m : Nat, own_Z a (signed s m) ∧ lo ≤ m ∧ m ≤ hi := by
  obtain ⟨V, v1, v2, v3, -⟩ := own_dat rl
  obtain ⟨X, x1, x2, x3, x4⟩ := own_dat rh
  have i0 : inUnits A e (-(n : Int)) = A * 2 ^ (e + n).toNat := by unfold inUnits; rw [show e - -(n : Int) = e + n by omega]
  have k0 : (b64.qmin - -(n : Int)).toNat = n - 1074 := by rw [own_e2]; omega
  have g1 := zmag_roundRatio_ge good_b64 (s := s) (A := A) (B := B) (e := e) (e0 := -(n : Int)) hB v1 (by rw [own_e2]; omega) (by omega) (by rw [i0, k0, v3]; exact h1)
  have g2 := zmag_roundRatio_le good_b64 (s := s) (A := A) (B := B) (e := e) (e0 := -(n : Int)) hB x1 x2 (by rw [own_e2]; omega) (by omega) (by rw [i0, k0, x3]; exact h2)
  rw [v3] at g1
  have hfit := roundRatio_fits good_b64 s A hB e
  rcases roundRatio_cases b64 s A B e with ⟨c, q, hR⟩ | hR
  · rw [hR] at h g1 g2 hfit
    have hq : -1074 ≤ q := by have := hfit.2.1; rw [own_e2] at this; exact this
    have hz : zmag b64 (.fin s c q) = c * 2 ^ (q + 1074).toNat := by show inUnits c q b64.qmin = _; unfold inUnits; rw [own_e2, show (q - -1074).toNat = (q + 1074).toNat by omega]
    rw [hz] at g1 g2
    exact ⟨_, ⟨s, c, q, h, hq, rfl⟩, g1, by rw [← x3]; exact g2⟩
  · rw [hR] at g2
    exact absurd (Nat.lt_of_le_of_lt g2 x4) (Nat.lt_irrefl _)
theorem own_al5 (a b c d : Nat) : a * b * c * d = a * (c * d) * b := by ac_rfl
theorem own_al6 (a b c d x y : Nat) (h : b * c = x * (d * y)) : a * b * c = a * x * d * y := by rw [Nat.mul_assoc, h]; ac_rfl
theorem own_al7 (a b c d : Nat) : a * b * c * d = a * c * (b * d) := by ac_rfl
theorem own_al8 (c d x y P N : Nat) (h : x * y * P = N) : c * x * (d * y) * P = c * d * N := by rw [← h]; ac_rfl
/-- a quotient of numbers that are not negative -/
theorem own_Zdivb {a b : UInt64} {x y lo hi : Int} (ha : own_Z a x) (hb : own_Z b y) (hx : 0 ≤ x) (hy : 0 < y) (rl : own_rep lo) (rh : own_rep hi) (h0 : 0 ≤ lo) (h1 : lo * y ≤ x * (own_U : Int)) (h2 : x * (own_U : Int) ≤ hi * y) :
    ∃ z, own_Z (FP.ddiv a b) z ∧ lo ≤ z ∧ z ≤ hi := by
  obtain ⟨s, c, q, a1, a2, a3⟩ := ha
  obtain ⟨t, d, r, b1, b2, b3⟩ := hb
  have hr := own_rle b1
  have hh : 0 ≤ hi := by
    refine Int.not_lt.mp fun q => ?_
    have := Int.mul_neg_of_neg_of_pos q hy
    have := Int.mul_nonneg hx (show (0 : Int) ≤ (own_U : Int) by omega)
    omega
  have hd : d ≠ 0 := by intro d0; subst d0; rw [← b3] at hy; cases t <;> simp [signed] at hy
  have ht : t = false := by
    cases t
    · rfl
    · exfalso; rw [← b3] at hy; simp only [signed, if_true] at hy; omega
  subst ht
  have hY : ((d * 2 ^ (r + 1074).toNat : Nat) : Int) = y := b3
  have hX : ((c * 2 ^ (q + 1074).toNat : Nat) : Int) = x := by
    cases s
    · exact a3
    · simp only [signed, if_true] at a3; omega
  have hv : val64 (FP.ddiv a b) = roundRatio b64 s c d (q - r) := by
    rw [show FP.ddiv a b = Core.ddiv a b from rfl, val64_ddiv, a1, b1]
    show (if d = 0 then _ else roundRatio b64 (s != false) c d (q - r)) = _
    rw [if_neg hd, Bool.bne_false]
  have hR := Nat.two_pow_pos (r + 1074).toNat
  obtain ⟨LO, rfl⟩ := Int.eq_ofNat_of_zero_le h0
  obtain ⟨HI, rfl⟩ := Int.eq_ofNat_of_zero_le hh
  rw [← hX, ← hY, ← Int.natCast_mul, ← Int.natCast_mul, Int.ofNat_le] at h1 h2
  have ee : 2 ^ (q - r + ((4000 : Nat) : Int)).toNat * 2 ^ (r + 1074).toNat = 2 ^ (q + 1074).toNat * (own_U * 2 ^ (4000 - 1074)) := by
    unfold own_U
    rw [← Nat.pow_add, ← Nat.pow_add, ← Nat.pow_add]
    congr 1; omega
  have e2 := own_al6 c _ _ own_U (2 ^ (q + 1074).toNat) (2 ^ (4000 - 1074)) ee
  have k1 : LO * 2 ^ (4000 - 1074) * d ≤ c * 2 ^ (q - r + ((4000 : Nat) : Int)).toNat := by
    refine Nat.le_of_mul_le_mul_right ?_ hR
    rw [e2, own_al5 LO]
    exact Nat.mul_le_mul_right _ h1
  have k2 : c * 2 ^ (q - r + ((4000 : Nat) : Int)).toNat ≤ HI * 2 ^ (4000 - 1074) * d := by
    refine Nat.le_of_mul_le_mul_right ?_ hR
    rw [e2, own_al5 HI]
    exact Nat.mul_le_mul_right _ h2
  cases s
  · obtain ⟨m, m1, m2, m3⟩ := own_rr hv (by omega) 4000 (by omega) (by have := own_rle a1; omega) rl rh k1 k2
    exact ⟨(m : Int), m1, by omega, by omega⟩
  · have c0 : c = 0 := by
      have : c * 2 ^ (q + 1074).toNat = 0 := by simp only [signed, if_true] at a3; omega
      rcases Nat.mul_eq_zero.mp this with h | h
      · exact h
      · have := Nat.two_pow_pos (q + 1074).toNat; omega
    subst c0
    have r0 : own_rep ((0 : Nat) : Int) := ⟨0, 0, by simp, by decide, by decide⟩
    obtain ⟨m, m1, m2, m3⟩ := own_rr hv (by omega) 4000 (by omega) (by have := own_rle a1; omega) r0 r0 (by simp) (by simp)
    obtain rfl : m = 0 := by omega
    refine ⟨0, m1, ?_, by omega⟩
    have k3 : LO * (2 ^ (4000 - 1074) * d) = 0 := by rw [← Nat.mul_assoc]; rw [Nat.zero_mul] at k1; exact Nat.le_zero.mp k1
    rcases Nat.mul_eq_zero.mp k3 with h | h
    · omega
    · rcases Nat.mul_eq_zero.mp h with h | h
      · exact absurd h (Nat.ne_of_gt (Nat.two_pow_pos _))
      · exact absurd h hd
/-- a product of numbers that are not negative -/
theorem own_Zmulb {a b : UInt64} {x y lo hi : Int} (ha : own_Z a x) (hb : own_Z b y) (hx : 0 < x) (hy : 0 < y) (rl : own_rep lo) (rh : own_rep hi) (h0 : 0 ≤ lo) (h1 : lo * (own_U : Int) ≤ x * y) (h2 : x * y ≤ hi * (own_U : Int)) :
    ∃ z, own_Z (FP.dmul a b) z ∧ lo ≤ z ∧ z ≤ hi := by
  obtain ⟨s, c, q, a1, a2, a3⟩ := ha
  obtain ⟨t, d, r, b1, b2, b3⟩ := hb
  have hU := own_Upos
  have hh : 0 ≤ hi := by
    refine Int.not_lt.mp fun q => ?_
    have := Int.mul_neg_of_neg_of_pos q (show (0 : Int) < (own_U : Int) by omega)
    have := Int.mul_pos hx hy
    omega
  have hs : s = false := by
    cases s
    · rfl
    · exfalso; rw [← a3] at hx; simp only [signed, if_true] at hx; omega
  have ht : t = false := by
    cases t
    · rfl
    · exfalso; rw [← b3] at hy; simp only [signed, if_true] at hy; omega
  subst hs; subst ht
  have hX : ((c * 2 ^ (q + 1074).toNat : Nat) : Int) = x := a3
  have hY : ((d * 2 ^ (r + 1074).toNat : Nat) : Int) = y := b3
  have hv : val64 (FP.dmul a b) = roundRatio b64 false (c * d) 1 (q + r) := by
    rw [show FP.dmul a b = Core.dmul a b from rfl, val64_dmul, a1, b1]; rfl
  obtain ⟨LO, rfl⟩ := Int.eq_ofNat_of_zero_le h0
  obtain ⟨HI, rfl⟩ := Int.eq_ofNat_of_zero_le hh
  rw [← hX, ← hY, ← Int.natCast_mul, ← Int.natCast_mul, Int.ofNat_le] at h1 h2
  have ee : 2 ^ (q + 1074).toNat * 2 ^ (r + 1074).toNat * 2 ^ (4000 - 2148) = 2 ^ (q + r + ((4000 : Nat) : Int)).toNat := by
    rw [← Nat.pow_add, ← Nat.pow_add]; congr 1; omega
  have e2 := own_al8 c d _ _ _ _ ee
  have e3 : ∀ k : Nat, k * own_U * 2 ^ (4000 - 2148) = k * 2 ^ (4000 - 1074) * 1 := by
    intro k; unfold own_U; rw [Nat.mul_one, Nat.mul_assoc, ← Nat.pow_add]
  obtain ⟨m, m1, m2, m3⟩ := own_rr hv (by decide) 4000 (by omega) (by omega) rl rh (by rw [← e3, ← e2]; exact Nat.mul_le_mul_right _ h1) (by rw [← e3, ← e2]; exact Nat.mul_le_mul_right _ h2)
  exact ⟨(m : Int), m1, by omega, by omega⟩
end
section
open Jvm Jvm.ClassFile Sem Op Lib Jvm.Free Jvm.Stand Jvm.LawKit Jvm.RoadKit Jvm.FP Jvm.Free.Fl
def own_W : Nat := 2 ^ 1034
def own_E : Nat := 2 ^ 1064
theorem own_UW : (own_U : Int) = 1099511627776 * (own_W : Int) := by
  have : own_U = 1099511627776 * own_W := by unfold own_U own_W; rw [show (1074 : Nat) = 40 + 1034 from rfl, Nat.pow_add]
  omega
theorem own_EW : (own_E : Int) = 1073741824 * (own_W : Int) := by
  have : own_E = 1073741824 * own_W := by unfold own_E own_W; rw [show (1064 : Nat) = 30 + 1034 from rfl, Nat.pow_add]
  omega
theorem own_UE : (own_U : Int) = 1024 * (own_E : Int) := by
  have : own_U = 1024 * own_E := by unfold own_U own_E; rw [show (1074 : Nat) = 10 + 1064 from rfl, Nat.pow_add]
  omega
theorem own_Wpos : (0 : Int) < (own_W : Int) := by have : 0 < own_W := Nat.two_pow_pos _; omega
theorem own_Epos : (0 : Int) < (own_E : Int) := by have : 0 < own_E := Nat.two_pow_pos _; omega
theorem own_UposI : (0 : Int) < (own_U : Int) := by have := own_Upos; omega
theorem own_zero : own_Z 0 0 := by
  have := own_Zint 0 (by decide); rw [RoadKit.l2d_zero, show (0 : Int64).toInt = 0 from rfl, Int.zero_mul] at this; exact this
theorem own_one : own_Z 4607182418800017408 (own_U : Int) := by
  have := own_Zint 1 (by decide); rw [show FP.l2d 1 = 4607182418800017408 by decide +kernel, show (1 : Int64).toInt = 1 from rfl, Int.one_mul] at this; exact this
theorem own_eps : own_Z 4562146422526312448 (own_E : Int) := ⟨false, 4503599627370496, -62, by decide +kernel, by decide, by show ((4503599627370496 * 2 ^ (-62 + 1074 : Int).toNat : Nat) : Int) = _; unfold own_E; rw [show (-62 + 1074 : Int).toNat = 1012 from rfl, show (4503599627370496 : Nat) = 2 ^ 52 from rfl, ← Nat.pow_add]⟩
theorem own_cvl {a b : UInt64} {x y : Int} (ha : own_Z a x) (hb : own_Z b y) (o : CmpOp) : (cmpValue (FP.dcmp a b) o < (0 : Int32) ↔ x < y) := by
  rw [own_Zcmp ha hb, own_cv]
  by_cases h : x < y
  · rw [if_pos h]; exact ⟨fun _ => h, fun _ => by decide⟩
  · rw [if_neg h]
    by_cases h2 : x = y
    · rw [if_pos h2]; exact ⟨fun q => absurd q (by decide), fun q => by omega⟩
    · rw [if_neg h2]; exact ⟨fun q => absurd q (by decide), fun q => by omega⟩
theorem own_m1 (f d n w u : Int) (hu : u = 1099511627776 * w) (hw : 0 ≤ w * u) (h : f * d ≤ n * 1099511627776) : f * w * (d * u) ≤ n * u * u := by
  have h1 := Int.mul_le_mul_of_nonneg_right h hw
  have e1 : f * w * (d * u) = f * d * (w * u) := by ac_rfl
  have e2 : n * u * u = n * 1099511627776 * (w * u) := by
    have : n * u * u = n * (1099511627776 * w) * u := by rw [← hu]
    rw [this]; ac_rfl
  omega
theorem own_m2 (f d n w u : Int) (hu : u = 1099511627776 * w) (hw : 0 ≤ w * u) (h : n * 1099511627776 ≤ f * d) : n * u * u ≤ f * w * (d * u) := by
  have h1 := Int.mul_le_mul_of_nonneg_right h hw
  have e1 : f * w * (d * u) = f * d * (w * u) := by ac_rfl
  have e2 : n * u * u = n * 1099511627776 * (w * u) := by
    have : n * u * u = n * (1099511627776 * w) * u := by rw [← hu]
    rw [this]; ac_rfl
  omega
/-- what is known of a rounded quotient n / d -/
def own_R (n d z f : Int) : Prop := f * (own_W : Int) ≤ z ∧ z ≤ (f + 1) * (own_W : Int) ∧ 0 ≤ f ∧ f * d ≤ n * 1099511627776 ∧ n * 1099511627776 < (f + 1) * d ∧ (n = 0 → z = 0)
theorem own_quot {a b : UInt64} {n d : Int} (ha : own_Z a (n * (own_U : Int))) (hb : own_Z b (d * (own_U : Int))) (hn : 0 ≤ n) (hnd : n < d) (hd : d ≤ 32768) : ∃ z f, own_Z (FP.ddiv a b) z ∧ own_R n d z f := by
  have hU := own_UposI
  have hW := own_Wpos
  have hy : 0 < d * (own_U : Int) := Int.mul_pos (by omega) hU
  by_cases n0 : n = 0
  · subst n0
    have r0 : own_rep (0 : Int) := ⟨0, 0, by simp, by decide, by decide⟩
    obtain ⟨z, z1, z2, z3⟩ := own_Zdivb ha hb (by rw [Int.zero_mul]; exact Int.le_refl 0) hy r0 r0 (by decide) (by simp) (by simp)
    obtain rfl : z = 0 := by omega
    exact ⟨0, 0, z1, by simp, by omega, by decide, by simp, by omega, fun _ => rfl⟩
  · have k1 : n * 1099511627776 / d * d ≤ n * 1099511627776 := Int.ediv_mul_le _ (by omega)
    have k2 : n * 1099511627776 < (n * 1099511627776 / d + 1) * d := Int.lt_ediv_add_one_mul_self _ (by omega)
    have k3 : 0 ≤ n * 1099511627776 / d := Int.ediv_nonneg (by omega) (by omega)
    generalize n * 1099511627776 / d = f at *
    have k4 : f < 1099511627776 := by
      refine Int.not_le.mp fun q => ?_
      have := Int.mul_le_mul_of_nonneg_right q (show 0 ≤ d by omega)
      omega
    obtain ⟨z, z1, z2, z3⟩ := own_Zdivb (lo := f * (own_W : Int)) (hi := (f + 1) * (own_W : Int)) ha hb (Int.le_of_lt (Int.mul_pos (by omega) hU)) hy (own_repP f 1034 (by omega) (by omega)) (own_repP (f + 1) 1034 (by omega) (by omega)) (Int.mul_nonneg k3 (by omega)) (own_m1 f d n _ _ own_UW (Int.mul_nonneg (by omega) (by omega)) k1) (own_m2 (f + 1) d n _ _ own_UW (Int.mul_nonneg (by omega) (by omega)) (by omega))
    exact ⟨z, f, z1, z2, z3, k3, k1, k2, fun h => absurd h n0⟩
theorem own_R.nonneg {n d z f : Int} (h : own_R n d z f) : 0 ≤ z := Int.le_trans (Int.mul_nonneg h.2.2.1 (Int.le_of_lt own_Wpos)) h.1
theorem own_R.lt1 {n d z f : Int} (h : own_R n d z f) (hnd : n < d) (hd : d ≤ 32768) (hn : 0 ≤ n) : z < (own_U : Int) := by
  obtain ⟨h1, h2, h3, h4, h5, -⟩ := h
  have k : f + 1 < 1099511627776 := by
    refine Int.not_le.mp fun q => ?_
    have e : (f + 1) * d = f * d + d := by rw [Int.add_mul, Int.one_mul]
    have := Int.mul_le_mul_of_nonneg_right q (show 0 ≤ d by omega)
    omega
  have hW := own_Wpos
  have := Int.mul_lt_mul_of_pos_right k hW
  rw [own_UW]; omega
theorem own_m3 (f d n w e z : Int) (he : e = 1073741824 * w) (hw : 0 < w) (h1 : f * w ≤ z) (h5 : n * 1099511627776 < (f + 1) * d) (hd : 0 ≤ d ∧ d ≤ 32768) : (1024 * n - 1) * e ≤ z * d := by
  have a1 := Int.mul_le_mul_of_nonneg_right h1 hd.1
  have e1 : f * w * d = f * d * w := by ac_rfl
  have e2 : (1024 * n - 1) * e = (n * 1099511627776 - 1073741824) * w := by rw [he, ← Int.mul_assoc]; congr 1; omega
  have e3 : (f + 1) * d = f * d + d := by rw [Int.add_mul, Int.one_mul]
  have a2 := Int.mul_le_mul_of_nonneg_right (show n * 1099511627776 - 1073741824 ≤ f * d by omega) (show 0 ≤ w by omega)
  omega
theorem own_m4 (f d n w e z : Int) (he : e = 1073741824 * w) (hw : 0 < w) (h2 : z ≤ (f + 1) * w) (h4 : f * d ≤ n * 1099511627776) (hd : 0 ≤ d ∧ d ≤ 32768) : z * d ≤ (1024 * n + 1) * e := by
  have a1 := Int.mul_le_mul_of_nonneg_right h2 hd.1
  have e1 : (f + 1) * w * d = (f + 1) * d * w := by ac_rfl
  have e2 : (1024 * n + 1) * e = (n * 1099511627776 + 1073741824) * w := by rw [he, ← Int.mul_assoc]; congr 1; omega
  have e3 : (f + 1) * d = f * d + d := by rw [Int.add_mul, Int.one_mul]
  have a2 := Int.mul_le_mul_of_nonneg_right (show (f + 1) * d ≤ n * 1099511627776 + 1073741824 by omega) (show 0 ≤ w by omega)
  omega
theorem own_prod {r b : UInt64} {n d z f : Int} (hr : own_Z r z) (hb : own_Z b (d * (own_U : Int))) (hR : own_R n d z f) (hn : 0 ≤ n) (hnd : n < d) (hd : d ≤ 32768) : ∃ y, own_Z (FP.dmul r b) y ∧ (1024 * n - 1) * (own_E : Int) ≤ y ∧ y ≤ (1024 * n + 1) * (own_E : Int) := by
  have hU := own_UposI
  have hW := own_Wpos
  have hE := own_Epos
  have hz := hR.nonneg
  obtain ⟨h1, h2, h3, h4, h5, h6⟩ := hR
  have l1 := own_m3 f d n _ _ z own_EW hW h1 h5 ⟨by omega, hd⟩
  have l2 := own_m4 f d n _ _ z own_EW hW h2 h4 ⟨by omega, hd⟩
  by_cases z0 : z = 0
  · subst z0
    rw [Int.zero_mul] at l1 l2
    exact ⟨0, own_Zmul hr hb ⟨0, 0, by simp, by decide, by decide⟩ (by simp), l1, l2⟩
  · have n1 : 1 ≤ n := by
      by_cases q : n = 0
      · exact absurd (h6 q) z0
      · omega
    have g1 := Int.mul_le_mul_of_nonneg_right l1 (Int.le_of_lt hU)
    have g2 := Int.mul_le_mul_of_nonneg_right l2 (Int.le_of_lt hU)
    rw [Int.mul_assoc z] at g1 g2
    exact own_Zmulb hr hb (by omega) (Int.mul_pos (by omega) hU) (own_repP _ 1064 (by omega) (by omega)) (own_repP _ 1064 (by omega) (by omega)) (Int.mul_nonneg (by omega) (by omega)) g1 g2
theorem own_subU (a b : Int) : a * (own_U : Int) - b * (own_U : Int) = (a - b) * (own_U : Int) := by rw [Int.sub_mul]
theorem own_con {jp jL jq : Int64} (hq : 0 ≤ jq.toInt) (hL : jq.toInt < jL.toInt ∧ jL.toInt ≤ jp.toInt) (hp : jp.toInt ≤ 98303) (hd : jp.toInt - jq.toInt ≤ 32768) :
    NoNaN64 (FP.dsub (FP.l2d jp) (FP.l2d jL)) ∧ NoNaN64 (FP.dsub (FP.l2d jp) (FP.l2d jq)) ∧ ∃ z f, own_Z (FP.ddiv (FP.dsub (FP.l2d jp) (FP.l2d jL)) (FP.dsub (FP.l2d jp) (FP.l2d jq))) z ∧ own_R (jp.toInt - jL.toInt) (jp.toInt - jq.toInt) z f := by
  have Zp := own_Zint jp (by omega)
  have Z1 := own_Zsub Zp (own_Zint jL (by omega)) (by rw [own_subU]; exact own_repP _ 1074 (by omega) (by omega))
  have Z2 := own_Zsub Zp (own_Zint jq (by omega)) (by rw [own_subU]; exact own_repP _ 1074 (by omega) (by omega))
  have n1 := Z1.nn
  have n2 := Z2.nn
  rw [own_subU] at Z1 Z2
  exact ⟨n1, n2, own_quot Z1 Z2 (by omega) (by omega) hd⟩
theorem own_fin4 {r : UInt64} {n d z f : Int} {dd : Int32} {jn : Int64} (Zr : own_Z r z) (hR : own_R n d z f) (hn : 0 ≤ n) (hnd : n < d) (hd : d ≤ 32768) (hdd : dd.toInt = d) (hj : jn.toInt = n) :
    NoNaN64 (FP.dmul r (FP.i2d dd)) ∧ NoNaN64 (FP.dsub (FP.l2d jn) 4562146422526312448) ∧ NoNaN64 (FP.dadd (FP.l2d jn) 4562146422526312448) ∧
    ¬ (cmpValue (FP.dcmp r 0) .l < (0 : Int32)) ∧ cmpValue (FP.dcmp r 4607182418800017408) .g < (0 : Int32) ∧
    ¬ (cmpValue (FP.dcmp (FP.dmul r (FP.i2d dd)) (FP.dsub (FP.l2d jn) 4562146422526312448)) .l < (0 : Int32)) ∧
    ¬ ((0 : Int32) < cmpValue (FP.dcmp (FP.dmul r (FP.i2d dd)) (FP.dadd (FP.l2d jn) 4562146422526312448)) .g) ∧ (n = 0 → cmpValue (FP.dcmp r 0) .l = 0) := by
  have Zd : own_Z (FP.i2d dd) (d * (own_U : Int)) := by have e := c_i2l dd; have := own_Zint dd.toInt64 (by omega); rw [e, hdd] at this; rw [i2d_w dd]; exact this
  have Zn := own_Zint jn (by omega)
  rw [hj] at Zn
  have e1 : n * (own_U : Int) - (own_E : Int) = (1024 * n - 1) * (own_E : Int) := by rw [own_UE, Int.sub_mul, Int.one_mul, ← Int.mul_assoc, Int.mul_comm n 1024]
  have e2 : n * (own_U : Int) + (own_E : Int) = (1024 * n + 1) * (own_E : Int) := by rw [own_UE, Int.add_mul, Int.one_mul, ← Int.mul_assoc, Int.mul_comm n 1024]
  have Zm := own_Zsub Zn own_eps (by rw [e1]; exact own_repP _ 1064 (by omega) (by omega))
  have Za := own_Zadd Zn own_eps (by rw [e2]; exact own_repP _ 1064 (by omega) (by omega))
  rw [e1] at Zm
  rw [e2] at Za
  obtain ⟨y, Zy, y1, y2⟩ := own_prod Zr Zd hR hn hnd hd
  have hz := hR.nonneg
  have h1 := hR.lt1 hnd hd hn
  refine ⟨Zy.nn, Zm.nn, Za.nn, ?_, ?_, ?_, ?_, ?_⟩
  · rw [own_cvl Zr own_zero]; omega
  · rw [own_cvl Zr own_one]; exact h1
  · rw [own_cvl Zy Zm]; omega
  · rw [own_cvg Zy Za]; omega
  · intro n0; have := hR.2.2.2.2.2 n0; subst this; exact own_cve Zr own_zero .l
theorem own_mono {r r1 : UInt64} {n d z f z1 f1 : Int} (Zr : own_Z r z) (hR : own_R n d z f) (Zr1 : own_Z r1 z1) (hR1 : own_R (n - 1) d z1 f1) (hd : 0 < d ∧ d ≤ 32768) : ¬ ((0 : Int32) < cmpValue (FP.dcmp r1 r) .g) := by
  rw [own_cvg Zr1 Zr]
  obtain ⟨h1, h2, h3, h4, h5, -⟩ := hR
  obtain ⟨k1, k2, k3, k4, k5, -⟩ := hR1
  have e1 : (f + 1) * d = f * d + d := by rw [Int.add_mul, Int.one_mul]
  have e2 : (f1 + 1) * d = f1 * d + d := by rw [Int.add_mul, Int.one_mul]
  have e3 : (n - 1) * 1099511627776 = n * 1099511627776 - 1099511627776 := by omega
  have : f1 + 1 ≤ f := Int.le_of_mul_le_mul_right (show (f1 + 1) * d ≤ f * d by omega) hd.1
  have := Int.mul_le_mul_of_nonneg_right this (Int.le_of_lt own_Wpos)
  omega
theorem own_mono0 {r : UInt64} {n d z f : Int} (Zr : own_Z r z) (hR : own_R n d z f) : ¬ ((0 : Int32) < cmpValue (FP.dcmp 0 r) .g) := by
  rw [own_cvg own_zero Zr]; have := hR.nonneg; omega
theorem own_mono1 {r : UInt64} {n d z f : Int} (Zr : own_Z r z) (hR : own_R n d z f) (hn : 0 ≤ n) (hnd : n < d) (hd : d ≤ 32768) : ¬ ((0 : Int32) < cmpValue (FP.dcmp r 4607182418800017408) .g) := by
  rw [own_cvg Zr own_one]; have := hR.lt1 hnd hd hn; omega
theorem own_gt {x y : Int64} (hx : x.toInt.natAbs < 9007199254740992) (hy : y.toInt.natAbs < 9007199254740992) (o : CmpOp) : ((0 : Int32) < cmpValue (FP.dcmp (FP.l2d x) (FP.l2d y)) o ↔ y.toInt < x.toInt) := by
  rw [own_cvg (own_Zint x hx) (own_Zint y hy)]
  exact ⟨fun h => Int.lt_of_mul_lt_mul_right h (Int.le_of_lt own_UposI), fun h => Int.mul_lt_mul_of_pos_right h own_UposI⟩
end
open Jvm.Free.Fl
theorem own_k16 (x : Int32) : 0 ≤ ((1 : Int32) <<< ((x &&& 15) &&& 31)).toInt ∧ ((1 : Int32) <<< ((x &&& 15) &&& 31)).toInt ≤ 32768 := by
  have := c_mask x 15 4 (by decide) (by decide)
  have : (15 : Int32).toInt = 15 := rfl
  have h : x &&& 15 = 0 ∨ x &&& 15 = 1 ∨ x &&& 15 = 2 ∨ x &&& 15 = 3 ∨ x &&& 15 = 4 ∨ x &&& 15 = 5 ∨ x &&& 15 = 6 ∨ x &&& 15 = 7 ∨ x &&& 15 = 8 ∨ x &&& 15 = 9 ∨ x &&& 15 = 10 ∨ x &&& 15 = 11 ∨ x &&& 15 = 12 ∨ x &&& 15 = 13 ∨ x &&& 15 = 14 ∨ x &&& 15 = 15 := by
    simp only [← Int32.toInt_inj]; have : (0 : Int32).toInt = 0 := rfl; have : (1 : Int32).toInt = 1 := rfl; have : (2 : Int32).toInt = 2 := rfl; have : (3 : Int32).toInt = 3 := rfl; have : (4 : Int32).toInt = 4 := rfl; have : (5 : Int32).toInt = 5 := rfl; have : (6 : Int32).toInt = 6 := rfl; have : (7 : Int32).toInt = 7 := rfl; have : (8 : Int32).toInt = 8 := rfl; have : (9 : Int32).toInt = 9 := rfl; have : (10 : Int32).toInt = 10 := rfl; have : (11 : Int32).toInt = 11 := rfl; have : (12 : Int32).toInt = 12 := rfl; have : (13 : Int32).toInt = 13 := rfl; have : (14 : Int32).toInt = 14 := rfl; have : (15 : Int32).toInt = 15 := rfl; omega
  rcases h with h | h | h | h | h | h | h | h | h | h | h | h | h | h | h | h <;> rw [h] <;> decide
theorem own_inc {jL : Int64} (h : -2147483648 ≤ jL.toInt ∧ jL.toInt ≤ 2147483648) : NoNaN64 (FP.dadd (FP.l2d jL) 4607182418800017408) ∧ ∃ z : Int64, FP.dadd (FP.l2d jL) 4607182418800017408 = FP.l2d z ∧ z.toInt = jL.toInt + 1 := by
  have k : FP.dadd (FP.l2d jL) (FP.l2d 1) = FP.l2d (jL + 1) := dadd_w ⟨by omega, by omega⟩ ⟨by decide, by decide⟩
  rw [show FP.l2d 1 = 4607182418800017408 by decide +kernel] at k
  refine ⟨nn_w k, jL + 1, k, ?_⟩
  have := c_ladd jL 1; have : (1 : Int64).toInt = 1 := rfl; have := rng64 (jL + 1); omega
theorem own_six {l q p d : Int} (h : p = q + d) (h0 : 0 ≤ d) : l < q ∨ (l = q ∧ d = 0) ∨ (l = q ∧ 0 < d) ∨ p < l ∨ (q < l ∧ l = p) ∨ (q < l ∧ l < p) := by omega
theorem d7_0 : decode jdk_30_method_1_code 0 = .ok (.aload_n 0, 1) := by decide +kernel
theorem d7_1 : decode jdk_30_method_1_code 1 = .ok (.invokespecial 1, 3) := by decide +kernel
theorem d7_4 : decode jdk_30_method_1_code 4 = .ok (.return_, 1) := by decide +kernel
theorem pd___V : parseMethodDescriptor "()V" = some ⟨[], none⟩ := by decide +kernel
theorem pn_java_lang_Record : plainName "java/lang/Record" = true := by first | (simp [plainName, overriddenIn]; done) | decide +kernel
theorem ef_rmRe (m : MethodId) (ao : Addr) : entryFrame m #[(.ref ao)] 1 = mkF m 0 #[.val (.ref ao)] [] := by first | (simp [entryFrame, mkF, argsToLocals, Value.category]; done) | rfl
def Q_rmRe (Z : State) (ao : Addr) (h0 : Heap) (n0 : Nat) (v : Option Value) (h : Heap) (L : List Loc) : Prop := (v = none) ∧ (Fr n0 L) ∧ (h = h0)
set_option maxRecDepth 65536 in
set_option maxHeartbeats 40000000 in
theorem rmRe (l : Launch) (Z : State) (a0 : Array Value) (hw : ∀ d ∈ tables_1, d.before a0 Z = true) (ws : List Jvm.Cond) (ao : Addr) (h0 : Heap) (n0 : Nat) (Z0 : n0 ≤ h0.size) :
    MetFree l (⟨"java/lang/Record", "<init>", "()V"⟩ : MethodName) (head1 (Jvm.Cond.code (⟨"java/lang/Record", "<init>", "()V"⟩ : MethodName) jdk_30_method_1_code 1 none :: ws) ({ frames := 1, cells := 0, slots := 0, locals := 12 } : Room)) (fun aA U => aA = #[(.ref ao)] ∧ Z.Warmed39 U.vm ∧ U.heap = h0) (fun _ _ _ _ _ => True) (fun _ U o U' => ∃ v L, o = .returned v ∧ Q_rmRe Z ao h0 n0 v U'.heap L ∧ FrameEnd U o U' L ({ frames := 1, cells := 0, slots := 0, locals := 12 } : Room).cells ({ frames := 1, cells := 0, slots := 0, locals := 12 } : Room).slots) := by
  refine MetFree.of_bodySF (plainFor_of_name pn_java_lang_Record) hisR ?_
  intro p e s m args below meth c s₁ Bd hml0 hP hK
  obtain ⟨rfl, hZ, hh⟩ := hP
  have hx := Bd.exec
  have hby := Bd.bytes
  have hml : c.maxLocals = 1 := hml0
  have hown : s.vm.findClass "java/lang/Record" = some m.cls := findClass_of_methodNamed Bd.named
  have hnm := (name_of_methodNamed Bd.named Bd.method).1
  have hret := Bd.returns
  have hlk : meth.locks = false := BodyLoose.notSynchronized Bd
  have X0 : Stand p l e ({ frames := 1, cells := 0, slots := 0, locals := 12 } : Room) s m #[(.ref ao)] below meth c s₁ [] 0 0 := Stand.of_body Bd
  have e0 : s₁.heap = h0 := by rw [← hh, Bd.state]; rfl
  have N0 := Fr.nil n0
  suffices hgo : Go p e below s ({ frames := 1, cells := 0, slots := 0, locals := 12 } : Room).cells ({ frames := 1, cells := 0, slots := 0, locals := 12 } : Room).slots (Q_rmRe Z ao h0 n0) s₁ (mkF m 0 #[.val (.ref ao)] []) from hgo.enter (ef_rmRe m ao)
  refine Go.step (fun _ k => XS.aloadN X0.here hx rfl (hb hby d7_0) rfl rfl k) ?_
  show Go _ _ _ _ _ _ _ s₁ (mkF m 1 #[.val (.ref ao)] [(.ref ao)])
  obtain ⟨T1, X1, e1, st1⟩ := initO X0 hx hZ hown (hw _ (List.mem_of_getElem? (i := 41) rfl)) (hw _ (List.mem_of_getElem? (i := 24) rfl)) (hw _ (List.mem_of_getElem? (i := 25) rfl)) e0 (g := (mkF m 1 #[.val (.ref ao)] [(.ref ao)])) rfl (by rw [hml]; rfl) rfl (hb hby d7_1) (by decide) (W := 0) (by show 2 * 0 + _ ≤ _; exact Nat.le_of_eq rfl) (by decide)
  refine Go.step st1 ?_
  show Go _ _ _ _ _ _ _ T1 (mkF m 4 #[.val (.ref ao)] [])
  exact Go.ret0 X1 hx hret hlk (hb hby d7_4) e1 (by decide) (by decide) ⟨rfl, N0, rfl⟩
theorem d8_0 : decode jdk_42_method_55_code 0 = .ok (.aload_n 0, 1) := by decide +kernel
theorem d8_1 : decode jdk_42_method_55_code 1 = .ok (.getfield 9, 3) := by decide +kernel
theorem d8_4 : decode jdk_42_method_55_code 4 = .ok (.arraylength, 1) := by decide +kernel
theorem d8_5 : decode jdk_42_method_55_code 5 = .ok (.ifCond .ne 7, 3) := by decide +kernel
theorem d8_8 : decode jdk_42_method_55_code 8 = .ok (.iconst 1, 1) := by decide +kernel
theorem d8_9 : decode jdk_42_method_55_code 9 = .ok (.goto 4, 3) := by decide +kernel
theorem d8_12 : decode jdk_42_method_55_code 12 = .ok (.iconst 0, 1) := by decide +kernel
theorem d8_13 : decode jdk_42_method_55_code 13 = .ok (.ireturn, 1) := by decide +kernel
theorem pn_java_lang_String : plainName "java/lang/String" = true := by first | (simp [plainName, overriddenIn]; done) | decide +kernel
theorem ef_rmIe (m : MethodId) (as_ : Addr) : entryFrame m #[(.ref as_)] 1 = mkF m 0 #[.val (.ref as_)] [] := by first | (simp [entryFrame, mkF, argsToLocals, Value.category]; done) | rfl
def Q_rmIe (Z : State) (as_ : Addr) (at_ : Addr) (kt : ClassId) (vt : List Value) (h0 : Heap) (n0 : Nat) (v : Option Value) (h : Heap) (L : List Loc) : Prop := (v = some (.int (0 : Int32))) ∧ (Fr n0 L) ∧ (h = h0)
set_option maxRecDepth 65536 in
set_option maxHeartbeats 40000000 in
theorem rmIe (l : Launch) (Z : State) (a0 : Array Value) (hw : ∀ d ∈ tables_1, d.before a0 Z = true) (ws : List Jvm.Cond) (as_ : Addr) (at_ : Addr) (kt : ClassId) (vt : List Value) (h0 : Heap) (n0 : Nat) (Z0 : n0 ≤ h0.size) (Fv : Fld Z h0 as_ "java/lang/String" "value" "[B" (.ref at_)) (Vt : Arv Z h0 at_ kt .byte (1 : Int32) vt (.int (0 : Int32))) :
    MetFree l (⟨"java/lang/String", "isEmpty", "()Z"⟩ : MethodName) (head1 (Jvm.Cond.code (⟨"java/lang/String", "isEmpty", "()Z"⟩ : MethodName) jdk_42_method_55_code 1 (some .boolean) :: ws) ({ frames := 0, cells := 0, slots := 0, locals := 0 } : Room)) (fun aA U => aA = #[(.ref as_)] ∧ Z.Warmed39 U.vm ∧ U.heap = h0) (fun _ _ _ _ _ => True) (fun _ U o U' => ∃ v L, o = .returned v ∧ Q_rmIe Z as_ at_ kt vt h0 n0 v U'.heap L ∧ FrameEnd U o U' L ({ frames := 0, cells := 0, slots := 0, locals := 0 } : Room).cells ({ frames := 0, cells := 0, slots := 0, locals := 0 } : Room).slots) := by
  refine MetFree.of_bodySF (plainFor_of_name pn_java_lang_String) hisR ?_
  intro p e s m args below meth c s₁ Bd hml0 hP hK
  obtain ⟨rfl, hZ, hh⟩ := hP
  have hx := Bd.exec
  have hby := Bd.bytes
  have hml : c.maxLocals = 1 := hml0
  have hown : s.vm.findClass "java/lang/String" = some m.cls := findClass_of_methodNamed Bd.named
  have hnm := (name_of_methodNamed Bd.named Bd.method).1
  have hret := Bd.returns
  have hlk : meth.locks = false := BodyLoose.notSynchronized Bd
  have X0 : Stand p l e ({ frames := 0, cells := 0, slots := 0, locals := 0 } : Room) s m #[(.ref as_)] below meth c s₁ [] 0 0 := Stand.of_body Bd
  have e0 : s₁.heap = h0 := by rw [← hh, Bd.state]; rfl
  have N0 := Fr.nil n0
  suffices hgo : Go p e below s ({ frames := 0, cells := 0, slots := 0, locals := 0 } : Room).cells ({ frames := 0, cells := 0, slots := 0, locals := 0 } : Room).slots (Q_rmIe Z as_ at_ kt vt h0 n0) s₁ (mkF m 0 #[.val (.ref as_)] []) from hgo.enter (ef_rmIe m as_)
  refine Go.step (fun _ k => XS.aloadN X0.here hx rfl (hb hby d8_0) rfl rfl k) ?_
  show Go _ _ _ _ _ _ _ s₁ (mkF m 1 #[.val (.ref as_)] [(.ref as_)])
  obtain ⟨T2, X2, e2, st2⟩ := getF X0 hx hZ hown (host := "") (Or.inl (hw _ (List.mem_of_getElem? (i := 26) rfl))) Via.refl e0 Fv (g := (mkF m 1 #[.val (.ref as_)] [(.ref as_)])) rfl rfl (hb hby d8_1)
  refine Go.step st2 ?_
  show Go _ _ _ _ _ _ _ T2 (mkF m 4 #[.val (.ref as_)] [(.ref at_)])
  obtain ⟨cl3, Ar3, -, S3, M3, -, -⟩ := id (Vt)
  have al3 := X2.arraylength hx (by rw [e2]; exact Ar3.1) (State.isArrayOf_alike hZ.alike Ar3.2.1) (g := (mkF m 4 #[.val (.ref as_)] [(.ref at_)])) rfl rfl (hb hby d8_4)
  rw [len_of S3 M3] at al3
  refine Go.step al3 ?_
  show Go _ _ _ _ _ _ _ T2 (mkF m 5 #[.val (.ref as_)] [(.int (1 : Int32))])
  have hc5_4 : ¬ ((1 : Int32) = (0 : Int32)) := (by decide)
  refine Go.step (fun _ k => XS.ifYes X2.here hx rfl (pc0 := 5) (pc' := 12) rfl (hb hby d8_5) rfl ((if0 _ _).trans (feq hc5_4).2) (by decide) (by decide) k) ?_
  show Go _ _ _ _ _ _ _ T2 (mkF m 12 #[.val (.ref as_)] [])
  refine Go.step (fun _ k => XS.iconst X2.here hx rfl (hb hby d8_12) k) ?_
  show Go _ _ _ _ _ _ _ T2 (mkF m 13 #[.val (.ref as_)] [(.int (0 : Int32))])
  exact Go.retN X2 hx (t := .boolean) hret hlk (by simp) (hb hby d8_13) e2 (by decide) (by decide) ⟨rfl, N0, rfl⟩
theorem d9_0 : decode jdk_117_method_8_code 0 = .ok (.dload_n 0, 1) := by decide +kernel
theorem d9_1 : decode jdk_117_method_8_code 1 = .ok (.invokestatic 38, 3) := by decide +kernel
theorem d9_4 : decode jdk_117_method_8_code 4 = .ok (.ldc2_w 111, 3) := by decide +kernel
theorem d9_7 : decode jdk_117_method_8_code 7 = .ok (.dcmp .g, 1) := by decide +kernel
theorem d9_8 : decode jdk_117_method_8_code 8 = .ok (.ifCond .gt 7, 3) := by decide +kernel
theorem d9_11 : decode jdk_117_method_8_code 11 = .ok (.iconst 1, 1) := by decide +kernel
theorem d9_12 : decode jdk_117_method_8_code 12 = .ok (.goto 4, 3) := by decide +kernel
theorem d9_15 : decode jdk_117_method_8_code 15 = .ok (.iconst 0, 1) := by decide +kernel
theorem d9_16 : decode jdk_117_method_8_code 16 = .ok (.ireturn, 1) := by decide +kernel
theorem pd__D_D : parseMethodDescriptor "(D)D" = some ⟨[.double], some .double⟩ := by decide +kernel
theorem pn_java_lang_Double : plainName "java/lang/Double" = true := by first | (simp [plainName, overriddenIn]; done) | decide +kernel
theorem ef_rmFi (m : MethodId) (da : UInt64) : entryFrame m #[(.double da)] 2 = mkF m 0 #[.val (.double da), .second] [] := by first | (simp [entryFrame, mkF, argsToLocals, Value.category]; done) | rfl
def Q_rmFi (Z : State) (da : UInt64) (jx : Int64) (h0 : Heap) (n0 : Nat) (v : Option Value) (h : Heap) (L : List Loc) : Prop := (v = some (.int (1 : Int32))) ∧ (Fr n0 L) ∧ (h = h0)
set_option maxRecDepth 65536 in
set_option maxHeartbeats 40000000 in
theorem rmFi (l : Launch) (Z : State) (a0 : Array Value) (hw : ∀ d ∈ tables_1, d.before a0 Z = true) (ws : List Jvm.Cond) (da : UInt64) (jx : Int64) (h0 : Heap) (n0 : Nat) (Z0 : n0 ≤ h0.size) (hda : da = FP.l2d jx) (hjx : 0 ≤ jx.toInt ∧ jx.toInt < 9007199254740992) :
    MetFree l (⟨"java/lang/Double", "isFinite", "(D)Z"⟩ : MethodName) (head1 (Jvm.Cond.code (⟨"java/lang/Double", "isFinite", "(D)Z"⟩ : MethodName) jdk_117_method_8_code 2 (some .boolean) :: ws) ({ frames := 1, cells := 0, slots := 0, locals := 13 } : Room)) (fun aA U => aA = #[(.double da)] ∧ Z.Warmed39 U.vm ∧ U.heap = h0) (fun _ _ _ _ _ => True) (fun _ U o U' => ∃ v L, o = .returned v ∧ Q_rmFi Z da jx h0 n0 v U'.heap L ∧ FrameEnd U o U' L ({ frames := 1, cells := 0, slots := 0, locals := 13 } : Room).cells ({ frames := 1, cells := 0, slots := 0, locals := 13 } : Room).slots) := by
  refine MetFree.of_bodySF (plainFor_of_name pn_java_lang_Double) hisR ?_
  intro p e s m args below meth c s₁ Bd hml0 hP hK
  obtain ⟨rfl, hZ, hh⟩ := hP
  have hx := Bd.exec
  have hby := Bd.bytes
  have hml : c.maxLocals = 2 := hml0
  have hown : s.vm.findClass "java/lang/Double" = some m.cls := findClass_of_methodNamed Bd.named
  have hnm := (name_of_methodNamed Bd.named Bd.method).1
  have hret := Bd.returns
  have hlk : meth.locks = false := BodyLoose.notSynchronized Bd
  have X0 : Stand p l e ({ frames := 1, cells := 0, slots := 0, locals := 13 } : Room) s m #[(.double da)] below meth c s₁ [] 0 0 := Stand.of_body Bd
  have e0 : s₁.heap = h0 := by rw [← hh, Bd.state]; rfl
  have N0 := Fr.nil n0
  suffices hgo : Go p e below s ({ frames := 1, cells := 0, slots := 0, locals := 13 } : Room).cells ({ frames := 1, cells := 0, slots := 0, locals := 13 } : Room).slots (Q_rmFi Z da jx h0 n0) s₁ (mkF m 0 #[.val (.double da), .second] []) from hgo.enter (ef_rmFi m da)
  subst hda
  show Go _ _ _ _ _ _ _ s₁ (mkF m 0 #[.val (.double (FP.l2d jx)), .second] [])
  refine Go.step (fun _ k => XS.dloadN X0.here hx rfl (hb hby d9_0) rfl k) ?_
  show Go _ _ _ _ _ _ _ s₁ (mkF m 1 #[.val (.double (FP.l2d jx)), .second] [(.double (FP.l2d jx))])
  obtain ⟨T5, X5, e5, st5⟩ := natS X0 hx hZ (y := (⟨"java/lang/Math", "abs", "(D)D"⟩ : MethodName)) hown (hw _ (List.mem_of_getElem? (i := 51) rfl)) (hw _ (List.mem_of_getElem? (i := 52) rfl)) (hw _ (List.mem_of_getElem? (i := 53) rfl)) (hw _ (List.mem_of_getElem? (i := 54) rfl)) (by decide) e0 (W := 0) (F := fun a' => a' = #[.double (FP.l2d jx)] ∧ NoNaN64 (FP.l2d jx)) (val := .double ((FP.l2d jx) &&& 0x7fffffffffffffff)) (fun hc => Jvm.Free.Fl.Abs.absD_pays (FP.l2d jx) hc (by decide) (by decide)) (g := (mkF m 1 #[.val (.double (FP.l2d jx)), .second] [(.double (FP.l2d jx))])) rfl (by rw [hml]; rfl) (argsL := [.double (FP.l2d jx)]) (rest := []) (lenOf pd__D_D rfl) rfl (by show 2 * 0 + _ ≤ _; exact Nat.le_of_eq rfl) (hb hby d9_1) (by decide) (by decide) ⟨rfl, (l2d_fin _).noNaN⟩ rfl
  refine Go.step st5 ?_
  show Go _ _ _ _ _ _ _ T5 (mkF m 4 #[.val (.double (FP.l2d jx)), .second] [(.double ((FP.l2d jx) &&& 0x7fffffffffffffff))])
  refine Go.step (X5.ldc2DoubleC hx hown (mvT hZ (hw _ (List.mem_of_getElem? (i := 55) rfl))) (g := (mkF m 4 #[.val (.double (FP.l2d jx)), .second] [(.double ((FP.l2d jx) &&& 0x7fffffffffffffff))])) rfl (hb hby d9_4)) ?_
  show Go _ _ _ _ _ _ _ T5 (mkF m 7 #[.val (.double (FP.l2d jx)), .second] [(.double (9218868437227405311 : UInt64)), (.double ((FP.l2d jx) &&& 0x7fffffffffffffff))])
  refine Go.step (fun _ k => XS.dcmpS X5.here hx rfl (hb hby d9_7) rfl rfl k) ?_
  show Go _ _ _ _ _ _ _ T5 (mkF m 8 #[.val (.double (FP.l2d jx)), .second] [(.int (cmpValue (FP.dcmp ((FP.l2d jx) &&& 0x7fffffffffffffff) (9218868437227405311 : UInt64)) .g))])
  have hc8_6 : ¬ ((0 : Int32) < (cmpValue (FP.dcmp ((FP.l2d jx) &&& 0x7fffffffffffffff) (9218868437227405311 : UInt64)) .g)) := (own_isfin hjx)
  refine Go.step (fun _ k => XS.ifNo X5.here hx rfl (hb hby d9_8) rfl ((if0 _ _).trans (flt hc8_6).2.2.1) k) ?_
  show Go _ _ _ _ _ _ _ T5 (mkF m 11 #[.val (.double (FP.l2d jx)), .second] [])
  refine Go.step (fun _ k => XS.iconst X5.here hx rfl (hb hby d9_11) k) ?_
  show Go _ _ _ _ _ _ _ T5 (mkF m 12 #[.val (.double (FP.l2d jx)), .second] [(.int (1 : Int32))])
  refine Go.step (fun _ k => XS.goto X5.here hx rfl (pc0 := 12) (pc' := 16) rfl (hb hby d9_12) (by decide) (by decide) k) ?_
  show Go _ _ _ _ _ _ _ T5 (mkF m 16 #[.val (.double (FP.l2d jx)), .second] [(.int (1 : Int32))])
  exact Go.retN X5 hx (t := .boolean) hret hlk (by simp) (hb hby d9_16) e5 (by decide) (by decide) ⟨rfl, N0, rfl⟩
theorem d2_0 : decode jdk_43_method_3_code 0 = .ok (.iload_n 0, 1) := by decide +kernel
theorem d2_1 : decode jdk_43_method_3_code 1 = .ok (.sipush 255, 3) := by decide +kernel
theorem d2_4 : decode jdk_43_method_3_code 4 = .ok (.if_icmp .gt 7, 3) := by decide +kernel
theorem d2_7 : decode jdk_43_method_3_code 7 = .ok (.iconst 1, 1) := by decide +kernel
theorem d2_8 : decode jdk_43_method_3_code 8 = .ok (.goto 4, 3) := by decide +kernel
theorem d2_11 : decode jdk_43_method_3_code 11 = .ok (.iconst 0, 1) := by decide +kernel
theorem d2_12 : decode jdk_43_method_3_code 12 = .ok (.ireturn, 1) := by decide +kernel
theorem pn_java_lang_StringLatin1 : plainName "java/lang/StringLatin1" = true := by first | (simp [plainName, overriddenIn]; done) | decide +kernel
theorem ef_rmCe (m : MethodId) (ich : Int32) : entryFrame m #[(.int ich)] 1 = mkF m 0 #[.val (.int ich)] [] := by first | (simp [entryFrame, mkF, argsToLocals, Value.category]; done) | rfl
def Q_rmCe (Z : State) (ich : Int32) (h0 : Heap) (n0 : Nat) (v : Option Value) (h : Heap) (L : List Loc) : Prop := (v = some (.int (1 : Int32))) ∧ (Fr n0 L) ∧ (h = h0)
set_option maxRecDepth 65536 in
set_option maxHeartbeats 40000000 in
theorem rmCe (l : Launch) (Z : State) (a0 : Array Value) (hw : ∀ d ∈ tables_1, d.before a0 Z = true) (ws : List Jvm.Cond) (ich : Int32) (h0 : Heap) (n0 : Nat) (Z0 : n0 ≤ h0.size) (h255 : ¬ ((255 : Int32) < ich)) :
    MetFree l (⟨"java/lang/StringLatin1", "canEncode", "(C)Z"⟩ : MethodName) (head1 (Jvm.Cond.code (⟨"java/lang/StringLatin1", "canEncode", "(C)Z"⟩ : MethodName) jdk_43_method_3_code 1 (some .boolean) :: ws) ({ frames := 0, cells := 0, slots := 0, locals := 0 } : Room)) (fun aA U => aA = #[(.int ich)] ∧ Z.Warmed39 U.vm ∧ U.heap = h0) (fun _ _ _ _ _ => True) (fun _ U o U' => ∃ v L, o = .returned v ∧ Q_rmCe Z ich h0 n0 v U'.heap L ∧ FrameEnd U o U' L ({ frames := 0, cells := 0, slots := 0, locals := 0 } : Room).cells ({ frames := 0, cells := 0, slots := 0, locals := 0 } : Room).slots) := by
  refine MetFree.of_bodySF (plainFor_of_name pn_java_lang_StringLatin1) hisR ?_
  intro p e s m args below meth c s₁ Bd hml0 hP hK
  obtain ⟨rfl, hZ, hh⟩ := hP
  have hx := Bd.exec
  have hby := Bd.bytes
  have hml : c.maxLocals = 1 := hml0
  have hown : s.vm.findClass "java/lang/StringLatin1" = some m.cls := findClass_of_methodNamed Bd.named
  have hnm := (name_of_methodNamed Bd.named Bd.method).1
  have hret := Bd.returns
  have hlk : meth.locks = false := BodyLoose.notSynchronized Bd
  have X0 : Stand p l e ({ frames := 0, cells := 0, slots := 0, locals := 0 } : Room) s m #[(.int ich)] below meth c s₁ [] 0 0 := Stand.of_body Bd
  have e0 : s₁.heap = h0 := by rw [← hh, Bd.state]; rfl
  have N0 := Fr.nil n0
  suffices hgo : Go p e below s ({ frames := 0, cells := 0, slots := 0, locals := 0 } : Room).cells ({ frames := 0, cells := 0, slots := 0, locals := 0 } : Room).slots (Q_rmCe Z ich h0 n0) s₁ (mkF m 0 #[.val (.int ich)] []) from hgo.enter (ef_rmCe m ich)
  refine Go.step (fun _ k => XS.iloadN X0.here hx rfl (hb hby d2_0) rfl k) ?_
  show Go _ _ _ _ _ _ _ s₁ (mkF m 1 #[.val (.int ich)] [(.int ich)])
  refine Go.step (fun _ k => XS.sipush X0.here hx rfl (hb hby d2_1) k) ?_
  show Go _ _ _ _ _ _ _ s₁ (mkF m 4 #[.val (.int ich)] [(.int (255 : Int32)), (.int ich)])
  have hc4_7 : ¬ ((255 : Int32) < ich) := h255
  refine Go.step (fun _ k => XS.icmpNo X0.here hx rfl (hb hby d2_4) rfl (flt hc4_7).2.2.1 k) ?_
  show Go _ _ _ _ _ _ _ s₁ (mkF m 7 #[.val (.int ich)] [])
  refine Go.step (fun _ k => XS.iconst X0.here hx rfl (hb hby d2_7) k) ?_
  show Go _ _ _ _ _ _ _ s₁ (mkF m 8 #[.val (.int ich)] [(.int (1 : Int32))])
  refine Go.step (fun _ k => XS.goto X0.here hx rfl (pc0 := 8) (pc' := 12) rfl (hb hby d2_8) (by decide) (by decide) k) ?_
  show Go _ _ _ _ _ _ _ s₁ (mkF m 12 #[.val (.int ich)] [(.int (1 : Int32))])
  exact Go.retN X0 hx (t := .boolean) hret hlk (by simp) (hb hby d2_12) e0 (by decide) (by decide) ⟨rfl, N0, rfl⟩
theorem d3_0 : decode jdk_43_method_46_code 0 = .ok (.iconst 1, 1) := by decide +kernel
theorem d3_1 : decode jdk_43_method_46_code 1 = .ok (.newarray .byte, 2) := by decide +kernel
theorem d3_3 : decode jdk_43_method_46_code 3 = .ok (.dup, 1) := by decide +kernel
theorem d3_4 : decode jdk_43_method_46_code 4 = .ok (.iconst 0, 1) := by decide +kernel
theorem d3_5 : decode jdk_43_method_46_code 5 = .ok (.iload_n 0, 1) := by decide +kernel
theorem d3_6 : decode jdk_43_method_46_code 6 = .ok (.i2b, 1) := by decide +kernel
theorem d3_7 : decode jdk_43_method_46_code 7 = .ok (.bastore, 1) := by decide +kernel
theorem d3_8 : decode jdk_43_method_46_code 8 = .ok (.areturn, 1) := by decide +kernel
theorem ef_rmTb (m : MethodId) (ich : Int32) : entryFrame m #[(.int ich)] 1 = mkF m 0 #[.val (.int ich)] [] := by first | (simp [entryFrame, mkF, argsToLocals, Value.category]; done) | rfl
def Q_rmTb (Z : State) (ich : Int32) (h0 : Heap) (n0 : Nat) (v : Option Value) (h : Heap) (L : List Loc) : Prop := ∃ at_ : Addr, ∃ kt : ClassId, ∃ vt : List Value, (v = some (.ref at_)) ∧ (Fr n0 L) ∧ (Keep h0 h []) ∧ (Arv Z h at_ kt .byte (1 : Int32) vt (.int (0 : Int32))) ∧ (h0.size ≤ at_)
set_option maxRecDepth 65536 in
set_option maxHeartbeats 40000000 in
theorem rmTb (l : Launch) (Z : State) (a0 : Array Value) (hw : ∀ d ∈ tables_1, d.before a0 Z = true) (ws : List Jvm.Cond) (ich : Int32) (h0 : Heap) (n0 : Nat) (Z0 : n0 ≤ h0.size) :
    MetFree l (⟨"java/lang/StringLatin1", "toBytes", "(C)[B"⟩ : MethodName) (head1 (Jvm.Cond.code (⟨"java/lang/StringLatin1", "toBytes", "(C)[B"⟩ : MethodName) jdk_43_method_46_code 1 (some (.array .byte)) :: ws) ({ frames := 0, cells := 1, slots := 1, locals := 0 } : Room)) (fun aA U => aA = #[(.int ich)] ∧ Z.Warmed39 U.vm ∧ U.heap = h0) (fun _ _ _ _ _ => True) (fun _ U o U' => ∃ v L, o = .returned v ∧ Q_rmTb Z ich h0 n0 v U'.heap L ∧ FrameEnd U o U' L ({ frames := 0, cells := 1, slots := 1, locals := 0 } : Room).cells ({ frames := 0, cells := 1, slots := 1, locals := 0 } : Room).slots) := by
  refine MetFree.of_bodySF (plainFor_of_name pn_java_lang_StringLatin1) hisR ?_
  intro p e s m args below meth c s₁ Bd hml0 hP hK
  obtain ⟨rfl, hZ, hh⟩ := hP
  have hx := Bd.exec
  have hby := Bd.bytes
  have hml : c.maxLocals = 1 := hml0
  have hown : s.vm.findClass "java/lang/StringLatin1" = some m.cls := findClass_of_methodNamed Bd.named
  have hnm := (name_of_methodNamed Bd.named Bd.method).1
  have hret := Bd.returns
  have hlk : meth.locks = false := BodyLoose.notSynchronized Bd
  have X0 : Stand p l e ({ frames := 0, cells := 1, slots := 1, locals := 0 } : Room) s m #[(.int ich)] below meth c s₁ [] 0 0 := Stand.of_body Bd
  have e0 : s₁.heap = h0 := by rw [← hh, Bd.state]; rfl
  have N0 := Fr.nil n0
  suffices hgo : Go p e below s ({ frames := 0, cells := 1, slots := 1, locals := 0 } : Room).cells ({ frames := 0, cells := 1, slots := 1, locals := 0 } : Room).slots (Q_rmTb Z ich h0 n0) s₁ (mkF m 0 #[.val (.int ich)] []) from hgo.enter (ef_rmTb m ich)
  refine Go.step (fun _ k => XS.iconst X0.here hx rfl (hb hby d3_0) k) ?_
  show Go _ _ _ _ _ _ _ s₁ (mkF m 1 #[.val (.int ich)] [(.int (1 : Int32))])
  obtain ⟨T8, h8, k8, X8, e8, E8, A8, st8⟩ := newP X0 hx hZ (hw _ (List.mem_of_getElem? (i := 18) rfl)) e0 (g := (mkF m 1 #[.val (.int ich)] [(.int (1 : Int32))])) rfl (hb hby d3_1) rfl (by decide) (cap := 1) (by decide) (by decide) (by decide) (by decide)
  obtain ⟨b8, g8⟩ : ∃ z, z = h0.size := ⟨_, rfl⟩
  rw [← g8] at A8 st8
  refine Go.step st8 ?_
  have g_b8 : n0 ≤ b8 := Nat.le_trans Z0 (Nat.le_of_eq g8.symm)
  have sz_b8 : h0.size ≤ b8 := Nat.le_trans (Keep.refl h0 []).1 (Nat.le_of_eq g8.symm)
  have Z8 : n0 ≤ h8.size := Nat.le_trans Z0 E8.1
  have KK8 : Keep h0 h8 [] := (Keep.refl h0 []).ext E8
  have V8 : Arv Z h8 b8 k8 .byte (1 : Int32) [] (.int (0 : Int32)) := Arv.new A8 (by decide)
  have V9 : Arv Z h8 b8 k8 .byte (1 : Int32) [(.int (0 : Int32))] (.int (0 : Int32)) := (V8).pad (pad_rep [] (.int (0 : Int32)) 1)
  show Go _ _ _ _ _ _ _ T8 (mkF m 3 #[.val (.int ich)] [(.ref b8)])
  refine Go.step (fun _ k => XS.dup X8.here hx rfl (hb hby d3_3) rfl rfl k) ?_
  show Go _ _ _ _ _ _ _ T8 (mkF m 4 #[.val (.int ich)] [(.ref b8), (.ref b8)])
  refine Go.step (fun _ k => XS.iconst X8.here hx rfl (hb hby d3_4) k) ?_
  show Go _ _ _ _ _ _ _ T8 (mkF m 5 #[.val (.int ich)] [(.int (0 : Int32)), (.ref b8), (.ref b8)])
  refine Go.step (fun _ k => XS.iloadN X8.here hx rfl (hb hby d3_5) rfl k) ?_
  show Go _ _ _ _ _ _ _ T8 (mkF m 6 #[.val (.int ich)] [(.int ich), (.int (0 : Int32)), (.ref b8), (.ref b8)])
  refine Go.step (fun _ k => XS.i2b X8.here hx rfl (hb hby d3_6) rfl k) ?_
  show Go _ _ _ _ _ _ _ T8 (mkF m 7 #[.val (.int ich)] [(.int (ich.toInt8.toInt32)), (.int (0 : Int32)), (.ref b8), (.ref b8)])
  obtain ⟨cl10, Ar10, q10, S10, M10, H10, G10⟩ := id (V9)
  have hin10 : ¬ ((0 : Int32) < 0 ∨ cl10.slots.size ≤ ((0 : Int32)).toNatClampNeg) := inb_of S10 ⟨by decide, by decide⟩
  obtain ⟨T10, h10, X10, e10, W10, st10⟩ := stB X8 hx hZ e8 Ar10 (j := (0 : Int32)) hin10 (g := (mkF m 7 #[.val (.int ich)] [(.int (ich.toInt8.toInt32)), (.int (0 : Int32)), (.ref b8), (.ref b8)])) rfl rfl (hb hby d3_7)
  refine Go.step st10 ?_
  have V10 : Arv Z h10 b8 k8 .byte (1 : Int32) [(.int (nar .byte (ich.toInt8.toInt32)))] (.int (0 : Int32)) := Arv.set Ar10 q10 S10 M10 H10 G10 (fits_nar_byte _) W10 0 rfl (Nat.le_of_ble_eq_true rfl)
  have N10 := Fr.snoc X10 N0 g_b8
  have Z10 : n0 ≤ h10.size := Nat.le_trans Z8 (Keep.of_wr W10).1
  have KK10 : Keep h0 h10 [] := KK8.wr W10 (Or.inr sz_b8)
  show Go _ _ _ _ _ _ _ T10 (mkF m 8 #[.val (.int ich)] [(.ref b8)])
  exact Go.retA X10 hx hret hlk rfl rfl (hb hby d3_8) e10 (by decide) (by decide) ⟨b8, k8, [(.int (nar .byte (ich.toInt8.toInt32)))], rfl, N10, KK10, V10, sz_b8⟩
theorem d4_0 : decode jdk_42_method_151_code 0 = .ok (.aload_n 0, 1) := by decide +kernel
theorem d4_1 : decode jdk_42_method_151_code 1 = .ok (.invokespecial 1, 3) := by decide +kernel
theorem d4_4 : decode jdk_42_method_151_code 4 = .ok (.aload_n 0, 1) := by decide +kernel
theorem d4_5 : decode jdk_42_method_151_code 5 = .ok (.aload_n 1, 1) := by decide +kernel
theorem d4_6 : decode jdk_42_method_151_code 6 = .ok (.putfield 9, 3) := by decide +kernel
theorem d4_9 : decode jdk_42_method_151_code 9 = .ok (.aload_n 0, 1) := by decide +kernel
theorem d4_10 : decode jdk_42_method_151_code 10 = .ok (.iload_n 2, 1) := by decide +kernel
theorem d4_11 : decode jdk_42_method_151_code 11 = .ok (.putfield 15, 3) := by decide +kernel
theorem d4_14 : decode jdk_42_method_151_code 14 = .ok (.return_, 1) := by decide +kernel
theorem ef_rmSi (m : MethodId) (ao : Addr) (at_ : Addr) : entryFrame m #[(.ref ao), (.ref at_), (.int (0 : Int32))] 3 = mkF m 0 #[.val (.ref ao), .val (.ref at_), .val (.int (0 : Int32))] [] := by first | (simp [entryFrame, mkF, argsToLocals, Value.category]; done) | rfl
def Q_rmSi (Z : State) (ao : Addr) (at_ : Addr) (h0 : Heap) (n0 : Nat) (v : Option Value) (h : Heap) (L : List Loc) : Prop := (v = none) ∧ (Fr n0 L) ∧ (Keep h0 h [ao]) ∧ (Fld Z h ao "java/lang/String" "value" "[B" (.ref at_))
set_option maxRecDepth 65536 in
set_option maxHeartbeats 40000000 in
theorem rmSi (l : Launch) (Z : State) (a0 : Array Value) (hw : ∀ d ∈ tables_1, d.before a0 Z = true) (ws : List Jvm.Cond) (ao : Addr) (at_ : Addr) (h0 : Heap) (n0 : Nat) (Z0 : n0 ≤ h0.size) (E0 : Exa Z h0 ao "java/lang/String") (g0 : n0 ≤ ao) (F1 : Fld Z h0 ao "java/lang/String" "value" "[B" .null) (F2 : Fld Z h0 ao "java/lang/String" "coder" "B" (.int (0 : Int32))) :
    MetFree l (⟨"java/lang/String", "<init>", "([BB)V"⟩ : MethodName) (head1 (Jvm.Cond.code (⟨"java/lang/String", "<init>", "([BB)V"⟩ : MethodName) jdk_42_method_151_code 3 none :: ws) ({ frames := 1, cells := 0, slots := 0, locals := 12 } : Room)) (fun aA U => aA = #[(.ref ao), (.ref at_), (.int (0 : Int32))] ∧ Z.Warmed39 U.vm ∧ U.heap = h0) (fun _ _ _ _ _ => True) (fun _ U o U' => ∃ v L, o = .returned v ∧ Q_rmSi Z ao at_ h0 n0 v U'.heap L ∧ FrameEnd U o U' L ({ frames := 1, cells := 0, slots := 0, locals := 12 } : Room).cells ({ frames := 1, cells := 0, slots := 0, locals := 12 } : Room).slots) := by
  refine MetFree.of_bodySF (plainFor_of_name pn_java_lang_String) hisR ?_
  intro p e s m args below meth c s₁ Bd hml0 hP hK
  obtain ⟨rfl, hZ, hh⟩ := hP
  have hx := Bd.exec
  have hby := Bd.bytes
  have hml : c.maxLocals = 3 := hml0
  have hown : s.vm.findClass "java/lang/String" = some m.cls := findClass_of_methodNamed Bd.named
  have hnm := (name_of_methodNamed Bd.named Bd.method).1
  have hret := Bd.returns
  have hlk : meth.locks = false := BodyLoose.notSynchronized Bd
  have X0 : Stand p l e ({ frames := 1, cells := 0, slots := 0, locals := 12 } : Room) s m #[(.ref ao), (.ref at_), (.int (0 : Int32))] below meth c s₁ [] 0 0 := Stand.of_body Bd
  have e0 : s₁.heap = h0 := by rw [← hh, Bd.state]; rfl
  have N0 := Fr.nil n0
  suffices hgo : Go p e below s ({ frames := 1, cells := 0, slots := 0, locals := 12 } : Room).cells ({ frames := 1, cells := 0, slots := 0, locals := 12 } : Room).slots (Q_rmSi Z ao at_ h0 n0) s₁ (mkF m 0 #[.val (.ref ao), .val (.ref at_), .val (.int (0 : Int32))] []) from hgo.enter (ef_rmSi m ao at_)
  refine Go.step (fun _ k => XS.aloadN X0.here hx rfl (hb hby d4_0) rfl rfl k) ?_
  show Go _ _ _ _ _ _ _ s₁ (mkF m 1 #[.val (.ref ao), .val (.ref at_), .val (.int (0 : Int32))] [(.ref ao)])
  obtain ⟨T11, X11, e11, st11⟩ := initO X0 hx hZ hown (hw _ (List.mem_of_getElem? (i := 23) rfl)) (hw _ (List.mem_of_getElem? (i := 24) rfl)) (hw _ (List.mem_of_getElem? (i := 25) rfl)) e0 (g := (mkF m 1 #[.val (.ref ao), .val (.ref at_), .val (.int (0 : Int32))] [(.ref ao)])) rfl (by rw [hml]; rfl) rfl (hb hby d4_1) (by decide) (W := 0) (by show 2 * 0 + _ ≤ _; exact Nat.le_of_eq rfl) (by decide)
  refine Go.step st11 ?_
  show Go _ _ _ _ _ _ _ T11 (mkF m 4 #[.val (.ref ao), .val (.ref at_), .val (.int (0 : Int32))] [])
  refine Go.step (fun _ k => XS.aloadN X11.here hx rfl (hb hby d4_4) rfl rfl k) ?_
  show Go _ _ _ _ _ _ _ T11 (mkF m 5 #[.val (.ref ao), .val (.ref at_), .val (.int (0 : Int32))] [(.ref ao)])
  refine Go.step (fun _ k => XS.aloadN X11.here hx rfl (hb hby d4_5) rfl rfl k) ?_
  show Go _ _ _ _ _ _ _ T11 (mkF m 6 #[.val (.ref ao), .val (.ref at_), .val (.int (0 : Int32))] [(.ref at_), (.ref ao)])
  obtain ⟨T12, h12, X12, e12, W12, st12⟩ := putF X11 hx hZ hown (host := "") (Or.inl (hw _ (List.mem_of_getElem? (i := 26) rfl))) Via.refl e11 F1 E0 (Or.inr ⟨(hw _ (List.mem_of_getElem? (i := 27) rfl)), rfl, hnm⟩) (hw _ (List.mem_of_getElem? (i := 14) rfl)) (ty := (.array .byte)) (by decide) rfl rfl (g := (mkF m 6 #[.val (.ref ao), .val (.ref at_), .val (.int (0 : Int32))] [(.ref at_), (.ref ao)])) rfl rfl (hb hby d4_6)
  refine Go.step st12 ?_
  have Fw12 := F1.same W12
  have N12 := Fr.snoc X12 N0 g0
  have Z12 : n0 ≤ h12.size := Nat.le_trans Z0 (Keep.of_wr W12).1
  have KK12 : Keep h0 h12 [ao] := (Keep.refl h0 [ao]).wr W12 (Or.inl (List.mem_of_getElem? (i := 0) rfl))
  show Go _ _ _ _ _ _ _ T12 (mkF m 9 #[.val (.ref ao), .val (.ref at_), .val (.int (0 : Int32))] [])
  refine Go.step (fun _ k => XS.aloadN X12.here hx rfl (hb hby d4_9) rfl rfl k) ?_
  show Go _ _ _ _ _ _ _ T12 (mkF m 10 #[.val (.ref ao), .val (.ref at_), .val (.int (0 : Int32))] [(.ref ao)])
  refine Go.step (fun _ k => XS.iloadN X12.here hx rfl (hb hby d4_10) rfl k) ?_
  show Go _ _ _ _ _ _ _ T12 (mkF m 11 #[.val (.ref ao), .val (.ref at_), .val (.int (0 : Int32))] [(.int (0 : Int32)), (.ref ao)])
  have f13 : Fld Z h12 ao "java/lang/String" "coder" "B" (.int (0 : Int32)) := (F2.other W12 (Or.inr (slot_ne (a0 := a0) (C := "java/lang/String") (Or.inr (hw _ (List.mem_of_getElem? (i := 29) rfl))) (Or.inr (hw _ (List.mem_of_getElem? (i := 27) rfl))) (by decide) (t := .byte) (t' := (.array .byte)) (by decide) (by decide))))
  have f14 : Exa Z h12 ao "java/lang/String" := (E0.wr W12)
  obtain ⟨T15, h15, X15, e15, W15, st15⟩ := putFN X12 hx hZ hown (hw _ (List.mem_of_getElem? (i := 28) rfl)) Via.refl e12 f13 f14 (Or.inr ⟨(hw _ (List.mem_of_getElem? (i := 29) rfl)), rfl, hnm⟩) (hw _ (List.mem_of_getElem? (i := 14) rfl)) (ty := .byte) (v' := (.int (0 : Int32))) (by decide) rfl rfl (g := (mkF m 11 #[.val (.ref ao), .val (.ref at_), .val (.int (0 : Int32))] [(.int (0 : Int32)), (.ref ao)])) rfl rfl (hb hby d4_11)
  refine Go.step st15 ?_
  have Fw15 := f13.same W15
  have N15 := Fr.snoc X15 N12 g0
  have Z15 : n0 ≤ h15.size := Nat.le_trans Z12 (Keep.of_wr W15).1
  have KK15 : Keep h0 h15 [ao] := KK12.wr W15 (Or.inl (List.mem_of_getElem? (i := 0) rfl))
  show Go _ _ _ _ _ _ _ T15 (mkF m 14 #[.val (.ref ao), .val (.ref at_), .val (.int (0 : Int32))] [])
  have f16 : Fld Z h15 ao "java/lang/String" "value" "[B" (.ref at_) := (Fw12.other W15 (Or.inr (slot_ne (a0 := a0) (C := "java/lang/String") (Or.inr (hw _ (List.mem_of_getElem? (i := 27) rfl))) (Or.inr (hw _ (List.mem_of_getElem? (i := 29) rfl))) (by decide) (t := (.array .byte)) (t' := .byte) (by decide) (by decide))))
  exact Go.ret0 X15 hx hret hlk (hb hby d4_14) e15 (by decide) (by decide) ⟨rfl, N15, KK15, f16⟩
theorem d1_0 : decode jdk_42_method_139_code 0 = .ok (.getstatic 38, 3) := by decide +kernel
theorem d1_3 : decode jdk_42_method_139_code 3 = .ok (.ifCond .eq 23, 3) := by decide +kernel
theorem d1_6 : decode jdk_42_method_139_code 6 = .ok (.iload_n 0, 1) := by decide +kernel
theorem d1_7 : decode jdk_42_method_139_code 7 = .ok (.invokestatic 1015, 3) := by decide +kernel
theorem d1_10 : decode jdk_42_method_139_code 10 = .ok (.ifCond .eq 16, 3) := by decide +kernel
theorem d1_13 : decode jdk_42_method_139_code 13 = .ok (.new 10, 3) := by decide +kernel
theorem d1_16 : decode jdk_42_method_139_code 16 = .ok (.dup, 1) := by decide +kernel
theorem d1_17 : decode jdk_42_method_139_code 17 = .ok (.iload_n 0, 1) := by decide +kernel
theorem d1_18 : decode jdk_42_method_139_code 18 = .ok (.invokestatic 1018, 3) := by decide +kernel
theorem d1_21 : decode jdk_42_method_139_code 21 = .ok (.iconst 0, 1) := by decide +kernel
theorem d1_22 : decode jdk_42_method_139_code 22 = .ok (.invokespecial 209, 3) := by decide +kernel
theorem d1_25 : decode jdk_42_method_139_code 25 = .ok (.areturn, 1) := by decide +kernel
theorem d1_26 : decode jdk_42_method_139_code 26 = .ok (.new 10, 3) := by decide +kernel
theorem d1_29 : decode jdk_42_method_139_code 29 = .ok (.dup, 1) := by decide +kernel
theorem d1_30 : decode jdk_42_method_139_code 30 = .ok (.iload_n 0, 1) := by decide +kernel
theorem d1_31 : decode jdk_42_method_139_code 31 = .ok (.invokestatic 1021, 3) := by decide +kernel
theorem d1_34 : decode jdk_42_method_139_code 34 = .ok (.iconst 1, 1) := by decide +kernel
theorem d1_35 : decode jdk_42_method_139_code 35 = .ok (.invokespecial 209, 3) := by decide +kernel
theorem d1_38 : decode jdk_42_method_139_code 38 = .ok (.areturn, 1) := by decide +kernel
theorem pd__C_Z : parseMethodDescriptor "(C)Z" = some ⟨[.char], some .boolean⟩ := by decide +kernel
theorem pd__C__B : parseMethodDescriptor "(C)[B" = some ⟨[.char], some (.array .byte)⟩ := by decide +kernel
theorem pd___BB_V : parseMethodDescriptor "([BB)V" = some ⟨[(.array .byte), .byte], none⟩ := by decide +kernel
theorem ef_rmVo (m : MethodId) (ich : Int32) : entryFrame m #[(.int ich)] 1 = mkF m 0 #[.val (.int ich)] [] := by first | (simp [entryFrame, mkF, argsToLocals, Value.category]; done) | rfl
def Q_rmVo (Z : State) (ich : Int32) (G1 : Int32) (h0 : Heap) (n0 : Nat) (v : Option Value) (h : Heap) (L : List Loc) : Prop := ∃ as_ : Addr, ∃ at_ : Addr, ∃ kt : ClassId, ∃ vt : List Value, (v = some (.ref as_)) ∧ (Fr n0 L) ∧ (Keep h0 h []) ∧ (Exa Z h as_ "java/lang/String") ∧ (Fld Z h as_ "java/lang/String" "value" "[B" (.ref at_)) ∧ (Arv Z h at_ kt .byte (1 : Int32) vt (.int (0 : Int32))) ∧ (h0.size ≤ as_) ∧ (h0.size ≤ at_)
set_option maxRecDepth 65536 in
set_option maxHeartbeats 40000000 in
theorem rmVo (l : Launch) (Z : State) (a0 : Array Value) (hw : ∀ d ∈ tables_1, d.before a0 Z = true) (ws : List Jvm.Cond) (ich : Int32) (G1 : Int32) (h0 : Heap) (n0 : Nat) (Z0 : n0 ≤ h0.size) (O0 : Old Z n0 h0) (O2 : Sta Z Z.heap "java/lang/String" "COMPACT_STRINGS" "Z" (.int G1)) (P5 : ¬ (G1 = (0 : Int32))) (h255 : ¬ ((255 : Int32) < ich)) :
    MetFree l (⟨"java/lang/String", "valueOf", "(C)Ljava/lang/String;"⟩ : MethodName) (head1 (Jvm.Cond.code (⟨"java/lang/String", "valueOf", "(C)Ljava/lang/String;"⟩ : MethodName) jdk_42_method_139_code 1 (some (.object "java/lang/String")) :: ws) ({ frames := 2, cells := 2, slots := 5, locals := 27 } : Room)) (fun aA U => aA = #[(.int ich)] ∧ Z.Warmed39 U.vm ∧ U.heap = h0) (fun _ _ _ _ _ => True) (fun _ U o U' => ∃ v L, o = .returned v ∧ Q_rmVo Z ich G1 h0 n0 v U'.heap L ∧ FrameEnd U o U' L ({ frames := 2, cells := 2, slots := 5, locals := 27 } : Room).cells ({ frames := 2, cells := 2, slots := 5, locals := 27 } : Room).slots) := by
  refine MetFree.of_bodySF (plainFor_of_name pn_java_lang_String) hisR ?_
  intro p e s m args below meth c s₁ Bd hml0 hP hK
  obtain ⟨rfl, hZ, hh⟩ := hP
  have hx := Bd.exec
  have hby := Bd.bytes
  have hml : c.maxLocals = 1 := hml0
  have hown : s.vm.findClass "java/lang/String" = some m.cls := findClass_of_methodNamed Bd.named
  have hnm := (name_of_methodNamed Bd.named Bd.method).1
  have hret := Bd.returns
  have hlk : meth.locks = false := BodyLoose.notSynchronized Bd
  have X0 : Stand p l e ({ frames := 2, cells := 2, slots := 5, locals := 27 } : Room) s m #[(.int ich)] below meth c s₁ [] 0 0 := Stand.of_body Bd
  have e0 : s₁.heap = h0 := by rw [← hh, Bd.state]; rfl
  have N0 := Fr.nil n0
  suffices hgo : Go p e below s ({ frames := 2, cells := 2, slots := 5, locals := 27 } : Room).cells ({ frames := 2, cells := 2, slots := 5, locals := 27 } : Room).slots (Q_rmVo Z ich G1 h0 n0) s₁ (mkF m 0 #[.val (.int ich)] []) from hgo.enter (ef_rmVo m ich)
  obtain ⟨T17, X17, e17, st17⟩ := getS2 X0 hx hZ hown (host := "") (Or.inl (hw _ (List.mem_of_getElem? (i := 8) rfl))) Via.refl e0 (O2.ext O0.2) (g := (mkF m 0 #[.val (.int ich)] [])) rfl (hb hby d1_0)
  refine Go.step st17 ?_
  show Go _ _ _ _ _ _ _ T17 (mkF m 3 #[.val (.int ich)] [(.int G1)])
  have hc3_18 : ¬ (G1 = (0 : Int32)) := P5
  refine Go.step (fun _ k => XS.ifNo X17.here hx rfl (hb hby d1_3) rfl ((if0 _ _).trans (feq hc3_18).1) k) ?_
  show Go _ _ _ _ _ _ _ T17 (mkF m 6 #[.val (.int ich)] [])
  refine Go.step (fun _ k => XS.iloadN X17.here hx rfl (hb hby d1_6) rfl k) ?_
  show Go _ _ _ _ _ _ _ T17 (mkF m 7 #[.val (.int ich)] [(.int ich)])
  obtain ⟨_, _, ⟨T19, L19, k19, n19⟩, -, X19, ⟨Lc19, hQ19, l19, y19, z19⟩, st19⟩ := Jvm.LawKit.callS X17 hx (y := (⟨"java/lang/StringLatin1", "canEncode", "(C)Z"⟩ : MethodName)) hown (mvT hZ (hw _ (List.mem_of_getElem? (i := 9) rfl))) (mvT hZ (hw _ (List.mem_of_getElem? (i := 10) rfl))) (mvT hZ (hw _ (List.mem_of_getElem? (i := 11) rfl))) (mvT hZ (hw _ (List.mem_of_getElem? (i := 12) rfl))) (by decide) (backOf (W := 0) (rmCe l Z a0 hw [] ich h0 n0 Z0 h255) hZ (hw _ (List.mem_of_getElem? (i := 12) rfl)) (hw _ (List.mem_of_getElem? (i := 11) rfl)) (by decide) (by decide)) (g := (mkF m 7 #[.val (.int ich)] [(.int ich)])) rfl (by rw [hml]; rfl) (argsL := [(.int ich)]) (rest := []) (lenOf pd__C_Z rfl) rfl (by show 2 * 0 + _ ≤ _; exact Nat.le_of_eq rfl) (hb hby d1_7) (fun _ _ => ⟨rfl, e17, (by decide : 0 + 0 ≤ _), (by decide : 0 + 0 ≤ _)⟩)
  dsimp only [Pt.U, Pt.locs, Pt.cells, Pt.slots] at X19 l19 y19 z19 st19 hQ19
  subst l19 y19 z19
  obtain ⟨h19, e19⟩ : ∃ h, T19.heap = h := ⟨_, rfl⟩
  rw [e19] at hQ19
  obtain ⟨rfl, Nq19, hs19⟩ := hQ19
  have N19 := Fr.app N0 Nq19
  rw [hs19] at e19
  refine Go.step st19 ?_
  show Go _ _ _ _ _ _ _ T19 (mkF m 10 #[.val (.int ich)] [(.int (1 : Int32))])
  have hc10_20 : ¬ ((1 : Int32) = (0 : Int32)) := (by decide)
  refine Go.step (fun _ k => XS.ifNo X19.here hx rfl (hb hby d1_10) rfl ((if0 _ _).trans (feq hc10_20).1) k) ?_
  show Go _ _ _ _ _ _ _ T19 (mkF m 13 #[.val (.int ich)] [])
  obtain ⟨T21, h21, X21, e21, E21, A21, D21, -, st21⟩ := newO X19 hx hZ hown (hw _ (List.mem_of_getElem? (i := 13) rfl)) (hw _ (List.mem_of_getElem? (i := 14) rfl)) (hw _ (List.mem_of_getElem? (i := 6) rfl)) e19 (g := (mkF m 13 #[.val (.int ich)] [])) rfl (hb hby d1_13) (by decide) (by decide)
  obtain ⟨b21, g21⟩ : ∃ z, z = h0.size := ⟨_, rfl⟩
  rw [← g21] at A21 D21 st21
  refine Go.step st21 ?_
  have g_b21 : n0 ≤ b21 := Nat.le_trans Z0 (Nat.le_of_eq g21.symm)
  have sz_b21 : h0.size ≤ b21 := Nat.le_trans (Keep.refl h0 []).1 (Nat.le_of_eq g21.symm)
  have Z21 : n0 ≤ h21.size := Nat.le_trans Z0 E21.1
  have KK21 : Keep h0 h21 [] := (Keep.refl h0 []).ext E21
  have Fvalue_21 : Fld Z h21 b21 "java/lang/String" "value" "[B" .null := D21 (Or.inr (hw _ (List.mem_of_getElem? (i := 27) rfl))) (ty := (.array .byte)) (by decide)
  have Fcoder_21 : Fld Z h21 b21 "java/lang/String" "coder" "B" (.int (0 : Int32)) := D21 (Or.inr (hw _ (List.mem_of_getElem? (i := 29) rfl))) (ty := .byte) (by decide)
  show Go _ _ _ _ _ _ _ T21 (mkF m 16 #[.val (.int ich)] [(.ref b21)])
  refine Go.step (fun _ k => XS.dup X21.here hx rfl (hb hby d1_16) rfl rfl k) ?_
  show Go _ _ _ _ _ _ _ T21 (mkF m 17 #[.val (.int ich)] [(.ref b21), (.ref b21)])
  refine Go.step (fun _ k => XS.iloadN X21.here hx rfl (hb hby d1_17) rfl k) ?_
  show Go _ _ _ _ _ _ _ T21 (mkF m 18 #[.val (.int ich)] [(.int ich), (.ref b21), (.ref b21)])
  obtain ⟨_, _, ⟨T22, L22, k22, n22⟩, -, X22, ⟨Lc22, hQ22, l22, y22, z22⟩, st22⟩ := Jvm.LawKit.callS X21 hx (y := (⟨"java/lang/StringLatin1", "toBytes", "(C)[B"⟩ : MethodName)) hown (mvT hZ (hw _ (List.mem_of_getElem? (i := 15) rfl))) (mvT hZ (hw _ (List.mem_of_getElem? (i := 16) rfl))) (mvT hZ (hw _ (List.mem_of_getElem? (i := 11) rfl))) (mvT hZ (hw _ (List.mem_of_getElem? (i := 17) rfl))) (by decide) (backOf (W := 2) (rmTb l Z a0 hw [] ich h21 n0 Z21 ) hZ (hw _ (List.mem_of_getElem? (i := 17) rfl)) (hw _ (List.mem_of_getElem? (i := 11) rfl)) (by decide) (by decide)) (g := (mkF m 18 #[.val (.int ich)] [(.int ich), (.ref b21), (.ref b21)])) rfl (by rw [hml]; rfl) (argsL := [(.int ich)]) (rest := [(.ref b21), (.ref b21)]) (lenOf pd__C__B rfl) rfl (by show 2 * 0 + _ ≤ _; exact Nat.le_of_eq rfl) (hb hby d1_18) (fun _ _ => ⟨rfl, e21, (by decide : 1 + 1 ≤ _), (by decide : 4 + 1 ≤ _)⟩)
  dsimp only [Pt.U, Pt.locs, Pt.cells, Pt.slots] at X22 l22 y22 z22 st22 hQ22
  subst l22 y22 z22
  obtain ⟨h22, e22⟩ : ∃ h, T22.heap = h := ⟨_, rfl⟩
  rw [e22] at hQ22
  obtain ⟨at__22, kt_22, vt_22, rfl, Nq22, Kq22, Vt_22, z1_22⟩ := hQ22
  have N22 := Fr.app N19 Nq22
  have Z22 : n0 ≤ h22.size := Nat.le_trans Z21 Kq22.1
  have KK22 : Keep h0 h22 [] := KK21.trans Kq22 all0
  have g_at__22 : n0 ≤ at__22 := Nat.le_trans Z21 z1_22
  have sz_at__22 : h0.size ≤ at__22 := Nat.le_trans KK21.1 z1_22
  have ne_b21_at__22 : b21 ≠ at__22 := Nat.ne_of_lt (Nat.lt_of_lt_of_le A21.lt z1_22)
  refine Go.step st22 ?_
  show Go _ _ _ _ _ _ _ T22 (mkF m 21 #[.val (.int ich)] [(.ref at__22), (.ref b21), (.ref b21)])
  refine Go.step (fun _ k => XS.iconst X22.here hx rfl (hb hby d1_21) k) ?_
  show Go _ _ _ _ _ _ _ T22 (mkF m 22 #[.val (.int ich)] [(.int (0 : Int32)), (.ref at__22), (.ref b21), (.ref b21)])
  have f24 : Exa Z h22 b21 "java/lang/String" := (A21.keep Kq22)
  have f25 : Fld Z h22 b21 "java/lang/String" "value" "[B" .null := (Fvalue_21.keep Kq22 nin0)
  have f26 : Fld Z h22 b21 "java/lang/String" "coder" "B" (.int (0 : Int32)) := (Fcoder_21.keep Kq22 nin0)
  obtain ⟨_, _, ⟨T23, L23, k23, n23⟩, -, X23, ⟨Lc23, hQ23, l23, y23, z23⟩, st23⟩ := X22.specialBack hx (y := (⟨"java/lang/String", "<init>", "([BB)V"⟩ : MethodName)) rfl hown (mvT hZ (hw _ (List.mem_of_getElem? (i := 19) rfl))) (mvT hZ (hw _ (List.mem_of_getElem? (i := 20) rfl))) (mvT hZ (hw _ (List.mem_of_getElem? (i := 22) rfl))) (by decide) (backOf (W := 1) (rmSi l Z a0 hw [] b21 at__22 h22 n0 Z22 f24 g_b21 f25 f26) hZ (hw _ (List.mem_of_getElem? (i := 22) rfl)) (hw _ (List.mem_of_getElem? (i := 6) rfl)) (by decide) (by decide)) (g := (mkF m 22 #[.val (.int ich)] [(.int (0 : Int32)), (.ref at__22), (.ref b21), (.ref b21)])) rfl (by rw [hml]; rfl) (Steps.refl _) (a := b21) (argsL := [(.ref at__22), (.int (0 : Int32))]) (rest := [(.ref b21)]) (lenOf pd___BB_V rfl) rfl (by show 2 * 0 + _ ≤ _; exact Nat.le_of_eq rfl) (hb hby d1_22) (fun _ _ => ⟨rfl, e22, (by decide : 2 + 0 ≤ _), (by decide : 5 + 0 ≤ _)⟩)
  dsimp only [Pt.U, Pt.locs, Pt.cells, Pt.slots] at X23 l23 y23 z23 st23 hQ23
  subst l23 y23 z23
  obtain ⟨h23, e23⟩ : ∃ h, T23.heap = h := ⟨_, rfl⟩
  rw [e23] at hQ23
  obtain ⟨rfl, Nq23, Kq23, G1__23⟩ := hQ23
  have N23 := Fr.app N22 Nq23
  have Z23 : n0 ≤ h23.size := Nat.le_trans Z22 Kq23.1
  have KK23 : Keep h0 h23 [] := KK22.trans Kq23 (allS (Or.inr sz_b21) all0)
  refine Go.trans st23 ?_
  show Go _ _ _ _ _ _ _ T23 (mkF m 25 #[.val (.int ich)] [(.ref b21)])
  have f27 : Exa Z h23 b21 "java/lang/String" := (f24.keep Kq23)
  have f28 : Arv Z h23 at__22 kt_22 .byte (1 : Int32) vt_22 (.int (0 : Int32)) := (Vt_22.keep Kq23 (ninS (Ne.symm ne_b21_at__22) nin0))
  exact Go.retA X23 hx hret hlk rfl rfl (hb hby d1_25) e23 (by decide) (by decide) ⟨b21, at__22, kt_22, vt_22, rfl, N23, KK23, f27, G1__23, f28, sz_b21, sz_at__22⟩
theorem d6_0 : decode prog_21_method_1_code 0 = .ok (.aload_n 0, 1) := by decide +kernel
theorem d6_1 : decode prog_21_method_1_code 1 = .ok (.invokespecial 1, 3) := by decide +kernel
theorem d6_4 : decode prog_21_method_1_code 4 = .ok (.aload_n 1, 1) := by decide +kernel
theorem d6_5 : decode prog_21_method_1_code 5 = .ok (.invokevirtual 7, 3) := by decide +kernel
theorem d6_8 : decode prog_21_method_1_code 8 = .ok (.ifCond .eq 13, 3) := by decide +kernel
theorem d6_11 : decode prog_21_method_1_code 11 = .ok (.new 13, 3) := by decide +kernel
theorem d6_14 : decode prog_21_method_1_code 14 = .ok (.dup, 1) := by decide +kernel
theorem d6_15 : decode prog_21_method_1_code 15 = .ok (.ldc 15, 2) := by decide +kernel
theorem d6_17 : decode prog_21_method_1_code 17 = .ok (.invokespecial 17, 3) := by decide +kernel
theorem d6_20 : decode prog_21_method_1_code 20 = .ok (.athrow, 1) := by decide +kernel
theorem d6_21 : decode prog_21_method_1_code 21 = .ok (.aload_n 2, 1) := by decide +kernel
theorem d6_22 : decode prog_21_method_1_code 22 = .ok (.ifnonnull 13, 3) := by decide +kernel
theorem d6_25 : decode prog_21_method_1_code 25 = .ok (.new 13, 3) := by decide +kernel
theorem d6_28 : decode prog_21_method_1_code 28 = .ok (.dup, 1) := by decide +kernel
theorem d6_29 : decode prog_21_method_1_code 29 = .ok (.ldc 20, 2) := by decide +kernel
theorem d6_31 : decode prog_21_method_1_code 31 = .ok (.invokespecial 17, 3) := by decide +kernel
theorem d6_34 : decode prog_21_method_1_code 34 = .ok (.athrow, 1) := by decide +kernel
theorem d6_35 : decode prog_21_method_1_code 35 = .ok (.dload_n 3, 1) := by decide +kernel
theorem d6_36 : decode prog_21_method_1_code 36 = .ok (.invokestatic 22, 3) := by decide +kernel
theorem d6_39 : decode prog_21_method_1_code 39 = .ok (.ifCond .eq 19, 3) := by decide +kernel
theorem d6_42 : decode prog_21_method_1_code 42 = .ok (.dload 5, 2) := by decide +kernel
theorem d6_44 : decode prog_21_method_1_code 44 = .ok (.invokestatic 22, 3) := by decide +kernel
theorem d6_47 : decode prog_21_method_1_code 47 = .ok (.ifCond .eq 11, 3) := by decide +kernel
theorem d6_50 : decode prog_21_method_1_code 50 = .ok (.dload 7, 2) := by decide +kernel
theorem d6_52 : decode prog_21_method_1_code 52 = .ok (.invokestatic 22, 3) := by decide +kernel
theorem d6_55 : decode prog_21_method_1_code 55 = .ok (.ifCond .ne 17, 3) := by decide +kernel
theorem d6_58 : decode prog_21_method_1_code 58 = .ok (.new 13, 3) := by decide +kernel
theorem d6_61 : decode prog_21_method_1_code 61 = .ok (.dup, 1) := by decide +kernel
theorem d6_62 : decode prog_21_method_1_code 62 = .ok (.aload_n 1, 1) := by decide +kernel
theorem d6_68 : decode prog_21_method_1_code 68 = .ok (.invokespecial 17, 3) := by decide +kernel
theorem d6_71 : decode prog_21_method_1_code 71 = .ok (.athrow, 1) := by decide +kernel
theorem d6_72 : decode prog_21_method_1_code 72 = .ok (.dconst 0, 1) := by decide +kernel
theorem d6_73 : decode prog_21_method_1_code 73 = .ok (.dload_n 3, 1) := by decide +kernel
theorem d6_74 : decode prog_21_method_1_code 74 = .ok (.dcmp .g, 1) := by decide +kernel
theorem d6_75 : decode prog_21_method_1_code 75 = .ok (.ifCond .gt 18, 3) := by decide +kernel
theorem d6_78 : decode prog_21_method_1_code 78 = .ok (.dload_n 3, 1) := by decide +kernel
theorem d6_79 : decode prog_21_method_1_code 79 = .ok (.dload 5, 2) := by decide +kernel
theorem d6_81 : decode prog_21_method_1_code 81 = .ok (.dcmp .g, 1) := by decide +kernel
theorem d6_82 : decode prog_21_method_1_code 82 = .ok (.ifCond .gt 11, 3) := by decide +kernel
theorem d6_85 : decode prog_21_method_1_code 85 = .ok (.dload 5, 2) := by decide +kernel
theorem d6_87 : decode prog_21_method_1_code 87 = .ok (.dload 7, 2) := by decide +kernel
theorem d6_89 : decode prog_21_method_1_code 89 = .ok (.dcmp .g, 1) := by decide +kernel
theorem d6_90 : decode prog_21_method_1_code 90 = .ok (.ifCond .le 22, 3) := by decide +kernel
theorem d6_93 : decode prog_21_method_1_code 93 = .ok (.new 13, 3) := by decide +kernel
theorem d6_96 : decode prog_21_method_1_code 96 = .ok (.dup, 1) := by decide +kernel
theorem d6_97 : decode prog_21_method_1_code 97 = .ok (.aload_n 1, 1) := by decide +kernel
theorem d6_98 : decode prog_21_method_1_code 98 = .ok (.dload_n 3, 1) := by decide +kernel
theorem d6_99 : decode prog_21_method_1_code 99 = .ok (.dload 5, 2) := by decide +kernel
theorem d6_101 : decode prog_21_method_1_code 101 = .ok (.dload 7, 2) := by decide +kernel
theorem d6_108 : decode prog_21_method_1_code 108 = .ok (.invokespecial 17, 3) := by decide +kernel
theorem d6_111 : decode prog_21_method_1_code 111 = .ok (.athrow, 1) := by decide +kernel
theorem d6_112 : decode prog_21_method_1_code 112 = .ok (.aload_n 0, 1) := by decide +kernel
theorem d6_113 : decode prog_21_method_1_code 113 = .ok (.aload_n 1, 1) := by decide +kernel
theorem d6_114 : decode prog_21_method_1_code 114 = .ok (.putfield 35, 3) := by decide +kernel
theorem d6_117 : decode prog_21_method_1_code 117 = .ok (.aload_n 0, 1) := by decide +kernel
theorem d6_118 : decode prog_21_method_1_code 118 = .ok (.aload_n 2, 1) := by decide +kernel
theorem d6_119 : decode prog_21_method_1_code 119 = .ok (.putfield 41, 3) := by decide +kernel
theorem d6_122 : decode prog_21_method_1_code 122 = .ok (.aload_n 0, 1) := by decide +kernel
theorem d6_123 : decode prog_21_method_1_code 123 = .ok (.dload_n 3, 1) := by decide +kernel
theorem d6_124 : decode prog_21_method_1_code 124 = .ok (.putfield 45, 3) := by decide +kernel
theorem d6_127 : decode prog_21_method_1_code 127 = .ok (.aload_n 0, 1) := by decide +kernel
theorem d6_128 : decode prog_21_method_1_code 128 = .ok (.dload 5, 2) := by decide +kernel
theorem d6_130 : decode prog_21_method_1_code 130 = .ok (.putfield 49, 3) := by decide +kernel
theorem d6_133 : decode prog_21_method_1_code 133 = .ok (.aload_n 0, 1) := by decide +kernel
theorem d6_134 : decode prog_21_method_1_code 134 = .ok (.dload 7, 2) := by decide +kernel
theorem d6_136 : decode prog_21_method_1_code 136 = .ok (.putfield 52, 3) := by decide +kernel
theorem d6_139 : decode prog_21_method_1_code 139 = .ok (.return_, 1) := by decide +kernel
theorem pd___Z : parseMethodDescriptor "()Z" = some ⟨[], some .boolean⟩ := by decide +kernel
theorem pd__D_Z : parseMethodDescriptor "(D)Z" = some ⟨[.double], some .boolean⟩ := by decide +kernel
theorem pn_com_example_wayfront_wayfront_decision_Criterion : plainName "com/example/wayfront/wayfront/decision/Criterion" = true := by first | (simp [plainName, overriddenIn]; done) | decide +kernel
theorem ef_rmIn (m : MethodId) (ao : Addr) (as_ : Addr) (ad : Addr) (dq : UInt64) (dp : UInt64) (dv : UInt64) : entryFrame m #[(.ref ao), (.ref as_), (.ref ad), (.double dq), (.double dp), (.double dv)] 9 = mkF m 0 #[.val (.ref ao), .val (.ref as_), .val (.ref ad), .val (.double dq), .second, .val (.double dp), .second, .val (.double dv), .second] [] := by first | (simp [entryFrame, mkF, argsToLocals, Value.category]; done) | rfl
def Q_rmIn (Z : State) (ao : Addr) (as_ : Addr) (ad : Addr) (dq : UInt64) (dp : UInt64) (dv : UInt64) (at_ : Addr) (kt : ClassId) (vt : List Value) (jq : Int64) (jp : Int64) (jv : Int64) (h0 : Heap) (n0 : Nat) (v : Option Value) (h : Heap) (L : List Loc) : Prop := (v = none) ∧ (Fr n0 L) ∧ (Keep h0 h [ao]) ∧ (Exa Z h ao "com/example/wayfront/wayfront/decision/Criterion") ∧ (Fld Z h ao "com/example/wayfront/wayfront/decision/Criterion" "indifference" "D" (.double dq)) ∧ (Fld Z h ao "com/example/wayfront/wayfront/decision/Criterion" "preference" "D" (.double dp))
set_option maxRecDepth 65536 in
set_option maxHeartbeats 40000000 in
theorem rmIn (l : Launch) (Z : State) (a0 : Array Value) (hw : ∀ d ∈ tables_1, d.before a0 Z = true) (ws : List Jvm.Cond) (ao : Addr) (as_ : Addr) (ad : Addr) (dq : UInt64) (dp : UInt64) (dv : UInt64) (at_ : Addr) (kt : ClassId) (vt : List Value) (jq : Int64) (jp : Int64) (jv : Int64) (h0 : Heap) (n0 : Nat) (Z0 : n0 ≤ h0.size) (E0 : Exa Z h0 ao "com/example/wayfront/wayfront/decision/Criterion") (g0 : n0 ≤ ao) (F_name : Fld Z h0 ao "com/example/wayfront/wayfront/decision/Criterion" "name" "Ljava/lang/String;" .null) (F_direction : Fld Z h0 ao "com/example/wayfront/wayfront/decision/Criterion" "direction" "Lcom/example/wayfront/wayfront/decision/Criterion$Direction;" .null) (F_indifference : Fld Z h0 ao "com/example/wayfront/wayfront/decision/Criterion" "indifference" "D" (.double (0 : UInt64))) (F_preference : Fld Z h0 ao "com/example/wayfront/wayfront/decision/Criterion" "preference" "D" (.double (0 : UInt64))) (F_veto : Fld Z h0 ao "com/example/wayfront/wayfront/decision/Criterion" "veto" "D" (.double (0 : UInt64))) (Es : Exa Z h0 as_ "java/lang/String") (Fv : Fld Z h0 as_ "java/lang/String" "value" "[B" (.ref at_)) (Vt : Arv Z h0 at_ kt .byte (1 : Int32) vt (.int (0 : Int32))) (hq : dq = FP.l2d jq) (bq : 0 ≤ jq.toInt ∧ jq.toInt < 9007199254740992) (hp : dp = FP.l2d jp) (bp : 0 ≤ jp.toInt ∧ jp.toInt < 9007199254740992) (hv : dv = FP.l2d jv) (bv : 0 ≤ jv.toInt ∧ jv.toInt < 9007199254740992) (c1 : ¬ ((0 : Int32) < (cmpValue (FP.dcmp (0 : UInt64) dq) .g))) (c2 : ¬ ((0 : Int32) < (cmpValue (FP.dcmp dq dp) .g))) (c3 : ¬ ((0 : Int32) < (cmpValue (FP.dcmp dp dv) .g))) :
    MetFree l (⟨"com/example/wayfront/wayfront/decision/Criterion", "<init>", "(Ljava/lang/String;Lcom/example/wayfront/wayfront/decision/Criterion$Direction;DDD)V"⟩ : MethodName) (head1 (Jvm.Cond.code (⟨"com/example/wayfront/wayfront/decision/Criterion", "<init>", "(Ljava/lang/String;Lcom/example/wayfront/wayfront/decision/Criterion$Direction;DDD)V"⟩ : MethodName) prog_21_method_1_code 9 none :: ws) ({ frames := 2, cells := 0, slots := 0, locals := 26 } : Room)) (fun aA U => aA = #[(.ref ao), (.ref as_), (.ref ad), (.double dq), (.double dp), (.double dv)] ∧ Z.Warmed39 U.vm ∧ U.heap = h0) (fun _ _ _ _ _ => True) (fun _ U o U' => ∃ v L, o = .returned v ∧ Q_rmIn Z ao as_ ad dq dp dv at_ kt vt jq jp jv h0 n0 v U'.heap L ∧ FrameEnd U o U' L ({ frames := 2, cells := 0, slots := 0, locals := 26 } : Room).cells ({ frames := 2, cells := 0, slots := 0, locals := 26 } : Room).slots) := by
  refine MetFree.of_bodySF (plainFor_of_name pn_com_example_wayfront_wayfront_decision_Criterion) hisR ?_
  intro p e s m args below meth c s₁ Bd hml0 hP hK
  obtain ⟨rfl, hZ, hh⟩ := hP
  have hx := Bd.exec
  have hby := Bd.bytes
  have hml : c.maxLocals = 9 := hml0
  have hown : s.vm.findClass "com/example/wayfront/wayfront/decision/Criterion" = some m.cls := findClass_of_methodNamed Bd.named
  have hnm := (name_of_methodNamed Bd.named Bd.method).1
  have hret := Bd.returns
  have hlk : meth.locks = false := BodyLoose.notSynchronized Bd
  have X0 : Stand p l e ({ frames := 2, cells := 0, slots := 0, locals := 26 } : Room) s m #[(.ref ao), (.ref as_), (.ref ad), (.double dq), (.double dp), (.double dv)] below meth c s₁ [] 0 0 := Stand.of_body Bd
  have e0 : s₁.heap = h0 := by rw [← hh, Bd.state]; rfl
  have N0 := Fr.nil n0
  suffices hgo : Go p e below s ({ frames := 2, cells := 0, slots := 0, locals := 26 } : Room).cells ({ frames := 2, cells := 0, slots := 0, locals := 26 } : Room).slots (Q_rmIn Z ao as_ ad dq dp dv at_ kt vt jq jp jv h0 n0) s₁ (mkF m 0 #[.val (.ref ao), .val (.ref as_), .val (.ref ad), .val (.double dq), .second, .val (.double dp), .second, .val (.double dv), .second] []) from hgo.enter (ef_rmIn m ao as_ ad dq dp dv)
  refine Go.step (fun _ k => XS.aloadN X0.here hx rfl (hb hby d6_0) rfl rfl k) ?_
  show Go _ _ _ _ _ _ _ s₁ (mkF m 1 #[.val (.ref ao), .val (.ref as_), .val (.ref ad), .val (.double dq), .second, .val (.double dp), .second, .val (.double dv), .second] [(.ref ao)])
  obtain ⟨_, _, ⟨T29, L29, k29, n29⟩, -, X29, ⟨Lc29, hQ29, l29, y29, z29⟩, st29⟩ := X0.specialBack hx (y := (⟨"java/lang/Record", "<init>", "()V"⟩ : MethodName)) rfl hown (mvT hZ (hw _ (List.mem_of_getElem? (i := 36) rfl))) (mvT hZ (hw _ (List.mem_of_getElem? (i := 37) rfl))) (mvT hZ (hw _ (List.mem_of_getElem? (i := 40) rfl))) (by decide) (backOf (W := 0) (rmRe l Z a0 hw [] ao h0 n0 Z0 ) hZ (hw _ (List.mem_of_getElem? (i := 40) rfl)) (hw _ (List.mem_of_getElem? (i := 39) rfl)) (by decide) (by decide)) (g := (mkF m 1 #[.val (.ref ao), .val (.ref as_), .val (.ref ad), .val (.double dq), .second, .val (.double dp), .second, .val (.double dv), .second] [(.ref ao)])) rfl (by rw [hml]; rfl) (Steps.refl _) (a := ao) (argsL := []) (rest := []) (lenOf pd___V rfl) rfl (by show 2 * 0 + _ ≤ _; exact Nat.le_of_eq rfl) (hb hby d6_1) (fun _ _ => ⟨rfl, e0, (by decide : 0 + 0 ≤ _), (by decide : 0 + 0 ≤ _)⟩)
  dsimp only [Pt.U, Pt.locs, Pt.cells, Pt.slots] at X29 l29 y29 z29 st29 hQ29
  subst l29 y29 z29
  obtain ⟨h29, e29⟩ : ∃ h, T29.heap = h := ⟨_, rfl⟩
  rw [e29] at hQ29
  obtain ⟨rfl, Nq29, hs29⟩ := hQ29
  have N29 := Fr.app N0 Nq29
  rw [hs29] at e29
  refine Go.trans st29 ?_
  show Go _ _ _ _ _ _ _ T29 (mkF m 4 #[.val (.ref ao), .val (.ref as_), .val (.ref ad), .val (.double dq), .second, .val (.double dp), .second, .val (.double dv), .second] [])
  refine Go.step (fun _ k => XS.aloadN X29.here hx rfl (hb hby d6_4) rfl rfl k) ?_
  show Go _ _ _ _ _ _ _ T29 (mkF m 5 #[.val (.ref ao), .val (.ref as_), .val (.ref ad), .val (.double dq), .second, .val (.double dp), .second, .val (.double dv), .second] [(.ref as_)])
  obtain ⟨cq30, kq30, q30a, q30b, q30c⟩ := isOf hZ e29 Es
  obtain ⟨_, _, ⟨T30, L30, k30, n30⟩, -, X30, ⟨Lc30, hQ30, l30, y30, z30⟩, st30⟩ := X29.virtualBack hx (y := (⟨"java/lang/String", "isEmpty", "()Z"⟩ : MethodName)) (z := (⟨"java/lang/String", "isEmpty", "()Z"⟩ : MethodName)) hown (mvT hZ (hw _ (List.mem_of_getElem? (i := 42) rfl))) (mvT hZ (hw _ (List.mem_of_getElem? (i := 43) rfl))) (notFace_of_selects (args := #[]) (mvT hZ (hw _ (List.mem_of_getElem? (i := 45) rfl)))) (mvT hZ (hw _ (List.mem_of_getElem? (i := 45) rfl))) (mvT hZ (hw _ (List.mem_of_getElem? (i := 44) rfl))) (by decide) (backOf (W := 0) (rmIe l Z a0 hw [] as_ at_ kt vt h0 n0 Z0 Fv Vt) hZ (hw _ (List.mem_of_getElem? (i := 46) rfl)) (hw _ (List.mem_of_getElem? (i := 6) rfl)) (by decide) (by decide)) q30a q30c (g := (mkF m 5 #[.val (.ref ao), .val (.ref as_), .val (.ref ad), .val (.double dq), .second, .val (.double dp), .second, .val (.double dv), .second] [(.ref as_)])) rfl (by rw [hml]; rfl) (Steps.refl _) (argsL := []) (rest := []) (lenOf pd___Z rfl) rfl (by show 2 * 0 + _ ≤ _; exact Nat.le_of_eq rfl) (hb hby d6_5) (fun _ _ => ⟨rfl, e29, (by decide : 0 + 0 ≤ _), (by decide : 0 + 0 ≤ _)⟩)
  dsimp only [Pt.U, Pt.locs, Pt.cells, Pt.slots] at X30 l30 y30 z30 st30 hQ30
  subst l30 y30 z30
  obtain ⟨h30, e30⟩ : ∃ h, T30.heap = h := ⟨_, rfl⟩
  rw [e30] at hQ30
  obtain ⟨rfl, Nq30, hs30⟩ := hQ30
  have N30 := Fr.app N29 Nq30
  rw [hs30] at e30
  refine Go.trans st30 ?_
  show Go _ _ _ _ _ _ _ T30 (mkF m 8 #[.val (.ref ao), .val (.ref as_), .val (.ref ad), .val (.double dq), .second, .val (.double dp), .second, .val (.double dv), .second] [(.int (0 : Int32))])
  have hc8_31 : (0 : Int32) = (0 : Int32) := (by decide)
  refine Go.step (fun _ k => XS.ifYes X30.here hx rfl (pc0 := 8) (pc' := 21) rfl (hb hby d6_8) rfl ((if0 _ _).trans (teq hc8_31).1) (by decide) (by decide) k) ?_
  show Go _ _ _ _ _ _ _ T30 (mkF m 21 #[.val (.ref ao), .val (.ref as_), .val (.ref ad), .val (.double dq), .second, .val (.double dp), .second, .val (.double dv), .second] [])
  refine Go.step (fun _ k => XS.aloadN X30.here hx rfl (hb hby d6_21) rfl rfl k) ?_
  show Go _ _ _ _ _ _ _ T30 (mkF m 22 #[.val (.ref ao), .val (.ref as_), .val (.ref ad), .val (.double dq), .second, .val (.double dp), .second, .val (.double dv), .second] [(.ref ad)])
  refine Go.step (fun _ k => XS.ifnonnullYes X30.here hx rfl (pc0 := 22) (pc' := 35) rfl (hb hby d6_22) rfl (by decide) (by decide) k) ?_
  show Go _ _ _ _ _ _ _ T30 (mkF m 35 #[.val (.ref ao), .val (.ref as_), .val (.ref ad), .val (.double dq), .second, .val (.double dp), .second, .val (.double dv), .second] [])
  refine Go.step (fun _ k => XS.dloadN X30.here hx rfl (hb hby d6_35) rfl k) ?_
  show Go _ _ _ _ _ _ _ T30 (mkF m 36 #[.val (.ref ao), .val (.ref as_), .val (.ref ad), .val (.double dq), .second, .val (.double dp), .second, .val (.double dv), .second] [(.double dq)])
  obtain ⟨_, _, ⟨T32, L32, k32, n32⟩, -, X32, ⟨Lc32, hQ32, l32, y32, z32⟩, st32⟩ := Jvm.LawKit.callS X30 hx (y := (⟨"java/lang/Double", "isFinite", "(D)Z"⟩ : MethodName)) hown (mvT hZ (hw _ (List.mem_of_getElem? (i := 47) rfl))) (mvT hZ (hw _ (List.mem_of_getElem? (i := 48) rfl))) (mvT hZ (hw _ (List.mem_of_getElem? (i := 49) rfl))) (mvT hZ (hw _ (List.mem_of_getElem? (i := 50) rfl))) (by decide) (backOf (W := 0) (rmFi l Z a0 hw [] dq jq h0 n0 Z0 hq bq) hZ (hw _ (List.mem_of_getElem? (i := 50) rfl)) (hw _ (List.mem_of_getElem? (i := 49) rfl)) (by decide) (by decide)) (g := (mkF m 36 #[.val (.ref ao), .val (.ref as_), .val (.ref ad), .val (.double dq), .second, .val (.double dp), .second, .val (.double dv), .second] [(.double dq)])) rfl (by rw [hml]; rfl) (argsL := [(.double dq)]) (rest := []) (lenOf pd__D_Z rfl) rfl (by show 2 * 0 + _ ≤ _; exact Nat.le_of_eq rfl) (hb hby d6_36) (fun _ _ => ⟨rfl, e30, (by decide : 0 + 0 ≤ _), (by decide : 0 + 0 ≤ _)⟩)
  dsimp only [Pt.U, Pt.locs, Pt.cells, Pt.slots] at X32 l32 y32 z32 st32 hQ32
  subst l32 y32 z32
  obtain ⟨h32, e32⟩ : ∃ h, T32.heap = h := ⟨_, rfl⟩
  rw [e32] at hQ32
  obtain ⟨rfl, Nq32, hs32⟩ := hQ32
  have N32 := Fr.app N30 Nq32
  rw [hs32] at e32
  refine Go.step st32 ?_
  show Go _ _ _ _ _ _ _ T32 (mkF m 39 #[.val (.ref ao), .val (.ref as_), .val (.ref ad), .val (.double dq), .second, .val (.double dp), .second, .val (.double dv), .second] [(.int (1 : Int32))])
  have hc39_33 : ¬ ((1 : Int32) = (0 : Int32)) := (by decide)
  refine Go.step (fun _ k => XS.ifNo X32.here hx rfl (hb hby d6_39) rfl ((if0 _ _).trans (feq hc39_33).1) k) ?_
  show Go _ _ _ _ _ _ _ T32 (mkF m 42 #[.val (.ref ao), .val (.ref as_), .val (.ref ad), .val (.double dq), .second, .val (.double dp), .second, .val (.double dv), .second] [])
  refine Go.step (fun _ k => XS.dload X32.here hx rfl (hb hby d6_42) rfl k) ?_
  show Go _ _ _ _ _ _ _ T32 (mkF m 44 #[.val (.ref ao), .val (.ref as_), .val (.ref ad), .val (.double dq), .second, .val (.double dp), .second, .val (.double dv), .second] [(.double dp)])
  obtain ⟨_, _, ⟨T34, L34, k34, n34⟩, -, X34, ⟨Lc34, hQ34, l34, y34, z34⟩, st34⟩ := Jvm.LawKit.callS X32 hx (y := (⟨"java/lang/Double", "isFinite", "(D)Z"⟩ : MethodName)) hown (mvT hZ (hw _ (List.mem_of_getElem? (i := 47) rfl))) (mvT hZ (hw _ (List.mem_of_getElem? (i := 48) rfl))) (mvT hZ (hw _ (List.mem_of_getElem? (i := 49) rfl))) (mvT hZ (hw _ (List.mem_of_getElem? (i := 50) rfl))) (by decide) (backOf (W := 0) (rmFi l Z a0 hw [] dp jp h0 n0 Z0 hp bp) hZ (hw _ (List.mem_of_getElem? (i := 50) rfl)) (hw _ (List.mem_of_getElem? (i := 49) rfl)) (by decide) (by decide)) (g := (mkF m 44 #[.val (.ref ao), .val (.ref as_), .val (.ref ad), .val (.double dq), .second, .val (.double dp), .second, .val (.double dv), .second] [(.double dp)])) rfl (by rw [hml]; rfl) (argsL := [(.double dp)]) (rest := []) (lenOf pd__D_Z rfl) rfl (by show 2 * 0 + _ ≤ _; exact Nat.le_of_eq rfl) (hb hby d6_44) (fun _ _ => ⟨rfl, e32, (by decide : 0 + 0 ≤ _), (by decide : 0 + 0 ≤ _)⟩)
  dsimp only [Pt.U, Pt.locs, Pt.cells, Pt.slots] at X34 l34 y34 z34 st34 hQ34
  subst l34 y34 z34
  obtain ⟨h34, e34⟩ : ∃ h, T34.heap = h := ⟨_, rfl⟩
  rw [e34] at hQ34
  obtain ⟨rfl, Nq34, hs34⟩ := hQ34
  have N34 := Fr.app N32 Nq34
  rw [hs34] at e34
  refine Go.step st34 ?_
  show Go _ _ _ _ _ _ _ T34 (mkF m 47 #[.val (.ref ao), .val (.ref as_), .val (.ref ad), .val (.double dq), .second, .val (.double dp), .second, .val (.double dv), .second] [(.int (1 : Int32))])
  have hc47_35 : ¬ ((1 : Int32) = (0 : Int32)) := (by decide)
  refine Go.step (fun _ k => XS.ifNo X34.here hx rfl (hb hby d6_47) rfl ((if0 _ _).trans (feq hc47_35).1) k) ?_
  show Go _ _ _ _ _ _ _ T34 (mkF m 50 #[.val (.ref ao), .val (.ref as_), .val (.ref ad), .val (.double dq), .second, .val (.double dp), .second, .val (.double dv), .second] [])
  refine Go.step (fun _ k => XS.dload X34.here hx rfl (hb hby d6_50) rfl k) ?_
  show Go _ _ _ _ _ _ _ T34 (mkF m 52 #[.val (.ref ao), .val (.ref as_), .val (.ref ad), .val (.double dq), .second, .val (.double dp), .second, .val (.double dv), .second] [(.double dv)])
  obtain ⟨_, _, ⟨T36, L36, k36, n36⟩, -, X36, ⟨Lc36, hQ36, l36, y36, z36⟩, st36⟩ := Jvm.LawKit.callS X34 hx (y := (⟨"java/lang/Double", "isFinite", "(D)Z"⟩ : MethodName)) hown (mvT hZ (hw _ (List.mem_of_getElem? (i := 47) rfl))) (mvT hZ (hw _ (List.mem_of_getElem? (i := 48) rfl))) (mvT hZ (hw _ (List.mem_of_getElem? (i := 49) rfl))) (mvT hZ (hw _ (List.mem_of_getElem? (i := 50) rfl))) (by decide) (backOf (W := 0) (rmFi l Z a0 hw [] dv jv h0 n0 Z0 hv bv) hZ (hw _ (List.mem_of_getElem? (i := 50) rfl)) (hw _ (List.mem_of_getElem? (i := 49) rfl)) (by decide) (by decide)) (g := (mkF m 52 #[.val (.ref ao), .val (.ref as_), .val (.ref ad), .val (.double dq), .second, .val (.double dp), .second, .val (.double dv), .second] [(.double dv)])) rfl (by rw [hml]; rfl) (argsL := [(.double dv)]) (rest := []) (lenOf pd__D_Z rfl) rfl (by show 2 * 0 + _ ≤ _; exact Nat.le_of_eq rfl) (hb hby d6_52) (fun _ _ => ⟨rfl, e34, (by decide : 0 + 0 ≤ _), (by decide : 0 + 0 ≤ _)⟩)
  dsimp only [Pt.U, Pt.locs, Pt.cells, Pt.slots] at X36 l36 y36 z36 st36 hQ36
  subst l36 y36 z36
  obtain ⟨h36, e36⟩ : ∃ h, T36.heap = h := ⟨_, rfl⟩
  rw [e36] at hQ36
  obtain ⟨rfl, Nq36, hs36⟩ := hQ36
  have N36 := Fr.app N34 Nq36
  rw [hs36] at e36
  refine Go.step st36 ?_
  show Go _ _ _ _ _ _ _ T36 (mkF m 55 #[.val (.ref ao), .val (.ref as_), .val (.ref ad), .val (.double dq), .second, .val (.double dp), .second, .val (.double dv), .second] [(.int (1 : Int32))])
  have hc55_37 : ¬ ((1 : Int32) = (0 : Int32)) := (by decide)
  refine Go.step (fun _ k => XS.ifYes X36.here hx rfl (pc0 := 55) (pc' := 72) rfl (hb hby d6_55) rfl ((if0 _ _).trans (feq hc55_37).2) (by decide) (by decide) k) ?_
  show Go _ _ _ _ _ _ _ T36 (mkF m 72 #[.val (.ref ao), .val (.ref as_), .val (.ref ad), .val (.double dq), .second, .val (.double dp), .second, .val (.double dv), .second] [])
  refine Go.step (fun _ k => XS.dconst0 X36.here hx rfl (v := (0 : UInt64)) (hb hby d6_72) (by decide +kernel) k) ?_
  show Go _ _ _ _ _ _ _ T36 (mkF m 73 #[.val (.ref ao), .val (.ref as_), .val (.ref ad), .val (.double dq), .second, .val (.double dp), .second, .val (.double dv), .second] [(.double (0 : UInt64))])
  refine Go.step (fun _ k => XS.dloadN X36.here hx rfl (hb hby d6_73) rfl k) ?_
  show Go _ _ _ _ _ _ _ T36 (mkF m 74 #[.val (.ref ao), .val (.ref as_), .val (.ref ad), .val (.double dq), .second, .val (.double dp), .second, .val (.double dv), .second] [(.double dq), (.double (0 : UInt64))])
  refine Go.step (fun _ k => XS.dcmpS X36.here hx rfl (hb hby d6_74) rfl rfl k) ?_
  show Go _ _ _ _ _ _ _ T36 (mkF m 75 #[.val (.ref ao), .val (.ref as_), .val (.ref ad), .val (.double dq), .second, .val (.double dp), .second, .val (.double dv), .second] [(.int (cmpValue (FP.dcmp (0 : UInt64) dq) .g))])
  have hc75_38 : ¬ ((0 : Int32) < (cmpValue (FP.dcmp (0 : UInt64) dq) .g)) := c1
  refine Go.step (fun _ k => XS.ifNo X36.here hx rfl (hb hby d6_75) rfl ((if0 _ _).trans (flt hc75_38).2.2.1) k) ?_
  show Go _ _ _ _ _ _ _ T36 (mkF m 78 #[.val (.ref ao), .val (.ref as_), .val (.ref ad), .val (.double dq), .second, .val (.double dp), .second, .val (.double dv), .second] [])
  refine Go.step (fun _ k => XS.dloadN X36.here hx rfl (hb hby d6_78) rfl k) ?_
  show Go _ _ _ _ _ _ _ T36 (mkF m 79 #[.val (.ref ao), .val (.ref as_), .val (.ref ad), .val (.double dq), .second, .val (.double dp), .second, .val (.double dv), .second] [(.double dq)])
  refine Go.step (fun _ k => XS.dload X36.here hx rfl (hb hby d6_79) rfl k) ?_
  show Go _ _ _ _ _ _ _ T36 (mkF m 81 #[.val (.ref ao), .val (.ref as_), .val (.ref ad), .val (.double dq), .second, .val (.double dp), .second, .val (.double dv), .second] [(.double dp), (.double dq)])
  refine Go.step (fun _ k => XS.dcmpS X36.here hx rfl (hb hby d6_81) rfl rfl k) ?_
  show Go _ _ _ _ _ _ _ T36 (mkF m 82 #[.val (.ref ao), .val (.ref as_), .val (.ref ad), .val (.double dq), .second, .val (.double dp), .second, .val (.double dv), .second] [(.int (cmpValue (FP.dcmp dq dp) .g))])
  have hc82_39 : ¬ ((0 : Int32) < (cmpValue (FP.dcmp dq dp) .g)) := c2
  refine Go.step (fun _ k => XS.ifNo X36.here hx rfl (hb hby d6_82) rfl ((if0 _ _).trans (flt hc82_39).2.2.1) k) ?_
  show Go _ _ _ _ _ _ _ T36 (mkF m 85 #[.val (.ref ao), .val (.ref as_), .val (.ref ad), .val (.double dq), .second, .val (.double dp), .second, .val (.double dv), .second] [])
  refine Go.step (fun _ k => XS.dload X36.here hx rfl (hb hby d6_85) rfl k) ?_
  show Go _ _ _ _ _ _ _ T36 (mkF m 87 #[.val (.ref ao), .val (.ref as_), .val (.ref ad), .val (.double dq), .second, .val (.double dp), .second, .val (.double dv), .second] [(.double dp)])
  refine Go.step (fun _ k => XS.dload X36.here hx rfl (hb hby d6_87) rfl k) ?_
  show Go _ _ _ _ _ _ _ T36 (mkF m 89 #[.val (.ref ao), .val (.ref as_), .val (.ref ad), .val (.double dq), .second, .val (.double dp), .second, .val (.double dv), .second] [(.double dv), (.double dp)])
  refine Go.step (fun _ k => XS.dcmpS X36.here hx rfl (hb hby d6_89) rfl rfl k) ?_
  show Go _ _ _ _ _ _ _ T36 (mkF m 90 #[.val (.ref ao), .val (.ref as_), .val (.ref ad), .val (.double dq), .second, .val (.double dp), .second, .val (.double dv), .second] [(.int (cmpValue (FP.dcmp dp dv) .g))])
  have hc90_40 : ¬ ((0 : Int32) < (cmpValue (FP.dcmp dp dv) .g)) := c3
  refine Go.step (fun _ k => XS.ifYes X36.here hx rfl (pc0 := 90) (pc' := 112) rfl (hb hby d6_90) rfl ((if0 _ _).trans (flt hc90_40).2.2.2) (by decide) (by decide) k) ?_
  show Go _ _ _ _ _ _ _ T36 (mkF m 112 #[.val (.ref ao), .val (.ref as_), .val (.ref ad), .val (.double dq), .second, .val (.double dp), .second, .val (.double dv), .second] [])
  refine Go.step (fun _ k => XS.aloadN X36.here hx rfl (hb hby d6_112) rfl rfl k) ?_
  show Go _ _ _ _ _ _ _ T36 (mkF m 113 #[.val (.ref ao), .val (.ref as_), .val (.ref ad), .val (.double dq), .second, .val (.double dp), .second, .val (.double dv), .second] [(.ref ao)])
  refine Go.step (fun _ k => XS.aloadN X36.here hx rfl (hb hby d6_113) rfl rfl k) ?_
  show Go _ _ _ _ _ _ _ T36 (mkF m 114 #[.val (.ref ao), .val (.ref as_), .val (.ref ad), .val (.double dq), .second, .val (.double dp), .second, .val (.double dv), .second] [(.ref as_), (.ref ao)])
  obtain ⟨T41, h41, X41, e41, W41, st41⟩ := putF X36 hx hZ hown (host := "") (Or.inl (hw _ (List.mem_of_getElem? (i := 56) rfl))) Via.refl e36 F_name E0 (Or.inr ⟨(hw _ (List.mem_of_getElem? (i := 57) rfl)), rfl, hnm⟩) (hw _ (List.mem_of_getElem? (i := 31) rfl)) (ty := (.object "java/lang/String")) (by decide) rfl rfl (g := (mkF m 114 #[.val (.ref ao), .val (.ref as_), .val (.ref ad), .val (.double dq), .second, .val (.double dp), .second, .val (.double dv), .second] [(.ref as_), (.ref ao)])) rfl rfl (hb hby d6_114)
  refine Go.step st41 ?_
  have Fw41 := F_name.same W41
  have N41 := Fr.snoc X41 N36 g0
  have Z41 : n0 ≤ h41.size := Nat.le_trans Z0 (Keep.of_wr W41).1
  have KK41 : Keep h0 h41 [ao] := (Keep.refl h0 [ao]).wr W41 (Or.inl (List.mem_of_getElem? (i := 0) rfl))
  show Go _ _ _ _ _ _ _ T41 (mkF m 117 #[.val (.ref ao), .val (.ref as_), .val (.ref ad), .val (.double dq), .second, .val (.double dp), .second, .val (.double dv), .second] [])
  refine Go.step (fun _ k => XS.aloadN X41.here hx rfl (hb hby d6_117) rfl rfl k) ?_
  show Go _ _ _ _ _ _ _ T41 (mkF m 118 #[.val (.ref ao), .val (.ref as_), .val (.ref ad), .val (.double dq), .second, .val (.double dp), .second, .val (.double dv), .second] [(.ref ao)])
  refine Go.step (fun _ k => XS.aloadN X41.here hx rfl (hb hby d6_118) rfl rfl k) ?_
  show Go _ _ _ _ _ _ _ T41 (mkF m 119 #[.val (.ref ao), .val (.ref as_), .val (.ref ad), .val (.double dq), .second, .val (.double dp), .second, .val (.double dv), .second] [(.ref ad), (.ref ao)])
  have f42 : Fld Z h41 ao "com/example/wayfront/wayfront/decision/Criterion" "direction" "Lcom/example/wayfront/wayfront/decision/Criterion$Direction;" .null := (F_direction.other W41 (Or.inr (slot_ne (a0 := a0) (C := "com/example/wayfront/wayfront/decision/Criterion") (Or.inr (hw _ (List.mem_of_getElem? (i := 59) rfl))) (Or.inr (hw _ (List.mem_of_getElem? (i := 57) rfl))) (by decide) (t := (.object "com/example/wayfront/wayfront/decision/Criterion$Direction")) (t' := (.object "java/lang/String")) (by decide) (by decide))))
  have f43 : Exa Z h41 ao "com/example/wayfront/wayfront/decision/Criterion" := (E0.wr W41)
  obtain ⟨T44, h44, X44, e44, W44, st44⟩ := putF X41 hx hZ hown (host := "") (Or.inl (hw _ (List.mem_of_getElem? (i := 58) rfl))) Via.refl e41 f42 f43 (Or.inr ⟨(hw _ (List.mem_of_getElem? (i := 59) rfl)), rfl, hnm⟩) (hw _ (List.mem_of_getElem? (i := 31) rfl)) (ty := (.object "com/example/wayfront/wayfront/decision/Criterion$Direction")) (by decide) rfl rfl (g := (mkF m 119 #[.val (.ref ao), .val (.ref as_), .val (.ref ad), .val (.double dq), .second, .val (.double dp), .second, .val (.double dv), .second] [(.ref ad), (.ref ao)])) rfl rfl (hb hby d6_119)
  refine Go.step st44 ?_
  have Fw44 := f42.same W44
  have N44 := Fr.snoc X44 N41 g0
  have Z44 : n0 ≤ h44.size := Nat.le_trans Z41 (Keep.of_wr W44).1
  have KK44 : Keep h0 h44 [ao] := KK41.wr W44 (Or.inl (List.mem_of_getElem? (i := 0) rfl))
  show Go _ _ _ _ _ _ _ T44 (mkF m 122 #[.val (.ref ao), .val (.ref as_), .val (.ref ad), .val (.double dq), .second, .val (.double dp), .second, .val (.double dv), .second] [])
  refine Go.step (fun _ k => XS.aloadN X44.here hx rfl (hb hby d6_122) rfl rfl k) ?_
  show Go _ _ _ _ _ _ _ T44 (mkF m 123 #[.val (.ref ao), .val (.ref as_), .val (.ref ad), .val (.double dq), .second, .val (.double dp), .second, .val (.double dv), .second] [(.ref ao)])
  refine Go.step (fun _ k => XS.dloadN X44.here hx rfl (hb hby d6_123) rfl k) ?_
  show Go _ _ _ _ _ _ _ T44 (mkF m 124 #[.val (.ref ao), .val (.ref as_), .val (.ref ad), .val (.double dq), .second, .val (.double dp), .second, .val (.double dv), .second] [(.double dq), (.ref ao)])
  have f45 : Fld Z h44 ao "com/example/wayfront/wayfront/decision/Criterion" "indifference" "D" (.double (0 : UInt64)) := ((F_indifference.other W41 (Or.inr (slot_ne (a0 := a0) (C := "com/example/wayfront/wayfront/decision/Criterion") (Or.inr (hw _ (List.mem_of_getElem? (i := 61) rfl))) (Or.inr (hw _ (List.mem_of_getElem? (i := 57) rfl))) (by decide) (t := .double) (t' := (.object "java/lang/String")) (by decide) (by decide)))).other W44 (Or.inr (slot_ne (a0 := a0) (C := "com/example/wayfront/wayfront/decision/Criterion") (Or.inr (hw _ (List.mem_of_getElem? (i := 61) rfl))) (Or.inr (hw _ (List.mem_of_getElem? (i := 59) rfl))) (by decide) (t := .double) (t' := (.object "com/example/wayfront/wayfront/decision/Criterion$Direction")) (by decide) (by decide))))
  have f46 : Exa Z h44 ao "com/example/wayfront/wayfront/decision/Criterion" := (f43.wr W44)
  obtain ⟨T47, h47, X47, e47, W47, st47⟩ := putF X44 hx hZ hown (host := "") (Or.inl (hw _ (List.mem_of_getElem? (i := 60) rfl))) Via.refl e44 f45 f46 (Or.inr ⟨(hw _ (List.mem_of_getElem? (i := 61) rfl)), rfl, hnm⟩) (hw _ (List.mem_of_getElem? (i := 31) rfl)) (ty := .double) (by decide) rfl rfl (g := (mkF m 124 #[.val (.ref ao), .val (.ref as_), .val (.ref ad), .val (.double dq), .second, .val (.double dp), .second, .val (.double dv), .second] [(.double dq), (.ref ao)])) rfl rfl (hb hby d6_124)
  refine Go.step st47 ?_
  have Fw47 := f45.same W47
  have N47 := Fr.snoc X47 N44 g0
  have Z47 : n0 ≤ h47.size := Nat.le_trans Z44 (Keep.of_wr W47).1
  have KK47 : Keep h0 h47 [ao] := KK44.wr W47 (Or.inl (List.mem_of_getElem? (i := 0) rfl))
  show Go _ _ _ _ _ _ _ T47 (mkF m 127 #[.val (.ref ao), .val (.ref as_), .val (.ref ad), .val (.double dq), .second, .val (.double dp), .second, .val (.double dv), .second] [])
  refine Go.step (fun _ k => XS.aloadN X47.here hx rfl (hb hby d6_127) rfl rfl k) ?_
  show Go _ _ _ _ _ _ _ T47 (mkF m 128 #[.val (.ref ao), .val (.ref as_), .val (.ref ad), .val (.double dq), .second, .val (.double dp), .second, .val (.double dv), .second] [(.ref ao)])
  refine Go.step (fun _ k => XS.dload X47.here hx rfl (hb hby d6_128) rfl k) ?_
  show Go _ _ _ _ _ _ _ T47 (mkF m 130 #[.val (.ref ao), .val (.ref as_), .val (.ref ad), .val (.double dq), .second, .val (.double dp), .second, .val (.double dv), .second] [(.double dp), (.ref ao)])
  have f48 : Fld Z h47 ao "com/example/wayfront/wayfront/decision/Criterion" "preference" "D" (.double (0 : UInt64)) := (((F_preference.other W41 (Or.inr (slot_ne (a0 := a0) (C := "com/example/wayfront/wayfront/decision/Criterion") (Or.inr (hw _ (List.mem_of_getElem? (i := 63) rfl))) (Or.inr (hw _ (List.mem_of_getElem? (i := 57) rfl))) (by decide) (t := .double) (t' := (.object "java/lang/String")) (by decide) (by decide)))).other W44 (Or.inr (slot_ne (a0 := a0) (C := "com/example/wayfront/wayfront/decision/Criterion") (Or.inr (hw _ (List.mem_of_getElem? (i := 63) rfl))) (Or.inr (hw _ (List.mem_of_getElem? (i := 59) rfl))) (by decide) (t := .double) (t' := (.object "com/example/wayfront/wayfront/decision/Criterion$Direction")) (by decide) (by decide)))).other W47 (Or.inr (slot_ne (a0 := a0) (C := "com/example/wayfront/wayfront/decision/Criterion") (Or.inr (hw _ (List.mem_of_getElem? (i := 63) rfl))) (Or.inr (hw _ (List.mem_of_getElem? (i := 61) rfl))) (by decide) (t := .double) (t' := .double) (by decide) (by decide))))
  have f49 : Exa Z h47 ao "com/example/wayfront/wayfront/decision/Criterion" := (f46.wr W47)
  obtain ⟨T50, h50, X50, e50, W50, st50⟩ := putF X47 hx hZ hown (host := "") (Or.inl (hw _ (List.mem_of_getElem? (i := 62) rfl))) Via.refl e47 f48 f49 (Or.inr ⟨(hw _ (List.mem_of_getElem? (i := 63) rfl)), rfl, hnm⟩) (hw _ (List.mem_of_getElem? (i := 31) rfl)) (ty := .double) (by decide) rfl rfl (g := (mkF m 130 #[.val (.ref ao), .val (.ref as_), .val (.ref ad), .val (.double dq), .second, .val (.double dp), .second, .val (.double dv), .second] [(.double dp), (.ref ao)])) rfl rfl (hb hby d6_130)
  refine Go.step st50 ?_
  have Fw50 := f48.same W50
  have N50 := Fr.snoc X50 N47 g0
  have Z50 : n0 ≤ h50.size := Nat.le_trans Z47 (Keep.of_wr W50).1
  have KK50 : Keep h0 h50 [ao] := KK47.wr W50 (Or.inl (List.mem_of_getElem? (i := 0) rfl))
  show Go _ _ _ _ _ _ _ T50 (mkF m 133 #[.val (.ref ao), .val (.ref as_), .val (.ref ad), .val (.double dq), .second, .val (.double dp), .second, .val (.double dv), .second] [])
  refine Go.step (fun _ k => XS.aloadN X50.here hx rfl (hb hby d6_133) rfl rfl k) ?_
  show Go _ _ _ _ _ _ _ T50 (mkF m 134 #[.val (.ref ao), .val (.ref as_), .val (.ref ad), .val (.double dq), .second, .val (.double dp), .second, .val (.double dv), .second] [(.ref ao)])
  refine Go.step (fun _ k => XS.dload X50.here hx rfl (hb hby d6_134) rfl k) ?_
  show Go _ _ _ _ _ _ _ T50 (mkF m 136 #[.val (.ref ao), .val (.ref as_), .val (.ref ad), .val (.double dq), .second, .val (.double dp), .second, .val (.double dv), .second] [(.double dv), (.ref ao)])
  have f51 : Fld Z h50 ao "com/example/wayfront/wayfront/decision/Criterion" "veto" "D" (.double (0 : UInt64)) := ((((F_veto.other W41 (Or.inr (slot_ne (a0 := a0) (C := "com/example/wayfront/wayfront/decision/Criterion") (Or.inr (hw _ (List.mem_of_getElem? (i := 65) rfl))) (Or.inr (hw _ (List.mem_of_getElem? (i := 57) rfl))) (by decide) (t := .double) (t' := (.object "java/lang/String")) (by decide) (by decide)))).other W44 (Or.inr (slot_ne (a0 := a0) (C := "com/example/wayfront/wayfront/decision/Criterion") (Or.inr (hw _ (List.mem_of_getElem? (i := 65) rfl))) (Or.inr (hw _ (List.mem_of_getElem? (i := 59) rfl))) (by decide) (t := .double) (t' := (.object "com/example/wayfront/wayfront/decision/Criterion$Direction")) (by decide) (by decide)))).other W47 (Or.inr (slot_ne (a0 := a0) (C := "com/example/wayfront/wayfront/decision/Criterion") (Or.inr (hw _ (List.mem_of_getElem? (i := 65) rfl))) (Or.inr (hw _ (List.mem_of_getElem? (i := 61) rfl))) (by decide) (t := .double) (t' := .double) (by decide) (by decide)))).other W50 (Or.inr (slot_ne (a0 := a0) (C := "com/example/wayfront/wayfront/decision/Criterion") (Or.inr (hw _ (List.mem_of_getElem? (i := 65) rfl))) (Or.inr (hw _ (List.mem_of_getElem? (i := 63) rfl))) (by decide) (t := .double) (t' := .double) (by decide) (by decide))))
  have f52 : Exa Z h50 ao "com/example/wayfront/wayfront/decision/Criterion" := (f49.wr W50)
  obtain ⟨T53, h53, X53, e53, W53, st53⟩ := putF X50 hx hZ hown (host := "") (Or.inl (hw _ (List.mem_of_getElem? (i := 64) rfl))) Via.refl e50 f51 f52 (Or.inr ⟨(hw _ (List.mem_of_getElem? (i := 65) rfl)), rfl, hnm⟩) (hw _ (List.mem_of_getElem? (i := 31) rfl)) (ty := .double) (by decide) rfl rfl (g := (mkF m 136 #[.val (.ref ao), .val (.ref as_), .val (.ref ad), .val (.double dq), .second, .val (.double dp), .second, .val (.double dv), .second] [(.double dv), (.ref ao)])) rfl rfl (hb hby d6_136)
  refine Go.step st53 ?_
  have Fw53 := f51.same W53
  have N53 := Fr.snoc X53 N50 g0
  have Z53 : n0 ≤ h53.size := Nat.le_trans Z50 (Keep.of_wr W53).1
  have KK53 : Keep h0 h53 [ao] := KK50.wr W53 (Or.inl (List.mem_of_getElem? (i := 0) rfl))
  show Go _ _ _ _ _ _ _ T53 (mkF m 139 #[.val (.ref ao), .val (.ref as_), .val (.ref ad), .val (.double dq), .second, .val (.double dp), .second, .val (.double dv), .second] [])
  have f54 : Exa Z h53 ao "com/example/wayfront/wayfront/decision/Criterion" := (f52.wr W53)
  have f55 : Fld Z h53 ao "com/example/wayfront/wayfront/decision/Criterion" "indifference" "D" (.double dq) := ((Fw47.other W50 (Or.inr (slot_ne (a0 := a0) (C := "com/example/wayfront/wayfront/decision/Criterion") (Or.inr (hw _ (List.mem_of_getElem? (i := 61) rfl))) (Or.inr (hw _ (List.mem_of_getElem? (i := 63) rfl))) (by decide) (t := .double) (t' := .double) (by decide) (by decide)))).other W53 (Or.inr (slot_ne (a0 := a0) (C := "com/example/wayfront/wayfront/decision/Criterion") (Or.inr (hw _ (List.mem_of_getElem? (i := 61) rfl))) (Or.inr (hw _ (List.mem_of_getElem? (i := 65) rfl))) (by decide) (t := .double) (t' := .double) (by decide) (by decide))))
  have f56 : Fld Z h53 ao "com/example/wayfront/wayfront/decision/Criterion" "preference" "D" (.double dp) := (Fw50.other W53 (Or.inr (slot_ne (a0 := a0) (C := "com/example/wayfront/wayfront/decision/Criterion") (Or.inr (hw _ (List.mem_of_getElem? (i := 63) rfl))) (Or.inr (hw _ (List.mem_of_getElem? (i := 65) rfl))) (by decide) (t := .double) (t' := .double) (by decide) (by decide))))
  exact Go.ret0 X53 hx hret hlk (hb hby d6_139) e53 (by decide) (by decide) ⟨rfl, N53, KK53, f54, f55, f56⟩
theorem d11_0 : decode prog_21_method_3_code 0 = .ok (.dload_n 1, 1) := by decide +kernel
theorem d11_1 : decode prog_21_method_3_code 1 = .ok (.aload_n 0, 1) := by decide +kernel
theorem d11_2 : decode prog_21_method_3_code 2 = .ok (.getfield 45, 3) := by decide +kernel
theorem d11_5 : decode prog_21_method_3_code 5 = .ok (.dcmp .g, 1) := by decide +kernel
theorem d11_6 : decode prog_21_method_3_code 6 = .ok (.ifCond .gt 5, 3) := by decide +kernel
theorem d11_9 : decode prog_21_method_3_code 9 = .ok (.dconst 1, 1) := by decide +kernel
theorem d11_10 : decode prog_21_method_3_code 10 = .ok (.dreturn, 1) := by decide +kernel
theorem d11_11 : decode prog_21_method_3_code 11 = .ok (.dload_n 1, 1) := by decide +kernel
theorem d11_12 : decode prog_21_method_3_code 12 = .ok (.aload_n 0, 1) := by decide +kernel
theorem d11_13 : decode prog_21_method_3_code 13 = .ok (.getfield 49, 3) := by decide +kernel
theorem d11_16 : decode prog_21_method_3_code 16 = .ok (.dcmp .l, 1) := by decide +kernel
theorem d11_17 : decode prog_21_method_3_code 17 = .ok (.ifCond .le 5, 3) := by decide +kernel
theorem d11_20 : decode prog_21_method_3_code 20 = .ok (.dconst 0, 1) := by decide +kernel
theorem d11_21 : decode prog_21_method_3_code 21 = .ok (.dreturn, 1) := by decide +kernel
theorem d11_22 : decode prog_21_method_3_code 22 = .ok (.aload_n 0, 1) := by decide +kernel
theorem d11_23 : decode prog_21_method_3_code 23 = .ok (.getfield 49, 3) := by decide +kernel
theorem d11_26 : decode prog_21_method_3_code 26 = .ok (.dload_n 1, 1) := by decide +kernel
theorem d11_27 : decode prog_21_method_3_code 27 = .ok (.dsub, 1) := by decide +kernel
theorem d11_28 : decode prog_21_method_3_code 28 = .ok (.aload_n 0, 1) := by decide +kernel
theorem d11_29 : decode prog_21_method_3_code 29 = .ok (.getfield 49, 3) := by decide +kernel
theorem d11_32 : decode prog_21_method_3_code 32 = .ok (.aload_n 0, 1) := by decide +kernel
theorem d11_33 : decode prog_21_method_3_code 33 = .ok (.getfield 45, 3) := by decide +kernel
theorem d11_36 : decode prog_21_method_3_code 36 = .ok (.dsub, 1) := by decide +kernel
theorem d11_37 : decode prog_21_method_3_code 37 = .ok (.ddiv, 1) := by decide +kernel
theorem d11_38 : decode prog_21_method_3_code 38 = .ok (.dreturn, 1) := by decide +kernel
theorem ef_rmCa (m : MethodId) (ao : Addr) (da : UInt64) : entryFrame m #[(.ref ao), (.double da)] 3 = mkF m 0 #[.val (.ref ao), .val (.double da), .second] [] := by first | (simp [entryFrame, mkF, argsToLocals, Value.category]; done) | rfl
def Q_rmCa (Z : State) (ao : Addr) (da : UInt64) (pv : UInt64) (iv : UInt64) (h0 : Heap) (n0 : Nat) (v : Option Value) (h : Heap) (L : List Loc) : Prop := (v = some (.double (4607182418800017408 : UInt64))) ∧ (Fr n0 L) ∧ (h = h0)
set_option maxRecDepth 65536 in
set_option maxHeartbeats 40000000 in
theorem rmCa (l : Launch) (Z : State) (a0 : Array Value) (hw : ∀ d ∈ tables_1, d.before a0 Z = true) (ws : List Jvm.Cond) (ao : Addr) (da : UInt64) (pv : UInt64) (iv : UInt64) (h0 : Heap) (n0 : Nat) (Z0 : n0 ≤ h0.size) (Gi : Fld Z h0 ao "com/example/wayfront/wayfront/decision/Criterion" "indifference" "D" (.double iv)) (Gp : Fld Z h0 ao "com/example/wayfront/wayfront/decision/Criterion" "preference" "D" (.double pv)) (h1 : ¬ ((0 : Int32) < (cmpValue (FP.dcmp da iv) .g))) :
    MetFree l (⟨"com/example/wayfront/wayfront/decision/Criterion", "concordance", "(D)D"⟩ : MethodName) (head1 (Jvm.Cond.code (⟨"com/example/wayfront/wayfront/decision/Criterion", "concordance", "(D)D"⟩ : MethodName) prog_21_method_3_code 3 (some .double) :: ws) ({ frames := 0, cells := 0, slots := 0, locals := 0 } : Room)) (fun aA U => aA = #[(.ref ao), (.double da)] ∧ Z.Warmed39 U.vm ∧ U.heap = h0) (fun _ _ _ _ _ => True) (fun _ U o U' => ∃ v L, o = .returned v ∧ Q_rmCa Z ao da pv iv h0 n0 v U'.heap L ∧ FrameEnd U o U' L ({ frames := 0, cells := 0, slots := 0, locals := 0 } : Room).cells ({ frames := 0, cells := 0, slots := 0, locals := 0 } : Room).slots) := by
  refine MetFree.of_bodySF (plainFor_of_name pn_com_example_wayfront_wayfront_decision_Criterion) hisR ?_
  intro p e s m args below meth c s₁ Bd hml0 hP hK
  obtain ⟨rfl, hZ, hh⟩ := hP
  have hx := Bd.exec
  have hby := Bd.bytes
  have hml : c.maxLocals = 3 := hml0
  have hown : s.vm.findClass "com/example/wayfront/wayfront/decision/Criterion" = some m.cls := findClass_of_methodNamed Bd.named
  have hnm := (name_of_methodNamed Bd.named Bd.method).1
  have hret := Bd.returns
  have hlk : meth.locks = false := BodyLoose.notSynchronized Bd
  have X0 : Stand p l e ({ frames := 0, cells := 0, slots := 0, locals := 0 } : Room) s m #[(.ref ao), (.double da)] below meth c s₁ [] 0 0 := Stand.of_body Bd
  have e0 : s₁.heap = h0 := by rw [← hh, Bd.state]; rfl
  have N0 := Fr.nil n0
  suffices hgo : Go p e below s ({ frames := 0, cells := 0, slots := 0, locals := 0 } : Room).cells ({ frames := 0, cells := 0, slots := 0, locals := 0 } : Room).slots (Q_rmCa Z ao da pv iv h0 n0) s₁ (mkF m 0 #[.val (.ref ao), .val (.double da), .second] []) from hgo.enter (ef_rmCa m ao da)
  refine Go.step (fun _ k => XS.dloadN X0.here hx rfl (hb hby d11_0) rfl k) ?_
  show Go _ _ _ _ _ _ _ s₁ (mkF m 1 #[.val (.ref ao), .val (.double da), .second] [(.double da)])
  refine Go.step (fun _ k => XS.aloadN X0.here hx rfl (hb hby d11_1) rfl rfl k) ?_
  show Go _ _ _ _ _ _ _ s₁ (mkF m 2 #[.val (.ref ao), .val (.double da), .second] [(.ref ao), (.double da)])
  obtain ⟨T57, X57, e57, st57⟩ := getF X0 hx hZ hown (host := "") (Or.inl (hw _ (List.mem_of_getElem? (i := 60) rfl))) Via.refl e0 Gi (g := (mkF m 2 #[.val (.ref ao), .val (.double da), .second] [(.ref ao), (.double da)])) rfl rfl (hb hby d11_2)
  refine Go.step st57 ?_
  show Go _ _ _ _ _ _ _ T57 (mkF m 5 #[.val (.ref ao), .val (.double da), .second] [(.double iv), (.double da)])
  refine Go.step (fun _ k => XS.dcmpS X57.here hx rfl (hb hby d11_5) rfl rfl k) ?_
  show Go _ _ _ _ _ _ _ T57 (mkF m 6 #[.val (.ref ao), .val (.double da), .second] [(.int (cmpValue (FP.dcmp da iv) .g))])
  have hc6_58 : ¬ ((0 : Int32) < (cmpValue (FP.dcmp da iv) .g)) := h1
  refine Go.step (fun _ k => XS.ifNo X57.here hx rfl (hb hby d11_6) rfl ((if0 _ _).trans (flt hc6_58).2.2.1) k) ?_
  show Go _ _ _ _ _ _ _ T57 (mkF m 9 #[.val (.ref ao), .val (.double da), .second] [])
  refine Go.step (fun _ k => XS.dconst1 X57.here hx rfl (v := (4607182418800017408 : UInt64)) (hb hby d11_9) (by decide +kernel) k) ?_
  show Go _ _ _ _ _ _ _ T57 (mkF m 10 #[.val (.ref ao), .val (.double da), .second] [(.double (4607182418800017408 : UInt64))])
  exact Go.ret X57 hx hret hlk rfl (Or.inr (Or.inr (Or.inl ⟨rfl, rfl, _, rfl⟩))) (hb hby d11_10) e57 (by decide) (by decide) ⟨rfl, N0, rfl⟩
theorem ef_rmCb (m : MethodId) (ao : Addr) (da : UInt64) : entryFrame m #[(.ref ao), (.double da)] 3 = mkF m 0 #[.val (.ref ao), .val (.double da), .second] [] := by first | (simp [entryFrame, mkF, argsToLocals, Value.category]; done) | rfl
def Q_rmCb (Z : State) (ao : Addr) (da : UInt64) (pv : UInt64) (iv : UInt64) (h0 : Heap) (n0 : Nat) (v : Option Value) (h : Heap) (L : List Loc) : Prop := (v = some (.double (0 : UInt64))) ∧ (Fr n0 L) ∧ (h = h0)
set_option maxRecDepth 65536 in
set_option maxHeartbeats 40000000 in
theorem rmCb (l : Launch) (Z : State) (a0 : Array Value) (hw : ∀ d ∈ tables_1, d.before a0 Z = true) (ws : List Jvm.Cond) (ao : Addr) (da : UInt64) (pv : UInt64) (iv : UInt64) (h0 : Heap) (n0 : Nat) (Z0 : n0 ≤ h0.size) (Gi : Fld Z h0 ao "com/example/wayfront/wayfront/decision/Criterion" "indifference" "D" (.double iv)) (Gp : Fld Z h0 ao "com/example/wayfront/wayfront/decision/Criterion" "preference" "D" (.double pv)) (h1 : (0 : Int32) < (cmpValue (FP.dcmp da iv) .g)) (h2 : (0 : Int32) < (cmpValue (FP.dcmp da pv) .l)) :
    MetFree l (⟨"com/example/wayfront/wayfront/decision/Criterion", "concordance", "(D)D"⟩ : MethodName) (head1 (Jvm.Cond.code (⟨"com/example/wayfront/wayfront/decision/Criterion", "concordance", "(D)D"⟩ : MethodName) prog_21_method_3_code 3 (some .double) :: ws) ({ frames := 0, cells := 0, slots := 0, locals := 0 } : Room)) (fun aA U => aA = #[(.ref ao), (.double da)] ∧ Z.Warmed39 U.vm ∧ U.heap = h0) (fun _ _ _ _ _ => True) (fun _ U o U' => ∃ v L, o = .returned v ∧ Q_rmCb Z ao da pv iv h0 n0 v U'.heap L ∧ FrameEnd U o U' L ({ frames := 0, cells := 0, slots := 0, locals := 0 } : Room).cells ({ frames := 0, cells := 0, slots := 0, locals := 0 } : Room).slots) := by
  refine MetFree.of_bodySF (plainFor_of_name pn_com_example_wayfront_wayfront_decision_Criterion) hisR ?_
  intro p e s m args below meth c s₁ Bd hml0 hP hK
  obtain ⟨rfl, hZ, hh⟩ := hP
  have hx := Bd.exec
  have hby := Bd.bytes
  have hml : c.maxLocals = 3 := hml0
  have hown : s.vm.findClass "com/example/wayfront/wayfront/decision/Criterion" = some m.cls := findClass_of_methodNamed Bd.named
  have hnm := (name_of_methodNamed Bd.named Bd.method).1
  have hret := Bd.returns
  have hlk : meth.locks = false := BodyLoose.notSynchronized Bd
  have X0 : Stand p l e ({ frames := 0, cells := 0, slots := 0, locals := 0 } : Room) s m #[(.ref ao), (.double da)] below meth c s₁ [] 0 0 := Stand.of_body Bd
  have e0 : s₁.heap = h0 := by rw [← hh, Bd.state]; rfl
  have N0 := Fr.nil n0
  suffices hgo : Go p e below s ({ frames := 0, cells := 0, slots := 0, locals := 0 } : Room).cells ({ frames := 0, cells := 0, slots := 0, locals := 0 } : Room).slots (Q_rmCb Z ao da pv iv h0 n0) s₁ (mkF m 0 #[.val (.ref ao), .val (.double da), .second] []) from hgo.enter (ef_rmCb m ao da)
  refine Go.step (fun _ k => XS.dloadN X0.here hx rfl (hb hby d11_0) rfl k) ?_
  show Go _ _ _ _ _ _ _ s₁ (mkF m 1 #[.val (.ref ao), .val (.double da), .second] [(.double da)])
  refine Go.step (fun _ k => XS.aloadN X0.here hx rfl (hb hby d11_1) rfl rfl k) ?_
  show Go _ _ _ _ _ _ _ s₁ (mkF m 2 #[.val (.ref ao), .val (.double da), .second] [(.ref ao), (.double da)])
  obtain ⟨T59, X59, e59, st59⟩ := getF X0 hx hZ hown (host := "") (Or.inl (hw _ (List.mem_of_getElem? (i := 60) rfl))) Via.refl e0 Gi (g := (mkF m 2 #[.val (.ref ao), .val (.double da), .second] [(.ref ao), (.double da)])) rfl rfl (hb hby d11_2)
  refine Go.step st59 ?_
  show Go _ _ _ _ _ _ _ T59 (mkF m 5 #[.val (.ref ao), .val (.double da), .second] [(.double iv), (.double da)])
  refine Go.step (fun _ k => XS.dcmpS X59.here hx rfl (hb hby d11_5) rfl rfl k) ?_
  show Go _ _ _ _ _ _ _ T59 (mkF m 6 #[.val (.ref ao), .val (.double da), .second] [(.int (cmpValue (FP.dcmp da iv) .g))])
  have hc6_60 : (0 : Int32) < (cmpValue (FP.dcmp da iv) .g) := h1
  refine Go.step (fun _ k => XS.ifYes X59.here hx rfl (pc0 := 6) (pc' := 11) rfl (hb hby d11_6) rfl ((if0 _ _).trans (tlt hc6_60).2.2.1) (by decide) (by decide) k) ?_
  show Go _ _ _ _ _ _ _ T59 (mkF m 11 #[.val (.ref ao), .val (.double da), .second] [])
  refine Go.step (fun _ k => XS.dloadN X59.here hx rfl (hb hby d11_11) rfl k) ?_
  show Go _ _ _ _ _ _ _ T59 (mkF m 12 #[.val (.ref ao), .val (.double da), .second] [(.double da)])
  refine Go.step (fun _ k => XS.aloadN X59.here hx rfl (hb hby d11_12) rfl rfl k) ?_
  show Go _ _ _ _ _ _ _ T59 (mkF m 13 #[.val (.ref ao), .val (.double da), .second] [(.ref ao), (.double da)])
  obtain ⟨T61, X61, e61, st61⟩ := getF X59 hx hZ hown (host := "") (Or.inl (hw _ (List.mem_of_getElem? (i := 62) rfl))) Via.refl e59 Gp (g := (mkF m 13 #[.val (.ref ao), .val (.double da), .second] [(.ref ao), (.double da)])) rfl rfl (hb hby d11_13)
  refine Go.step st61 ?_
  show Go _ _ _ _ _ _ _ T61 (mkF m 16 #[.val (.ref ao), .val (.double da), .second] [(.double pv), (.double da)])
  refine Go.step (fun _ k => XS.dcmpS X61.here hx rfl (hb hby d11_16) rfl rfl k) ?_
  show Go _ _ _ _ _ _ _ T61 (mkF m 17 #[.val (.ref ao), .val (.double da), .second] [(.int (cmpValue (FP.dcmp da pv) .l))])
  have hc17_62 : (0 : Int32) < (cmpValue (FP.dcmp da pv) .l) := h2
  refine Go.step (fun _ k => XS.ifNo X61.here hx rfl (hb hby d11_17) rfl ((if0 _ _).trans (tlt hc17_62).2.2.2) k) ?_
  show Go _ _ _ _ _ _ _ T61 (mkF m 20 #[.val (.ref ao), .val (.double da), .second] [])
  refine Go.step (fun _ k => XS.dconst0 X61.here hx rfl (v := (0 : UInt64)) (hb hby d11_20) (by decide +kernel) k) ?_
  show Go _ _ _ _ _ _ _ T61 (mkF m 21 #[.val (.ref ao), .val (.double da), .second] [(.double (0 : UInt64))])
  exact Go.ret X61 hx hret hlk rfl (Or.inr (Or.inr (Or.inl ⟨rfl, rfl, _, rfl⟩))) (hb hby d11_21) e61 (by decide) (by decide) ⟨rfl, N0, rfl⟩
theorem ef_rmCc (m : MethodId) (ao : Addr) (da : UInt64) : entryFrame m #[(.ref ao), (.double da)] 3 = mkF m 0 #[.val (.ref ao), .val (.double da), .second] [] := by first | (simp [entryFrame, mkF, argsToLocals, Value.category]; done) | rfl
def Q_rmCc (Z : State) (ao : Addr) (da : UInt64) (pv : UInt64) (iv : UInt64) (h0 : Heap) (n0 : Nat) (v : Option Value) (h : Heap) (L : List Loc) : Prop := (v = some (.double (FP.ddiv (FP.dsub pv da) (FP.dsub pv iv)))) ∧ (Fr n0 L) ∧ (h = h0)
set_option maxRecDepth 65536 in
set_option maxHeartbeats 40000000 in
theorem rmCc (l : Launch) (Z : State) (a0 : Array Value) (hw : ∀ d ∈ tables_1, d.before a0 Z = true) (ws : List Jvm.Cond) (ao : Addr) (da : UInt64) (pv : UInt64) (iv : UInt64) (h0 : Heap) (n0 : Nat) (Z0 : n0 ≤ h0.size) (Gi : Fld Z h0 ao "com/example/wayfront/wayfront/decision/Criterion" "indifference" "D" (.double iv)) (Gp : Fld Z h0 ao "com/example/wayfront/wayfront/decision/Criterion" "preference" "D" (.double pv)) (h1 : (0 : Int32) < (cmpValue (FP.dcmp da iv) .g)) (h2 : ¬ ((0 : Int32) < (cmpValue (FP.dcmp da pv) .l))) (nn1 : NoNaN64 (FP.dsub pv da)) (nn2 : NoNaN64 (FP.dsub pv iv)) (nn3 : NoNaN64 (FP.ddiv (FP.dsub pv da) (FP.dsub pv iv))) :
    MetFree l (⟨"com/example/wayfront/wayfront/decision/Criterion", "concordance", "(D)D"⟩ : MethodName) (head1 (Jvm.Cond.code (⟨"com/example/wayfront/wayfront/decision/Criterion", "concordance", "(D)D"⟩ : MethodName) prog_21_method_3_code 3 (some .double) :: ws) ({ frames := 0, cells := 0, slots := 0, locals := 0 } : Room)) (fun aA U => aA = #[(.ref ao), (.double da)] ∧ Z.Warmed39 U.vm ∧ U.heap = h0) (fun _ _ _ _ _ => True) (fun _ U o U' => ∃ v L, o = .returned v ∧ Q_rmCc Z ao da pv iv h0 n0 v U'.heap L ∧ FrameEnd U o U' L ({ frames := 0, cells := 0, slots := 0, locals := 0 } : Room).cells ({ frames := 0, cells := 0, slots := 0, locals := 0 } : Room).slots) := by
  refine MetFree.of_bodySF (plainFor_of_name pn_com_example_wayfront_wayfront_decision_Criterion) hisR ?_
  intro p e s m args below meth c s₁ Bd hml0 hP hK
  obtain ⟨rfl, hZ, hh⟩ := hP
  have hx := Bd.exec
  have hby := Bd.bytes
  have hml : c.maxLocals = 3 := hml0
  have hown : s.vm.findClass "com/example/wayfront/wayfront/decision/Criterion" = some m.cls := findClass_of_methodNamed Bd.named
  have hnm := (name_of_methodNamed Bd.named Bd.method).1
  have hret := Bd.returns
  have hlk : meth.locks = false := BodyLoose.notSynchronized Bd
  have X0 : Stand p l e ({ frames := 0, cells := 0, slots := 0, locals := 0 } : Room) s m #[(.ref ao), (.double da)] below meth c s₁ [] 0 0 := Stand.of_body Bd
  have e0 : s₁.heap = h0 := by rw [← hh, Bd.state]; rfl
  have N0 := Fr.nil n0
  suffices hgo : Go p e below s ({ frames := 0, cells := 0, slots := 0, locals := 0 } : Room).cells ({ frames := 0, cells := 0, slots := 0, locals := 0 } : Room).slots (Q_rmCc Z ao da pv iv h0 n0) s₁ (mkF m 0 #[.val (.ref ao), .val (.double da), .second] []) from hgo.enter (ef_rmCc m ao da)
  refine Go.step (fun _ k => XS.dloadN X0.here hx rfl (hb hby d11_0) rfl k) ?_
  show Go _ _ _ _ _ _ _ s₁ (mkF m 1 #[.val (.ref ao), .val (.double da), .second] [(.double da)])
  refine Go.step (fun _ k => XS.aloadN X0.here hx rfl (hb hby d11_1) rfl rfl k) ?_
  show Go _ _ _ _ _ _ _ s₁ (mkF m 2 #[.val (.ref ao), .val (.double da), .second] [(.ref ao), (.double da)])
  obtain ⟨T63, X63, e63, st63⟩ := getF X0 hx hZ hown (host := "") (Or.inl (hw _ (List.mem_of_getElem? (i := 60) rfl))) Via.refl e0 Gi (g := (mkF m 2 #[.val (.ref ao), .val (.double da), .second] [(.ref ao), (.double da)])) rfl rfl (hb hby d11_2)
  refine Go.step st63 ?_
  show Go _ _ _ _ _ _ _ T63 (mkF m 5 #[.val (.ref ao), .val (.double da), .second] [(.double iv), (.double da)])
  refine Go.step (fun _ k => XS.dcmpS X63.here hx rfl (hb hby d11_5) rfl rfl k) ?_
  show Go _ _ _ _ _ _ _ T63 (mkF m 6 #[.val (.ref ao), .val (.double da), .second] [(.int (cmpValue (FP.dcmp da iv) .g))])
  have hc6_64 : (0 : Int32) < (cmpValue (FP.dcmp da iv) .g) := h1
  refine Go.step (fun _ k => XS.ifYes X63.here hx rfl (pc0 := 6) (pc' := 11) rfl (hb hby d11_6) rfl ((if0 _ _).trans (tlt hc6_64).2.2.1) (by decide) (by decide) k) ?_
  show Go _ _ _ _ _ _ _ T63 (mkF m 11 #[.val (.ref ao), .val (.double da), .second] [])
  refine Go.step (fun _ k => XS.dloadN X63.here hx rfl (hb hby d11_11) rfl k) ?_
  show Go _ _ _ _ _ _ _ T63 (mkF m 12 #[.val (.ref ao), .val (.double da), .second] [(.double da)])
  refine Go.step (fun _ k => XS.aloadN X63.here hx rfl (hb hby d11_12) rfl rfl k) ?_
  show Go _ _ _ _ _ _ _ T63 (mkF m 13 #[.val (.ref ao), .val (.double da), .second] [(.ref ao), (.double da)])
  obtain ⟨T65, X65, e65, st65⟩ := getF X63 hx hZ hown (host := "") (Or.inl (hw _ (List.mem_of_getElem? (i := 62) rfl))) Via.refl e63 Gp (g := (mkF m 13 #[.val (.ref ao), .val (.double da), .second] [(.ref ao), (.double da)])) rfl rfl (hb hby d11_13)
  refine Go.step st65 ?_
  show Go _ _ _ _ _ _ _ T65 (mkF m 16 #[.val (.ref ao), .val (.double da), .second] [(.double pv), (.double da)])
  refine Go.step (fun _ k => XS.dcmpS X65.here hx rfl (hb hby d11_16) rfl rfl k) ?_
  show Go _ _ _ _ _ _ _ T65 (mkF m 17 #[.val (.ref ao), .val (.double da), .second] [(.int (cmpValue (FP.dcmp da pv) .l))])
  have hc17_66 : ¬ ((0 : Int32) < (cmpValue (FP.dcmp da pv) .l)) := h2
  refine Go.step (fun _ k => XS.ifYes X65.here hx rfl (pc0 := 17) (pc' := 22) rfl (hb hby d11_17) rfl ((if0 _ _).trans (flt hc17_66).2.2.2) (by decide) (by decide) k) ?_
  show Go _ _ _ _ _ _ _ T65 (mkF m 22 #[.val (.ref ao), .val (.double da), .second] [])
  refine Go.step (fun _ k => XS.aloadN X65.here hx rfl (hb hby d11_22) rfl rfl k) ?_
  show Go _ _ _ _ _ _ _ T65 (mkF m 23 #[.val (.ref ao), .val (.double da), .second] [(.ref ao)])
  obtain ⟨T67, X67, e67, st67⟩ := getF X65 hx hZ hown (host := "") (Or.inl (hw _ (List.mem_of_getElem? (i := 62) rfl))) Via.refl e65 Gp (g := (mkF m 23 #[.val (.ref ao), .val (.double da), .second] [(.ref ao)])) rfl rfl (hb hby d11_23)
  refine Go.step st67 ?_
  show Go _ _ _ _ _ _ _ T67 (mkF m 26 #[.val (.ref ao), .val (.double da), .second] [(.double pv)])
  refine Go.step (fun _ k => XS.dloadN X67.here hx rfl (hb hby d11_26) rfl k) ?_
  show Go _ _ _ _ _ _ _ T67 (mkF m 27 #[.val (.ref ao), .val (.double da), .second] [(.double da), (.double pv)])
  refine Go.step (fun _ k => XS.dsubS X67.here hx rfl (hb hby d11_27) rfl nn1 rfl k) ?_
  show Go _ _ _ _ _ _ _ T67 (mkF m 28 #[.val (.ref ao), .val (.double da), .second] [(.double (FP.dsub pv da))])
  refine Go.step (fun _ k => XS.aloadN X67.here hx rfl (hb hby d11_28) rfl rfl k) ?_
  show Go _ _ _ _ _ _ _ T67 (mkF m 29 #[.val (.ref ao), .val (.double da), .second] [(.ref ao), (.double (FP.dsub pv da))])
  obtain ⟨T68, X68, e68, st68⟩ := getF X67 hx hZ hown (host := "") (Or.inl (hw _ (List.mem_of_getElem? (i := 62) rfl))) Via.refl e67 Gp (g := (mkF m 29 #[.val (.ref ao), .val (.double da), .second] [(.ref ao), (.double (FP.dsub pv da))])) rfl rfl (hb hby d11_29)
  refine Go.step st68 ?_
  show Go _ _ _ _ _ _ _ T68 (mkF m 32 #[.val (.ref ao), .val (.double da), .second] [(.double pv), (.double (FP.dsub pv da))])
  refine Go.step (fun _ k => XS.aloadN X68.here hx rfl (hb hby d11_32) rfl rfl k) ?_
  show Go _ _ _ _ _ _ _ T68 (mkF m 33 #[.val (.ref ao), .val (.double da), .second] [(.ref ao), (.double pv), (.double (FP.dsub pv da))])
  obtain ⟨T69, X69, e69, st69⟩ := getF X68 hx hZ hown (host := "") (Or.inl (hw _ (List.mem_of_getElem? (i := 60) rfl))) Via.refl e68 Gi (g := (mkF m 33 #[.val (.ref ao), .val (.double da), .second] [(.ref ao), (.double pv), (.double (FP.dsub pv da))])) rfl rfl (hb hby d11_33)
  refine Go.step st69 ?_
  show Go _ _ _ _ _ _ _ T69 (mkF m 36 #[.val (.ref ao), .val (.double da), .second] [(.double iv), (.double pv), (.double (FP.dsub pv da))])
  refine Go.step (fun _ k => XS.dsubS X69.here hx rfl (hb hby d11_36) rfl nn2 rfl k) ?_
  show Go _ _ _ _ _ _ _ T69 (mkF m 37 #[.val (.ref ao), .val (.double da), .second] [(.double (FP.dsub pv iv)), (.double (FP.dsub pv da))])
  refine Go.step (fun _ k => XS.ddivS X69.here hx rfl (hb hby d11_37) rfl nn3 rfl k) ?_
  show Go _ _ _ _ _ _ _ T69 (mkF m 38 #[.val (.ref ao), .val (.double da), .second] [(.double (FP.ddiv (FP.dsub pv da) (FP.dsub pv iv)))])
  exact Go.ret X69 hx hret hlk rfl (Or.inr (Or.inr (Or.inl ⟨rfl, rfl, _, rfl⟩))) (hb hby d11_38) e69 (by decide) (by decide) ⟨rfl, N0, rfl⟩
theorem pd__C_Ljava_lang_String_ : parseMethodDescriptor "(C)Ljava/lang/String;" = some ⟨[.char], some (.object "java/lang/String")⟩ := by decide +kernel
theorem pd__Ljava_lang_String_Lcom_example_wayfront_wayfront_decision_Criterion_Direction_DDD_V : parseMethodDescriptor "(Ljava/lang/String;Lcom/example/wayfront/wayfront/decision/Criterion$Direction;DDD)V" = some ⟨[(.object "java/lang/String"), (.object "com/example/wayfront/wayfront/decision/Criterion$Direction"), .double, .double, .double], none⟩ := by decide +kernel
theorem pn_com_example_wayfront_wayfront_decision_CriterionConcordancePinLaw : plainName "com/example/wayfront/wayfront/decision/CriterionConcordancePinLaw" = true := by first | (simp [plainName, overriddenIn]; done) | decide +kernel
theorem ef_rm0 (m : MethodId) (ia : Int32) (ib : Int32) (ic : Int32) (ie : Int32) (ix : Int32) (ifl : Int32) : entryFrame m #[(.int ia), (.int ib), (.int ic), (.int ie), (.int ix), (.int ifl)] maxLocals = mkF m 0 #[.val (.int ia), .val (.int ib), .val (.int ic), .val (.int ie), .val (.int ix), .val (.int ifl), .unset, .unset, .unset, .unset, .unset, .unset, .unset, .unset, .unset, .unset, .unset, .unset, .unset, .unset, .unset, .unset, .unset, .unset, .unset, .unset, .unset, .unset, .unset, .unset] [] := by first | (simp [entryFrame, mkF, argsToLocals, Value.category, maxLocals]; done) | rfl
theorem own_ar1 (ia : Int32) : 0 ≤ (ia &&& (65535 : Int32)).toInt ∧ (ia &&& (65535 : Int32)).toInt ≤ 65535 := by have := rng32 ia; have : (65535 : Int32).toInt = 65535 := rfl; have := rng32 (ia &&& (65535 : Int32)); have := c_mask ia (65535 : Int32) 16 (by decide) (by decide); omega
theorem own_ar2 (qq : Int32) (dd : Int32) (hh0 : 0 ≤ qq.toInt ∧ qq.toInt ≤ 65535) (hh1 : 0 ≤ dd.toInt ∧ dd.toInt ≤ 32768) : (qq + dd).toInt = qq.toInt + dd.toInt := by have := rng32 qq; have := rng32 dd; have := rng32 (qq + dd); have := c_iadd qq dd; omega
theorem own_ar3 (pp : Int32) (ic : Int32) (qq : Int32) (dd : Int32) (hh0 : pp.toInt = qq.toInt + dd.toInt) (hh1 : 0 ≤ qq.toInt ∧ qq.toInt ≤ 65535) (hh2 : 0 ≤ dd.toInt ∧ dd.toInt ≤ 32768) : pp.toInt ≤ (pp + (ic &&& (65535 : Int32))).toInt ∧ (pp + (ic &&& (65535 : Int32))).toInt ≤ pp.toInt + 65535 := by have := rng32 pp; have := rng32 ic; have : (65535 : Int32).toInt = 65535 := rfl; have := rng32 (ic &&& (65535 : Int32)); have := c_mask ic (65535 : Int32) 16 (by decide) (by decide); have := rng32 (pp + (ic &&& (65535 : Int32))); have := c_iadd pp (ic &&& (65535 : Int32)); have := rng32 qq; have := rng32 dd; omega
theorem own_ar4 (ie : Int32) : ¬ ((255 : Int32) < ((ie &&& (255 : Int32)).toUInt32.toUInt16.toUInt32.toInt32)) := by have := rng32 ie; have : (255 : Int32).toInt = 255 := rfl; have := rng32 (ie &&& (255 : Int32)); have := c_mask ie (255 : Int32) 8 (by decide) (by decide); have := rng32 ((ie &&& (255 : Int32)).toUInt32.toUInt16.toUInt32.toInt32); have := c_i2c (ie &&& (255 : Int32)); simp only [Int32.lt_iff_toInt_lt, Int32.le_iff_toInt_le, ← Int32.toInt_inj, Int64.lt_iff_toInt_lt, Int64.le_iff_toInt_le, ← Int64.toInt_inj] at ⊢; omega
theorem own_ar5 (qq : Int32) (jL : Int64) (dd : Int32) (hh0 : jL.toInt < qq.toInt) : ¬ ((qq.toInt64) < jL) := by have := rng32 qq; have := rng64 (qq.toInt64); have := c_i2l qq; have := rng64 jL; have := rng32 dd; simp only [Int32.lt_iff_toInt_lt, Int32.le_iff_toInt_le, ← Int32.toInt_inj, Int64.lt_iff_toInt_lt, Int64.le_iff_toInt_le, ← Int64.toInt_inj] at hh0 ⊢; omega
theorem own_ar6 (qq : Int32) (jL : Int64) (dd : Int32) (hh0 : jL.toInt = qq.toInt ∧ dd.toInt = 0) : ¬ ((qq.toInt64) < jL) := by have := rng32 qq; have := rng64 (qq.toInt64); have := c_i2l qq; have := rng64 jL; have := rng32 dd; simp only [Int32.lt_iff_toInt_lt, Int32.le_iff_toInt_le, ← Int32.toInt_inj, Int64.lt_iff_toInt_lt, Int64.le_iff_toInt_le, ← Int64.toInt_inj] at hh0 ⊢; omega
theorem own_ar7 (qq : Int32) (jL : Int64) (dd : Int32) (hh0 : jL.toInt = qq.toInt ∧ 0 < dd.toInt) : ¬ ((qq.toInt64) < jL) := by have := rng32 qq; have := rng64 (qq.toInt64); have := c_i2l qq; have := rng64 jL; have := rng32 dd; simp only [Int32.lt_iff_toInt_lt, Int32.le_iff_toInt_le, ← Int32.toInt_inj, Int64.lt_iff_toInt_lt, Int64.le_iff_toInt_le, ← Int64.toInt_inj] at hh0 ⊢; omega
theorem own_ar8 (qq : Int32) (jL : Int64) (pp : Int32) (dd : Int32) (hh0 : pp.toInt < jL.toInt) (hh1 : pp.toInt = qq.toInt + dd.toInt) (hh2 : 0 ≤ dd.toInt ∧ dd.toInt ≤ 32768) : (qq.toInt64) < jL := by have := rng32 qq; have := rng64 (qq.toInt64); have := c_i2l qq; have := rng64 jL; have := rng32 pp; have := rng32 dd; simp only [Int32.lt_iff_toInt_lt, Int32.le_iff_toInt_le, ← Int32.toInt_inj, Int64.lt_iff_toInt_lt, Int64.le_iff_toInt_le, ← Int64.toInt_inj] at hh0 hh1 hh2 ⊢; omega
theorem own_ar9 (pp : Int32) (jL : Int64) (hh0 : pp.toInt < jL.toInt) : (pp.toInt64) < jL := by have := rng32 pp; have := rng64 (pp.toInt64); have := c_i2l pp; have := rng64 jL; simp only [Int32.lt_iff_toInt_lt, Int32.le_iff_toInt_le, ← Int32.toInt_inj, Int64.lt_iff_toInt_lt, Int64.le_iff_toInt_le, ← Int64.toInt_inj] at hh0 ⊢; omega
theorem own_ar10 (qq : Int32) (jL : Int64) (pp : Int32) (dd : Int32) (hh0 : qq.toInt < jL.toInt ∧ jL.toInt = pp.toInt) (hh1 : pp.toInt = qq.toInt + dd.toInt) (hh2 : 0 ≤ dd.toInt ∧ dd.toInt ≤ 32768) : (qq.toInt64) < jL := by have := rng32 qq; have := rng64 (qq.toInt64); have := c_i2l qq; have := rng64 jL; have := rng32 pp; have := rng32 dd; simp only [Int32.lt_iff_toInt_lt, Int32.le_iff_toInt_le, ← Int32.toInt_inj, Int64.lt_iff_toInt_lt, Int64.le_iff_toInt_le, ← Int64.toInt_inj] at hh0 hh1 hh2 ⊢; omega
theorem own_ar11 (pp : Int32) (jL : Int64) (qq : Int32) (hh0 : qq.toInt < jL.toInt ∧ jL.toInt = pp.toInt) : ¬ ((pp.toInt64) < jL) := by have := rng32 pp; have := rng64 (pp.toInt64); have := c_i2l pp; have := rng64 jL; have := rng32 qq; simp only [Int32.lt_iff_toInt_lt, Int32.le_iff_toInt_le, ← Int32.toInt_inj, Int64.lt_iff_toInt_lt, Int64.le_iff_toInt_le, ← Int64.toInt_inj] at hh0 ⊢; omega
theorem own_ar12 (pp : Int32) (jL : Int64) (qq : Int32) (dd : Int32) (hh0 : -2147483648 ≤ jL.toInt ∧ jL.toInt ≤ 2147483648) (hh1 : pp.toInt = qq.toInt + dd.toInt) (hh2 : 0 ≤ qq.toInt ∧ qq.toInt ≤ 65535) (hh3 : 0 ≤ dd.toInt ∧ dd.toInt ≤ 32768) : ((pp.toInt64) - jL).toInt = pp.toInt - jL.toInt := by have := rng32 pp; have := rng64 (pp.toInt64); have := c_i2l pp; have := rng64 jL; have := rng64 ((pp.toInt64) - jL); have := c_lsub (pp.toInt64) jL; have := rng32 qq; have := rng32 dd; omega
theorem own_ar13 (jn : Int64) (jL : Int64) (pp : Int32) (qq : Int32) (hh0 : qq.toInt < jL.toInt ∧ jL.toInt = pp.toInt) (hh1 : jn.toInt = pp.toInt - jL.toInt) : jn = (0 : Int64) := by have := rng64 jn; have : (0 : Int64).toInt = 0 := rfl; have := rng64 jL; have := rng32 pp; have := rng32 qq; simp only [Int32.lt_iff_toInt_lt, Int32.le_iff_toInt_le, ← Int32.toInt_inj, Int64.lt_iff_toInt_lt, Int64.le_iff_toInt_le, ← Int64.toInt_inj] at hh0 hh1 ⊢; omega
theorem own_ar14 (qq : Int32) (jL : Int64) (pp : Int32) (dd : Int32) (hh0 : qq.toInt < jL.toInt ∧ jL.toInt < pp.toInt) (hh1 : pp.toInt = qq.toInt + dd.toInt) (hh2 : 0 ≤ dd.toInt ∧ dd.toInt ≤ 32768) : (qq.toInt64) < jL := by have := rng32 qq; have := rng64 (qq.toInt64); have := c_i2l qq; have := rng64 jL; have := rng32 pp; have := rng32 dd; simp only [Int32.lt_iff_toInt_lt, Int32.le_iff_toInt_le, ← Int32.toInt_inj, Int64.lt_iff_toInt_lt, Int64.le_iff_toInt_le, ← Int64.toInt_inj] at hh0 hh1 hh2 ⊢; omega
theorem own_ar15 (pp : Int32) (jL : Int64) (qq : Int32) (hh0 : qq.toInt < jL.toInt ∧ jL.toInt < pp.toInt) : ¬ ((pp.toInt64) < jL) := by have := rng32 pp; have := rng64 (pp.toInt64); have := c_i2l pp; have := rng64 jL; have := rng32 qq; simp only [Int32.lt_iff_toInt_lt, Int32.le_iff_toInt_le, ← Int32.toInt_inj, Int64.lt_iff_toInt_lt, Int64.le_iff_toInt_le, ← Int64.toInt_inj] at hh0 ⊢; omega
theorem own_ar16 (jn : Int64) (jL : Int64) (pp : Int32) (qq : Int32) (hh0 : qq.toInt < jL.toInt ∧ jL.toInt < pp.toInt) (hh1 : jn.toInt = pp.toInt - jL.toInt) : ¬ (jn = (0 : Int64)) := by have := rng64 jn; have : (0 : Int64).toInt = 0 := rfl; have := rng64 jL; have := rng32 pp; have := rng32 qq; simp only [Int32.lt_iff_toInt_lt, Int32.le_iff_toInt_le, ← Int32.toInt_inj, Int64.lt_iff_toInt_lt, Int64.le_iff_toInt_le, ← Int64.toInt_inj] at hh0 hh1 ⊢; omega
theorem own_ar17 (dd : Int32) (hh0 : 0 ≤ dd.toInt ∧ dd.toInt ≤ 32768) : (dd + (3 : Int32)) ≠ 0 := by have := rng32 dd; have : (3 : Int32).toInt = 3 := rfl; have := rng32 (dd + (3 : Int32)); have := c_iadd dd (3 : Int32); have : (0 : Int32).toInt = 0 := rfl; intro q; rw [← Int32.toInt_inj] at q; omega
theorem own_ar18 (qq : Int32) (ix : Int32) (dd : Int32) (hh0 : 0 ≤ qq.toInt ∧ qq.toInt ≤ 65535) (hh1 : 0 ≤ dd.toInt ∧ dd.toInt ≤ 32768) : -2147483648 ≤ (((qq.toInt64) + ((((ix % (dd + (3 : Int32))) + (dd + (3 : Int32))) % (dd + (3 : Int32))).toInt64)) - (1 : Int64)).toInt ∧ (((qq.toInt64) + ((((ix % (dd + (3 : Int32))) + (dd + (3 : Int32))) % (dd + (3 : Int32))).toInt64)) - (1 : Int64)).toInt ≤ 2147483648 := by have := rng32 qq; have := rng64 (qq.toInt64); have := c_i2l qq; have := rng32 ix; have := rng32 dd; have : (3 : Int32).toInt = 3 := rfl; have := rng32 (dd + (3 : Int32)); have := c_iadd dd (3 : Int32); have := rng32 (ix % (dd + (3 : Int32))); have := c_iremV ix (dd + (3 : Int32)); have := rng32 ((ix % (dd + (3 : Int32))) + (dd + (3 : Int32))); have := c_iadd (ix % (dd + (3 : Int32))) (dd + (3 : Int32)); have := rng32 (((ix % (dd + (3 : Int32))) + (dd + (3 : Int32))) % (dd + (3 : Int32))); have := c_iremV ((ix % (dd + (3 : Int32))) + (dd + (3 : Int32))) (dd + (3 : Int32)); have := rng64 ((((ix % (dd + (3 : Int32))) + (dd + (3 : Int32))) % (dd + (3 : Int32))).toInt64); have := c_i2l (((ix % (dd + (3 : Int32))) + (dd + (3 : Int32))) % (dd + (3 : Int32))); have := rng64 ((qq.toInt64) + ((((ix % (dd + (3 : Int32))) + (dd + (3 : Int32))) % (dd + (3 : Int32))).toInt64)); have := c_ladd (qq.toInt64) ((((ix % (dd + (3 : Int32))) + (dd + (3 : Int32))) % (dd + (3 : Int32))).toInt64); have : (1 : Int64).toInt = 1 := rfl; have := rng64 (((qq.toInt64) + ((((ix % (dd + (3 : Int32))) + (dd + (3 : Int32))) % (dd + (3 : Int32))).toInt64)) - (1 : Int64)); have := c_lsub ((qq.toInt64) + ((((ix % (dd + (3 : Int32))) + (dd + (3 : Int32))) % (dd + (3 : Int32))).toInt64)) (1 : Int64); omega
theorem own_ar19 (ix : Int32) (dd : Int32) (qq : Int32) (hh0 : 0 ≤ qq.toInt ∧ qq.toInt ≤ 65535) (hh1 : 0 ≤ dd.toInt ∧ dd.toInt ≤ 32768) : -2147483648 ≤ (ix.toInt64).toInt ∧ (ix.toInt64).toInt ≤ 2147483648 := by have := rng32 ix; have := rng64 (ix.toInt64); have := c_i2l ix; have := rng32 dd; have := rng32 qq; omega
theorem own_ar20 (ib : Int32) : 0 ≤ (((ib.toUInt32 >>> ((1 : Int32) &&& 31).toUInt32).toInt32) &&& (255 : Int32)).toInt ∧ (((ib.toUInt32 >>> ((1 : Int32) &&& 31).toUInt32).toInt32) &&& (255 : Int32)).toInt ≤ 32768 := by have := rng32 ib; have : (1 : Int32).toInt = 1 := rfl; have := rng32 ((ib.toUInt32 >>> ((1 : Int32) &&& 31).toUInt32).toInt32); have := c_iushr ib (1 : Int32) 1 (by decide) (by decide); have : (255 : Int32).toInt = 255 := rfl; have := rng32 (((ib.toUInt32 >>> ((1 : Int32) &&& 31).toUInt32).toInt32) &&& (255 : Int32)); have := c_mask ((ib.toUInt32 >>> ((1 : Int32) &&& 31).toUInt32).toInt32) (255 : Int32) 8 (by decide) (by decide); omega
def Q_rm0 (Z : State) (ia : Int32) (ib : Int32) (ic : Int32) (ie : Int32) (ix : Int32) (ifl : Int32) (G1 : Int32) (x1 : Addr) (x2 : Addr) (h0 : Heap) (n0 : Nat) (v : Option Value) (h : Heap) (L : List Loc) : Prop := (v = some (.int (1 : Int32))) ∧ (Fr n0 L) ∧ (True)
set_option maxRecDepth 65536 in
set_option maxHeartbeats 40000000 in
theorem rm0 (l : Launch) (Z : State) (a0 : Array Value) (hw : ∀ d ∈ tables_1, d.before a0 Z = true) (ws : List Jvm.Cond) (ia : Int32) (ib : Int32) (ic : Int32) (ie : Int32) (ix : Int32) (ifl : Int32) (G1 : Int32) (x1 : Addr) (x2 : Addr) (h0 : Heap) (n0 : Nat) (Z0 : n0 ≤ h0.size) (O0 : Old Z n0 h0) (O2 : Sta Z Z.heap "java/lang/String" "COMPACT_STRINGS" "Z" (.int G1)) (P5 : ¬ (G1 = (0 : Int32))) (SX : Sta Z Z.heap "com/example/wayfront/wayfront/decision/Criterion$Direction" "MAX" "Lcom/example/wayfront/wayfront/decision/Criterion$Direction;" (.ref x1)) (SN : Sta Z Z.heap "com/example/wayfront/wayfront/decision/Criterion$Direction" "MIN" "Lcom/example/wayfront/wayfront/decision/Criterion$Direction;" (.ref x2)) :
    MetFree l x (head1 (Jvm.Cond.code x code maxLocals ret :: ws) room_1) (fun aA U => aA = #[(.int ia), (.int ib), (.int ic), (.int ie), (.int ix), (.int ifl)] ∧ Z.Warmed39 U.vm ∧ U.heap = h0) (fun _ _ _ _ _ => True) (fun _ U o U' => ∃ v L, o = .returned v ∧ Q_rm0 Z ia ib ic ie ix ifl G1 x1 x2 h0 n0 v U'.heap L ∧ FrameEnd U o U' L room_1.cells room_1.slots) := by
  refine MetFree.of_bodySF (plainFor_of_name pn_com_example_wayfront_wayfront_decision_CriterionConcordancePinLaw) hisR ?_
  intro p e s m args below meth c s₁ Bd hml0 hP hK
  obtain ⟨rfl, hZ, hh⟩ := hP
  have hx := Bd.exec
  have hby := Bd.bytes
  have hml : c.maxLocals = 30 := hml0
  have hown : s.vm.findClass "com/example/wayfront/wayfront/decision/CriterionConcordancePinLaw" = some m.cls := findClass_of_methodNamed Bd.named
  have hnm := (name_of_methodNamed Bd.named Bd.method).1
  have hret := Bd.returns
  have hlk : meth.locks = false := BodyLoose.notSynchronized Bd
  have X0 : Stand p l e room_1 s m #[(.int ia), (.int ib), (.int ic), (.int ie), (.int ix), (.int ifl)] below meth c s₁ [] 0 0 := Stand.of_body Bd
  have e0 : s₁.heap = h0 := by rw [← hh, Bd.state]; rfl
  have N0 := Fr.nil n0
  suffices hgo : Go p e below s room_1.cells room_1.slots (Q_rm0 Z ia ib ic ie ix ifl G1 x1 x2 h0 n0) s₁ (mkF m 0 #[.val (.int ia), .val (.int ib), .val (.int ic), .val (.int ie), .val (.int ix), .val (.int ifl), .unset, .unset, .unset, .unset, .unset, .unset, .unset, .unset, .unset, .unset, .unset, .unset, .unset, .unset, .unset, .unset, .unset, .unset, .unset, .unset, .unset, .unset, .unset, .unset] []) from hgo.enter (ef_rm0 m ia ib ic ie ix ifl)
  refine Go.step (fun _ k => XS.iloadN X0.here hx rfl (hb hby at_0) rfl k) ?_
  refine Go.step (X0.ldcInt hx hown (mvT hZ (hw _ (List.mem_of_getElem? (i := 0) rfl))) (g := (mkF m 1 #[.val (.int ia), .val (.int ib), .val (.int ic), .val (.int ie), .val (.int ix), .val (.int ifl), .unset, .unset, .unset, .unset, .unset, .unset, .unset, .unset, .unset, .unset, .unset, .unset, .unset, .unset, .unset, .unset, .unset, .unset, .unset, .unset, .unset, .unset, .unset, .unset] [(.int ia)])) rfl (hb hby at_1)) ?_
  refine Go.step (fun _ k => XS.iand X0.here hx rfl (hb hby at_3) rfl k) ?_
  refine Go.step (fun _ k => XS.istore X0.here hx rfl (hb hby at_4) rfl (l' := #[.val (.int ia), .val (.int ib), .val (.int ic), .val (.int ie), .val (.int ix), .val (.int ifl), .val (.int (ia &&& (65535 : Int32))), .unset, .unset, .unset, .unset, .unset, .unset, .unset, .unset, .unset, .unset, .unset, .unset, .unset, .unset, .unset, .unset, .unset, .unset, .unset, .unset, .unset, .unset, .unset]) rfl k) ?_
  show Go _ _ _ _ _ _ _ s₁ (mkF m 6 #[.val (.int ia), .val (.int ib), .val (.int ic), .val (.int ie), .val (.int ix), .val (.int ifl), .val (.int (ia &&& (65535 : Int32))), .unset, .unset, .unset, .unset, .unset, .unset, .unset, .unset, .unset, .unset, .unset, .unset, .unset, .unset, .unset, .unset, .unset, .unset, .unset, .unset, .unset, .unset, .unset] [])
  have hq : 0 ≤ (ia &&& (65535 : Int32)).toInt ∧ (ia &&& (65535 : Int32)).toInt ≤ 65535 := (own_ar1 ia)
  generalize (ia &&& (65535 : Int32)) = qq at hq ⊢
  show Go _ _ _ _ _ _ _ s₁ (mkF m 6 #[.val (.int ia), .val (.int ib), .val (.int ic), .val (.int ie), .val (.int ix), .val (.int ifl), .val (.int qq), .unset, .unset, .unset, .unset, .unset, .unset, .unset, .unset, .unset, .unset, .unset, .unset, .unset, .unset, .unset, .unset, .unset, .unset, .unset, .unset, .unset, .unset, .unset] [])
  have J : ∀ (TJ : State) (hJ : Heap) (LJ : List Loc) (dd : Int32), (Stand p l e room_1 s m #[(.int ia), (.int ib), (.int ic), (.int ie), (.int ix), (.int ifl)] below meth c TJ LJ 0 0) → (TJ.heap = hJ) → (Fr n0 LJ) → (n0 ≤ hJ.size) → (Old Z n0 hJ) → (0 ≤ dd.toInt ∧ dd.toInt ≤ 32768) → Go p e below s room_1.cells room_1.slots (Q_rm0 Z ia ib ic ie ix ifl G1 x1 x2 h0 n0) TJ (mkF m 34 #[.val (.int ia), .val (.int ib), .val (.int ic), .val (.int ie), .val (.int ix), .val (.int ifl), .val (.int qq), .val (.int dd), .unset, .unset, .unset, .unset, .unset, .unset, .unset, .unset, .unset, .unset, .unset, .unset, .unset, .unset, .unset, .unset, .unset, .unset, .unset, .unset, .unset, .unset] []) := by
    intro TJ hJ LJ dd XJ eJ NJ ZJ Oj hd
    refine Go.step (fun _ k => XS.iload XJ.here hx rfl (hb hby at_34) rfl k) ?_
    refine Go.step (fun _ k => XS.iload XJ.here hx rfl (hb hby at_36) rfl k) ?_
    refine Go.step (fun _ k => XS.iadd XJ.here hx rfl (hb hby at_38) rfl k) ?_
    refine Go.step (fun _ k => XS.istore XJ.here hx rfl (hb hby at_39) rfl (l' := #[.val (.int ia), .val (.int ib), .val (.int ic), .val (.int ie), .val (.int ix), .val (.int ifl), .val (.int qq), .val (.int dd), .val (.int (qq + dd)), .unset, .unset, .unset, .unset, .unset, .unset, .unset, .unset, .unset, .unset, .unset, .unset, .unset, .unset, .unset, .unset, .unset, .unset, .unset, .unset, .unset]) rfl k) ?_
    show Go _ _ _ _ _ _ _ TJ (mkF m 41 #[.val (.int ia), .val (.int ib), .val (.int ic), .val (.int ie), .val (.int ix), .val (.int ifl), .val (.int qq), .val (.int dd), .val (.int (qq + dd)), .unset, .unset, .unset, .unset, .unset, .unset, .unset, .unset, .unset, .unset, .unset, .unset, .unset, .unset, .unset, .unset, .unset, .unset, .unset, .unset, .unset] [])
    have hp : (qq + dd).toInt = qq.toInt + dd.toInt := (own_ar2 qq dd hq hd)
    generalize (qq + dd) = pp at hp ⊢
    show Go _ _ _ _ _ _ _ TJ (mkF m 41 #[.val (.int ia), .val (.int ib), .val (.int ic), .val (.int ie), .val (.int ix), .val (.int ifl), .val (.int qq), .val (.int dd), .val (.int pp), .unset, .unset, .unset, .unset, .unset, .unset, .unset, .unset, .unset, .unset, .unset, .unset, .unset, .unset, .unset, .unset, .unset, .unset, .unset, .unset, .unset] [])
    refine Go.step (fun _ k => XS.iload XJ.here hx rfl (hb hby at_41) rfl k) ?_
    refine Go.step (fun _ k => XS.iloadN XJ.here hx rfl (hb hby at_43) rfl k) ?_
    refine Go.step (XJ.ldcInt hx hown (mvT hZ (hw _ (List.mem_of_getElem? (i := 0) rfl))) (g := (mkF m 44 #[.val (.int ia), .val (.int ib), .val (.int ic), .val (.int ie), .val (.int ix), .val (.int ifl), .val (.int qq), .val (.int dd), .val (.int pp), .unset, .unset, .unset, .unset, .unset, .unset, .unset, .unset, .unset, .unset, .unset, .unset, .unset, .unset, .unset, .unset, .unset, .unset, .unset, .unset, .unset] [(.int ic), (.int pp)])) rfl (hb hby at_44)) ?_
    refine Go.step (fun _ k => XS.iand XJ.here hx rfl (hb hby at_46) rfl k) ?_
    refine Go.step (fun _ k => XS.iadd XJ.here hx rfl (hb hby at_47) rfl k) ?_
    refine Go.step (fun _ k => XS.istore XJ.here hx rfl (hb hby at_48) rfl (l' := #[.val (.int ia), .val (.int ib), .val (.int ic), .val (.int ie), .val (.int ix), .val (.int ifl), .val (.int qq), .val (.int dd), .val (.int pp), .val (.int (pp + (ic &&& (65535 : Int32)))), .unset, .unset, .unset, .unset, .unset, .unset, .unset, .unset, .unset, .unset, .unset, .unset, .unset, .unset, .unset, .unset, .unset, .unset, .unset, .unset]) rfl k) ?_
    show Go _ _ _ _ _ _ _ TJ (mkF m 50 #[.val (.int ia), .val (.int ib), .val (.int ic), .val (.int ie), .val (.int ix), .val (.int ifl), .val (.int qq), .val (.int dd), .val (.int pp), .val (.int (pp + (ic &&& (65535 : Int32)))), .unset, .unset, .unset, .unset, .unset, .unset, .unset, .unset, .unset, .unset, .unset, .unset, .unset, .unset, .unset, .unset, .unset, .unset, .unset, .unset] [])
    have hv : pp.toInt ≤ (pp + (ic &&& (65535 : Int32))).toInt ∧ (pp + (ic &&& (65535 : Int32))).toInt ≤ pp.toInt + 65535 := (own_ar3 pp ic qq dd hp hq hd)
    generalize (pp + (ic &&& (65535 : Int32))) = vv at hv ⊢
    show Go _ _ _ _ _ _ _ TJ (mkF m 50 #[.val (.int ia), .val (.int ib), .val (.int ic), .val (.int ie), .val (.int ix), .val (.int ifl), .val (.int qq), .val (.int dd), .val (.int pp), .val (.int vv), .unset, .unset, .unset, .unset, .unset, .unset, .unset, .unset, .unset, .unset, .unset, .unset, .unset, .unset, .unset, .unset, .unset, .unset, .unset, .unset] [])
    have K : ∀ (TK : State) (hK : Heap) (LK : List Loc) (ad : Addr), (Stand p l e room_1 s m #[(.int ia), (.int ib), (.int ic), (.int ie), (.int ix), (.int ifl)] below meth c TK LK 0 0) → (TK.heap = hK) → (Fr n0 LK) → (n0 ≤ hK.size) → (Old Z n0 hK) → Go p e below s room_1.cells room_1.slots (Q_rm0 Z ia ib ic ie ix ifl G1 x1 x2 h0 n0) TK (mkF m 66 #[.val (.int ia), .val (.int ib), .val (.int ic), .val (.int ie), .val (.int ix), .val (.int ifl), .val (.int qq), .val (.int dd), .val (.int pp), .val (.int vv), .unset, .unset, .unset, .unset, .unset, .unset, .unset, .unset, .unset, .unset, .unset, .unset, .unset, .unset, .unset, .unset, .unset, .unset, .unset, .unset] [(.ref ad)]) := by
      intro TK hK LK ad XK eK NK ZK Ok 
      refine Go.step (fun _ k => XS.astore XK.here hx rfl (hb hby at_66) rfl rfl (l' := #[.val (.int ia), .val (.int ib), .val (.int ic), .val (.int ie), .val (.int ix), .val (.int ifl), .val (.int qq), .val (.int dd), .val (.int pp), .val (.int vv), .val (.ref ad), .unset, .unset, .unset, .unset, .unset, .unset, .unset, .unset, .unset, .unset, .unset, .unset, .unset, .unset, .unset, .unset, .unset, .unset, .unset]) rfl k) ?_
      show Go _ _ _ _ _ _ _ TK (mkF m 68 #[.val (.int ia), .val (.int ib), .val (.int ic), .val (.int ie), .val (.int ix), .val (.int ifl), .val (.int qq), .val (.int dd), .val (.int pp), .val (.int vv), .val (.ref ad), .unset, .unset, .unset, .unset, .unset, .unset, .unset, .unset, .unset, .unset, .unset, .unset, .unset, .unset, .unset, .unset, .unset, .unset, .unset] [])
      refine Go.step (fun _ k => XS.iloadN XK.here hx rfl (hb hby at_68) rfl k) ?_
      refine Go.step (fun _ k => XS.sipush XK.here hx rfl (hb hby at_69) k) ?_
      refine Go.step (fun _ k => XS.iand XK.here hx rfl (hb hby at_72) rfl k) ?_
      refine Go.step (fun _ k => XS.i2c XK.here hx rfl (hb hby at_73) rfl k) ?_
      obtain ⟨_, _, ⟨T70, L70, k70, n70⟩, -, X70, ⟨Lc70, hQ70, l70, y70, z70⟩, st70⟩ := Jvm.LawKit.callS XK hx (y := (⟨"java/lang/String", "valueOf", "(C)Ljava/lang/String;"⟩ : MethodName)) hown (mvT hZ (hw _ (List.mem_of_getElem? (i := 4) rfl))) (mvT hZ (hw _ (List.mem_of_getElem? (i := 5) rfl))) (mvT hZ (hw _ (List.mem_of_getElem? (i := 6) rfl))) (mvT hZ (hw _ (List.mem_of_getElem? (i := 7) rfl))) (by decide) (backOf (W := 0) (rmVo l Z a0 hw [] ((ie &&& (255 : Int32)).toUInt32.toUInt16.toUInt32.toInt32) G1 hK n0 ZK Ok O2 P5 (own_ar4 ie)) hZ (hw _ (List.mem_of_getElem? (i := 7) rfl)) (hw _ (List.mem_of_getElem? (i := 6) rfl)) (by decide) (by decide)) (g := (mkF m 74 #[.val (.int ia), .val (.int ib), .val (.int ic), .val (.int ie), .val (.int ix), .val (.int ifl), .val (.int qq), .val (.int dd), .val (.int pp), .val (.int vv), .val (.ref ad), .unset, .unset, .unset, .unset, .unset, .unset, .unset, .unset, .unset, .unset, .unset, .unset, .unset, .unset, .unset, .unset, .unset, .unset, .unset] [(.int ((ie &&& (255 : Int32)).toUInt32.toUInt16.toUInt32.toInt32))])) rfl (by rw [hml]; rfl) (argsL := [(.int ((ie &&& (255 : Int32)).toUInt32.toUInt16.toUInt32.toInt32))]) (rest := []) (lenOf pd__C_Ljava_lang_String_ rfl) rfl (by show 2 * 0 + _ ≤ _; exact Nat.le_of_eq rfl) (hb hby at_74) (fun _ _ => ⟨rfl, eK, (by decide : 0 + 2 ≤ _), (by decide : 0 + 5 ≤ _)⟩)
      dsimp only [Pt.U, Pt.locs, Pt.cells, Pt.slots] at X70 l70 y70 z70 st70 hQ70
      subst l70 y70 z70
      obtain ⟨h70, e70⟩ : ∃ h, T70.heap = h := ⟨_, rfl⟩
      rw [e70] at hQ70
      obtain ⟨as__70, at__70, kt_70, vt_70, rfl, Nq70, Kq70, Es_70, Fv_70, Vt_70, z1_70, z2_70⟩ := hQ70
      have N70 := Fr.app NK Nq70
      have Z70 : n0 ≤ h70.size := Nat.le_trans ZK Kq70.1
      have g_as__70 : n0 ≤ as__70 := Nat.le_trans ZK z1_70
      have g_at__70 : n0 ≤ at__70 := Nat.le_trans ZK z2_70
      refine Go.step st70 ?_
      show Go _ _ _ _ _ _ _ T70 (mkF m 77 #[.val (.int ia), .val (.int ib), .val (.int ic), .val (.int ie), .val (.int ix), .val (.int ifl), .val (.int qq), .val (.int dd), .val (.int pp), .val (.int vv), .val (.ref ad), .unset, .unset, .unset, .unset, .unset, .unset, .unset, .unset, .unset, .unset, .unset, .unset, .unset, .unset, .unset, .unset, .unset, .unset, .unset] [(.ref as__70)])
      refine Go.step (fun _ k => XS.astore X70.here hx rfl (hb hby at_77) rfl rfl (l' := #[.val (.int ia), .val (.int ib), .val (.int ic), .val (.int ie), .val (.int ix), .val (.int ifl), .val (.int qq), .val (.int dd), .val (.int pp), .val (.int vv), .val (.ref ad), .val (.ref as__70), .unset, .unset, .unset, .unset, .unset, .unset, .unset, .unset, .unset, .unset, .unset, .unset, .unset, .unset, .unset, .unset, .unset, .unset]) rfl k) ?_
      show Go _ _ _ _ _ _ _ T70 (mkF m 79 #[.val (.int ia), .val (.int ib), .val (.int ic), .val (.int ie), .val (.int ix), .val (.int ifl), .val (.int qq), .val (.int dd), .val (.int pp), .val (.int vv), .val (.ref ad), .val (.ref as__70), .unset, .unset, .unset, .unset, .unset, .unset, .unset, .unset, .unset, .unset, .unset, .unset, .unset, .unset, .unset, .unset, .unset, .unset] [])
      have M : ∀ (TM : State) (hM : Heap) (LM : List Loc) (jL : Int64), (Stand p l e room_1 s m #[(.int ia), (.int ib), (.int ic), (.int ie), (.int ix), (.int ifl)] below meth c TM LM 2 5) → (TM.heap = hM) → (Fr n0 LM) → (n0 ≤ hM.size) → (Old Z n0 hM) → (Exa Z hM as__70 "java/lang/String") → (Fld Z hM as__70 "java/lang/String" "value" "[B" (.ref at__70)) → (Arv Z hM at__70 kt_70 .byte (1 : Int32) vt_70 (.int (0 : Int32))) → (-2147483648 ≤ jL.toInt ∧ jL.toInt ≤ 2147483648) → Go p e below s room_1.cells room_1.slots (Q_rm0 Z ia ib ic ie ix ifl G1 x1 x2 h0 n0) TM (mkF m 129 #[.val (.int ia), .val (.int ib), .val (.int ic), .val (.int ie), .val (.int ix), .val (.int ifl), .val (.int qq), .val (.int dd), .val (.int pp), .val (.int vv), .val (.ref ad), .val (.ref as__70), .val (.long jL), .second, .val (.double (FP.l2d jL)), .second, .unset, .unset, .unset, .unset, .unset, .unset, .unset, .unset, .unset, .unset, .unset, .unset, .unset, .unset] []) := by
        intro TM hM LM jL XM eM NM ZM Om Em Fm Vm hL
        obtain ⟨T71, h71, X71, e71, E71, A71, D71, -, st71⟩ := newO XM hx hZ hown (hw _ (List.mem_of_getElem? (i := 30) rfl)) (hw _ (List.mem_of_getElem? (i := 31) rfl)) (hw _ (List.mem_of_getElem? (i := 32) rfl)) eM (g := (mkF m 129 #[.val (.int ia), .val (.int ib), .val (.int ic), .val (.int ie), .val (.int ix), .val (.int ifl), .val (.int qq), .val (.int dd), .val (.int pp), .val (.int vv), .val (.ref ad), .val (.ref as__70), .val (.long jL), .second, .val (.double (FP.l2d jL)), .second, .unset, .unset, .unset, .unset, .unset, .unset, .unset, .unset, .unset, .unset, .unset, .unset, .unset, .unset] [])) rfl (hb hby at_129) (by decide) (by decide)
        obtain ⟨b71, g71⟩ : ∃ z, z = hM.size := ⟨_, rfl⟩
        rw [← g71] at A71 D71 st71
        refine Go.step st71 ?_
        have g_b71 : n0 ≤ b71 := Nat.le_trans ZM (Nat.le_of_eq g71.symm)
        have ne_as__70_b71 : as__70 ≠ b71 := Nat.ne_of_lt (Nat.lt_of_lt_of_le Em.lt (Nat.le_of_eq g71.symm))
        have ne_at__70_b71 : at__70 ≠ b71 := Nat.ne_of_lt (Nat.lt_of_lt_of_le Vm.lt (Nat.le_of_eq g71.symm))
        have Z71 : n0 ≤ h71.size := Nat.le_trans ZM E71.1
        have Fname_71 : Fld Z h71 b71 "com/example/wayfront/wayfront/decision/Criterion" "name" "Ljava/lang/String;" .null := D71 (Or.inr (hw _ (List.mem_of_getElem? (i := 57) rfl))) (ty := (.object "java/lang/String")) (by decide)
        have Fdirection_71 : Fld Z h71 b71 "com/example/wayfront/wayfront/decision/Criterion" "direction" "Lcom/example/wayfront/wayfront/decision/Criterion$Direction;" .null := D71 (Or.inr (hw _ (List.mem_of_getElem? (i := 59) rfl))) (ty := (.object "com/example/wayfront/wayfront/decision/Criterion$Direction")) (by decide)
        have Findifference_71 : Fld Z h71 b71 "com/example/wayfront/wayfront/decision/Criterion" "indifference" "D" (.double (0 : UInt64)) := D71 (Or.inr (hw _ (List.mem_of_getElem? (i := 61) rfl))) (ty := .double) (by decide)
        have Fpreference_71 : Fld Z h71 b71 "com/example/wayfront/wayfront/decision/Criterion" "preference" "D" (.double (0 : UInt64)) := D71 (Or.inr (hw _ (List.mem_of_getElem? (i := 63) rfl))) (ty := .double) (by decide)
        have Fveto_71 : Fld Z h71 b71 "com/example/wayfront/wayfront/decision/Criterion" "veto" "D" (.double (0 : UInt64)) := D71 (Or.inr (hw _ (List.mem_of_getElem? (i := 65) rfl))) (ty := .double) (by decide)
        show Go _ _ _ _ _ _ _ T71 (mkF m 132 #[.val (.int ia), .val (.int ib), .val (.int ic), .val (.int ie), .val (.int ix), .val (.int ifl), .val (.int qq), .val (.int dd), .val (.int pp), .val (.int vv), .val (.ref ad), .val (.ref as__70), .val (.long jL), .second, .val (.double (FP.l2d jL)), .second, .unset, .unset, .unset, .unset, .unset, .unset, .unset, .unset, .unset, .unset, .unset, .unset, .unset, .unset] [(.ref b71)])
        refine Go.step (fun _ k => XS.dup X71.here hx rfl (hb hby at_132) rfl rfl k) ?_
        refine Go.step (fun _ k => XS.aload X71.here hx rfl (hb hby at_133) rfl rfl k) ?_
        refine Go.step (fun _ k => XS.aload X71.here hx rfl (hb hby at_135) rfl rfl k) ?_
        refine Go.step (fun _ k => XS.iload X71.here hx rfl (hb hby at_137) rfl k) ?_
        refine Go.step (fun _ k => XS.i2dS X71.here hx rfl (hb hby at_139) rfl rfl k) ?_
        show Go _ _ _ _ _ _ _ T71 (mkF m 140 #[.val (.int ia), .val (.int ib), .val (.int ic), .val (.int ie), .val (.int ix), .val (.int ifl), .val (.int qq), .val (.int dd), .val (.int pp), .val (.int vv), .val (.ref ad), .val (.ref as__70), .val (.long jL), .second, .val (.double (FP.l2d jL)), .second, .unset, .unset, .unset, .unset, .unset, .unset, .unset, .unset, .unset, .unset, .unset, .unset, .unset, .unset] [(.double (FP.i2d qq)), (.ref ad), (.ref as__70), (.ref b71), (.ref b71)])
        obtain ⟨jq, hjq, ejq⟩ : ∃ z : Int64, FP.i2d qq = FP.l2d z ∧ z.toInt = qq.toInt := ⟨_, i2d_w _, c_i2l _⟩
        rw [hjq]
        show Go _ _ _ _ _ _ _ T71 (mkF m 140 #[.val (.int ia), .val (.int ib), .val (.int ic), .val (.int ie), .val (.int ix), .val (.int ifl), .val (.int qq), .val (.int dd), .val (.int pp), .val (.int vv), .val (.ref ad), .val (.ref as__70), .val (.long jL), .second, .val (.double (FP.l2d jL)), .second, .unset, .unset, .unset, .unset, .unset, .unset, .unset, .unset, .unset, .unset, .unset, .unset, .unset, .unset] [(.double (FP.l2d jq)), (.ref ad), (.ref as__70), (.ref b71), (.ref b71)])
        refine Go.step (fun _ k => XS.iload X71.here hx rfl (hb hby at_140) rfl k) ?_
        refine Go.step (fun _ k => XS.i2dS X71.here hx rfl (hb hby at_142) rfl rfl k) ?_
        show Go _ _ _ _ _ _ _ T71 (mkF m 143 #[.val (.int ia), .val (.int ib), .val (.int ic), .val (.int ie), .val (.int ix), .val (.int ifl), .val (.int qq), .val (.int dd), .val (.int pp), .val (.int vv), .val (.ref ad), .val (.ref as__70), .val (.long jL), .second, .val (.double (FP.l2d jL)), .second, .unset, .unset, .unset, .unset, .unset, .unset, .unset, .unset, .unset, .unset, .unset, .unset, .unset, .unset] [(.double (FP.i2d pp)), (.double (FP.l2d jq)), (.ref ad), (.ref as__70), (.ref b71), (.ref b71)])
        obtain ⟨jp, hjp, ejp⟩ : ∃ z : Int64, FP.i2d pp = FP.l2d z ∧ z.toInt = pp.toInt := ⟨_, i2d_w _, c_i2l _⟩
        rw [hjp]
        show Go _ _ _ _ _ _ _ T71 (mkF m 143 #[.val (.int ia), .val (.int ib), .val (.int ic), .val (.int ie), .val (.int ix), .val (.int ifl), .val (.int qq), .val (.int dd), .val (.int pp), .val (.int vv), .val (.ref ad), .val (.ref as__70), .val (.long jL), .second, .val (.double (FP.l2d jL)), .second, .unset, .unset, .unset, .unset, .unset, .unset, .unset, .unset, .unset, .unset, .unset, .unset, .unset, .unset] [(.double (FP.l2d jp)), (.double (FP.l2d jq)), (.ref ad), (.ref as__70), (.ref b71), (.ref b71)])
        refine Go.step (fun _ k => XS.iload X71.here hx rfl (hb hby at_143) rfl k) ?_
        refine Go.step (fun _ k => XS.i2dS X71.here hx rfl (hb hby at_145) rfl rfl k) ?_
        show Go _ _ _ _ _ _ _ T71 (mkF m 146 #[.val (.int ia), .val (.int ib), .val (.int ic), .val (.int ie), .val (.int ix), .val (.int ifl), .val (.int qq), .val (.int dd), .val (.int pp), .val (.int vv), .val (.ref ad), .val (.ref as__70), .val (.long jL), .second, .val (.double (FP.l2d jL)), .second, .unset, .unset, .unset, .unset, .unset, .unset, .unset, .unset, .unset, .unset, .unset, .unset, .unset, .unset] [(.double (FP.i2d vv)), (.double (FP.l2d jp)), (.double (FP.l2d jq)), (.ref ad), (.ref as__70), (.ref b71), (.ref b71)])
        obtain ⟨jv, hjv, ejv⟩ : ∃ z : Int64, FP.i2d vv = FP.l2d z ∧ z.toInt = vv.toInt := ⟨_, i2d_w _, c_i2l _⟩
        rw [hjv]
        show Go _ _ _ _ _ _ _ T71 (mkF m 146 #[.val (.int ia), .val (.int ib), .val (.int ic), .val (.int ie), .val (.int ix), .val (.int ifl), .val (.int qq), .val (.int dd), .val (.int pp), .val (.int vv), .val (.ref ad), .val (.ref as__70), .val (.long jL), .second, .val (.double (FP.l2d jL)), .second, .unset, .unset, .unset, .unset, .unset, .unset, .unset, .unset, .unset, .unset, .unset, .unset, .unset, .unset] [(.double (FP.l2d jv)), (.double (FP.l2d jp)), (.double (FP.l2d jq)), (.ref ad), (.ref as__70), (.ref b71), (.ref b71)])
        have f73 : Exa Z h71 as__70 "java/lang/String" := (Em.ext E71)
        have f74 : Fld Z h71 as__70 "java/lang/String" "value" "[B" (.ref at__70) := (Fm.ext E71)
        have f75 : Arv Z h71 at__70 kt_70 .byte (1 : Int32) vt_70 (.int (0 : Int32)) := (Vm.ext E71)
        obtain ⟨_, _, ⟨T72, L72, k72, n72⟩, -, X72, ⟨Lc72, hQ72, l72, y72, z72⟩, st72⟩ := X71.specialBack hx (y := (⟨"com/example/wayfront/wayfront/decision/Criterion", "<init>", "(Ljava/lang/String;Lcom/example/wayfront/wayfront/decision/Criterion$Direction;DDD)V"⟩ : MethodName)) rfl hown (mvT hZ (hw _ (List.mem_of_getElem? (i := 33) rfl))) (mvT hZ (hw _ (List.mem_of_getElem? (i := 34) rfl))) (mvT hZ (hw _ (List.mem_of_getElem? (i := 35) rfl))) (by decide) (backOf (W := 1) (rmIn l Z a0 hw [] b71 as__70 ad (FP.l2d jq) (FP.l2d jp) (FP.l2d jv) at__70 kt_70 vt_70 jq jp jv h71 n0 Z71 A71 g_b71 Fname_71 Fdirection_71 Findifference_71 Fpreference_71 Fveto_71 f73 f74 f75 rfl ⟨by omega, by omega⟩ rfl ⟨by omega, by omega⟩ rfl ⟨by omega, by omega⟩ (by rw [← RoadKit.l2d_zero]; exact own_le (a := 0) ⟨by decide, by decide⟩ ⟨by omega, by omega⟩ (show (0 : Int64).toInt ≤ jq.toInt by show (0 : Int) ≤ _; omega) .g) (own_le ⟨by omega, by omega⟩ ⟨by omega, by omega⟩ (by omega) .g) (own_le ⟨by omega, by omega⟩ ⟨by omega, by omega⟩ (by omega) .g)) hZ (hw _ (List.mem_of_getElem? (i := 35) rfl)) (hw _ (List.mem_of_getElem? (i := 32) rfl)) (by decide) (by decide)) (g := (mkF m 146 #[.val (.int ia), .val (.int ib), .val (.int ic), .val (.int ie), .val (.int ix), .val (.int ifl), .val (.int qq), .val (.int dd), .val (.int pp), .val (.int vv), .val (.ref ad), .val (.ref as__70), .val (.long jL), .second, .val (.double (FP.l2d jL)), .second, .unset, .unset, .unset, .unset, .unset, .unset, .unset, .unset, .unset, .unset, .unset, .unset, .unset, .unset] [(.double (FP.l2d jv)), (.double (FP.l2d jp)), (.double (FP.l2d jq)), (.ref ad), (.ref as__70), (.ref b71), (.ref b71)])) rfl (by rw [hml]; rfl) (Steps.refl _) (a := b71) (argsL := [(.ref as__70), (.ref ad), (.double (FP.l2d jq)), (.double (FP.l2d jp)), (.double (FP.l2d jv))]) (rest := [(.ref b71)]) (lenOf pd__Ljava_lang_String_Lcom_example_wayfront_wayfront_decision_Criterion_Direction_DDD_V rfl) rfl (by show 2 * 0 + _ ≤ _; exact Nat.le_of_eq rfl) (hb hby at_146) (fun _ _ => ⟨rfl, e71, (by decide : 3 + 0 ≤ _), (by decide : 10 + 0 ≤ _)⟩)
        dsimp only [Pt.U, Pt.locs, Pt.cells, Pt.slots] at X72 l72 y72 z72 st72 hQ72
        subst l72 y72 z72
        obtain ⟨h72, e72⟩ : ∃ h, T72.heap = h := ⟨_, rfl⟩
        rw [e72] at hQ72
        obtain ⟨rfl, Nq72, Kq72, E1_72, Gi_72, Gp_72⟩ := hQ72
        have N72 := Fr.app NM Nq72
        have Z72 : n0 ≤ h72.size := Nat.le_trans Z71 Kq72.1
        refine Go.trans st72 ?_
        show Go _ _ _ _ _ _ _ T72 (mkF m 149 #[.val (.int ia), .val (.int ib), .val (.int ic), .val (.int ie), .val (.int ix), .val (.int ifl), .val (.int qq), .val (.int dd), .val (.int pp), .val (.int vv), .val (.ref ad), .val (.ref as__70), .val (.long jL), .second, .val (.double (FP.l2d jL)), .second, .unset, .unset, .unset, .unset, .unset, .unset, .unset, .unset, .unset, .unset, .unset, .unset, .unset, .unset] [(.ref b71)])
        refine Go.step (fun _ k => XS.astore X72.here hx rfl (hb hby at_149) rfl rfl (l' := #[.val (.int ia), .val (.int ib), .val (.int ic), .val (.int ie), .val (.int ix), .val (.int ifl), .val (.int qq), .val (.int dd), .val (.int pp), .val (.int vv), .val (.ref ad), .val (.ref as__70), .val (.long jL), .second, .val (.double (FP.l2d jL)), .second, .val (.ref b71), .unset, .unset, .unset, .unset, .unset, .unset, .unset, .unset, .unset, .unset, .unset, .unset, .unset]) rfl k) ?_
        show Go _ _ _ _ _ _ _ T72 (mkF m 151 #[.val (.int ia), .val (.int ib), .val (.int ic), .val (.int ie), .val (.int ix), .val (.int ifl), .val (.int qq), .val (.int dd), .val (.int pp), .val (.int vv), .val (.ref ad), .val (.ref as__70), .val (.long jL), .second, .val (.double (FP.l2d jL)), .second, .val (.ref b71), .unset, .unset, .unset, .unset, .unset, .unset, .unset, .unset, .unset, .unset, .unset, .unset, .unset] [])
        rcases own_six (l := jL.toInt) hp hd.1 with q | q | q | q | q | q
        · show Go _ _ _ _ _ _ _ T72 (mkF m 151 #[.val (.int ia), .val (.int ib), .val (.int ic), .val (.int ie), .val (.int ix), .val (.int ifl), .val (.int qq), .val (.int dd), .val (.int pp), .val (.int vv), .val (.ref ad), .val (.ref as__70), .val (.long jL), .second, .val (.double (FP.l2d jL)), .second, .val (.ref b71), .unset, .unset, .unset, .unset, .unset, .unset, .unset, .unset, .unset, .unset, .unset, .unset, .unset] [])
          refine Go.step (fun _ k => XS.aload X72.here hx rfl (hb hby at_151) rfl rfl k) ?_
          refine Go.step (fun _ k => XS.dload X72.here hx rfl (hb hby at_153) rfl k) ?_
          obtain ⟨cq76, kq76, q76a, q76b, q76c⟩ := isOf hZ e72 E1_72
          obtain ⟨_, _, ⟨T76, L76, k76, n76⟩, -, X76, ⟨Lc76, hQ76, l76, y76, z76⟩, st76⟩ := X72.virtualBack hx (y := (⟨"com/example/wayfront/wayfront/decision/Criterion", "concordance", "(D)D"⟩ : MethodName)) (z := (⟨"com/example/wayfront/wayfront/decision/Criterion", "concordance", "(D)D"⟩ : MethodName)) hown (mvT hZ (hw _ (List.mem_of_getElem? (i := 66) rfl))) (mvT hZ (hw _ (List.mem_of_getElem? (i := 67) rfl))) (notFace_of_selects (args := #[]) (mvT hZ (hw _ (List.mem_of_getElem? (i := 69) rfl)))) (mvT hZ (hw _ (List.mem_of_getElem? (i := 69) rfl))) (mvT hZ (hw _ (List.mem_of_getElem? (i := 68) rfl))) (by decide) (backOf (W := 0) (rmCa l Z a0 hw [] b71 (FP.l2d jL) (FP.l2d jp) (FP.l2d jq) h72 n0 Z72 Gi_72 Gp_72 (mt (own_gt (by omega) (by omega) .g).mp (by omega))) hZ (hw _ (List.mem_of_getElem? (i := 70) rfl)) (hw _ (List.mem_of_getElem? (i := 32) rfl)) (by decide) (by decide)) q76a q76c (g := (mkF m 155 #[.val (.int ia), .val (.int ib), .val (.int ic), .val (.int ie), .val (.int ix), .val (.int ifl), .val (.int qq), .val (.int dd), .val (.int pp), .val (.int vv), .val (.ref ad), .val (.ref as__70), .val (.long jL), .second, .val (.double (FP.l2d jL)), .second, .val (.ref b71), .unset, .unset, .unset, .unset, .unset, .unset, .unset, .unset, .unset, .unset, .unset, .unset, .unset] [(.double (FP.l2d jL)), (.ref b71)])) rfl (by rw [hml]; rfl) (Steps.refl _) (argsL := [(.double (FP.l2d jL))]) (rest := []) (lenOf pd__D_D rfl) rfl (by show 2 * 0 + _ ≤ _; exact Nat.le_of_eq rfl) (hb hby at_155) (fun _ _ => ⟨rfl, e72, (by decide : 3 + 0 ≤ _), (by decide : 10 + 0 ≤ _)⟩)
          dsimp only [Pt.U, Pt.locs, Pt.cells, Pt.slots] at X76 l76 y76 z76 st76 hQ76
          subst l76 y76 z76
          obtain ⟨h76, e76⟩ : ∃ h, T76.heap = h := ⟨_, rfl⟩
          rw [e76] at hQ76
          obtain ⟨rfl, Nq76, hs76⟩ := hQ76
          have N76 := Fr.app N72 Nq76
          rw [hs76] at e76
          refine Go.trans st76 ?_
          show Go _ _ _ _ _ _ _ T76 (mkF m 158 #[.val (.int ia), .val (.int ib), .val (.int ic), .val (.int ie), .val (.int ix), .val (.int ifl), .val (.int qq), .val (.int dd), .val (.int pp), .val (.int vv), .val (.ref ad), .val (.ref as__70), .val (.long jL), .second, .val (.double (FP.l2d jL)), .second, .val (.ref b71), .unset, .unset, .unset, .unset, .unset, .unset, .unset, .unset, .unset, .unset, .unset, .unset, .unset] [(.double (4607182418800017408 : UInt64))])
          refine Go.step (fun _ k => XS.dstore X76.here hx rfl (hb hby at_158) rfl (l' := #[.val (.int ia), .val (.int ib), .val (.int ic), .val (.int ie), .val (.int ix), .val (.int ifl), .val (.int qq), .val (.int dd), .val (.int pp), .val (.int vv), .val (.ref ad), .val (.ref as__70), .val (.long jL), .second, .val (.double (FP.l2d jL)), .second, .val (.ref b71), .val (.double (4607182418800017408 : UInt64)), .second, .unset, .unset, .unset, .unset, .unset, .unset, .unset, .unset, .unset, .unset, .unset]) rfl k) ?_
          show Go _ _ _ _ _ _ _ T76 (mkF m 160 #[.val (.int ia), .val (.int ib), .val (.int ic), .val (.int ie), .val (.int ix), .val (.int ifl), .val (.int qq), .val (.int dd), .val (.int pp), .val (.int vv), .val (.ref ad), .val (.ref as__70), .val (.long jL), .second, .val (.double (FP.l2d jL)), .second, .val (.ref b71), .val (.double (4607182418800017408 : UInt64)), .second, .unset, .unset, .unset, .unset, .unset, .unset, .unset, .unset, .unset, .unset, .unset] [])
          refine Go.step (fun _ k => XS.aload X76.here hx rfl (hb hby at_160) rfl rfl k) ?_
          refine Go.step (fun _ k => XS.dload X76.here hx rfl (hb hby at_162) rfl k) ?_
          refine Go.step (fun _ k => XS.dconst1 X76.here hx rfl (v := (4607182418800017408 : UInt64)) (hb hby at_164) (by decide +kernel) k) ?_
          refine Go.step (fun _ k => XS.daddS X76.here hx rfl (hb hby at_165) rfl (own_inc hL).1 rfl k) ?_
          show Go _ _ _ _ _ _ _ T76 (mkF m 166 #[.val (.int ia), .val (.int ib), .val (.int ic), .val (.int ie), .val (.int ix), .val (.int ifl), .val (.int qq), .val (.int dd), .val (.int pp), .val (.int vv), .val (.ref ad), .val (.ref as__70), .val (.long jL), .second, .val (.double (FP.l2d jL)), .second, .val (.ref b71), .val (.double (4607182418800017408 : UInt64)), .second, .unset, .unset, .unset, .unset, .unset, .unset, .unset, .unset, .unset, .unset, .unset] [(.double (FP.dadd (FP.l2d jL) (4607182418800017408 : UInt64))), (.ref b71)])
          obtain ⟨jM, hjM, ejM⟩ := (own_inc hL).2
          rw [hjM]
          show Go _ _ _ _ _ _ _ T76 (mkF m 166 #[.val (.int ia), .val (.int ib), .val (.int ic), .val (.int ie), .val (.int ix), .val (.int ifl), .val (.int qq), .val (.int dd), .val (.int pp), .val (.int vv), .val (.ref ad), .val (.ref as__70), .val (.long jL), .second, .val (.double (FP.l2d jL)), .second, .val (.ref b71), .val (.double (4607182418800017408 : UInt64)), .second, .unset, .unset, .unset, .unset, .unset, .unset, .unset, .unset, .unset, .unset, .unset] [(.double (FP.l2d jM)), (.ref b71)])
          obtain ⟨cq77, kq77, q77a, q77b, q77c⟩ := isOf hZ e76 E1_72
          obtain ⟨_, _, ⟨T77, L77, k77, n77⟩, -, X77, ⟨Lc77, hQ77, l77, y77, z77⟩, st77⟩ := X76.virtualBack hx (y := (⟨"com/example/wayfront/wayfront/decision/Criterion", "concordance", "(D)D"⟩ : MethodName)) (z := (⟨"com/example/wayfront/wayfront/decision/Criterion", "concordance", "(D)D"⟩ : MethodName)) hown (mvT hZ (hw _ (List.mem_of_getElem? (i := 66) rfl))) (mvT hZ (hw _ (List.mem_of_getElem? (i := 67) rfl))) (notFace_of_selects (args := #[]) (mvT hZ (hw _ (List.mem_of_getElem? (i := 69) rfl)))) (mvT hZ (hw _ (List.mem_of_getElem? (i := 69) rfl))) (mvT hZ (hw _ (List.mem_of_getElem? (i := 68) rfl))) (by decide) (backOf (W := 0) (rmCa l Z a0 hw [] b71 (FP.l2d jM) (FP.l2d jp) (FP.l2d jq) h72 n0 Z72 Gi_72 Gp_72 (mt (own_gt (by omega) (by omega) .g).mp (by omega))) hZ (hw _ (List.mem_of_getElem? (i := 70) rfl)) (hw _ (List.mem_of_getElem? (i := 32) rfl)) (by decide) (by decide)) q77a q77c (g := (mkF m 166 #[.val (.int ia), .val (.int ib), .val (.int ic), .val (.int ie), .val (.int ix), .val (.int ifl), .val (.int qq), .val (.int dd), .val (.int pp), .val (.int vv), .val (.ref ad), .val (.ref as__70), .val (.long jL), .second, .val (.double (FP.l2d jL)), .second, .val (.ref b71), .val (.double (4607182418800017408 : UInt64)), .second, .unset, .unset, .unset, .unset, .unset, .unset, .unset, .unset, .unset, .unset, .unset] [(.double (FP.l2d jM)), (.ref b71)])) rfl (by rw [hml]; rfl) (Steps.refl _) (argsL := [(.double (FP.l2d jM))]) (rest := []) (lenOf pd__D_D rfl) rfl (by show 2 * 0 + _ ≤ _; exact Nat.le_of_eq rfl) (hb hby at_166) (fun _ _ => ⟨rfl, e76, (by decide : 3 + 0 ≤ _), (by decide : 10 + 0 ≤ _)⟩)
          dsimp only [Pt.U, Pt.locs, Pt.cells, Pt.slots] at X77 l77 y77 z77 st77 hQ77
          subst l77 y77 z77
          obtain ⟨h77, e77⟩ : ∃ h, T77.heap = h := ⟨_, rfl⟩
          rw [e77] at hQ77
          obtain ⟨rfl, Nq77, hs77⟩ := hQ77
          have N77 := Fr.app N76 Nq77
          rw [hs77] at e77
          refine Go.trans st77 ?_
          show Go _ _ _ _ _ _ _ T77 (mkF m 169 #[.val (.int ia), .val (.int ib), .val (.int ic), .val (.int ie), .val (.int ix), .val (.int ifl), .val (.int qq), .val (.int dd), .val (.int pp), .val (.int vv), .val (.ref ad), .val (.ref as__70), .val (.long jL), .second, .val (.double (FP.l2d jL)), .second, .val (.ref b71), .val (.double (4607182418800017408 : UInt64)), .second, .unset, .unset, .unset, .unset, .unset, .unset, .unset, .unset, .unset, .unset, .unset] [(.double (4607182418800017408 : UInt64))])
          refine Go.step (fun _ k => XS.dstore X77.here hx rfl (hb hby at_169) rfl (l' := #[.val (.int ia), .val (.int ib), .val (.int ic), .val (.int ie), .val (.int ix), .val (.int ifl), .val (.int qq), .val (.int dd), .val (.int pp), .val (.int vv), .val (.ref ad), .val (.ref as__70), .val (.long jL), .second, .val (.double (FP.l2d jL)), .second, .val (.ref b71), .val (.double (4607182418800017408 : UInt64)), .second, .val (.double (4607182418800017408 : UInt64)), .second, .unset, .unset, .unset, .unset, .unset, .unset, .unset, .unset, .unset]) rfl k) ?_
          show Go _ _ _ _ _ _ _ T77 (mkF m 171 #[.val (.int ia), .val (.int ib), .val (.int ic), .val (.int ie), .val (.int ix), .val (.int ifl), .val (.int qq), .val (.int dd), .val (.int pp), .val (.int vv), .val (.ref ad), .val (.ref as__70), .val (.long jL), .second, .val (.double (FP.l2d jL)), .second, .val (.ref b71), .val (.double (4607182418800017408 : UInt64)), .second, .val (.double (4607182418800017408 : UInt64)), .second, .unset, .unset, .unset, .unset, .unset, .unset, .unset, .unset, .unset] [])
          refine Go.step (fun _ k => XS.lload X77.here hx rfl (hb hby at_171) rfl k) ?_
          refine Go.step (fun _ k => XS.iload X77.here hx rfl (hb hby at_173) rfl k) ?_
          refine Go.step (fun _ k => XS.i2l X77.here hx rfl (hb hby at_175) rfl k) ?_
          refine Go.step (fun _ k => XS.lcmp X77.here hx rfl (hb hby at_176) rfl k) ?_
          show Go _ _ _ _ _ _ _ T77 (mkF m 177 #[.val (.int ia), .val (.int ib), .val (.int ic), .val (.int ie), .val (.int ix), .val (.int ifl), .val (.int qq), .val (.int dd), .val (.int pp), .val (.int vv), .val (.ref ad), .val (.ref as__70), .val (.long jL), .second, .val (.double (FP.l2d jL)), .second, .val (.ref b71), .val (.double (4607182418800017408 : UInt64)), .second, .val (.double (4607182418800017408 : UInt64)), .second, .unset, .unset, .unset, .unset, .unset, .unset, .unset, .unset, .unset] [(.int (lcmpW jL (qq.toInt64)))])
          have hc177_78 : ¬ ((qq.toInt64) < jL) := (own_ar5 qq jL dd q)
          refine Go.step (fun _ k => XS.ifNo X77.here hx rfl (hb hby at_177) rfl ((if0 _ _).trans (flt (mt (lw_gt _ _).mp hc177_78)).2.2.1) k) ?_
          show Go _ _ _ _ _ _ _ T77 (mkF m 180 #[.val (.int ia), .val (.int ib), .val (.int ic), .val (.int ie), .val (.int ix), .val (.int ifl), .val (.int qq), .val (.int dd), .val (.int pp), .val (.int vv), .val (.ref ad), .val (.ref as__70), .val (.long jL), .second, .val (.double (FP.l2d jL)), .second, .val (.ref b71), .val (.double (4607182418800017408 : UInt64)), .second, .val (.double (4607182418800017408 : UInt64)), .second, .unset, .unset, .unset, .unset, .unset, .unset, .unset, .unset, .unset] [])
          refine Go.step (fun _ k => XS.dload X77.here hx rfl (hb hby at_180) rfl k) ?_
          refine Go.step (fun _ k => XS.dconst1 X77.here hx rfl (v := (4607182418800017408 : UInt64)) (hb hby at_182) (by decide +kernel) k) ?_
          refine Go.step (fun _ k => XS.dcmpS X77.here hx rfl (hb hby at_183) rfl rfl k) ?_
          show Go _ _ _ _ _ _ _ T77 (mkF m 184 #[.val (.int ia), .val (.int ib), .val (.int ic), .val (.int ie), .val (.int ix), .val (.int ifl), .val (.int qq), .val (.int dd), .val (.int pp), .val (.int vv), .val (.ref ad), .val (.ref as__70), .val (.long jL), .second, .val (.double (FP.l2d jL)), .second, .val (.ref b71), .val (.double (4607182418800017408 : UInt64)), .second, .val (.double (4607182418800017408 : UInt64)), .second, .unset, .unset, .unset, .unset, .unset, .unset, .unset, .unset, .unset] [(.int (cmpValue (FP.dcmp (4607182418800017408 : UInt64) (4607182418800017408 : UInt64)) .l))])
          have hc184_79 : (cmpValue (FP.dcmp (4607182418800017408 : UInt64) (4607182418800017408 : UInt64)) .l) = (0 : Int32) := (by decide +kernel)
          refine Go.step (fun _ k => XS.ifNo X77.here hx rfl (hb hby at_184) rfl ((if0 _ _).trans (teq hc184_79).2) k) ?_
          show Go _ _ _ _ _ _ _ T77 (mkF m 187 #[.val (.int ia), .val (.int ib), .val (.int ic), .val (.int ie), .val (.int ix), .val (.int ifl), .val (.int qq), .val (.int dd), .val (.int pp), .val (.int vv), .val (.ref ad), .val (.ref as__70), .val (.long jL), .second, .val (.double (FP.l2d jL)), .second, .val (.ref b71), .val (.double (4607182418800017408 : UInt64)), .second, .val (.double (4607182418800017408 : UInt64)), .second, .unset, .unset, .unset, .unset, .unset, .unset, .unset, .unset, .unset] [])
          refine Go.step (fun _ k => XS.iconst X77.here hx rfl (hb hby at_187) k) ?_
          refine Go.step (fun _ k => XS.goto X77.here hx rfl (pc0 := 188) (pc' := 192) rfl (hb hby at_188) (by decide) (by decide) k) ?_
          show Go _ _ _ _ _ _ _ T77 (mkF m 192 #[.val (.int ia), .val (.int ib), .val (.int ic), .val (.int ie), .val (.int ix), .val (.int ifl), .val (.int qq), .val (.int dd), .val (.int pp), .val (.int vv), .val (.ref ad), .val (.ref as__70), .val (.long jL), .second, .val (.double (FP.l2d jL)), .second, .val (.ref b71), .val (.double (4607182418800017408 : UInt64)), .second, .val (.double (4607182418800017408 : UInt64)), .second, .unset, .unset, .unset, .unset, .unset, .unset, .unset, .unset, .unset] [(.int (1 : Int32))])
          refine Go.step (fun _ k => XS.istore X77.here hx rfl (hb hby at_192) rfl (l' := #[.val (.int ia), .val (.int ib), .val (.int ic), .val (.int ie), .val (.int ix), .val (.int ifl), .val (.int qq), .val (.int dd), .val (.int pp), .val (.int vv), .val (.ref ad), .val (.ref as__70), .val (.long jL), .second, .val (.double (FP.l2d jL)), .second, .val (.ref b71), .val (.double (4607182418800017408 : UInt64)), .second, .val (.double (4607182418800017408 : UInt64)), .second, .val (.int (1 : Int32)), .unset, .unset, .unset, .unset, .unset, .unset, .unset, .unset]) rfl k) ?_
          show Go _ _ _ _ _ _ _ T77 (mkF m 194 #[.val (.int ia), .val (.int ib), .val (.int ic), .val (.int ie), .val (.int ix), .val (.int ifl), .val (.int qq), .val (.int dd), .val (.int pp), .val (.int vv), .val (.ref ad), .val (.ref as__70), .val (.long jL), .second, .val (.double (FP.l2d jL)), .second, .val (.ref b71), .val (.double (4607182418800017408 : UInt64)), .second, .val (.double (4607182418800017408 : UInt64)), .second, .val (.int (1 : Int32)), .unset, .unset, .unset, .unset, .unset, .unset, .unset, .unset] [])
          refine Go.step (fun _ k => XS.goto X77.here hx rfl (pc0 := 194) (pc' := 319) rfl (hb hby at_194) (by decide) (by decide) k) ?_
          show Go _ _ _ _ _ _ _ T77 (mkF m 319 #[.val (.int ia), .val (.int ib), .val (.int ic), .val (.int ie), .val (.int ix), .val (.int ifl), .val (.int qq), .val (.int dd), .val (.int pp), .val (.int vv), .val (.ref ad), .val (.ref as__70), .val (.long jL), .second, .val (.double (FP.l2d jL)), .second, .val (.ref b71), .val (.double (4607182418800017408 : UInt64)), .second, .val (.double (4607182418800017408 : UInt64)), .second, .val (.int (1 : Int32)), .unset, .unset, .unset, .unset, .unset, .unset, .unset, .unset] [])
          refine Go.step (fun _ k => XS.iload X77.here hx rfl (hb hby at_319) rfl k) ?_
          have hc321_80 : ¬ ((1 : Int32) = (0 : Int32)) := (by decide)
          refine Go.step (fun _ k => XS.ifNo X77.here hx rfl (hb hby at_321) rfl ((if0 _ _).trans (feq hc321_80).1) k) ?_
          show Go _ _ _ _ _ _ _ T77 (mkF m 324 #[.val (.int ia), .val (.int ib), .val (.int ic), .val (.int ie), .val (.int ix), .val (.int ifl), .val (.int qq), .val (.int dd), .val (.int pp), .val (.int vv), .val (.ref ad), .val (.ref as__70), .val (.long jL), .second, .val (.double (FP.l2d jL)), .second, .val (.ref b71), .val (.double (4607182418800017408 : UInt64)), .second, .val (.double (4607182418800017408 : UInt64)), .second, .val (.int (1 : Int32)), .unset, .unset, .unset, .unset, .unset, .unset, .unset, .unset] [])
          refine Go.step (fun _ k => XS.dload X77.here hx rfl (hb hby at_324) rfl k) ?_
          refine Go.step (fun _ k => XS.dload X77.here hx rfl (hb hby at_326) rfl k) ?_
          refine Go.step (fun _ k => XS.dcmpS X77.here hx rfl (hb hby at_328) rfl rfl k) ?_
          show Go _ _ _ _ _ _ _ T77 (mkF m 329 #[.val (.int ia), .val (.int ib), .val (.int ic), .val (.int ie), .val (.int ix), .val (.int ifl), .val (.int qq), .val (.int dd), .val (.int pp), .val (.int vv), .val (.ref ad), .val (.ref as__70), .val (.long jL), .second, .val (.double (FP.l2d jL)), .second, .val (.ref b71), .val (.double (4607182418800017408 : UInt64)), .second, .val (.double (4607182418800017408 : UInt64)), .second, .val (.int (1 : Int32)), .unset, .unset, .unset, .unset, .unset, .unset, .unset, .unset] [(.int (cmpValue (FP.dcmp (4607182418800017408 : UInt64) (4607182418800017408 : UInt64)) .g))])
          have hc329_81 : ¬ ((0 : Int32) < (cmpValue (FP.dcmp (4607182418800017408 : UInt64) (4607182418800017408 : UInt64)) .g)) := (by decide +kernel)
          refine Go.step (fun _ k => XS.ifNo X77.here hx rfl (hb hby at_329) rfl ((if0 _ _).trans (flt hc329_81).2.2.1) k) ?_
          show Go _ _ _ _ _ _ _ T77 (mkF m 332 #[.val (.int ia), .val (.int ib), .val (.int ic), .val (.int ie), .val (.int ix), .val (.int ifl), .val (.int qq), .val (.int dd), .val (.int pp), .val (.int vv), .val (.ref ad), .val (.ref as__70), .val (.long jL), .second, .val (.double (FP.l2d jL)), .second, .val (.ref b71), .val (.double (4607182418800017408 : UInt64)), .second, .val (.double (4607182418800017408 : UInt64)), .second, .val (.int (1 : Int32)), .unset, .unset, .unset, .unset, .unset, .unset, .unset, .unset] [])
          refine Go.step (fun _ k => XS.iconst X77.here hx rfl (hb hby at_332) k) ?_
          refine Go.step (fun _ k => XS.goto X77.here hx rfl (pc0 := 333) (pc' := 337) rfl (hb hby at_333) (by decide) (by decide) k) ?_
          show Go _ _ _ _ _ _ _ T77 (mkF m 337 #[.val (.int ia), .val (.int ib), .val (.int ic), .val (.int ie), .val (.int ix), .val (.int ifl), .val (.int qq), .val (.int dd), .val (.int pp), .val (.int vv), .val (.ref ad), .val (.ref as__70), .val (.long jL), .second, .val (.double (FP.l2d jL)), .second, .val (.ref b71), .val (.double (4607182418800017408 : UInt64)), .second, .val (.double (4607182418800017408 : UInt64)), .second, .val (.int (1 : Int32)), .unset, .unset, .unset, .unset, .unset, .unset, .unset, .unset] [(.int (1 : Int32))])
          exact Go.retN X77 hx (t := .boolean) hret hlk (by simp) (hb hby at_337) e77 (by decide) (by decide) ⟨rfl, N77, trivial⟩
        · show Go _ _ _ _ _ _ _ T72 (mkF m 151 #[.val (.int ia), .val (.int ib), .val (.int ic), .val (.int ie), .val (.int ix), .val (.int ifl), .val (.int qq), .val (.int dd), .val (.int pp), .val (.int vv), .val (.ref ad), .val (.ref as__70), .val (.long jL), .second, .val (.double (FP.l2d jL)), .second, .val (.ref b71), .unset, .unset, .unset, .unset, .unset, .unset, .unset, .unset, .unset, .unset, .unset, .unset, .unset] [])
          refine Go.step (fun _ k => XS.aload X72.here hx rfl (hb hby at_151) rfl rfl k) ?_
          refine Go.step (fun _ k => XS.dload X72.here hx rfl (hb hby at_153) rfl k) ?_
          obtain ⟨cq82, kq82, q82a, q82b, q82c⟩ := isOf hZ e72 E1_72
          obtain ⟨_, _, ⟨T82, L82, k82, n82⟩, -, X82, ⟨Lc82, hQ82, l82, y82, z82⟩, st82⟩ := X72.virtualBack hx (y := (⟨"com/example/wayfront/wayfront/decision/Criterion", "concordance", "(D)D"⟩ : MethodName)) (z := (⟨"com/example/wayfront/wayfront/decision/Criterion", "concordance", "(D)D"⟩ : MethodName)) hown (mvT hZ (hw _ (List.mem_of_getElem? (i := 66) rfl))) (mvT hZ (hw _ (List.mem_of_getElem? (i := 67) rfl))) (notFace_of_selects (args := #[]) (mvT hZ (hw _ (List.mem_of_getElem? (i := 69) rfl)))) (mvT hZ (hw _ (List.mem_of_getElem? (i := 69) rfl))) (mvT hZ (hw _ (List.mem_of_getElem? (i := 68) rfl))) (by decide) (backOf (W := 0) (rmCa l Z a0 hw [] b71 (FP.l2d jL) (FP.l2d jp) (FP.l2d jq) h72 n0 Z72 Gi_72 Gp_72 (mt (own_gt (by omega) (by omega) .g).mp (by omega))) hZ (hw _ (List.mem_of_getElem? (i := 70) rfl)) (hw _ (List.mem_of_getElem? (i := 32) rfl)) (by decide) (by decide)) q82a q82c (g := (mkF m 155 #[.val (.int ia), .val (.int ib), .val (.int ic), .val (.int ie), .val (.int ix), .val (.int ifl), .val (.int qq), .val (.int dd), .val (.int pp), .val (.int vv), .val (.ref ad), .val (.ref as__70), .val (.long jL), .second, .val (.double (FP.l2d jL)), .second, .val (.ref b71), .unset, .unset, .unset, .unset, .unset, .unset, .unset, .unset, .unset, .unset, .unset, .unset, .unset] [(.double (FP.l2d jL)), (.ref b71)])) rfl (by rw [hml]; rfl) (Steps.refl _) (argsL := [(.double (FP.l2d jL))]) (rest := []) (lenOf pd__D_D rfl) rfl (by show 2 * 0 + _ ≤ _; exact Nat.le_of_eq rfl) (hb hby at_155) (fun _ _ => ⟨rfl, e72, (by decide : 3 + 0 ≤ _), (by decide : 10 + 0 ≤ _)⟩)
          dsimp only [Pt.U, Pt.locs, Pt.cells, Pt.slots] at X82 l82 y82 z82 st82 hQ82
          subst l82 y82 z82
          obtain ⟨h82, e82⟩ : ∃ h, T82.heap = h := ⟨_, rfl⟩
          rw [e82] at hQ82
          obtain ⟨rfl, Nq82, hs82⟩ := hQ82
          have N82 := Fr.app N72 Nq82
          rw [hs82] at e82
          refine Go.trans st82 ?_
          show Go _ _ _ _ _ _ _ T82 (mkF m 158 #[.val (.int ia), .val (.int ib), .val (.int ic), .val (.int ie), .val (.int ix), .val (.int ifl), .val (.int qq), .val (.int dd), .val (.int pp), .val (.int vv), .val (.ref ad), .val (.ref as__70), .val (.long jL), .second, .val (.double (FP.l2d jL)), .second, .val (.ref b71), .unset, .unset, .unset, .unset, .unset, .unset, .unset, .unset, .unset, .unset, .unset, .unset, .unset] [(.double (4607182418800017408 : UInt64))])
          refine Go.step (fun _ k => XS.dstore X82.here hx rfl (hb hby at_158) rfl (l' := #[.val (.int ia), .val (.int ib), .val (.int ic), .val (.int ie), .val (.int ix), .val (.int ifl), .val (.int qq), .val (.int dd), .val (.int pp), .val (.int vv), .val (.ref ad), .val (.ref as__70), .val (.long jL), .second, .val (.double (FP.l2d jL)), .second, .val (.ref b71), .val (.double (4607182418800017408 : UInt64)), .second, .unset, .unset, .unset, .unset, .unset, .unset, .unset, .unset, .unset, .unset, .unset]) rfl k) ?_
          show Go _ _ _ _ _ _ _ T82 (mkF m 160 #[.val (.int ia), .val (.int ib), .val (.int ic), .val (.int ie), .val (.int ix), .val (.int ifl), .val (.int qq), .val (.int dd), .val (.int pp), .val (.int vv), .val (.ref ad), .val (.ref as__70), .val (.long jL), .second, .val (.double (FP.l2d jL)), .second, .val (.ref b71), .val (.double (4607182418800017408 : UInt64)), .second, .unset, .unset, .unset, .unset, .unset, .unset, .unset, .unset, .unset, .unset, .unset] [])
          refine Go.step (fun _ k => XS.aload X82.here hx rfl (hb hby at_160) rfl rfl k) ?_
          refine Go.step (fun _ k => XS.dload X82.here hx rfl (hb hby at_162) rfl k) ?_
          refine Go.step (fun _ k => XS.dconst1 X82.here hx rfl (v := (4607182418800017408 : UInt64)) (hb hby at_164) (by decide +kernel) k) ?_
          refine Go.step (fun _ k => XS.daddS X82.here hx rfl (hb hby at_165) rfl (own_inc hL).1 rfl k) ?_
          show Go _ _ _ _ _ _ _ T82 (mkF m 166 #[.val (.int ia), .val (.int ib), .val (.int ic), .val (.int ie), .val (.int ix), .val (.int ifl), .val (.int qq), .val (.int dd), .val (.int pp), .val (.int vv), .val (.ref ad), .val (.ref as__70), .val (.long jL), .second, .val (.double (FP.l2d jL)), .second, .val (.ref b71), .val (.double (4607182418800017408 : UInt64)), .second, .unset, .unset, .unset, .unset, .unset, .unset, .unset, .unset, .unset, .unset, .unset] [(.double (FP.dadd (FP.l2d jL) (4607182418800017408 : UInt64))), (.ref b71)])
          obtain ⟨jM, hjM, ejM⟩ := (own_inc hL).2
          rw [hjM]
          show Go _ _ _ _ _ _ _ T82 (mkF m 166 #[.val (.int ia), .val (.int ib), .val (.int ic), .val (.int ie), .val (.int ix), .val (.int ifl), .val (.int qq), .val (.int dd), .val (.int pp), .val (.int vv), .val (.ref ad), .val (.ref as__70), .val (.long jL), .second, .val (.double (FP.l2d jL)), .second, .val (.ref b71), .val (.double (4607182418800017408 : UInt64)), .second, .unset, .unset, .unset, .unset, .unset, .unset, .unset, .unset, .unset, .unset, .unset] [(.double (FP.l2d jM)), (.ref b71)])
          obtain ⟨cq83, kq83, q83a, q83b, q83c⟩ := isOf hZ e82 E1_72
          obtain ⟨_, _, ⟨T83, L83, k83, n83⟩, -, X83, ⟨Lc83, hQ83, l83, y83, z83⟩, st83⟩ := X82.virtualBack hx (y := (⟨"com/example/wayfront/wayfront/decision/Criterion", "concordance", "(D)D"⟩ : MethodName)) (z := (⟨"com/example/wayfront/wayfront/decision/Criterion", "concordance", "(D)D"⟩ : MethodName)) hown (mvT hZ (hw _ (List.mem_of_getElem? (i := 66) rfl))) (mvT hZ (hw _ (List.mem_of_getElem? (i := 67) rfl))) (notFace_of_selects (args := #[]) (mvT hZ (hw _ (List.mem_of_getElem? (i := 69) rfl)))) (mvT hZ (hw _ (List.mem_of_getElem? (i := 69) rfl))) (mvT hZ (hw _ (List.mem_of_getElem? (i := 68) rfl))) (by decide) (backOf (W := 0) (rmCb l Z a0 hw [] b71 (FP.l2d jM) (FP.l2d jp) (FP.l2d jq) h72 n0 Z72 Gi_72 Gp_72 ((own_gt (by omega) (by omega) .g).mpr (by omega)) ((own_gt (by omega) (by omega) .l).mpr (by omega))) hZ (hw _ (List.mem_of_getElem? (i := 70) rfl)) (hw _ (List.mem_of_getElem? (i := 32) rfl)) (by decide) (by decide)) q83a q83c (g := (mkF m 166 #[.val (.int ia), .val (.int ib), .val (.int ic), .val (.int ie), .val (.int ix), .val (.int ifl), .val (.int qq), .val (.int dd), .val (.int pp), .val (.int vv), .val (.ref ad), .val (.ref as__70), .val (.long jL), .second, .val (.double (FP.l2d jL)), .second, .val (.ref b71), .val (.double (4607182418800017408 : UInt64)), .second, .unset, .unset, .unset, .unset, .unset, .unset, .unset, .unset, .unset, .unset, .unset] [(.double (FP.l2d jM)), (.ref b71)])) rfl (by rw [hml]; rfl) (Steps.refl _) (argsL := [(.double (FP.l2d jM))]) (rest := []) (lenOf pd__D_D rfl) rfl (by show 2 * 0 + _ ≤ _; exact Nat.le_of_eq rfl) (hb hby at_166) (fun _ _ => ⟨rfl, e82, (by decide : 3 + 0 ≤ _), (by decide : 10 + 0 ≤ _)⟩)
          dsimp only [Pt.U, Pt.locs, Pt.cells, Pt.slots] at X83 l83 y83 z83 st83 hQ83
          subst l83 y83 z83
          obtain ⟨h83, e83⟩ : ∃ h, T83.heap = h := ⟨_, rfl⟩
          rw [e83] at hQ83
          obtain ⟨rfl, Nq83, hs83⟩ := hQ83
          have N83 := Fr.app N82 Nq83
          rw [hs83] at e83
          refine Go.trans st83 ?_
          show Go _ _ _ _ _ _ _ T83 (mkF m 169 #[.val (.int ia), .val (.int ib), .val (.int ic), .val (.int ie), .val (.int ix), .val (.int ifl), .val (.int qq), .val (.int dd), .val (.int pp), .val (.int vv), .val (.ref ad), .val (.ref as__70), .val (.long jL), .second, .val (.double (FP.l2d jL)), .second, .val (.ref b71), .val (.double (4607182418800017408 : UInt64)), .second, .unset, .unset, .unset, .unset, .unset, .unset, .unset, .unset, .unset, .unset, .unset] [(.double (0 : UInt64))])
          refine Go.step (fun _ k => XS.dstore X83.here hx rfl (hb hby at_169) rfl (l' := #[.val (.int ia), .val (.int ib), .val (.int ic), .val (.int ie), .val (.int ix), .val (.int ifl), .val (.int qq), .val (.int dd), .val (.int pp), .val (.int vv), .val (.ref ad), .val (.ref as__70), .val (.long jL), .second, .val (.double (FP.l2d jL)), .second, .val (.ref b71), .val (.double (4607182418800017408 : UInt64)), .second, .val (.double (0 : UInt64)), .second, .unset, .unset, .unset, .unset, .unset, .unset, .unset, .unset, .unset]) rfl k) ?_
          show Go _ _ _ _ _ _ _ T83 (mkF m 171 #[.val (.int ia), .val (.int ib), .val (.int ic), .val (.int ie), .val (.int ix), .val (.int ifl), .val (.int qq), .val (.int dd), .val (.int pp), .val (.int vv), .val (.ref ad), .val (.ref as__70), .val (.long jL), .second, .val (.double (FP.l2d jL)), .second, .val (.ref b71), .val (.double (4607182418800017408 : UInt64)), .second, .val (.double (0 : UInt64)), .second, .unset, .unset, .unset, .unset, .unset, .unset, .unset, .unset, .unset] [])
          refine Go.step (fun _ k => XS.lload X83.here hx rfl (hb hby at_171) rfl k) ?_
          refine Go.step (fun _ k => XS.iload X83.here hx rfl (hb hby at_173) rfl k) ?_
          refine Go.step (fun _ k => XS.i2l X83.here hx rfl (hb hby at_175) rfl k) ?_
          refine Go.step (fun _ k => XS.lcmp X83.here hx rfl (hb hby at_176) rfl k) ?_
          show Go _ _ _ _ _ _ _ T83 (mkF m 177 #[.val (.int ia), .val (.int ib), .val (.int ic), .val (.int ie), .val (.int ix), .val (.int ifl), .val (.int qq), .val (.int dd), .val (.int pp), .val (.int vv), .val (.ref ad), .val (.ref as__70), .val (.long jL), .second, .val (.double (FP.l2d jL)), .second, .val (.ref b71), .val (.double (4607182418800017408 : UInt64)), .second, .val (.double (0 : UInt64)), .second, .unset, .unset, .unset, .unset, .unset, .unset, .unset, .unset, .unset] [(.int (lcmpW jL (qq.toInt64)))])
          have hc177_84 : ¬ ((qq.toInt64) < jL) := (own_ar6 qq jL dd q)
          refine Go.step (fun _ k => XS.ifNo X83.here hx rfl (hb hby at_177) rfl ((if0 _ _).trans (flt (mt (lw_gt _ _).mp hc177_84)).2.2.1) k) ?_
          show Go _ _ _ _ _ _ _ T83 (mkF m 180 #[.val (.int ia), .val (.int ib), .val (.int ic), .val (.int ie), .val (.int ix), .val (.int ifl), .val (.int qq), .val (.int dd), .val (.int pp), .val (.int vv), .val (.ref ad), .val (.ref as__70), .val (.long jL), .second, .val (.double (FP.l2d jL)), .second, .val (.ref b71), .val (.double (4607182418800017408 : UInt64)), .second, .val (.double (0 : UInt64)), .second, .unset, .unset, .unset, .unset, .unset, .unset, .unset, .unset, .unset] [])
          refine Go.step (fun _ k => XS.dload X83.here hx rfl (hb hby at_180) rfl k) ?_
          refine Go.step (fun _ k => XS.dconst1 X83.here hx rfl (v := (4607182418800017408 : UInt64)) (hb hby at_182) (by decide +kernel) k) ?_
          refine Go.step (fun _ k => XS.dcmpS X83.here hx rfl (hb hby at_183) rfl rfl k) ?_
          show Go _ _ _ _ _ _ _ T83 (mkF m 184 #[.val (.int ia), .val (.int ib), .val (.int ic), .val (.int ie), .val (.int ix), .val (.int ifl), .val (.int qq), .val (.int dd), .val (.int pp), .val (.int vv), .val (.ref ad), .val (.ref as__70), .val (.long jL), .second, .val (.double (FP.l2d jL)), .second, .val (.ref b71), .val (.double (4607182418800017408 : UInt64)), .second, .val (.double (0 : UInt64)), .second, .unset, .unset, .unset, .unset, .unset, .unset, .unset, .unset, .unset] [(.int (cmpValue (FP.dcmp (4607182418800017408 : UInt64) (4607182418800017408 : UInt64)) .l))])
          have hc184_85 : (cmpValue (FP.dcmp (4607182418800017408 : UInt64) (4607182418800017408 : UInt64)) .l) = (0 : Int32) := (by decide +kernel)
          refine Go.step (fun _ k => XS.ifNo X83.here hx rfl (hb hby at_184) rfl ((if0 _ _).trans (teq hc184_85).2) k) ?_
          show Go _ _ _ _ _ _ _ T83 (mkF m 187 #[.val (.int ia), .val (.int ib), .val (.int ic), .val (.int ie), .val (.int ix), .val (.int ifl), .val (.int qq), .val (.int dd), .val (.int pp), .val (.int vv), .val (.ref ad), .val (.ref as__70), .val (.long jL), .second, .val (.double (FP.l2d jL)), .second, .val (.ref b71), .val (.double (4607182418800017408 : UInt64)), .second, .val (.double (0 : UInt64)), .second, .unset, .unset, .unset, .unset, .unset, .unset, .unset, .unset, .unset] [])
          refine Go.step (fun _ k => XS.iconst X83.here hx rfl (hb hby at_187) k) ?_
          refine Go.step (fun _ k => XS.goto X83.here hx rfl (pc0 := 188) (pc' := 192) rfl (hb hby at_188) (by decide) (by decide) k) ?_
          show Go _ _ _ _ _ _ _ T83 (mkF m 192 #[.val (.int ia), .val (.int ib), .val (.int ic), .val (.int ie), .val (.int ix), .val (.int ifl), .val (.int qq), .val (.int dd), .val (.int pp), .val (.int vv), .val (.ref ad), .val (.ref as__70), .val (.long jL), .second, .val (.double (FP.l2d jL)), .second, .val (.ref b71), .val (.double (4607182418800017408 : UInt64)), .second, .val (.double (0 : UInt64)), .second, .unset, .unset, .unset, .unset, .unset, .unset, .unset, .unset, .unset] [(.int (1 : Int32))])
          refine Go.step (fun _ k => XS.istore X83.here hx rfl (hb hby at_192) rfl (l' := #[.val (.int ia), .val (.int ib), .val (.int ic), .val (.int ie), .val (.int ix), .val (.int ifl), .val (.int qq), .val (.int dd), .val (.int pp), .val (.int vv), .val (.ref ad), .val (.ref as__70), .val (.long jL), .second, .val (.double (FP.l2d jL)), .second, .val (.ref b71), .val (.double (4607182418800017408 : UInt64)), .second, .val (.double (0 : UInt64)), .second, .val (.int (1 : Int32)), .unset, .unset, .unset, .unset, .unset, .unset, .unset, .unset]) rfl k) ?_
          show Go _ _ _ _ _ _ _ T83 (mkF m 194 #[.val (.int ia), .val (.int ib), .val (.int ic), .val (.int ie), .val (.int ix), .val (.int ifl), .val (.int qq), .val (.int dd), .val (.int pp), .val (.int vv), .val (.ref ad), .val (.ref as__70), .val (.long jL), .second, .val (.double (FP.l2d jL)), .second, .val (.ref b71), .val (.double (4607182418800017408 : UInt64)), .second, .val (.double (0 : UInt64)), .second, .val (.int (1 : Int32)), .unset, .unset, .unset, .unset, .unset, .unset, .unset, .unset] [])
          refine Go.step (fun _ k => XS.goto X83.here hx rfl (pc0 := 194) (pc' := 319) rfl (hb hby at_194) (by decide) (by decide) k) ?_
          show Go _ _ _ _ _ _ _ T83 (mkF m 319 #[.val (.int ia), .val (.int ib), .val (.int ic), .val (.int ie), .val (.int ix), .val (.int ifl), .val (.int qq), .val (.int dd), .val (.int pp), .val (.int vv), .val (.ref ad), .val (.ref as__70), .val (.long jL), .second, .val (.double (FP.l2d jL)), .second, .val (.ref b71), .val (.double (4607182418800017408 : UInt64)), .second, .val (.double (0 : UInt64)), .second, .val (.int (1 : Int32)), .unset, .unset, .unset, .unset, .unset, .unset, .unset, .unset] [])
          refine Go.step (fun _ k => XS.iload X83.here hx rfl (hb hby at_319) rfl k) ?_
          have hc321_86 : ¬ ((1 : Int32) = (0 : Int32)) := (by decide)
          refine Go.step (fun _ k => XS.ifNo X83.here hx rfl (hb hby at_321) rfl ((if0 _ _).trans (feq hc321_86).1) k) ?_
          show Go _ _ _ _ _ _ _ T83 (mkF m 324 #[.val (.int ia), .val (.int ib), .val (.int ic), .val (.int ie), .val (.int ix), .val (.int ifl), .val (.int qq), .val (.int dd), .val (.int pp), .val (.int vv), .val (.ref ad), .val (.ref as__70), .val (.long jL), .second, .val (.double (FP.l2d jL)), .second, .val (.ref b71), .val (.double (4607182418800017408 : UInt64)), .second, .val (.double (0 : UInt64)), .second, .val (.int (1 : Int32)), .unset, .unset, .unset, .unset, .unset, .unset, .unset, .unset] [])
          refine Go.step (fun _ k => XS.dload X83.here hx rfl (hb hby at_324) rfl k) ?_
          refine Go.step (fun _ k => XS.dload X83.here hx rfl (hb hby at_326) rfl k) ?_
          refine Go.step (fun _ k => XS.dcmpS X83.here hx rfl (hb hby at_328) rfl rfl k) ?_
          show Go _ _ _ _ _ _ _ T83 (mkF m 329 #[.val (.int ia), .val (.int ib), .val (.int ic), .val (.int ie), .val (.int ix), .val (.int ifl), .val (.int qq), .val (.int dd), .val (.int pp), .val (.int vv), .val (.ref ad), .val (.ref as__70), .val (.long jL), .second, .val (.double (FP.l2d jL)), .second, .val (.ref b71), .val (.double (4607182418800017408 : UInt64)), .second, .val (.double (0 : UInt64)), .second, .val (.int (1 : Int32)), .unset, .unset, .unset, .unset, .unset, .unset, .unset, .unset] [(.int (cmpValue (FP.dcmp (0 : UInt64) (4607182418800017408 : UInt64)) .g))])
          have hc329_87 : ¬ ((0 : Int32) < (cmpValue (FP.dcmp (0 : UInt64) (4607182418800017408 : UInt64)) .g)) := (by decide +kernel)
          refine Go.step (fun _ k => XS.ifNo X83.here hx rfl (hb hby at_329) rfl ((if0 _ _).trans (flt hc329_87).2.2.1) k) ?_
          show Go _ _ _ _ _ _ _ T83 (mkF m 332 #[.val (.int ia), .val (.int ib), .val (.int ic), .val (.int ie), .val (.int ix), .val (.int ifl), .val (.int qq), .val (.int dd), .val (.int pp), .val (.int vv), .val (.ref ad), .val (.ref as__70), .val (.long jL), .second, .val (.double (FP.l2d jL)), .second, .val (.ref b71), .val (.double (4607182418800017408 : UInt64)), .second, .val (.double (0 : UInt64)), .second, .val (.int (1 : Int32)), .unset, .unset, .unset, .unset, .unset, .unset, .unset, .unset] [])
          refine Go.step (fun _ k => XS.iconst X83.here hx rfl (hb hby at_332) k) ?_
          refine Go.step (fun _ k => XS.goto X83.here hx rfl (pc0 := 333) (pc' := 337) rfl (hb hby at_333) (by decide) (by decide) k) ?_
          show Go _ _ _ _ _ _ _ T83 (mkF m 337 #[.val (.int ia), .val (.int ib), .val (.int ic), .val (.int ie), .val (.int ix), .val (.int ifl), .val (.int qq), .val (.int dd), .val (.int pp), .val (.int vv), .val (.ref ad), .val (.ref as__70), .val (.long jL), .second, .val (.double (FP.l2d jL)), .second, .val (.ref b71), .val (.double (4607182418800017408 : UInt64)), .second, .val (.double (0 : UInt64)), .second, .val (.int (1 : Int32)), .unset, .unset, .unset, .unset, .unset, .unset, .unset, .unset] [(.int (1 : Int32))])
          exact Go.retN X83 hx (t := .boolean) hret hlk (by simp) (hb hby at_337) e83 (by decide) (by decide) ⟨rfl, N83, trivial⟩
        · show Go _ _ _ _ _ _ _ T72 (mkF m 151 #[.val (.int ia), .val (.int ib), .val (.int ic), .val (.int ie), .val (.int ix), .val (.int ifl), .val (.int qq), .val (.int dd), .val (.int pp), .val (.int vv), .val (.ref ad), .val (.ref as__70), .val (.long jL), .second, .val (.double (FP.l2d jL)), .second, .val (.ref b71), .unset, .unset, .unset, .unset, .unset, .unset, .unset, .unset, .unset, .unset, .unset, .unset, .unset] [])
          refine Go.step (fun _ k => XS.aload X72.here hx rfl (hb hby at_151) rfl rfl k) ?_
          refine Go.step (fun _ k => XS.dload X72.here hx rfl (hb hby at_153) rfl k) ?_
          obtain ⟨cq88, kq88, q88a, q88b, q88c⟩ := isOf hZ e72 E1_72
          obtain ⟨_, _, ⟨T88, L88, k88, n88⟩, -, X88, ⟨Lc88, hQ88, l88, y88, z88⟩, st88⟩ := X72.virtualBack hx (y := (⟨"com/example/wayfront/wayfront/decision/Criterion", "concordance", "(D)D"⟩ : MethodName)) (z := (⟨"com/example/wayfront/wayfront/decision/Criterion", "concordance", "(D)D"⟩ : MethodName)) hown (mvT hZ (hw _ (List.mem_of_getElem? (i := 66) rfl))) (mvT hZ (hw _ (List.mem_of_getElem? (i := 67) rfl))) (notFace_of_selects (args := #[]) (mvT hZ (hw _ (List.mem_of_getElem? (i := 69) rfl)))) (mvT hZ (hw _ (List.mem_of_getElem? (i := 69) rfl))) (mvT hZ (hw _ (List.mem_of_getElem? (i := 68) rfl))) (by decide) (backOf (W := 0) (rmCa l Z a0 hw [] b71 (FP.l2d jL) (FP.l2d jp) (FP.l2d jq) h72 n0 Z72 Gi_72 Gp_72 (mt (own_gt (by omega) (by omega) .g).mp (by omega))) hZ (hw _ (List.mem_of_getElem? (i := 70) rfl)) (hw _ (List.mem_of_getElem? (i := 32) rfl)) (by decide) (by decide)) q88a q88c (g := (mkF m 155 #[.val (.int ia), .val (.int ib), .val (.int ic), .val (.int ie), .val (.int ix), .val (.int ifl), .val (.int qq), .val (.int dd), .val (.int pp), .val (.int vv), .val (.ref ad), .val (.ref as__70), .val (.long jL), .second, .val (.double (FP.l2d jL)), .second, .val (.ref b71), .unset, .unset, .unset, .unset, .unset, .unset, .unset, .unset, .unset, .unset, .unset, .unset, .unset] [(.double (FP.l2d jL)), (.ref b71)])) rfl (by rw [hml]; rfl) (Steps.refl _) (argsL := [(.double (FP.l2d jL))]) (rest := []) (lenOf pd__D_D rfl) rfl (by show 2 * 0 + _ ≤ _; exact Nat.le_of_eq rfl) (hb hby at_155) (fun _ _ => ⟨rfl, e72, (by decide : 3 + 0 ≤ _), (by decide : 10 + 0 ≤ _)⟩)
          dsimp only [Pt.U, Pt.locs, Pt.cells, Pt.slots] at X88 l88 y88 z88 st88 hQ88
          subst l88 y88 z88
          obtain ⟨h88, e88⟩ : ∃ h, T88.heap = h := ⟨_, rfl⟩
          rw [e88] at hQ88
          obtain ⟨rfl, Nq88, hs88⟩ := hQ88
          have N88 := Fr.app N72 Nq88
          rw [hs88] at e88
          refine Go.trans st88 ?_
          show Go _ _ _ _ _ _ _ T88 (mkF m 158 #[.val (.int ia), .val (.int ib), .val (.int ic), .val (.int ie), .val (.int ix), .val (.int ifl), .val (.int qq), .val (.int dd), .val (.int pp), .val (.int vv), .val (.ref ad), .val (.ref as__70), .val (.long jL), .second, .val (.double (FP.l2d jL)), .second, .val (.ref b71), .unset, .unset, .unset, .unset, .unset, .unset, .unset, .unset, .unset, .unset, .unset, .unset, .unset] [(.double (4607182418800017408 : UInt64))])
          refine Go.step (fun _ k => XS.dstore X88.here hx rfl (hb hby at_158) rfl (l' := #[.val (.int ia), .val (.int ib), .val (.int ic), .val (.int ie), .val (.int ix), .val (.int ifl), .val (.int qq), .val (.int dd), .val (.int pp), .val (.int vv), .val (.ref ad), .val (.ref as__70), .val (.long jL), .second, .val (.double (FP.l2d jL)), .second, .val (.ref b71), .val (.double (4607182418800017408 : UInt64)), .second, .unset, .unset, .unset, .unset, .unset, .unset, .unset, .unset, .unset, .unset, .unset]) rfl k) ?_
          show Go _ _ _ _ _ _ _ T88 (mkF m 160 #[.val (.int ia), .val (.int ib), .val (.int ic), .val (.int ie), .val (.int ix), .val (.int ifl), .val (.int qq), .val (.int dd), .val (.int pp), .val (.int vv), .val (.ref ad), .val (.ref as__70), .val (.long jL), .second, .val (.double (FP.l2d jL)), .second, .val (.ref b71), .val (.double (4607182418800017408 : UInt64)), .second, .unset, .unset, .unset, .unset, .unset, .unset, .unset, .unset, .unset, .unset, .unset] [])
          refine Go.step (fun _ k => XS.aload X88.here hx rfl (hb hby at_160) rfl rfl k) ?_
          refine Go.step (fun _ k => XS.dload X88.here hx rfl (hb hby at_162) rfl k) ?_
          refine Go.step (fun _ k => XS.dconst1 X88.here hx rfl (v := (4607182418800017408 : UInt64)) (hb hby at_164) (by decide +kernel) k) ?_
          refine Go.step (fun _ k => XS.daddS X88.here hx rfl (hb hby at_165) rfl (own_inc hL).1 rfl k) ?_
          show Go _ _ _ _ _ _ _ T88 (mkF m 166 #[.val (.int ia), .val (.int ib), .val (.int ic), .val (.int ie), .val (.int ix), .val (.int ifl), .val (.int qq), .val (.int dd), .val (.int pp), .val (.int vv), .val (.ref ad), .val (.ref as__70), .val (.long jL), .second, .val (.double (FP.l2d jL)), .second, .val (.ref b71), .val (.double (4607182418800017408 : UInt64)), .second, .unset, .unset, .unset, .unset, .unset, .unset, .unset, .unset, .unset, .unset, .unset] [(.double (FP.dadd (FP.l2d jL) (4607182418800017408 : UInt64))), (.ref b71)])
          obtain ⟨jM, hjM, ejM⟩ := (own_inc hL).2
          rw [hjM]
          show Go _ _ _ _ _ _ _ T88 (mkF m 166 #[.val (.int ia), .val (.int ib), .val (.int ic), .val (.int ie), .val (.int ix), .val (.int ifl), .val (.int qq), .val (.int dd), .val (.int pp), .val (.int vv), .val (.ref ad), .val (.ref as__70), .val (.long jL), .second, .val (.double (FP.l2d jL)), .second, .val (.ref b71), .val (.double (4607182418800017408 : UInt64)), .second, .unset, .unset, .unset, .unset, .unset, .unset, .unset, .unset, .unset, .unset, .unset] [(.double (FP.l2d jM)), (.ref b71)])
          obtain ⟨mf1, mf2, zs, fs, Zs_, Rs⟩ := own_con (jp := jp) (jL := jM) (jq := jq) (by omega) ⟨by omega, by omega⟩ (by omega) (by omega)
          obtain ⟨cq89, kq89, q89a, q89b, q89c⟩ := isOf hZ e88 E1_72
          obtain ⟨_, _, ⟨T89, L89, k89, n89⟩, -, X89, ⟨Lc89, hQ89, l89, y89, z89⟩, st89⟩ := X88.virtualBack hx (y := (⟨"com/example/wayfront/wayfront/decision/Criterion", "concordance", "(D)D"⟩ : MethodName)) (z := (⟨"com/example/wayfront/wayfront/decision/Criterion", "concordance", "(D)D"⟩ : MethodName)) hown (mvT hZ (hw _ (List.mem_of_getElem? (i := 66) rfl))) (mvT hZ (hw _ (List.mem_of_getElem? (i := 67) rfl))) (notFace_of_selects (args := #[]) (mvT hZ (hw _ (List.mem_of_getElem? (i := 69) rfl)))) (mvT hZ (hw _ (List.mem_of_getElem? (i := 69) rfl))) (mvT hZ (hw _ (List.mem_of_getElem? (i := 68) rfl))) (by decide) (backOf (W := 0) (rmCc l Z a0 hw [] b71 (FP.l2d jM) (FP.l2d jp) (FP.l2d jq) h72 n0 Z72 Gi_72 Gp_72 ((own_gt (by omega) (by omega) .g).mpr (by omega)) (mt (own_gt (by omega) (by omega) .l).mp (by omega)) mf1 mf2 Zs_.nn) hZ (hw _ (List.mem_of_getElem? (i := 70) rfl)) (hw _ (List.mem_of_getElem? (i := 32) rfl)) (by decide) (by decide)) q89a q89c (g := (mkF m 166 #[.val (.int ia), .val (.int ib), .val (.int ic), .val (.int ie), .val (.int ix), .val (.int ifl), .val (.int qq), .val (.int dd), .val (.int pp), .val (.int vv), .val (.ref ad), .val (.ref as__70), .val (.long jL), .second, .val (.double (FP.l2d jL)), .second, .val (.ref b71), .val (.double (4607182418800017408 : UInt64)), .second, .unset, .unset, .unset, .unset, .unset, .unset, .unset, .unset, .unset, .unset, .unset] [(.double (FP.l2d jM)), (.ref b71)])) rfl (by rw [hml]; rfl) (Steps.refl _) (argsL := [(.double (FP.l2d jM))]) (rest := []) (lenOf pd__D_D rfl) rfl (by show 2 * 0 + _ ≤ _; exact Nat.le_of_eq rfl) (hb hby at_166) (fun _ _ => ⟨rfl, e88, (by decide : 3 + 0 ≤ _), (by decide : 10 + 0 ≤ _)⟩)
          dsimp only [Pt.U, Pt.locs, Pt.cells, Pt.slots] at X89 l89 y89 z89 st89 hQ89
          subst l89 y89 z89
          obtain ⟨h89, e89⟩ : ∃ h, T89.heap = h := ⟨_, rfl⟩
          rw [e89] at hQ89
          obtain ⟨rfl, Nq89, hs89⟩ := hQ89
          have N89 := Fr.app N88 Nq89
          rw [hs89] at e89
          refine Go.trans st89 ?_
          show Go _ _ _ _ _ _ _ T89 (mkF m 169 #[.val (.int ia), .val (.int ib), .val (.int ic), .val (.int ie), .val (.int ix), .val (.int ifl), .val (.int qq), .val (.int dd), .val (.int pp), .val (.int vv), .val (.ref ad), .val (.ref as__70), .val (.long jL), .second, .val (.double (FP.l2d jL)), .second, .val (.ref b71), .val (.double (4607182418800017408 : UInt64)), .second, .unset, .unset, .unset, .unset, .unset, .unset, .unset, .unset, .unset, .unset, .unset] [(.double (FP.ddiv (FP.dsub (FP.l2d jp) (FP.l2d jM)) (FP.dsub (FP.l2d jp) (FP.l2d jq))))])
          generalize (FP.ddiv (FP.dsub (FP.l2d jp) (FP.l2d jM)) (FP.dsub (FP.l2d jp) (FP.l2d jq))) = rs at Zs_ ⊢
          show Go _ _ _ _ _ _ _ T89 (mkF m 169 #[.val (.int ia), .val (.int ib), .val (.int ic), .val (.int ie), .val (.int ix), .val (.int ifl), .val (.int qq), .val (.int dd), .val (.int pp), .val (.int vv), .val (.ref ad), .val (.ref as__70), .val (.long jL), .second, .val (.double (FP.l2d jL)), .second, .val (.ref b71), .val (.double (4607182418800017408 : UInt64)), .second, .unset, .unset, .unset, .unset, .unset, .unset, .unset, .unset, .unset, .unset, .unset] [(.double rs)])
          refine Go.step (fun _ k => XS.dstore X89.here hx rfl (hb hby at_169) rfl (l' := #[.val (.int ia), .val (.int ib), .val (.int ic), .val (.int ie), .val (.int ix), .val (.int ifl), .val (.int qq), .val (.int dd), .val (.int pp), .val (.int vv), .val (.ref ad), .val (.ref as__70), .val (.long jL), .second, .val (.double (FP.l2d jL)), .second, .val (.ref b71), .val (.double (4607182418800017408 : UInt64)), .second, .val (.double rs), .second, .unset, .unset, .unset, .unset, .unset, .unset, .unset, .unset, .unset]) rfl k) ?_
          show Go _ _ _ _ _ _ _ T89 (mkF m 171 #[.val (.int ia), .val (.int ib), .val (.int ic), .val (.int ie), .val (.int ix), .val (.int ifl), .val (.int qq), .val (.int dd), .val (.int pp), .val (.int vv), .val (.ref ad), .val (.ref as__70), .val (.long jL), .second, .val (.double (FP.l2d jL)), .second, .val (.ref b71), .val (.double (4607182418800017408 : UInt64)), .second, .val (.double rs), .second, .unset, .unset, .unset, .unset, .unset, .unset, .unset, .unset, .unset] [])
          refine Go.step (fun _ k => XS.lload X89.here hx rfl (hb hby at_171) rfl k) ?_
          refine Go.step (fun _ k => XS.iload X89.here hx rfl (hb hby at_173) rfl k) ?_
          refine Go.step (fun _ k => XS.i2l X89.here hx rfl (hb hby at_175) rfl k) ?_
          refine Go.step (fun _ k => XS.lcmp X89.here hx rfl (hb hby at_176) rfl k) ?_
          show Go _ _ _ _ _ _ _ T89 (mkF m 177 #[.val (.int ia), .val (.int ib), .val (.int ic), .val (.int ie), .val (.int ix), .val (.int ifl), .val (.int qq), .val (.int dd), .val (.int pp), .val (.int vv), .val (.ref ad), .val (.ref as__70), .val (.long jL), .second, .val (.double (FP.l2d jL)), .second, .val (.ref b71), .val (.double (4607182418800017408 : UInt64)), .second, .val (.double rs), .second, .unset, .unset, .unset, .unset, .unset, .unset, .unset, .unset, .unset] [(.int (lcmpW jL (qq.toInt64)))])
          have hc177_90 : ¬ ((qq.toInt64) < jL) := (own_ar7 qq jL dd q)
          refine Go.step (fun _ k => XS.ifNo X89.here hx rfl (hb hby at_177) rfl ((if0 _ _).trans (flt (mt (lw_gt _ _).mp hc177_90)).2.2.1) k) ?_
          show Go _ _ _ _ _ _ _ T89 (mkF m 180 #[.val (.int ia), .val (.int ib), .val (.int ic), .val (.int ie), .val (.int ix), .val (.int ifl), .val (.int qq), .val (.int dd), .val (.int pp), .val (.int vv), .val (.ref ad), .val (.ref as__70), .val (.long jL), .second, .val (.double (FP.l2d jL)), .second, .val (.ref b71), .val (.double (4607182418800017408 : UInt64)), .second, .val (.double rs), .second, .unset, .unset, .unset, .unset, .unset, .unset, .unset, .unset, .unset] [])
          refine Go.step (fun _ k => XS.dload X89.here hx rfl (hb hby at_180) rfl k) ?_
          refine Go.step (fun _ k => XS.dconst1 X89.here hx rfl (v := (4607182418800017408 : UInt64)) (hb hby at_182) (by decide +kernel) k) ?_
          refine Go.step (fun _ k => XS.dcmpS X89.here hx rfl (hb hby at_183) rfl rfl k) ?_
          show Go _ _ _ _ _ _ _ T89 (mkF m 184 #[.val (.int ia), .val (.int ib), .val (.int ic), .val (.int ie), .val (.int ix), .val (.int ifl), .val (.int qq), .val (.int dd), .val (.int pp), .val (.int vv), .val (.ref ad), .val (.ref as__70), .val (.long jL), .second, .val (.double (FP.l2d jL)), .second, .val (.ref b71), .val (.double (4607182418800017408 : UInt64)), .second, .val (.double rs), .second, .unset, .unset, .unset, .unset, .unset, .unset, .unset, .unset, .unset] [(.int (cmpValue (FP.dcmp (4607182418800017408 : UInt64) (4607182418800017408 : UInt64)) .l))])
          have hc184_91 : (cmpValue (FP.dcmp (4607182418800017408 : UInt64) (4607182418800017408 : UInt64)) .l) = (0 : Int32) := (by decide +kernel)
          refine Go.step (fun _ k => XS.ifNo X89.here hx rfl (hb hby at_184) rfl ((if0 _ _).trans (teq hc184_91).2) k) ?_
          show Go _ _ _ _ _ _ _ T89 (mkF m 187 #[.val (.int ia), .val (.int ib), .val (.int ic), .val (.int ie), .val (.int ix), .val (.int ifl), .val (.int qq), .val (.int dd), .val (.int pp), .val (.int vv), .val (.ref ad), .val (.ref as__70), .val (.long jL), .second, .val (.double (FP.l2d jL)), .second, .val (.ref b71), .val (.double (4607182418800017408 : UInt64)), .second, .val (.double rs), .second, .unset, .unset, .unset, .unset, .unset, .unset, .unset, .unset, .unset] [])
          refine Go.step (fun _ k => XS.iconst X89.here hx rfl (hb hby at_187) k) ?_
          refine Go.step (fun _ k => XS.goto X89.here hx rfl (pc0 := 188) (pc' := 192) rfl (hb hby at_188) (by decide) (by decide) k) ?_
          show Go _ _ _ _ _ _ _ T89 (mkF m 192 #[.val (.int ia), .val (.int ib), .val (.int ic), .val (.int ie), .val (.int ix), .val (.int ifl), .val (.int qq), .val (.int dd), .val (.int pp), .val (.int vv), .val (.ref ad), .val (.ref as__70), .val (.long jL), .second, .val (.double (FP.l2d jL)), .second, .val (.ref b71), .val (.double (4607182418800017408 : UInt64)), .second, .val (.double rs), .second, .unset, .unset, .unset, .unset, .unset, .unset, .unset, .unset, .unset] [(.int (1 : Int32))])
          refine Go.step (fun _ k => XS.istore X89.here hx rfl (hb hby at_192) rfl (l' := #[.val (.int ia), .val (.int ib), .val (.int ic), .val (.int ie), .val (.int ix), .val (.int ifl), .val (.int qq), .val (.int dd), .val (.int pp), .val (.int vv), .val (.ref ad), .val (.ref as__70), .val (.long jL), .second, .val (.double (FP.l2d jL)), .second, .val (.ref b71), .val (.double (4607182418800017408 : UInt64)), .second, .val (.double rs), .second, .val (.int (1 : Int32)), .unset, .unset, .unset, .unset, .unset, .unset, .unset, .unset]) rfl k) ?_
          show Go _ _ _ _ _ _ _ T89 (mkF m 194 #[.val (.int ia), .val (.int ib), .val (.int ic), .val (.int ie), .val (.int ix), .val (.int ifl), .val (.int qq), .val (.int dd), .val (.int pp), .val (.int vv), .val (.ref ad), .val (.ref as__70), .val (.long jL), .second, .val (.double (FP.l2d jL)), .second, .val (.ref b71), .val (.double (4607182418800017408 : UInt64)), .second, .val (.double rs), .second, .val (.int (1 : Int32)), .unset, .unset, .unset, .unset, .unset, .unset, .unset, .unset] [])
          refine Go.step (fun _ k => XS.goto X89.here hx rfl (pc0 := 194) (pc' := 319) rfl (hb hby at_194) (by decide) (by decide) k) ?_
          show Go _ _ _ _ _ _ _ T89 (mkF m 319 #[.val (.int ia), .val (.int ib), .val (.int ic), .val (.int ie), .val (.int ix), .val (.int ifl), .val (.int qq), .val (.int dd), .val (.int pp), .val (.int vv), .val (.ref ad), .val (.ref as__70), .val (.long jL), .second, .val (.double (FP.l2d jL)), .second, .val (.ref b71), .val (.double (4607182418800017408 : UInt64)), .second, .val (.double rs), .second, .val (.int (1 : Int32)), .unset, .unset, .unset, .unset, .unset, .unset, .unset, .unset] [])
          refine Go.step (fun _ k => XS.iload X89.here hx rfl (hb hby at_319) rfl k) ?_
          have hc321_92 : ¬ ((1 : Int32) = (0 : Int32)) := (by decide)
          refine Go.step (fun _ k => XS.ifNo X89.here hx rfl (hb hby at_321) rfl ((if0 _ _).trans (feq hc321_92).1) k) ?_
          show Go _ _ _ _ _ _ _ T89 (mkF m 324 #[.val (.int ia), .val (.int ib), .val (.int ic), .val (.int ie), .val (.int ix), .val (.int ifl), .val (.int qq), .val (.int dd), .val (.int pp), .val (.int vv), .val (.ref ad), .val (.ref as__70), .val (.long jL), .second, .val (.double (FP.l2d jL)), .second, .val (.ref b71), .val (.double (4607182418800017408 : UInt64)), .second, .val (.double rs), .second, .val (.int (1 : Int32)), .unset, .unset, .unset, .unset, .unset, .unset, .unset, .unset] [])
          refine Go.step (fun _ k => XS.dload X89.here hx rfl (hb hby at_324) rfl k) ?_
          refine Go.step (fun _ k => XS.dload X89.here hx rfl (hb hby at_326) rfl k) ?_
          refine Go.step (fun _ k => XS.dcmpS X89.here hx rfl (hb hby at_328) rfl rfl k) ?_
          show Go _ _ _ _ _ _ _ T89 (mkF m 329 #[.val (.int ia), .val (.int ib), .val (.int ic), .val (.int ie), .val (.int ix), .val (.int ifl), .val (.int qq), .val (.int dd), .val (.int pp), .val (.int vv), .val (.ref ad), .val (.ref as__70), .val (.long jL), .second, .val (.double (FP.l2d jL)), .second, .val (.ref b71), .val (.double (4607182418800017408 : UInt64)), .second, .val (.double rs), .second, .val (.int (1 : Int32)), .unset, .unset, .unset, .unset, .unset, .unset, .unset, .unset] [(.int (cmpValue (FP.dcmp rs (4607182418800017408 : UInt64)) .g))])
          have hc329_93 : ¬ ((0 : Int32) < (cmpValue (FP.dcmp rs (4607182418800017408 : UInt64)) .g)) := (own_mono1 Zs_ Rs (by omega) (by omega) (by omega))
          refine Go.step (fun _ k => XS.ifNo X89.here hx rfl (hb hby at_329) rfl ((if0 _ _).trans (flt hc329_93).2.2.1) k) ?_
          show Go _ _ _ _ _ _ _ T89 (mkF m 332 #[.val (.int ia), .val (.int ib), .val (.int ic), .val (.int ie), .val (.int ix), .val (.int ifl), .val (.int qq), .val (.int dd), .val (.int pp), .val (.int vv), .val (.ref ad), .val (.ref as__70), .val (.long jL), .second, .val (.double (FP.l2d jL)), .second, .val (.ref b71), .val (.double (4607182418800017408 : UInt64)), .second, .val (.double rs), .second, .val (.int (1 : Int32)), .unset, .unset, .unset, .unset, .unset, .unset, .unset, .unset] [])
          refine Go.step (fun _ k => XS.iconst X89.here hx rfl (hb hby at_332) k) ?_
          refine Go.step (fun _ k => XS.goto X89.here hx rfl (pc0 := 333) (pc' := 337) rfl (hb hby at_333) (by decide) (by decide) k) ?_
          show Go _ _ _ _ _ _ _ T89 (mkF m 337 #[.val (.int ia), .val (.int ib), .val (.int ic), .val (.int ie), .val (.int ix), .val (.int ifl), .val (.int qq), .val (.int dd), .val (.int pp), .val (.int vv), .val (.ref ad), .val (.ref as__70), .val (.long jL), .second, .val (.double (FP.l2d jL)), .second, .val (.ref b71), .val (.double (4607182418800017408 : UInt64)), .second, .val (.double rs), .second, .val (.int (1 : Int32)), .unset, .unset, .unset, .unset, .unset, .unset, .unset, .unset] [(.int (1 : Int32))])
          exact Go.retN X89 hx (t := .boolean) hret hlk (by simp) (hb hby at_337) e89 (by decide) (by decide) ⟨rfl, N89, trivial⟩
        · show Go _ _ _ _ _ _ _ T72 (mkF m 151 #[.val (.int ia), .val (.int ib), .val (.int ic), .val (.int ie), .val (.int ix), .val (.int ifl), .val (.int qq), .val (.int dd), .val (.int pp), .val (.int vv), .val (.ref ad), .val (.ref as__70), .val (.long jL), .second, .val (.double (FP.l2d jL)), .second, .val (.ref b71), .unset, .unset, .unset, .unset, .unset, .unset, .unset, .unset, .unset, .unset, .unset, .unset, .unset] [])
          refine Go.step (fun _ k => XS.aload X72.here hx rfl (hb hby at_151) rfl rfl k) ?_
          refine Go.step (fun _ k => XS.dload X72.here hx rfl (hb hby at_153) rfl k) ?_
          obtain ⟨cq94, kq94, q94a, q94b, q94c⟩ := isOf hZ e72 E1_72
          obtain ⟨_, _, ⟨T94, L94, k94, n94⟩, -, X94, ⟨Lc94, hQ94, l94, y94, z94⟩, st94⟩ := X72.virtualBack hx (y := (⟨"com/example/wayfront/wayfront/decision/Criterion", "concordance", "(D)D"⟩ : MethodName)) (z := (⟨"com/example/wayfront/wayfront/decision/Criterion", "concordance", "(D)D"⟩ : MethodName)) hown (mvT hZ (hw _ (List.mem_of_getElem? (i := 66) rfl))) (mvT hZ (hw _ (List.mem_of_getElem? (i := 67) rfl))) (notFace_of_selects (args := #[]) (mvT hZ (hw _ (List.mem_of_getElem? (i := 69) rfl)))) (mvT hZ (hw _ (List.mem_of_getElem? (i := 69) rfl))) (mvT hZ (hw _ (List.mem_of_getElem? (i := 68) rfl))) (by decide) (backOf (W := 0) (rmCb l Z a0 hw [] b71 (FP.l2d jL) (FP.l2d jp) (FP.l2d jq) h72 n0 Z72 Gi_72 Gp_72 ((own_gt (by omega) (by omega) .g).mpr (by omega)) ((own_gt (by omega) (by omega) .l).mpr (by omega))) hZ (hw _ (List.mem_of_getElem? (i := 70) rfl)) (hw _ (List.mem_of_getElem? (i := 32) rfl)) (by decide) (by decide)) q94a q94c (g := (mkF m 155 #[.val (.int ia), .val (.int ib), .val (.int ic), .val (.int ie), .val (.int ix), .val (.int ifl), .val (.int qq), .val (.int dd), .val (.int pp), .val (.int vv), .val (.ref ad), .val (.ref as__70), .val (.long jL), .second, .val (.double (FP.l2d jL)), .second, .val (.ref b71), .unset, .unset, .unset, .unset, .unset, .unset, .unset, .unset, .unset, .unset, .unset, .unset, .unset] [(.double (FP.l2d jL)), (.ref b71)])) rfl (by rw [hml]; rfl) (Steps.refl _) (argsL := [(.double (FP.l2d jL))]) (rest := []) (lenOf pd__D_D rfl) rfl (by show 2 * 0 + _ ≤ _; exact Nat.le_of_eq rfl) (hb hby at_155) (fun _ _ => ⟨rfl, e72, (by decide : 3 + 0 ≤ _), (by decide : 10 + 0 ≤ _)⟩)
          dsimp only [Pt.U, Pt.locs, Pt.cells, Pt.slots] at X94 l94 y94 z94 st94 hQ94
          subst l94 y94 z94
          obtain ⟨h94, e94⟩ : ∃ h, T94.heap = h := ⟨_, rfl⟩
          rw [e94] at hQ94
          obtain ⟨rfl, Nq94, hs94⟩ := hQ94
          have N94 := Fr.app N72 Nq94
          rw [hs94] at e94
          refine Go.trans st94 ?_
          show Go _ _ _ _ _ _ _ T94 (mkF m 158 #[.val (.int ia), .val (.int ib), .val (.int ic), .val (.int ie), .val (.int ix), .val (.int ifl), .val (.int qq), .val (.int dd), .val (.int pp), .val (.int vv), .val (.ref ad), .val (.ref as__70), .val (.long jL), .second, .val (.double (FP.l2d jL)), .second, .val (.ref b71), .unset, .unset, .unset, .unset, .unset, .unset, .unset, .unset, .unset, .unset, .unset, .unset, .unset] [(.double (0 : UInt64))])
          refine Go.step (fun _ k => XS.dstore X94.here hx rfl (hb hby at_158) rfl (l' := #[.val (.int ia), .val (.int ib), .val (.int ic), .val (.int ie), .val (.int ix), .val (.int ifl), .val (.int qq), .val (.int dd), .val (.int pp), .val (.int vv), .val (.ref ad), .val (.ref as__70), .val (.long jL), .second, .val (.double (FP.l2d jL)), .second, .val (.ref b71), .val (.double (0 : UInt64)), .second, .unset, .unset, .unset, .unset, .unset, .unset, .unset, .unset, .unset, .unset, .unset]) rfl k) ?_
          show Go _ _ _ _ _ _ _ T94 (mkF m 160 #[.val (.int ia), .val (.int ib), .val (.int ic), .val (.int ie), .val (.int ix), .val (.int ifl), .val (.int qq), .val (.int dd), .val (.int pp), .val (.int vv), .val (.ref ad), .val (.ref as__70), .val (.long jL), .second, .val (.double (FP.l2d jL)), .second, .val (.ref b71), .val (.double (0 : UInt64)), .second, .unset, .unset, .unset, .unset, .unset, .unset, .unset, .unset, .unset, .unset, .unset] [])
          refine Go.step (fun _ k => XS.aload X94.here hx rfl (hb hby at_160) rfl rfl k) ?_
          refine Go.step (fun _ k => XS.dload X94.here hx rfl (hb hby at_162) rfl k) ?_
          refine Go.step (fun _ k => XS.dconst1 X94.here hx rfl (v := (4607182418800017408 : UInt64)) (hb hby at_164) (by decide +kernel) k) ?_
          refine Go.step (fun _ k => XS.daddS X94.here hx rfl (hb hby at_165) rfl (own_inc hL).1 rfl k) ?_
          show Go _ _ _ _ _ _ _ T94 (mkF m 166 #[.val (.int ia), .val (.int ib), .val (.int ic), .val (.int ie), .val (.int ix), .val (.int ifl), .val (.int qq), .val (.int dd), .val (.int pp), .val (.int vv), .val (.ref ad), .val (.ref as__70), .val (.long jL), .second, .val (.double (FP.l2d jL)), .second, .val (.ref b71), .val (.double (0 : UInt64)), .second, .unset, .unset, .unset, .unset, .unset, .unset, .unset, .unset, .unset, .unset, .unset] [(.double (FP.dadd (FP.l2d jL) (4607182418800017408 : UInt64))), (.ref b71)])
          obtain ⟨jM, hjM, ejM⟩ := (own_inc hL).2
          rw [hjM]
          show Go _ _ _ _ _ _ _ T94 (mkF m 166 #[.val (.int ia), .val (.int ib), .val (.int ic), .val (.int ie), .val (.int ix), .val (.int ifl), .val (.int qq), .val (.int dd), .val (.int pp), .val (.int vv), .val (.ref ad), .val (.ref as__70), .val (.long jL), .second, .val (.double (FP.l2d jL)), .second, .val (.ref b71), .val (.double (0 : UInt64)), .second, .unset, .unset, .unset, .unset, .unset, .unset, .unset, .unset, .unset, .unset, .unset] [(.double (FP.l2d jM)), (.ref b71)])
          obtain ⟨cq95, kq95, q95a, q95b, q95c⟩ := isOf hZ e94 E1_72
          obtain ⟨_, _, ⟨T95, L95, k95, n95⟩, -, X95, ⟨Lc95, hQ95, l95, y95, z95⟩, st95⟩ := X94.virtualBack hx (y := (⟨"com/example/wayfront/wayfront/decision/Criterion", "concordance", "(D)D"⟩ : MethodName)) (z := (⟨"com/example/wayfront/wayfront/decision/Criterion", "concordance", "(D)D"⟩ : MethodName)) hown (mvT hZ (hw _ (List.mem_of_getElem? (i := 66) rfl))) (mvT hZ (hw _ (List.mem_of_getElem? (i := 67) rfl))) (notFace_of_selects (args := #[]) (mvT hZ (hw _ (List.mem_of_getElem? (i := 69) rfl)))) (mvT hZ (hw _ (List.mem_of_getElem? (i := 69) rfl))) (mvT hZ (hw _ (List.mem_of_getElem? (i := 68) rfl))) (by decide) (backOf (W := 0) (rmCb l Z a0 hw [] b71 (FP.l2d jM) (FP.l2d jp) (FP.l2d jq) h72 n0 Z72 Gi_72 Gp_72 ((own_gt (by omega) (by omega) .g).mpr (by omega)) ((own_gt (by omega) (by omega) .l).mpr (by omega))) hZ (hw _ (List.mem_of_getElem? (i := 70) rfl)) (hw _ (List.mem_of_getElem? (i := 32) rfl)) (by decide) (by decide)) q95a q95c (g := (mkF m 166 #[.val (.int ia), .val (.int ib), .val (.int ic), .val (.int ie), .val (.int ix), .val (.int ifl), .val (.int qq), .val (.int dd), .val (.int pp), .val (.int vv), .val (.ref ad), .val (.ref as__70), .val (.long jL), .second, .val (.double (FP.l2d jL)), .second, .val (.ref b71), .val (.double (0 : UInt64)), .second, .unset, .unset, .unset, .unset, .unset, .unset, .unset, .unset, .unset, .unset, .unset] [(.double (FP.l2d jM)), (.ref b71)])) rfl (by rw [hml]; rfl) (Steps.refl _) (argsL := [(.double (FP.l2d jM))]) (rest := []) (lenOf pd__D_D rfl) rfl (by show 2 * 0 + _ ≤ _; exact Nat.le_of_eq rfl) (hb hby at_166) (fun _ _ => ⟨rfl, e94, (by decide : 3 + 0 ≤ _), (by decide : 10 + 0 ≤ _)⟩)
          dsimp only [Pt.U, Pt.locs, Pt.cells, Pt.slots] at X95 l95 y95 z95 st95 hQ95
          subst l95 y95 z95
          obtain ⟨h95, e95⟩ : ∃ h, T95.heap = h := ⟨_, rfl⟩
          rw [e95] at hQ95
          obtain ⟨rfl, Nq95, hs95⟩ := hQ95
          have N95 := Fr.app N94 Nq95
          rw [hs95] at e95
          refine Go.trans st95 ?_
          show Go _ _ _ _ _ _ _ T95 (mkF m 169 #[.val (.int ia), .val (.int ib), .val (.int ic), .val (.int ie), .val (.int ix), .val (.int ifl), .val (.int qq), .val (.int dd), .val (.int pp), .val (.int vv), .val (.ref ad), .val (.ref as__70), .val (.long jL), .second, .val (.double (FP.l2d jL)), .second, .val (.ref b71), .val (.double (0 : UInt64)), .second, .unset, .unset, .unset, .unset, .unset, .unset, .unset, .unset, .unset, .unset, .unset] [(.double (0 : UInt64))])
          refine Go.step (fun _ k => XS.dstore X95.here hx rfl (hb hby at_169) rfl (l' := #[.val (.int ia), .val (.int ib), .val (.int ic), .val (.int ie), .val (.int ix), .val (.int ifl), .val (.int qq), .val (.int dd), .val (.int pp), .val (.int vv), .val (.ref ad), .val (.ref as__70), .val (.long jL), .second, .val (.double (FP.l2d jL)), .second, .val (.ref b71), .val (.double (0 : UInt64)), .second, .val (.double (0 : UInt64)), .second, .unset, .unset, .unset, .unset, .unset, .unset, .unset, .unset, .unset]) rfl k) ?_
          show Go _ _ _ _ _ _ _ T95 (mkF m 171 #[.val (.int ia), .val (.int ib), .val (.int ic), .val (.int ie), .val (.int ix), .val (.int ifl), .val (.int qq), .val (.int dd), .val (.int pp), .val (.int vv), .val (.ref ad), .val (.ref as__70), .val (.long jL), .second, .val (.double (FP.l2d jL)), .second, .val (.ref b71), .val (.double (0 : UInt64)), .second, .val (.double (0 : UInt64)), .second, .unset, .unset, .unset, .unset, .unset, .unset, .unset, .unset, .unset] [])
          refine Go.step (fun _ k => XS.lload X95.here hx rfl (hb hby at_171) rfl k) ?_
          refine Go.step (fun _ k => XS.iload X95.here hx rfl (hb hby at_173) rfl k) ?_
          refine Go.step (fun _ k => XS.i2l X95.here hx rfl (hb hby at_175) rfl k) ?_
          refine Go.step (fun _ k => XS.lcmp X95.here hx rfl (hb hby at_176) rfl k) ?_
          show Go _ _ _ _ _ _ _ T95 (mkF m 177 #[.val (.int ia), .val (.int ib), .val (.int ic), .val (.int ie), .val (.int ix), .val (.int ifl), .val (.int qq), .val (.int dd), .val (.int pp), .val (.int vv), .val (.ref ad), .val (.ref as__70), .val (.long jL), .second, .val (.double (FP.l2d jL)), .second, .val (.ref b71), .val (.double (0 : UInt64)), .second, .val (.double (0 : UInt64)), .second, .unset, .unset, .unset, .unset, .unset, .unset, .unset, .unset, .unset] [(.int (lcmpW jL (qq.toInt64)))])
          have hc177_96 : (qq.toInt64) < jL := (own_ar8 qq jL pp dd q hp hd)
          refine Go.step (fun _ k => XS.ifYes X95.here hx rfl (pc0 := 177) (pc' := 197) rfl (hb hby at_177) rfl ((if0 _ _).trans (tlt ((lw_gt _ _).mpr hc177_96)).2.2.1) (by decide) (by decide) k) ?_
          show Go _ _ _ _ _ _ _ T95 (mkF m 197 #[.val (.int ia), .val (.int ib), .val (.int ic), .val (.int ie), .val (.int ix), .val (.int ifl), .val (.int qq), .val (.int dd), .val (.int pp), .val (.int vv), .val (.ref ad), .val (.ref as__70), .val (.long jL), .second, .val (.double (FP.l2d jL)), .second, .val (.ref b71), .val (.double (0 : UInt64)), .second, .val (.double (0 : UInt64)), .second, .unset, .unset, .unset, .unset, .unset, .unset, .unset, .unset, .unset] [])
          refine Go.step (fun _ k => XS.lload X95.here hx rfl (hb hby at_197) rfl k) ?_
          refine Go.step (fun _ k => XS.iload X95.here hx rfl (hb hby at_199) rfl k) ?_
          refine Go.step (fun _ k => XS.i2l X95.here hx rfl (hb hby at_201) rfl k) ?_
          refine Go.step (fun _ k => XS.lcmp X95.here hx rfl (hb hby at_202) rfl k) ?_
          show Go _ _ _ _ _ _ _ T95 (mkF m 203 #[.val (.int ia), .val (.int ib), .val (.int ic), .val (.int ie), .val (.int ix), .val (.int ifl), .val (.int qq), .val (.int dd), .val (.int pp), .val (.int vv), .val (.ref ad), .val (.ref as__70), .val (.long jL), .second, .val (.double (FP.l2d jL)), .second, .val (.ref b71), .val (.double (0 : UInt64)), .second, .val (.double (0 : UInt64)), .second, .unset, .unset, .unset, .unset, .unset, .unset, .unset, .unset, .unset] [(.int (lcmpW jL (pp.toInt64)))])
          have hc203_97 : (pp.toInt64) < jL := (own_ar9 pp jL q)
          refine Go.step (fun _ k => XS.ifNo X95.here hx rfl (hb hby at_203) rfl ((if0 _ _).trans (tlt ((lw_gt _ _).mpr hc203_97)).2.2.2) k) ?_
          show Go _ _ _ _ _ _ _ T95 (mkF m 206 #[.val (.int ia), .val (.int ib), .val (.int ic), .val (.int ie), .val (.int ix), .val (.int ifl), .val (.int qq), .val (.int dd), .val (.int pp), .val (.int vv), .val (.ref ad), .val (.ref as__70), .val (.long jL), .second, .val (.double (FP.l2d jL)), .second, .val (.ref b71), .val (.double (0 : UInt64)), .second, .val (.double (0 : UInt64)), .second, .unset, .unset, .unset, .unset, .unset, .unset, .unset, .unset, .unset] [])
          refine Go.step (fun _ k => XS.dload X95.here hx rfl (hb hby at_206) rfl k) ?_
          refine Go.step (fun _ k => XS.dconst0 X95.here hx rfl (v := (0 : UInt64)) (hb hby at_208) (by decide +kernel) k) ?_
          refine Go.step (fun _ k => XS.dcmpS X95.here hx rfl (hb hby at_209) rfl rfl k) ?_
          show Go _ _ _ _ _ _ _ T95 (mkF m 210 #[.val (.int ia), .val (.int ib), .val (.int ic), .val (.int ie), .val (.int ix), .val (.int ifl), .val (.int qq), .val (.int dd), .val (.int pp), .val (.int vv), .val (.ref ad), .val (.ref as__70), .val (.long jL), .second, .val (.double (FP.l2d jL)), .second, .val (.ref b71), .val (.double (0 : UInt64)), .second, .val (.double (0 : UInt64)), .second, .unset, .unset, .unset, .unset, .unset, .unset, .unset, .unset, .unset] [(.int (cmpValue (FP.dcmp (0 : UInt64) (0 : UInt64)) .l))])
          have hc210_98 : (cmpValue (FP.dcmp (0 : UInt64) (0 : UInt64)) .l) = (0 : Int32) := (by decide +kernel)
          refine Go.step (fun _ k => XS.ifNo X95.here hx rfl (hb hby at_210) rfl ((if0 _ _).trans (teq hc210_98).2) k) ?_
          show Go _ _ _ _ _ _ _ T95 (mkF m 213 #[.val (.int ia), .val (.int ib), .val (.int ic), .val (.int ie), .val (.int ix), .val (.int ifl), .val (.int qq), .val (.int dd), .val (.int pp), .val (.int vv), .val (.ref ad), .val (.ref as__70), .val (.long jL), .second, .val (.double (FP.l2d jL)), .second, .val (.ref b71), .val (.double (0 : UInt64)), .second, .val (.double (0 : UInt64)), .second, .unset, .unset, .unset, .unset, .unset, .unset, .unset, .unset, .unset] [])
          refine Go.step (fun _ k => XS.iconst X95.here hx rfl (hb hby at_213) k) ?_
          refine Go.step (fun _ k => XS.goto X95.here hx rfl (pc0 := 214) (pc' := 218) rfl (hb hby at_214) (by decide) (by decide) k) ?_
          show Go _ _ _ _ _ _ _ T95 (mkF m 218 #[.val (.int ia), .val (.int ib), .val (.int ic), .val (.int ie), .val (.int ix), .val (.int ifl), .val (.int qq), .val (.int dd), .val (.int pp), .val (.int vv), .val (.ref ad), .val (.ref as__70), .val (.long jL), .second, .val (.double (FP.l2d jL)), .second, .val (.ref b71), .val (.double (0 : UInt64)), .second, .val (.double (0 : UInt64)), .second, .unset, .unset, .unset, .unset, .unset, .unset, .unset, .unset, .unset] [(.int (1 : Int32))])
          refine Go.step (fun _ k => XS.istore X95.here hx rfl (hb hby at_218) rfl (l' := #[.val (.int ia), .val (.int ib), .val (.int ic), .val (.int ie), .val (.int ix), .val (.int ifl), .val (.int qq), .val (.int dd), .val (.int pp), .val (.int vv), .val (.ref ad), .val (.ref as__70), .val (.long jL), .second, .val (.double (FP.l2d jL)), .second, .val (.ref b71), .val (.double (0 : UInt64)), .second, .val (.double (0 : UInt64)), .second, .val (.int (1 : Int32)), .unset, .unset, .unset, .unset, .unset, .unset, .unset, .unset]) rfl k) ?_
          show Go _ _ _ _ _ _ _ T95 (mkF m 220 #[.val (.int ia), .val (.int ib), .val (.int ic), .val (.int ie), .val (.int ix), .val (.int ifl), .val (.int qq), .val (.int dd), .val (.int pp), .val (.int vv), .val (.ref ad), .val (.ref as__70), .val (.long jL), .second, .val (.double (FP.l2d jL)), .second, .val (.ref b71), .val (.double (0 : UInt64)), .second, .val (.double (0 : UInt64)), .second, .val (.int (1 : Int32)), .unset, .unset, .unset, .unset, .unset, .unset, .unset, .unset] [])
          refine Go.step (fun _ k => XS.goto X95.here hx rfl (pc0 := 220) (pc' := 319) rfl (hb hby at_220) (by decide) (by decide) k) ?_
          show Go _ _ _ _ _ _ _ T95 (mkF m 319 #[.val (.int ia), .val (.int ib), .val (.int ic), .val (.int ie), .val (.int ix), .val (.int ifl), .val (.int qq), .val (.int dd), .val (.int pp), .val (.int vv), .val (.ref ad), .val (.ref as__70), .val (.long jL), .second, .val (.double (FP.l2d jL)), .second, .val (.ref b71), .val (.double (0 : UInt64)), .second, .val (.double (0 : UInt64)), .second, .val (.int (1 : Int32)), .unset, .unset, .unset, .unset, .unset, .unset, .unset, .unset] [])
          refine Go.step (fun _ k => XS.iload X95.here hx rfl (hb hby at_319) rfl k) ?_
          have hc321_99 : ¬ ((1 : Int32) = (0 : Int32)) := (by decide)
          refine Go.step (fun _ k => XS.ifNo X95.here hx rfl (hb hby at_321) rfl ((if0 _ _).trans (feq hc321_99).1) k) ?_
          show Go _ _ _ _ _ _ _ T95 (mkF m 324 #[.val (.int ia), .val (.int ib), .val (.int ic), .val (.int ie), .val (.int ix), .val (.int ifl), .val (.int qq), .val (.int dd), .val (.int pp), .val (.int vv), .val (.ref ad), .val (.ref as__70), .val (.long jL), .second, .val (.double (FP.l2d jL)), .second, .val (.ref b71), .val (.double (0 : UInt64)), .second, .val (.double (0 : UInt64)), .second, .val (.int (1 : Int32)), .unset, .unset, .unset, .unset, .unset, .unset, .unset, .unset] [])
          refine Go.step (fun _ k => XS.dload X95.here hx rfl (hb hby at_324) rfl k) ?_
          refine Go.step (fun _ k => XS.dload X95.here hx rfl (hb hby at_326) rfl k) ?_
          refine Go.step (fun _ k => XS.dcmpS X95.here hx rfl (hb hby at_328) rfl rfl k) ?_
          show Go _ _ _ _ _ _ _ T95 (mkF m 329 #[.val (.int ia), .val (.int ib), .val (.int ic), .val (.int ie), .val (.int ix), .val (.int ifl), .val (.int qq), .val (.int dd), .val (.int pp), .val (.int vv), .val (.ref ad), .val (.ref as__70), .val (.long jL), .second, .val (.double (FP.l2d jL)), .second, .val (.ref b71), .val (.double (0 : UInt64)), .second, .val (.double (0 : UInt64)), .second, .val (.int (1 : Int32)), .unset, .unset, .unset, .unset, .unset, .unset, .unset, .unset] [(.int (cmpValue (FP.dcmp (0 : UInt64) (0 : UInt64)) .g))])
          have hc329_100 : ¬ ((0 : Int32) < (cmpValue (FP.dcmp (0 : UInt64) (0 : UInt64)) .g)) := (by decide +kernel)
          refine Go.step (fun _ k => XS.ifNo X95.here hx rfl (hb hby at_329) rfl ((if0 _ _).trans (flt hc329_100).2.2.1) k) ?_
          show Go _ _ _ _ _ _ _ T95 (mkF m 332 #[.val (.int ia), .val (.int ib), .val (.int ic), .val (.int ie), .val (.int ix), .val (.int ifl), .val (.int qq), .val (.int dd), .val (.int pp), .val (.int vv), .val (.ref ad), .val (.ref as__70), .val (.long jL), .second, .val (.double (FP.l2d jL)), .second, .val (.ref b71), .val (.double (0 : UInt64)), .second, .val (.double (0 : UInt64)), .second, .val (.int (1 : Int32)), .unset, .unset, .unset, .unset, .unset, .unset, .unset, .unset] [])
          refine Go.step (fun _ k => XS.iconst X95.here hx rfl (hb hby at_332) k) ?_
          refine Go.step (fun _ k => XS.goto X95.here hx rfl (pc0 := 333) (pc' := 337) rfl (hb hby at_333) (by decide) (by decide) k) ?_
          show Go _ _ _ _ _ _ _ T95 (mkF m 337 #[.val (.int ia), .val (.int ib), .val (.int ic), .val (.int ie), .val (.int ix), .val (.int ifl), .val (.int qq), .val (.int dd), .val (.int pp), .val (.int vv), .val (.ref ad), .val (.ref as__70), .val (.long jL), .second, .val (.double (FP.l2d jL)), .second, .val (.ref b71), .val (.double (0 : UInt64)), .second, .val (.double (0 : UInt64)), .second, .val (.int (1 : Int32)), .unset, .unset, .unset, .unset, .unset, .unset, .unset, .unset] [(.int (1 : Int32))])
          exact Go.retN X95 hx (t := .boolean) hret hlk (by simp) (hb hby at_337) e95 (by decide) (by decide) ⟨rfl, N95, trivial⟩
        · show Go _ _ _ _ _ _ _ T72 (mkF m 151 #[.val (.int ia), .val (.int ib), .val (.int ic), .val (.int ie), .val (.int ix), .val (.int ifl), .val (.int qq), .val (.int dd), .val (.int pp), .val (.int vv), .val (.ref ad), .val (.ref as__70), .val (.long jL), .second, .val (.double (FP.l2d jL)), .second, .val (.ref b71), .unset, .unset, .unset, .unset, .unset, .unset, .unset, .unset, .unset, .unset, .unset, .unset, .unset] [])
          obtain ⟨nf1, nf2, zr, fr, Zr, Rr⟩ := own_con (jp := jp) (jL := jL) (jq := jq) (by omega) ⟨by omega, by omega⟩ (by omega) (by omega)
          refine Go.step (fun _ k => XS.aload X72.here hx rfl (hb hby at_151) rfl rfl k) ?_
          refine Go.step (fun _ k => XS.dload X72.here hx rfl (hb hby at_153) rfl k) ?_
          obtain ⟨cq101, kq101, q101a, q101b, q101c⟩ := isOf hZ e72 E1_72
          obtain ⟨_, _, ⟨T101, L101, k101, n101⟩, -, X101, ⟨Lc101, hQ101, l101, y101, z101⟩, st101⟩ := X72.virtualBack hx (y := (⟨"com/example/wayfront/wayfront/decision/Criterion", "concordance", "(D)D"⟩ : MethodName)) (z := (⟨"com/example/wayfront/wayfront/decision/Criterion", "concordance", "(D)D"⟩ : MethodName)) hown (mvT hZ (hw _ (List.mem_of_getElem? (i := 66) rfl))) (mvT hZ (hw _ (List.mem_of_getElem? (i := 67) rfl))) (notFace_of_selects (args := #[]) (mvT hZ (hw _ (List.mem_of_getElem? (i := 69) rfl)))) (mvT hZ (hw _ (List.mem_of_getElem? (i := 69) rfl))) (mvT hZ (hw _ (List.mem_of_getElem? (i := 68) rfl))) (by decide) (backOf (W := 0) (rmCc l Z a0 hw [] b71 (FP.l2d jL) (FP.l2d jp) (FP.l2d jq) h72 n0 Z72 Gi_72 Gp_72 ((own_gt (by omega) (by omega) .g).mpr (by omega)) (mt (own_gt (by omega) (by omega) .l).mp (by omega)) nf1 nf2 Zr.nn) hZ (hw _ (List.mem_of_getElem? (i := 70) rfl)) (hw _ (List.mem_of_getElem? (i := 32) rfl)) (by decide) (by decide)) q101a q101c (g := (mkF m 155 #[.val (.int ia), .val (.int ib), .val (.int ic), .val (.int ie), .val (.int ix), .val (.int ifl), .val (.int qq), .val (.int dd), .val (.int pp), .val (.int vv), .val (.ref ad), .val (.ref as__70), .val (.long jL), .second, .val (.double (FP.l2d jL)), .second, .val (.ref b71), .unset, .unset, .unset, .unset, .unset, .unset, .unset, .unset, .unset, .unset, .unset, .unset, .unset] [(.double (FP.l2d jL)), (.ref b71)])) rfl (by rw [hml]; rfl) (Steps.refl _) (argsL := [(.double (FP.l2d jL))]) (rest := []) (lenOf pd__D_D rfl) rfl (by show 2 * 0 + _ ≤ _; exact Nat.le_of_eq rfl) (hb hby at_155) (fun _ _ => ⟨rfl, e72, (by decide : 3 + 0 ≤ _), (by decide : 10 + 0 ≤ _)⟩)
          dsimp only [Pt.U, Pt.locs, Pt.cells, Pt.slots] at X101 l101 y101 z101 st101 hQ101
          subst l101 y101 z101
          obtain ⟨h101, e101⟩ : ∃ h, T101.heap = h := ⟨_, rfl⟩
          rw [e101] at hQ101
          obtain ⟨rfl, Nq101, hs101⟩ := hQ101
          have N101 := Fr.app N72 Nq101
          rw [hs101] at e101
          refine Go.trans st101 ?_
          show Go _ _ _ _ _ _ _ T101 (mkF m 158 #[.val (.int ia), .val (.int ib), .val (.int ic), .val (.int ie), .val (.int ix), .val (.int ifl), .val (.int qq), .val (.int dd), .val (.int pp), .val (.int vv), .val (.ref ad), .val (.ref as__70), .val (.long jL), .second, .val (.double (FP.l2d jL)), .second, .val (.ref b71), .unset, .unset, .unset, .unset, .unset, .unset, .unset, .unset, .unset, .unset, .unset, .unset, .unset] [(.double (FP.ddiv (FP.dsub (FP.l2d jp) (FP.l2d jL)) (FP.dsub (FP.l2d jp) (FP.l2d jq))))])
          generalize (FP.ddiv (FP.dsub (FP.l2d jp) (FP.l2d jL)) (FP.dsub (FP.l2d jp) (FP.l2d jq))) = rr at Zr ⊢
          show Go _ _ _ _ _ _ _ T101 (mkF m 158 #[.val (.int ia), .val (.int ib), .val (.int ic), .val (.int ie), .val (.int ix), .val (.int ifl), .val (.int qq), .val (.int dd), .val (.int pp), .val (.int vv), .val (.ref ad), .val (.ref as__70), .val (.long jL), .second, .val (.double (FP.l2d jL)), .second, .val (.ref b71), .unset, .unset, .unset, .unset, .unset, .unset, .unset, .unset, .unset, .unset, .unset, .unset, .unset] [(.double rr)])
          refine Go.step (fun _ k => XS.dstore X101.here hx rfl (hb hby at_158) rfl (l' := #[.val (.int ia), .val (.int ib), .val (.int ic), .val (.int ie), .val (.int ix), .val (.int ifl), .val (.int qq), .val (.int dd), .val (.int pp), .val (.int vv), .val (.ref ad), .val (.ref as__70), .val (.long jL), .second, .val (.double (FP.l2d jL)), .second, .val (.ref b71), .val (.double rr), .second, .unset, .unset, .unset, .unset, .unset, .unset, .unset, .unset, .unset, .unset, .unset]) rfl k) ?_
          show Go _ _ _ _ _ _ _ T101 (mkF m 160 #[.val (.int ia), .val (.int ib), .val (.int ic), .val (.int ie), .val (.int ix), .val (.int ifl), .val (.int qq), .val (.int dd), .val (.int pp), .val (.int vv), .val (.ref ad), .val (.ref as__70), .val (.long jL), .second, .val (.double (FP.l2d jL)), .second, .val (.ref b71), .val (.double rr), .second, .unset, .unset, .unset, .unset, .unset, .unset, .unset, .unset, .unset, .unset, .unset] [])
          refine Go.step (fun _ k => XS.aload X101.here hx rfl (hb hby at_160) rfl rfl k) ?_
          refine Go.step (fun _ k => XS.dload X101.here hx rfl (hb hby at_162) rfl k) ?_
          refine Go.step (fun _ k => XS.dconst1 X101.here hx rfl (v := (4607182418800017408 : UInt64)) (hb hby at_164) (by decide +kernel) k) ?_
          refine Go.step (fun _ k => XS.daddS X101.here hx rfl (hb hby at_165) rfl (own_inc hL).1 rfl k) ?_
          show Go _ _ _ _ _ _ _ T101 (mkF m 166 #[.val (.int ia), .val (.int ib), .val (.int ic), .val (.int ie), .val (.int ix), .val (.int ifl), .val (.int qq), .val (.int dd), .val (.int pp), .val (.int vv), .val (.ref ad), .val (.ref as__70), .val (.long jL), .second, .val (.double (FP.l2d jL)), .second, .val (.ref b71), .val (.double rr), .second, .unset, .unset, .unset, .unset, .unset, .unset, .unset, .unset, .unset, .unset, .unset] [(.double (FP.dadd (FP.l2d jL) (4607182418800017408 : UInt64))), (.ref b71)])
          obtain ⟨jM, hjM, ejM⟩ := (own_inc hL).2
          rw [hjM]
          show Go _ _ _ _ _ _ _ T101 (mkF m 166 #[.val (.int ia), .val (.int ib), .val (.int ic), .val (.int ie), .val (.int ix), .val (.int ifl), .val (.int qq), .val (.int dd), .val (.int pp), .val (.int vv), .val (.ref ad), .val (.ref as__70), .val (.long jL), .second, .val (.double (FP.l2d jL)), .second, .val (.ref b71), .val (.double rr), .second, .unset, .unset, .unset, .unset, .unset, .unset, .unset, .unset, .unset, .unset, .unset] [(.double (FP.l2d jM)), (.ref b71)])
          obtain ⟨cq102, kq102, q102a, q102b, q102c⟩ := isOf hZ e101 E1_72
          obtain ⟨_, _, ⟨T102, L102, k102, n102⟩, -, X102, ⟨Lc102, hQ102, l102, y102, z102⟩, st102⟩ := X101.virtualBack hx (y := (⟨"com/example/wayfront/wayfront/decision/Criterion", "concordance", "(D)D"⟩ : MethodName)) (z := (⟨"com/example/wayfront/wayfront/decision/Criterion", "concordance", "(D)D"⟩ : MethodName)) hown (mvT hZ (hw _ (List.mem_of_getElem? (i := 66) rfl))) (mvT hZ (hw _ (List.mem_of_getElem? (i := 67) rfl))) (notFace_of_selects (args := #[]) (mvT hZ (hw _ (List.mem_of_getElem? (i := 69) rfl)))) (mvT hZ (hw _ (List.mem_of_getElem? (i := 69) rfl))) (mvT hZ (hw _ (List.mem_of_getElem? (i := 68) rfl))) (by decide) (backOf (W := 0) (rmCb l Z a0 hw [] b71 (FP.l2d jM) (FP.l2d jp) (FP.l2d jq) h72 n0 Z72 Gi_72 Gp_72 ((own_gt (by omega) (by omega) .g).mpr (by omega)) ((own_gt (by omega) (by omega) .l).mpr (by omega))) hZ (hw _ (List.mem_of_getElem? (i := 70) rfl)) (hw _ (List.mem_of_getElem? (i := 32) rfl)) (by decide) (by decide)) q102a q102c (g := (mkF m 166 #[.val (.int ia), .val (.int ib), .val (.int ic), .val (.int ie), .val (.int ix), .val (.int ifl), .val (.int qq), .val (.int dd), .val (.int pp), .val (.int vv), .val (.ref ad), .val (.ref as__70), .val (.long jL), .second, .val (.double (FP.l2d jL)), .second, .val (.ref b71), .val (.double rr), .second, .unset, .unset, .unset, .unset, .unset, .unset, .unset, .unset, .unset, .unset, .unset] [(.double (FP.l2d jM)), (.ref b71)])) rfl (by rw [hml]; rfl) (Steps.refl _) (argsL := [(.double (FP.l2d jM))]) (rest := []) (lenOf pd__D_D rfl) rfl (by show 2 * 0 + _ ≤ _; exact Nat.le_of_eq rfl) (hb hby at_166) (fun _ _ => ⟨rfl, e101, (by decide : 3 + 0 ≤ _), (by decide : 10 + 0 ≤ _)⟩)
          dsimp only [Pt.U, Pt.locs, Pt.cells, Pt.slots] at X102 l102 y102 z102 st102 hQ102
          subst l102 y102 z102
          obtain ⟨h102, e102⟩ : ∃ h, T102.heap = h := ⟨_, rfl⟩
          rw [e102] at hQ102
          obtain ⟨rfl, Nq102, hs102⟩ := hQ102
          have N102 := Fr.app N101 Nq102
          rw [hs102] at e102
          refine Go.trans st102 ?_
          show Go _ _ _ _ _ _ _ T102 (mkF m 169 #[.val (.int ia), .val (.int ib), .val (.int ic), .val (.int ie), .val (.int ix), .val (.int ifl), .val (.int qq), .val (.int dd), .val (.int pp), .val (.int vv), .val (.ref ad), .val (.ref as__70), .val (.long jL), .second, .val (.double (FP.l2d jL)), .second, .val (.ref b71), .val (.double rr), .second, .unset, .unset, .unset, .unset, .unset, .unset, .unset, .unset, .unset, .unset, .unset] [(.double (0 : UInt64))])
          refine Go.step (fun _ k => XS.dstore X102.here hx rfl (hb hby at_169) rfl (l' := #[.val (.int ia), .val (.int ib), .val (.int ic), .val (.int ie), .val (.int ix), .val (.int ifl), .val (.int qq), .val (.int dd), .val (.int pp), .val (.int vv), .val (.ref ad), .val (.ref as__70), .val (.long jL), .second, .val (.double (FP.l2d jL)), .second, .val (.ref b71), .val (.double rr), .second, .val (.double (0 : UInt64)), .second, .unset, .unset, .unset, .unset, .unset, .unset, .unset, .unset, .unset]) rfl k) ?_
          show Go _ _ _ _ _ _ _ T102 (mkF m 171 #[.val (.int ia), .val (.int ib), .val (.int ic), .val (.int ie), .val (.int ix), .val (.int ifl), .val (.int qq), .val (.int dd), .val (.int pp), .val (.int vv), .val (.ref ad), .val (.ref as__70), .val (.long jL), .second, .val (.double (FP.l2d jL)), .second, .val (.ref b71), .val (.double rr), .second, .val (.double (0 : UInt64)), .second, .unset, .unset, .unset, .unset, .unset, .unset, .unset, .unset, .unset] [])
          refine Go.step (fun _ k => XS.lload X102.here hx rfl (hb hby at_171) rfl k) ?_
          refine Go.step (fun _ k => XS.iload X102.here hx rfl (hb hby at_173) rfl k) ?_
          refine Go.step (fun _ k => XS.i2l X102.here hx rfl (hb hby at_175) rfl k) ?_
          refine Go.step (fun _ k => XS.lcmp X102.here hx rfl (hb hby at_176) rfl k) ?_
          show Go _ _ _ _ _ _ _ T102 (mkF m 177 #[.val (.int ia), .val (.int ib), .val (.int ic), .val (.int ie), .val (.int ix), .val (.int ifl), .val (.int qq), .val (.int dd), .val (.int pp), .val (.int vv), .val (.ref ad), .val (.ref as__70), .val (.long jL), .second, .val (.double (FP.l2d jL)), .second, .val (.ref b71), .val (.double rr), .second, .val (.double (0 : UInt64)), .second, .unset, .unset, .unset, .unset, .unset, .unset, .unset, .unset, .unset] [(.int (lcmpW jL (qq.toInt64)))])
          have hc177_103 : (qq.toInt64) < jL := (own_ar10 qq jL pp dd q hp hd)
          refine Go.step (fun _ k => XS.ifYes X102.here hx rfl (pc0 := 177) (pc' := 197) rfl (hb hby at_177) rfl ((if0 _ _).trans (tlt ((lw_gt _ _).mpr hc177_103)).2.2.1) (by decide) (by decide) k) ?_
          show Go _ _ _ _ _ _ _ T102 (mkF m 197 #[.val (.int ia), .val (.int ib), .val (.int ic), .val (.int ie), .val (.int ix), .val (.int ifl), .val (.int qq), .val (.int dd), .val (.int pp), .val (.int vv), .val (.ref ad), .val (.ref as__70), .val (.long jL), .second, .val (.double (FP.l2d jL)), .second, .val (.ref b71), .val (.double rr), .second, .val (.double (0 : UInt64)), .second, .unset, .unset, .unset, .unset, .unset, .unset, .unset, .unset, .unset] [])
          refine Go.step (fun _ k => XS.lload X102.here hx rfl (hb hby at_197) rfl k) ?_
          refine Go.step (fun _ k => XS.iload X102.here hx rfl (hb hby at_199) rfl k) ?_
          refine Go.step (fun _ k => XS.i2l X102.here hx rfl (hb hby at_201) rfl k) ?_
          refine Go.step (fun _ k => XS.lcmp X102.here hx rfl (hb hby at_202) rfl k) ?_
          show Go _ _ _ _ _ _ _ T102 (mkF m 203 #[.val (.int ia), .val (.int ib), .val (.int ic), .val (.int ie), .val (.int ix), .val (.int ifl), .val (.int qq), .val (.int dd), .val (.int pp), .val (.int vv), .val (.ref ad), .val (.ref as__70), .val (.long jL), .second, .val (.double (FP.l2d jL)), .second, .val (.ref b71), .val (.double rr), .second, .val (.double (0 : UInt64)), .second, .unset, .unset, .unset, .unset, .unset, .unset, .unset, .unset, .unset] [(.int (lcmpW jL (pp.toInt64)))])
          have hc203_104 : ¬ ((pp.toInt64) < jL) := (own_ar11 pp jL qq q)
          refine Go.step (fun _ k => XS.ifYes X102.here hx rfl (pc0 := 203) (pc' := 223) rfl (hb hby at_203) rfl ((if0 _ _).trans (flt (mt (lw_gt _ _).mp hc203_104)).2.2.2) (by decide) (by decide) k) ?_
          show Go _ _ _ _ _ _ _ T102 (mkF m 223 #[.val (.int ia), .val (.int ib), .val (.int ic), .val (.int ie), .val (.int ix), .val (.int ifl), .val (.int qq), .val (.int dd), .val (.int pp), .val (.int vv), .val (.ref ad), .val (.ref as__70), .val (.long jL), .second, .val (.double (FP.l2d jL)), .second, .val (.ref b71), .val (.double rr), .second, .val (.double (0 : UInt64)), .second, .unset, .unset, .unset, .unset, .unset, .unset, .unset, .unset, .unset] [])
          refine Go.step (fun _ k => XS.iload X102.here hx rfl (hb hby at_223) rfl k) ?_
          refine Go.step (fun _ k => XS.i2l X102.here hx rfl (hb hby at_225) rfl k) ?_
          refine Go.step (fun _ k => XS.lload X102.here hx rfl (hb hby at_226) rfl k) ?_
          refine Go.step (fun _ k => XS.lsub X102.here hx rfl (hb hby at_228) rfl k) ?_
          obtain ⟨jn, hjn, ejn⟩ : ∃ z : Int64, ((pp.toInt64) - jL) = z ∧ z.toInt = pp.toInt - jL.toInt := ⟨_, rfl, (own_ar12 pp jL qq dd hL hp hq hd)⟩
          rw [hjn]
          show Go _ _ _ _ _ _ _ T102 (mkF m 229 #[.val (.int ia), .val (.int ib), .val (.int ic), .val (.int ie), .val (.int ix), .val (.int ifl), .val (.int qq), .val (.int dd), .val (.int pp), .val (.int vv), .val (.ref ad), .val (.ref as__70), .val (.long jL), .second, .val (.double (FP.l2d jL)), .second, .val (.ref b71), .val (.double rr), .second, .val (.double (0 : UInt64)), .second, .unset, .unset, .unset, .unset, .unset, .unset, .unset, .unset, .unset] [(.long jn)])
          obtain ⟨w1, w2, w3, w4, w5, w6, w7, w8⟩ := own_fin4 (dd := dd) (jn := jn) Zr Rr (by omega) (by omega) (by omega) (by omega) (by omega)
          refine Go.step (fun _ k => XS.lstore X102.here hx rfl (hb hby at_229) rfl (l' := #[.val (.int ia), .val (.int ib), .val (.int ic), .val (.int ie), .val (.int ix), .val (.int ifl), .val (.int qq), .val (.int dd), .val (.int pp), .val (.int vv), .val (.ref ad), .val (.ref as__70), .val (.long jL), .second, .val (.double (FP.l2d jL)), .second, .val (.ref b71), .val (.double rr), .second, .val (.double (0 : UInt64)), .second, .unset, .val (.long jn), .second, .unset, .unset, .unset, .unset, .unset, .unset]) rfl k) ?_
          show Go _ _ _ _ _ _ _ T102 (mkF m 231 #[.val (.int ia), .val (.int ib), .val (.int ic), .val (.int ie), .val (.int ix), .val (.int ifl), .val (.int qq), .val (.int dd), .val (.int pp), .val (.int vv), .val (.ref ad), .val (.ref as__70), .val (.long jL), .second, .val (.double (FP.l2d jL)), .second, .val (.ref b71), .val (.double rr), .second, .val (.double (0 : UInt64)), .second, .unset, .val (.long jn), .second, .unset, .unset, .unset, .unset, .unset, .unset] [])
          refine Go.step (fun _ k => XS.iload X102.here hx rfl (hb hby at_231) rfl k) ?_
          refine Go.step (fun _ k => XS.i2dS X102.here hx rfl (hb hby at_233) rfl rfl k) ?_
          show Go _ _ _ _ _ _ _ T102 (mkF m 234 #[.val (.int ia), .val (.int ib), .val (.int ic), .val (.int ie), .val (.int ix), .val (.int ifl), .val (.int qq), .val (.int dd), .val (.int pp), .val (.int vv), .val (.ref ad), .val (.ref as__70), .val (.long jL), .second, .val (.double (FP.l2d jL)), .second, .val (.ref b71), .val (.double rr), .second, .val (.double (0 : UInt64)), .second, .unset, .val (.long jn), .second, .unset, .unset, .unset, .unset, .unset, .unset] [(.double (FP.i2d dd))])
          refine Go.step (fun _ k => XS.dstore X102.here hx rfl (hb hby at_234) rfl (l' := #[.val (.int ia), .val (.int ib), .val (.int ic), .val (.int ie), .val (.int ix), .val (.int ifl), .val (.int qq), .val (.int dd), .val (.int pp), .val (.int vv), .val (.ref ad), .val (.ref as__70), .val (.long jL), .second, .val (.double (FP.l2d jL)), .second, .val (.ref b71), .val (.double rr), .second, .val (.double (0 : UInt64)), .second, .unset, .val (.long jn), .second, .val (.double (FP.i2d dd)), .second, .unset, .unset, .unset, .unset]) rfl k) ?_
          show Go _ _ _ _ _ _ _ T102 (mkF m 236 #[.val (.int ia), .val (.int ib), .val (.int ic), .val (.int ie), .val (.int ix), .val (.int ifl), .val (.int qq), .val (.int dd), .val (.int pp), .val (.int vv), .val (.ref ad), .val (.ref as__70), .val (.long jL), .second, .val (.double (FP.l2d jL)), .second, .val (.ref b71), .val (.double rr), .second, .val (.double (0 : UInt64)), .second, .unset, .val (.long jn), .second, .val (.double (FP.i2d dd)), .second, .unset, .unset, .unset, .unset] [])
          refine Go.step (fun _ k => XS.lload X102.here hx rfl (hb hby at_236) rfl k) ?_
          refine Go.step (fun _ k => XS.l2dS X102.here hx rfl (hb hby at_238) rfl rfl k) ?_
          show Go _ _ _ _ _ _ _ T102 (mkF m 239 #[.val (.int ia), .val (.int ib), .val (.int ic), .val (.int ie), .val (.int ix), .val (.int ifl), .val (.int qq), .val (.int dd), .val (.int pp), .val (.int vv), .val (.ref ad), .val (.ref as__70), .val (.long jL), .second, .val (.double (FP.l2d jL)), .second, .val (.ref b71), .val (.double rr), .second, .val (.double (0 : UInt64)), .second, .unset, .val (.long jn), .second, .val (.double (FP.i2d dd)), .second, .unset, .unset, .unset, .unset] [(.double (FP.l2d jn))])
          refine Go.step (fun _ k => XS.dstore X102.here hx rfl (hb hby at_239) rfl (l' := #[.val (.int ia), .val (.int ib), .val (.int ic), .val (.int ie), .val (.int ix), .val (.int ifl), .val (.int qq), .val (.int dd), .val (.int pp), .val (.int vv), .val (.ref ad), .val (.ref as__70), .val (.long jL), .second, .val (.double (FP.l2d jL)), .second, .val (.ref b71), .val (.double rr), .second, .val (.double (0 : UInt64)), .second, .unset, .val (.long jn), .second, .val (.double (FP.i2d dd)), .second, .val (.double (FP.l2d jn)), .second, .unset, .unset]) rfl k) ?_
          show Go _ _ _ _ _ _ _ T102 (mkF m 241 #[.val (.int ia), .val (.int ib), .val (.int ic), .val (.int ie), .val (.int ix), .val (.int ifl), .val (.int qq), .val (.int dd), .val (.int pp), .val (.int vv), .val (.ref ad), .val (.ref as__70), .val (.long jL), .second, .val (.double (FP.l2d jL)), .second, .val (.ref b71), .val (.double rr), .second, .val (.double (0 : UInt64)), .second, .unset, .val (.long jn), .second, .val (.double (FP.i2d dd)), .second, .val (.double (FP.l2d jn)), .second, .unset, .unset] [])
          refine Go.step (fun _ k => XS.dload X102.here hx rfl (hb hby at_241) rfl k) ?_
          refine Go.step (fun _ k => XS.dload X102.here hx rfl (hb hby at_243) rfl k) ?_
          refine Go.step (fun _ k => XS.dmulS X102.here hx rfl (hb hby at_245) rfl w1 rfl k) ?_
          show Go _ _ _ _ _ _ _ T102 (mkF m 246 #[.val (.int ia), .val (.int ib), .val (.int ic), .val (.int ie), .val (.int ix), .val (.int ifl), .val (.int qq), .val (.int dd), .val (.int pp), .val (.int vv), .val (.ref ad), .val (.ref as__70), .val (.long jL), .second, .val (.double (FP.l2d jL)), .second, .val (.ref b71), .val (.double rr), .second, .val (.double (0 : UInt64)), .second, .unset, .val (.long jn), .second, .val (.double (FP.i2d dd)), .second, .val (.double (FP.l2d jn)), .second, .unset, .unset] [(.double (FP.dmul rr (FP.i2d dd)))])
          refine Go.step (fun _ k => XS.dstore X102.here hx rfl (hb hby at_246) rfl (l' := #[.val (.int ia), .val (.int ib), .val (.int ic), .val (.int ie), .val (.int ix), .val (.int ifl), .val (.int qq), .val (.int dd), .val (.int pp), .val (.int vv), .val (.ref ad), .val (.ref as__70), .val (.long jL), .second, .val (.double (FP.l2d jL)), .second, .val (.ref b71), .val (.double rr), .second, .val (.double (0 : UInt64)), .second, .unset, .val (.long jn), .second, .val (.double (FP.i2d dd)), .second, .val (.double (FP.l2d jn)), .second, .val (.double (FP.dmul rr (FP.i2d dd))), .second]) rfl k) ?_
          show Go _ _ _ _ _ _ _ T102 (mkF m 248 #[.val (.int ia), .val (.int ib), .val (.int ic), .val (.int ie), .val (.int ix), .val (.int ifl), .val (.int qq), .val (.int dd), .val (.int pp), .val (.int vv), .val (.ref ad), .val (.ref as__70), .val (.long jL), .second, .val (.double (FP.l2d jL)), .second, .val (.ref b71), .val (.double rr), .second, .val (.double (0 : UInt64)), .second, .unset, .val (.long jn), .second, .val (.double (FP.i2d dd)), .second, .val (.double (FP.l2d jn)), .second, .val (.double (FP.dmul rr (FP.i2d dd))), .second] [])
          refine Go.step (fun _ k => XS.dload X102.here hx rfl (hb hby at_248) rfl k) ?_
          refine Go.step (fun _ k => XS.dconst0 X102.here hx rfl (v := (0 : UInt64)) (hb hby at_250) (by decide +kernel) k) ?_
          refine Go.step (fun _ k => XS.dcmpS X102.here hx rfl (hb hby at_251) rfl rfl k) ?_
          show Go _ _ _ _ _ _ _ T102 (mkF m 252 #[.val (.int ia), .val (.int ib), .val (.int ic), .val (.int ie), .val (.int ix), .val (.int ifl), .val (.int qq), .val (.int dd), .val (.int pp), .val (.int vv), .val (.ref ad), .val (.ref as__70), .val (.long jL), .second, .val (.double (FP.l2d jL)), .second, .val (.ref b71), .val (.double rr), .second, .val (.double (0 : UInt64)), .second, .unset, .val (.long jn), .second, .val (.double (FP.i2d dd)), .second, .val (.double (FP.l2d jn)), .second, .val (.double (FP.dmul rr (FP.i2d dd))), .second] [(.int (cmpValue (FP.dcmp rr (0 : UInt64)) .l))])
          have hc252_105 : ¬ ((cmpValue (FP.dcmp rr (0 : UInt64)) .l) < (0 : Int32)) := w4
          refine Go.step (fun _ k => XS.ifNo X102.here hx rfl (hb hby at_252) rfl ((if0 _ _).trans (flt hc252_105).1) k) ?_
          show Go _ _ _ _ _ _ _ T102 (mkF m 255 #[.val (.int ia), .val (.int ib), .val (.int ic), .val (.int ie), .val (.int ix), .val (.int ifl), .val (.int qq), .val (.int dd), .val (.int pp), .val (.int vv), .val (.ref ad), .val (.ref as__70), .val (.long jL), .second, .val (.double (FP.l2d jL)), .second, .val (.ref b71), .val (.double rr), .second, .val (.double (0 : UInt64)), .second, .unset, .val (.long jn), .second, .val (.double (FP.i2d dd)), .second, .val (.double (FP.l2d jn)), .second, .val (.double (FP.dmul rr (FP.i2d dd))), .second] [])
          refine Go.step (fun _ k => XS.dload X102.here hx rfl (hb hby at_255) rfl k) ?_
          refine Go.step (fun _ k => XS.dconst1 X102.here hx rfl (v := (4607182418800017408 : UInt64)) (hb hby at_257) (by decide +kernel) k) ?_
          refine Go.step (fun _ k => XS.dcmpS X102.here hx rfl (hb hby at_258) rfl rfl k) ?_
          show Go _ _ _ _ _ _ _ T102 (mkF m 259 #[.val (.int ia), .val (.int ib), .val (.int ic), .val (.int ie), .val (.int ix), .val (.int ifl), .val (.int qq), .val (.int dd), .val (.int pp), .val (.int vv), .val (.ref ad), .val (.ref as__70), .val (.long jL), .second, .val (.double (FP.l2d jL)), .second, .val (.ref b71), .val (.double rr), .second, .val (.double (0 : UInt64)), .second, .unset, .val (.long jn), .second, .val (.double (FP.i2d dd)), .second, .val (.double (FP.l2d jn)), .second, .val (.double (FP.dmul rr (FP.i2d dd))), .second] [(.int (cmpValue (FP.dcmp rr (4607182418800017408 : UInt64)) .g))])
          have hc259_106 : (cmpValue (FP.dcmp rr (4607182418800017408 : UInt64)) .g) < (0 : Int32) := w5
          refine Go.step (fun _ k => XS.ifNo X102.here hx rfl (hb hby at_259) rfl ((if0 _ _).trans (tlt hc259_106).2.1) k) ?_
          show Go _ _ _ _ _ _ _ T102 (mkF m 262 #[.val (.int ia), .val (.int ib), .val (.int ic), .val (.int ie), .val (.int ix), .val (.int ifl), .val (.int qq), .val (.int dd), .val (.int pp), .val (.int vv), .val (.ref ad), .val (.ref as__70), .val (.long jL), .second, .val (.double (FP.l2d jL)), .second, .val (.ref b71), .val (.double rr), .second, .val (.double (0 : UInt64)), .second, .unset, .val (.long jn), .second, .val (.double (FP.i2d dd)), .second, .val (.double (FP.l2d jn)), .second, .val (.double (FP.dmul rr (FP.i2d dd))), .second] [])
          refine Go.step (fun _ k => XS.dload X102.here hx rfl (hb hby at_262) rfl k) ?_
          refine Go.step (fun _ k => XS.dload X102.here hx rfl (hb hby at_264) rfl k) ?_
          refine Go.step (X102.ldc2DoubleC hx hown (mvT hZ (hw _ (List.mem_of_getElem? (i := 73) rfl))) (g := (mkF m 266 #[.val (.int ia), .val (.int ib), .val (.int ic), .val (.int ie), .val (.int ix), .val (.int ifl), .val (.int qq), .val (.int dd), .val (.int pp), .val (.int vv), .val (.ref ad), .val (.ref as__70), .val (.long jL), .second, .val (.double (FP.l2d jL)), .second, .val (.ref b71), .val (.double rr), .second, .val (.double (0 : UInt64)), .second, .unset, .val (.long jn), .second, .val (.double (FP.i2d dd)), .second, .val (.double (FP.l2d jn)), .second, .val (.double (FP.dmul rr (FP.i2d dd))), .second] [(.double (FP.l2d jn)), (.double (FP.dmul rr (FP.i2d dd)))])) rfl (hb hby at_266)) ?_
          show Go _ _ _ _ _ _ _ T102 (mkF m 269 #[.val (.int ia), .val (.int ib), .val (.int ic), .val (.int ie), .val (.int ix), .val (.int ifl), .val (.int qq), .val (.int dd), .val (.int pp), .val (.int vv), .val (.ref ad), .val (.ref as__70), .val (.long jL), .second, .val (.double (FP.l2d jL)), .second, .val (.ref b71), .val (.double rr), .second, .val (.double (0 : UInt64)), .second, .unset, .val (.long jn), .second, .val (.double (FP.i2d dd)), .second, .val (.double (FP.l2d jn)), .second, .val (.double (FP.dmul rr (FP.i2d dd))), .second] [(.double (4562146422526312448 : UInt64)), (.double (FP.l2d jn)), (.double (FP.dmul rr (FP.i2d dd)))])
          refine Go.step (fun _ k => XS.dsubS X102.here hx rfl (hb hby at_269) rfl w2 rfl k) ?_
          show Go _ _ _ _ _ _ _ T102 (mkF m 270 #[.val (.int ia), .val (.int ib), .val (.int ic), .val (.int ie), .val (.int ix), .val (.int ifl), .val (.int qq), .val (.int dd), .val (.int pp), .val (.int vv), .val (.ref ad), .val (.ref as__70), .val (.long jL), .second, .val (.double (FP.l2d jL)), .second, .val (.ref b71), .val (.double rr), .second, .val (.double (0 : UInt64)), .second, .unset, .val (.long jn), .second, .val (.double (FP.i2d dd)), .second, .val (.double (FP.l2d jn)), .second, .val (.double (FP.dmul rr (FP.i2d dd))), .second] [(.double (FP.dsub (FP.l2d jn) (4562146422526312448 : UInt64))), (.double (FP.dmul rr (FP.i2d dd)))])
          refine Go.step (fun _ k => XS.dcmpS X102.here hx rfl (hb hby at_270) rfl rfl k) ?_
          show Go _ _ _ _ _ _ _ T102 (mkF m 271 #[.val (.int ia), .val (.int ib), .val (.int ic), .val (.int ie), .val (.int ix), .val (.int ifl), .val (.int qq), .val (.int dd), .val (.int pp), .val (.int vv), .val (.ref ad), .val (.ref as__70), .val (.long jL), .second, .val (.double (FP.l2d jL)), .second, .val (.ref b71), .val (.double rr), .second, .val (.double (0 : UInt64)), .second, .unset, .val (.long jn), .second, .val (.double (FP.i2d dd)), .second, .val (.double (FP.l2d jn)), .second, .val (.double (FP.dmul rr (FP.i2d dd))), .second] [(.int (cmpValue (FP.dcmp (FP.dmul rr (FP.i2d dd)) (FP.dsub (FP.l2d jn) (4562146422526312448 : UInt64))) .l))])
          have hc271_107 : ¬ ((cmpValue (FP.dcmp (FP.dmul rr (FP.i2d dd)) (FP.dsub (FP.l2d jn) (4562146422526312448 : UInt64))) .l) < (0 : Int32)) := w6
          refine Go.step (fun _ k => XS.ifNo X102.here hx rfl (hb hby at_271) rfl ((if0 _ _).trans (flt hc271_107).1) k) ?_
          show Go _ _ _ _ _ _ _ T102 (mkF m 274 #[.val (.int ia), .val (.int ib), .val (.int ic), .val (.int ie), .val (.int ix), .val (.int ifl), .val (.int qq), .val (.int dd), .val (.int pp), .val (.int vv), .val (.ref ad), .val (.ref as__70), .val (.long jL), .second, .val (.double (FP.l2d jL)), .second, .val (.ref b71), .val (.double rr), .second, .val (.double (0 : UInt64)), .second, .unset, .val (.long jn), .second, .val (.double (FP.i2d dd)), .second, .val (.double (FP.l2d jn)), .second, .val (.double (FP.dmul rr (FP.i2d dd))), .second] [])
          refine Go.step (fun _ k => XS.dload X102.here hx rfl (hb hby at_274) rfl k) ?_
          refine Go.step (fun _ k => XS.dload X102.here hx rfl (hb hby at_276) rfl k) ?_
          refine Go.step (X102.ldc2DoubleC hx hown (mvT hZ (hw _ (List.mem_of_getElem? (i := 73) rfl))) (g := (mkF m 278 #[.val (.int ia), .val (.int ib), .val (.int ic), .val (.int ie), .val (.int ix), .val (.int ifl), .val (.int qq), .val (.int dd), .val (.int pp), .val (.int vv), .val (.ref ad), .val (.ref as__70), .val (.long jL), .second, .val (.double (FP.l2d jL)), .second, .val (.ref b71), .val (.double rr), .second, .val (.double (0 : UInt64)), .second, .unset, .val (.long jn), .second, .val (.double (FP.i2d dd)), .second, .val (.double (FP.l2d jn)), .second, .val (.double (FP.dmul rr (FP.i2d dd))), .second] [(.double (FP.l2d jn)), (.double (FP.dmul rr (FP.i2d dd)))])) rfl (hb hby at_278)) ?_
          show Go _ _ _ _ _ _ _ T102 (mkF m 281 #[.val (.int ia), .val (.int ib), .val (.int ic), .val (.int ie), .val (.int ix), .val (.int ifl), .val (.int qq), .val (.int dd), .val (.int pp), .val (.int vv), .val (.ref ad), .val (.ref as__70), .val (.long jL), .second, .val (.double (FP.l2d jL)), .second, .val (.ref b71), .val (.double rr), .second, .val (.double (0 : UInt64)), .second, .unset, .val (.long jn), .second, .val (.double (FP.i2d dd)), .second, .val (.double (FP.l2d jn)), .second, .val (.double (FP.dmul rr (FP.i2d dd))), .second] [(.double (4562146422526312448 : UInt64)), (.double (FP.l2d jn)), (.double (FP.dmul rr (FP.i2d dd)))])
          refine Go.step (fun _ k => XS.daddS X102.here hx rfl (hb hby at_281) rfl w3 rfl k) ?_
          show Go _ _ _ _ _ _ _ T102 (mkF m 282 #[.val (.int ia), .val (.int ib), .val (.int ic), .val (.int ie), .val (.int ix), .val (.int ifl), .val (.int qq), .val (.int dd), .val (.int pp), .val (.int vv), .val (.ref ad), .val (.ref as__70), .val (.long jL), .second, .val (.double (FP.l2d jL)), .second, .val (.ref b71), .val (.double rr), .second, .val (.double (0 : UInt64)), .second, .unset, .val (.long jn), .second, .val (.double (FP.i2d dd)), .second, .val (.double (FP.l2d jn)), .second, .val (.double (FP.dmul rr (FP.i2d dd))), .second] [(.double (FP.dadd (FP.l2d jn) (4562146422526312448 : UInt64))), (.double (FP.dmul rr (FP.i2d dd)))])
          refine Go.step (fun _ k => XS.dcmpS X102.here hx rfl (hb hby at_282) rfl rfl k) ?_
          show Go _ _ _ _ _ _ _ T102 (mkF m 283 #[.val (.int ia), .val (.int ib), .val (.int ic), .val (.int ie), .val (.int ix), .val (.int ifl), .val (.int qq), .val (.int dd), .val (.int pp), .val (.int vv), .val (.ref ad), .val (.ref as__70), .val (.long jL), .second, .val (.double (FP.l2d jL)), .second, .val (.ref b71), .val (.double rr), .second, .val (.double (0 : UInt64)), .second, .unset, .val (.long jn), .second, .val (.double (FP.i2d dd)), .second, .val (.double (FP.l2d jn)), .second, .val (.double (FP.dmul rr (FP.i2d dd))), .second] [(.int (cmpValue (FP.dcmp (FP.dmul rr (FP.i2d dd)) (FP.dadd (FP.l2d jn) (4562146422526312448 : UInt64))) .g))])
          have hc283_108 : ¬ ((0 : Int32) < (cmpValue (FP.dcmp (FP.dmul rr (FP.i2d dd)) (FP.dadd (FP.l2d jn) (4562146422526312448 : UInt64))) .g)) := w7
          refine Go.step (fun _ k => XS.ifNo X102.here hx rfl (hb hby at_283) rfl ((if0 _ _).trans (flt hc283_108).2.2.1) k) ?_
          show Go _ _ _ _ _ _ _ T102 (mkF m 286 #[.val (.int ia), .val (.int ib), .val (.int ic), .val (.int ie), .val (.int ix), .val (.int ifl), .val (.int qq), .val (.int dd), .val (.int pp), .val (.int vv), .val (.ref ad), .val (.ref as__70), .val (.long jL), .second, .val (.double (FP.l2d jL)), .second, .val (.ref b71), .val (.double rr), .second, .val (.double (0 : UInt64)), .second, .unset, .val (.long jn), .second, .val (.double (FP.i2d dd)), .second, .val (.double (FP.l2d jn)), .second, .val (.double (FP.dmul rr (FP.i2d dd))), .second] [])
          refine Go.step (fun _ k => XS.iconst X102.here hx rfl (hb hby at_286) k) ?_
          refine Go.step (fun _ k => XS.goto X102.here hx rfl (pc0 := 287) (pc' := 291) rfl (hb hby at_287) (by decide) (by decide) k) ?_
          show Go _ _ _ _ _ _ _ T102 (mkF m 291 #[.val (.int ia), .val (.int ib), .val (.int ic), .val (.int ie), .val (.int ix), .val (.int ifl), .val (.int qq), .val (.int dd), .val (.int pp), .val (.int vv), .val (.ref ad), .val (.ref as__70), .val (.long jL), .second, .val (.double (FP.l2d jL)), .second, .val (.ref b71), .val (.double rr), .second, .val (.double (0 : UInt64)), .second, .unset, .val (.long jn), .second, .val (.double (FP.i2d dd)), .second, .val (.double (FP.l2d jn)), .second, .val (.double (FP.dmul rr (FP.i2d dd))), .second] [(.int (1 : Int32))])
          refine Go.step (fun _ k => XS.istore X102.here hx rfl (hb hby at_291) rfl (l' := #[.val (.int ia), .val (.int ib), .val (.int ic), .val (.int ie), .val (.int ix), .val (.int ifl), .val (.int qq), .val (.int dd), .val (.int pp), .val (.int vv), .val (.ref ad), .val (.ref as__70), .val (.long jL), .second, .val (.double (FP.l2d jL)), .second, .val (.ref b71), .val (.double rr), .second, .val (.double (0 : UInt64)), .second, .val (.int (1 : Int32)), .val (.long jn), .second, .val (.double (FP.i2d dd)), .second, .val (.double (FP.l2d jn)), .second, .val (.double (FP.dmul rr (FP.i2d dd))), .second]) rfl k) ?_
          show Go _ _ _ _ _ _ _ T102 (mkF m 293 #[.val (.int ia), .val (.int ib), .val (.int ic), .val (.int ie), .val (.int ix), .val (.int ifl), .val (.int qq), .val (.int dd), .val (.int pp), .val (.int vv), .val (.ref ad), .val (.ref as__70), .val (.long jL), .second, .val (.double (FP.l2d jL)), .second, .val (.ref b71), .val (.double rr), .second, .val (.double (0 : UInt64)), .second, .val (.int (1 : Int32)), .val (.long jn), .second, .val (.double (FP.i2d dd)), .second, .val (.double (FP.l2d jn)), .second, .val (.double (FP.dmul rr (FP.i2d dd))), .second] [])
          refine Go.step (fun _ k => XS.lload X102.here hx rfl (hb hby at_293) rfl k) ?_
          refine Go.step (fun _ k => XS.lconst X102.here hx rfl (hb hby at_295) k) ?_
          refine Go.step (fun _ k => XS.lcmp X102.here hx rfl (hb hby at_296) rfl k) ?_
          show Go _ _ _ _ _ _ _ T102 (mkF m 297 #[.val (.int ia), .val (.int ib), .val (.int ic), .val (.int ie), .val (.int ix), .val (.int ifl), .val (.int qq), .val (.int dd), .val (.int pp), .val (.int vv), .val (.ref ad), .val (.ref as__70), .val (.long jL), .second, .val (.double (FP.l2d jL)), .second, .val (.ref b71), .val (.double rr), .second, .val (.double (0 : UInt64)), .second, .val (.int (1 : Int32)), .val (.long jn), .second, .val (.double (FP.i2d dd)), .second, .val (.double (FP.l2d jn)), .second, .val (.double (FP.dmul rr (FP.i2d dd))), .second] [(.int (lcmpW jn (0 : Int64)))])
          have hc297_109 : jn = (0 : Int64) := (own_ar13 jn jL pp qq q ejn)
          refine Go.step (fun _ k => XS.ifNo X102.here hx rfl (hb hby at_297) rfl ((if0 _ _).trans (teq ((lw_eq _ _).mpr hc297_109)).2) k) ?_
          show Go _ _ _ _ _ _ _ T102 (mkF m 300 #[.val (.int ia), .val (.int ib), .val (.int ic), .val (.int ie), .val (.int ix), .val (.int ifl), .val (.int qq), .val (.int dd), .val (.int pp), .val (.int vv), .val (.ref ad), .val (.ref as__70), .val (.long jL), .second, .val (.double (FP.l2d jL)), .second, .val (.ref b71), .val (.double rr), .second, .val (.double (0 : UInt64)), .second, .val (.int (1 : Int32)), .val (.long jn), .second, .val (.double (FP.i2d dd)), .second, .val (.double (FP.l2d jn)), .second, .val (.double (FP.dmul rr (FP.i2d dd))), .second] [])
          refine Go.step (fun _ k => XS.iload X102.here hx rfl (hb hby at_300) rfl k) ?_
          have hc302_110 : ¬ ((1 : Int32) = (0 : Int32)) := (by decide)
          refine Go.step (fun _ k => XS.ifNo X102.here hx rfl (hb hby at_302) rfl ((if0 _ _).trans (feq hc302_110).1) k) ?_
          show Go _ _ _ _ _ _ _ T102 (mkF m 305 #[.val (.int ia), .val (.int ib), .val (.int ic), .val (.int ie), .val (.int ix), .val (.int ifl), .val (.int qq), .val (.int dd), .val (.int pp), .val (.int vv), .val (.ref ad), .val (.ref as__70), .val (.long jL), .second, .val (.double (FP.l2d jL)), .second, .val (.ref b71), .val (.double rr), .second, .val (.double (0 : UInt64)), .second, .val (.int (1 : Int32)), .val (.long jn), .second, .val (.double (FP.i2d dd)), .second, .val (.double (FP.l2d jn)), .second, .val (.double (FP.dmul rr (FP.i2d dd))), .second] [])
          refine Go.step (fun _ k => XS.dload X102.here hx rfl (hb hby at_305) rfl k) ?_
          refine Go.step (fun _ k => XS.dconst0 X102.here hx rfl (v := (0 : UInt64)) (hb hby at_307) (by decide +kernel) k) ?_
          refine Go.step (fun _ k => XS.dcmpS X102.here hx rfl (hb hby at_308) rfl rfl k) ?_
          show Go _ _ _ _ _ _ _ T102 (mkF m 309 #[.val (.int ia), .val (.int ib), .val (.int ic), .val (.int ie), .val (.int ix), .val (.int ifl), .val (.int qq), .val (.int dd), .val (.int pp), .val (.int vv), .val (.ref ad), .val (.ref as__70), .val (.long jL), .second, .val (.double (FP.l2d jL)), .second, .val (.ref b71), .val (.double rr), .second, .val (.double (0 : UInt64)), .second, .val (.int (1 : Int32)), .val (.long jn), .second, .val (.double (FP.i2d dd)), .second, .val (.double (FP.l2d jn)), .second, .val (.double (FP.dmul rr (FP.i2d dd))), .second] [(.int (cmpValue (FP.dcmp rr (0 : UInt64)) .l))])
          have hc309_111 : (cmpValue (FP.dcmp rr (0 : UInt64)) .l) = (0 : Int32) := (w8 (by omega))
          refine Go.step (fun _ k => XS.ifNo X102.here hx rfl (hb hby at_309) rfl ((if0 _ _).trans (teq hc309_111).2) k) ?_
          show Go _ _ _ _ _ _ _ T102 (mkF m 312 #[.val (.int ia), .val (.int ib), .val (.int ic), .val (.int ie), .val (.int ix), .val (.int ifl), .val (.int qq), .val (.int dd), .val (.int pp), .val (.int vv), .val (.ref ad), .val (.ref as__70), .val (.long jL), .second, .val (.double (FP.l2d jL)), .second, .val (.ref b71), .val (.double rr), .second, .val (.double (0 : UInt64)), .second, .val (.int (1 : Int32)), .val (.long jn), .second, .val (.double (FP.i2d dd)), .second, .val (.double (FP.l2d jn)), .second, .val (.double (FP.dmul rr (FP.i2d dd))), .second] [])
          refine Go.step (fun _ k => XS.iconst X102.here hx rfl (hb hby at_312) k) ?_
          refine Go.step (fun _ k => XS.goto X102.here hx rfl (pc0 := 313) (pc' := 317) rfl (hb hby at_313) (by decide) (by decide) k) ?_
          show Go _ _ _ _ _ _ _ T102 (mkF m 317 #[.val (.int ia), .val (.int ib), .val (.int ic), .val (.int ie), .val (.int ix), .val (.int ifl), .val (.int qq), .val (.int dd), .val (.int pp), .val (.int vv), .val (.ref ad), .val (.ref as__70), .val (.long jL), .second, .val (.double (FP.l2d jL)), .second, .val (.ref b71), .val (.double rr), .second, .val (.double (0 : UInt64)), .second, .val (.int (1 : Int32)), .val (.long jn), .second, .val (.double (FP.i2d dd)), .second, .val (.double (FP.l2d jn)), .second, .val (.double (FP.dmul rr (FP.i2d dd))), .second] [(.int (1 : Int32))])
          refine Go.step (fun _ k => XS.istore X102.here hx rfl (hb hby at_317) rfl (l' := #[.val (.int ia), .val (.int ib), .val (.int ic), .val (.int ie), .val (.int ix), .val (.int ifl), .val (.int qq), .val (.int dd), .val (.int pp), .val (.int vv), .val (.ref ad), .val (.ref as__70), .val (.long jL), .second, .val (.double (FP.l2d jL)), .second, .val (.ref b71), .val (.double rr), .second, .val (.double (0 : UInt64)), .second, .val (.int (1 : Int32)), .val (.long jn), .second, .val (.double (FP.i2d dd)), .second, .val (.double (FP.l2d jn)), .second, .val (.double (FP.dmul rr (FP.i2d dd))), .second]) rfl k) ?_
          show Go _ _ _ _ _ _ _ T102 (mkF m 319 #[.val (.int ia), .val (.int ib), .val (.int ic), .val (.int ie), .val (.int ix), .val (.int ifl), .val (.int qq), .val (.int dd), .val (.int pp), .val (.int vv), .val (.ref ad), .val (.ref as__70), .val (.long jL), .second, .val (.double (FP.l2d jL)), .second, .val (.ref b71), .val (.double rr), .second, .val (.double (0 : UInt64)), .second, .val (.int (1 : Int32)), .val (.long jn), .second, .val (.double (FP.i2d dd)), .second, .val (.double (FP.l2d jn)), .second, .val (.double (FP.dmul rr (FP.i2d dd))), .second] [])
          refine Go.step (fun _ k => XS.iload X102.here hx rfl (hb hby at_319) rfl k) ?_
          have hc321_112 : ¬ ((1 : Int32) = (0 : Int32)) := (by decide)
          refine Go.step (fun _ k => XS.ifNo X102.here hx rfl (hb hby at_321) rfl ((if0 _ _).trans (feq hc321_112).1) k) ?_
          show Go _ _ _ _ _ _ _ T102 (mkF m 324 #[.val (.int ia), .val (.int ib), .val (.int ic), .val (.int ie), .val (.int ix), .val (.int ifl), .val (.int qq), .val (.int dd), .val (.int pp), .val (.int vv), .val (.ref ad), .val (.ref as__70), .val (.long jL), .second, .val (.double (FP.l2d jL)), .second, .val (.ref b71), .val (.double rr), .second, .val (.double (0 : UInt64)), .second, .val (.int (1 : Int32)), .val (.long jn), .second, .val (.double (FP.i2d dd)), .second, .val (.double (FP.l2d jn)), .second, .val (.double (FP.dmul rr (FP.i2d dd))), .second] [])
          refine Go.step (fun _ k => XS.dload X102.here hx rfl (hb hby at_324) rfl k) ?_
          refine Go.step (fun _ k => XS.dload X102.here hx rfl (hb hby at_326) rfl k) ?_
          refine Go.step (fun _ k => XS.dcmpS X102.here hx rfl (hb hby at_328) rfl rfl k) ?_
          show Go _ _ _ _ _ _ _ T102 (mkF m 329 #[.val (.int ia), .val (.int ib), .val (.int ic), .val (.int ie), .val (.int ix), .val (.int ifl), .val (.int qq), .val (.int dd), .val (.int pp), .val (.int vv), .val (.ref ad), .val (.ref as__70), .val (.long jL), .second, .val (.double (FP.l2d jL)), .second, .val (.ref b71), .val (.double rr), .second, .val (.double (0 : UInt64)), .second, .val (.int (1 : Int32)), .val (.long jn), .second, .val (.double (FP.i2d dd)), .second, .val (.double (FP.l2d jn)), .second, .val (.double (FP.dmul rr (FP.i2d dd))), .second] [(.int (cmpValue (FP.dcmp (0 : UInt64) rr) .g))])
          have hc329_113 : ¬ ((0 : Int32) < (cmpValue (FP.dcmp (0 : UInt64) rr) .g)) := (own_mono0 Zr Rr)
          refine Go.step (fun _ k => XS.ifNo X102.here hx rfl (hb hby at_329) rfl ((if0 _ _).trans (flt hc329_113).2.2.1) k) ?_
          show Go _ _ _ _ _ _ _ T102 (mkF m 332 #[.val (.int ia), .val (.int ib), .val (.int ic), .val (.int ie), .val (.int ix), .val (.int ifl), .val (.int qq), .val (.int dd), .val (.int pp), .val (.int vv), .val (.ref ad), .val (.ref as__70), .val (.long jL), .second, .val (.double (FP.l2d jL)), .second, .val (.ref b71), .val (.double rr), .second, .val (.double (0 : UInt64)), .second, .val (.int (1 : Int32)), .val (.long jn), .second, .val (.double (FP.i2d dd)), .second, .val (.double (FP.l2d jn)), .second, .val (.double (FP.dmul rr (FP.i2d dd))), .second] [])
          refine Go.step (fun _ k => XS.iconst X102.here hx rfl (hb hby at_332) k) ?_
          refine Go.step (fun _ k => XS.goto X102.here hx rfl (pc0 := 333) (pc' := 337) rfl (hb hby at_333) (by decide) (by decide) k) ?_
          show Go _ _ _ _ _ _ _ T102 (mkF m 337 #[.val (.int ia), .val (.int ib), .val (.int ic), .val (.int ie), .val (.int ix), .val (.int ifl), .val (.int qq), .val (.int dd), .val (.int pp), .val (.int vv), .val (.ref ad), .val (.ref as__70), .val (.long jL), .second, .val (.double (FP.l2d jL)), .second, .val (.ref b71), .val (.double rr), .second, .val (.double (0 : UInt64)), .second, .val (.int (1 : Int32)), .val (.long jn), .second, .val (.double (FP.i2d dd)), .second, .val (.double (FP.l2d jn)), .second, .val (.double (FP.dmul rr (FP.i2d dd))), .second] [(.int (1 : Int32))])
          exact Go.retN X102 hx (t := .boolean) hret hlk (by simp) (hb hby at_337) e102 (by decide) (by decide) ⟨rfl, N102, trivial⟩
        · show Go _ _ _ _ _ _ _ T72 (mkF m 151 #[.val (.int ia), .val (.int ib), .val (.int ic), .val (.int ie), .val (.int ix), .val (.int ifl), .val (.int qq), .val (.int dd), .val (.int pp), .val (.int vv), .val (.ref ad), .val (.ref as__70), .val (.long jL), .second, .val (.double (FP.l2d jL)), .second, .val (.ref b71), .unset, .unset, .unset, .unset, .unset, .unset, .unset, .unset, .unset, .unset, .unset, .unset, .unset] [])
          obtain ⟨nf1, nf2, zr, fr, Zr, Rr⟩ := own_con (jp := jp) (jL := jL) (jq := jq) (by omega) ⟨by omega, by omega⟩ (by omega) (by omega)
          refine Go.step (fun _ k => XS.aload X72.here hx rfl (hb hby at_151) rfl rfl k) ?_
          refine Go.step (fun _ k => XS.dload X72.here hx rfl (hb hby at_153) rfl k) ?_
          obtain ⟨cq114, kq114, q114a, q114b, q114c⟩ := isOf hZ e72 E1_72
          obtain ⟨_, _, ⟨T114, L114, k114, n114⟩, -, X114, ⟨Lc114, hQ114, l114, y114, z114⟩, st114⟩ := X72.virtualBack hx (y := (⟨"com/example/wayfront/wayfront/decision/Criterion", "concordance", "(D)D"⟩ : MethodName)) (z := (⟨"com/example/wayfront/wayfront/decision/Criterion", "concordance", "(D)D"⟩ : MethodName)) hown (mvT hZ (hw _ (List.mem_of_getElem? (i := 66) rfl))) (mvT hZ (hw _ (List.mem_of_getElem? (i := 67) rfl))) (notFace_of_selects (args := #[]) (mvT hZ (hw _ (List.mem_of_getElem? (i := 69) rfl)))) (mvT hZ (hw _ (List.mem_of_getElem? (i := 69) rfl))) (mvT hZ (hw _ (List.mem_of_getElem? (i := 68) rfl))) (by decide) (backOf (W := 0) (rmCc l Z a0 hw [] b71 (FP.l2d jL) (FP.l2d jp) (FP.l2d jq) h72 n0 Z72 Gi_72 Gp_72 ((own_gt (by omega) (by omega) .g).mpr (by omega)) (mt (own_gt (by omega) (by omega) .l).mp (by omega)) nf1 nf2 Zr.nn) hZ (hw _ (List.mem_of_getElem? (i := 70) rfl)) (hw _ (List.mem_of_getElem? (i := 32) rfl)) (by decide) (by decide)) q114a q114c (g := (mkF m 155 #[.val (.int ia), .val (.int ib), .val (.int ic), .val (.int ie), .val (.int ix), .val (.int ifl), .val (.int qq), .val (.int dd), .val (.int pp), .val (.int vv), .val (.ref ad), .val (.ref as__70), .val (.long jL), .second, .val (.double (FP.l2d jL)), .second, .val (.ref b71), .unset, .unset, .unset, .unset, .unset, .unset, .unset, .unset, .unset, .unset, .unset, .unset, .unset] [(.double (FP.l2d jL)), (.ref b71)])) rfl (by rw [hml]; rfl) (Steps.refl _) (argsL := [(.double (FP.l2d jL))]) (rest := []) (lenOf pd__D_D rfl) rfl (by show 2 * 0 + _ ≤ _; exact Nat.le_of_eq rfl) (hb hby at_155) (fun _ _ => ⟨rfl, e72, (by decide : 3 + 0 ≤ _), (by decide : 10 + 0 ≤ _)⟩)
          dsimp only [Pt.U, Pt.locs, Pt.cells, Pt.slots] at X114 l114 y114 z114 st114 hQ114
          subst l114 y114 z114
          obtain ⟨h114, e114⟩ : ∃ h, T114.heap = h := ⟨_, rfl⟩
          rw [e114] at hQ114
          obtain ⟨rfl, Nq114, hs114⟩ := hQ114
          have N114 := Fr.app N72 Nq114
          rw [hs114] at e114
          refine Go.trans st114 ?_
          show Go _ _ _ _ _ _ _ T114 (mkF m 158 #[.val (.int ia), .val (.int ib), .val (.int ic), .val (.int ie), .val (.int ix), .val (.int ifl), .val (.int qq), .val (.int dd), .val (.int pp), .val (.int vv), .val (.ref ad), .val (.ref as__70), .val (.long jL), .second, .val (.double (FP.l2d jL)), .second, .val (.ref b71), .unset, .unset, .unset, .unset, .unset, .unset, .unset, .unset, .unset, .unset, .unset, .unset, .unset] [(.double (FP.ddiv (FP.dsub (FP.l2d jp) (FP.l2d jL)) (FP.dsub (FP.l2d jp) (FP.l2d jq))))])
          generalize (FP.ddiv (FP.dsub (FP.l2d jp) (FP.l2d jL)) (FP.dsub (FP.l2d jp) (FP.l2d jq))) = rr at Zr ⊢
          show Go _ _ _ _ _ _ _ T114 (mkF m 158 #[.val (.int ia), .val (.int ib), .val (.int ic), .val (.int ie), .val (.int ix), .val (.int ifl), .val (.int qq), .val (.int dd), .val (.int pp), .val (.int vv), .val (.ref ad), .val (.ref as__70), .val (.long jL), .second, .val (.double (FP.l2d jL)), .second, .val (.ref b71), .unset, .unset, .unset, .unset, .unset, .unset, .unset, .unset, .unset, .unset, .unset, .unset, .unset] [(.double rr)])
          refine Go.step (fun _ k => XS.dstore X114.here hx rfl (hb hby at_158) rfl (l' := #[.val (.int ia), .val (.int ib), .val (.int ic), .val (.int ie), .val (.int ix), .val (.int ifl), .val (.int qq), .val (.int dd), .val (.int pp), .val (.int vv), .val (.ref ad), .val (.ref as__70), .val (.long jL), .second, .val (.double (FP.l2d jL)), .second, .val (.ref b71), .val (.double rr), .second, .unset, .unset, .unset, .unset, .unset, .unset, .unset, .unset, .unset, .unset, .unset]) rfl k) ?_
          show Go _ _ _ _ _ _ _ T114 (mkF m 160 #[.val (.int ia), .val (.int ib), .val (.int ic), .val (.int ie), .val (.int ix), .val (.int ifl), .val (.int qq), .val (.int dd), .val (.int pp), .val (.int vv), .val (.ref ad), .val (.ref as__70), .val (.long jL), .second, .val (.double (FP.l2d jL)), .second, .val (.ref b71), .val (.double rr), .second, .unset, .unset, .unset, .unset, .unset, .unset, .unset, .unset, .unset, .unset, .unset] [])
          refine Go.step (fun _ k => XS.aload X114.here hx rfl (hb hby at_160) rfl rfl k) ?_
          refine Go.step (fun _ k => XS.dload X114.here hx rfl (hb hby at_162) rfl k) ?_
          refine Go.step (fun _ k => XS.dconst1 X114.here hx rfl (v := (4607182418800017408 : UInt64)) (hb hby at_164) (by decide +kernel) k) ?_
          refine Go.step (fun _ k => XS.daddS X114.here hx rfl (hb hby at_165) rfl (own_inc hL).1 rfl k) ?_
          show Go _ _ _ _ _ _ _ T114 (mkF m 166 #[.val (.int ia), .val (.int ib), .val (.int ic), .val (.int ie), .val (.int ix), .val (.int ifl), .val (.int qq), .val (.int dd), .val (.int pp), .val (.int vv), .val (.ref ad), .val (.ref as__70), .val (.long jL), .second, .val (.double (FP.l2d jL)), .second, .val (.ref b71), .val (.double rr), .second, .unset, .unset, .unset, .unset, .unset, .unset, .unset, .unset, .unset, .unset, .unset] [(.double (FP.dadd (FP.l2d jL) (4607182418800017408 : UInt64))), (.ref b71)])
          obtain ⟨jM, hjM, ejM⟩ := (own_inc hL).2
          rw [hjM]
          show Go _ _ _ _ _ _ _ T114 (mkF m 166 #[.val (.int ia), .val (.int ib), .val (.int ic), .val (.int ie), .val (.int ix), .val (.int ifl), .val (.int qq), .val (.int dd), .val (.int pp), .val (.int vv), .val (.ref ad), .val (.ref as__70), .val (.long jL), .second, .val (.double (FP.l2d jL)), .second, .val (.ref b71), .val (.double rr), .second, .unset, .unset, .unset, .unset, .unset, .unset, .unset, .unset, .unset, .unset, .unset] [(.double (FP.l2d jM)), (.ref b71)])
          obtain ⟨mf1, mf2, zs, fs, Zs_, Rs⟩ := own_con (jp := jp) (jL := jM) (jq := jq) (by omega) ⟨by omega, by omega⟩ (by omega) (by omega)
          obtain ⟨cq115, kq115, q115a, q115b, q115c⟩ := isOf hZ e114 E1_72
          obtain ⟨_, _, ⟨T115, L115, k115, n115⟩, -, X115, ⟨Lc115, hQ115, l115, y115, z115⟩, st115⟩ := X114.virtualBack hx (y := (⟨"com/example/wayfront/wayfront/decision/Criterion", "concordance", "(D)D"⟩ : MethodName)) (z := (⟨"com/example/wayfront/wayfront/decision/Criterion", "concordance", "(D)D"⟩ : MethodName)) hown (mvT hZ (hw _ (List.mem_of_getElem? (i := 66) rfl))) (mvT hZ (hw _ (List.mem_of_getElem? (i := 67) rfl))) (notFace_of_selects (args := #[]) (mvT hZ (hw _ (List.mem_of_getElem? (i := 69) rfl)))) (mvT hZ (hw _ (List.mem_of_getElem? (i := 69) rfl))) (mvT hZ (hw _ (List.mem_of_getElem? (i := 68) rfl))) (by decide) (backOf (W := 0) (rmCc l Z a0 hw [] b71 (FP.l2d jM) (FP.l2d jp) (FP.l2d jq) h72 n0 Z72 Gi_72 Gp_72 ((own_gt (by omega) (by omega) .g).mpr (by omega)) (mt (own_gt (by omega) (by omega) .l).mp (by omega)) mf1 mf2 Zs_.nn) hZ (hw _ (List.mem_of_getElem? (i := 70) rfl)) (hw _ (List.mem_of_getElem? (i := 32) rfl)) (by decide) (by decide)) q115a q115c (g := (mkF m 166 #[.val (.int ia), .val (.int ib), .val (.int ic), .val (.int ie), .val (.int ix), .val (.int ifl), .val (.int qq), .val (.int dd), .val (.int pp), .val (.int vv), .val (.ref ad), .val (.ref as__70), .val (.long jL), .second, .val (.double (FP.l2d jL)), .second, .val (.ref b71), .val (.double rr), .second, .unset, .unset, .unset, .unset, .unset, .unset, .unset, .unset, .unset, .unset, .unset] [(.double (FP.l2d jM)), (.ref b71)])) rfl (by rw [hml]; rfl) (Steps.refl _) (argsL := [(.double (FP.l2d jM))]) (rest := []) (lenOf pd__D_D rfl) rfl (by show 2 * 0 + _ ≤ _; exact Nat.le_of_eq rfl) (hb hby at_166) (fun _ _ => ⟨rfl, e114, (by decide : 3 + 0 ≤ _), (by decide : 10 + 0 ≤ _)⟩)
          dsimp only [Pt.U, Pt.locs, Pt.cells, Pt.slots] at X115 l115 y115 z115 st115 hQ115
          subst l115 y115 z115
          obtain ⟨h115, e115⟩ : ∃ h, T115.heap = h := ⟨_, rfl⟩
          rw [e115] at hQ115
          obtain ⟨rfl, Nq115, hs115⟩ := hQ115
          have N115 := Fr.app N114 Nq115
          rw [hs115] at e115
          refine Go.trans st115 ?_
          show Go _ _ _ _ _ _ _ T115 (mkF m 169 #[.val (.int ia), .val (.int ib), .val (.int ic), .val (.int ie), .val (.int ix), .val (.int ifl), .val (.int qq), .val (.int dd), .val (.int pp), .val (.int vv), .val (.ref ad), .val (.ref as__70), .val (.long jL), .second, .val (.double (FP.l2d jL)), .second, .val (.ref b71), .val (.double rr), .second, .unset, .unset, .unset, .unset, .unset, .unset, .unset, .unset, .unset, .unset, .unset] [(.double (FP.ddiv (FP.dsub (FP.l2d jp) (FP.l2d jM)) (FP.dsub (FP.l2d jp) (FP.l2d jq))))])
          generalize (FP.ddiv (FP.dsub (FP.l2d jp) (FP.l2d jM)) (FP.dsub (FP.l2d jp) (FP.l2d jq))) = rs at Zs_ ⊢
          show Go _ _ _ _ _ _ _ T115 (mkF m 169 #[.val (.int ia), .val (.int ib), .val (.int ic), .val (.int ie), .val (.int ix), .val (.int ifl), .val (.int qq), .val (.int dd), .val (.int pp), .val (.int vv), .val (.ref ad), .val (.ref as__70), .val (.long jL), .second, .val (.double (FP.l2d jL)), .second, .val (.ref b71), .val (.double rr), .second, .unset, .unset, .unset, .unset, .unset, .unset, .unset, .unset, .unset, .unset, .unset] [(.double rs)])
          refine Go.step (fun _ k => XS.dstore X115.here hx rfl (hb hby at_169) rfl (l' := #[.val (.int ia), .val (.int ib), .val (.int ic), .val (.int ie), .val (.int ix), .val (.int ifl), .val (.int qq), .val (.int dd), .val (.int pp), .val (.int vv), .val (.ref ad), .val (.ref as__70), .val (.long jL), .second, .val (.double (FP.l2d jL)), .second, .val (.ref b71), .val (.double rr), .second, .val (.double rs), .second, .unset, .unset, .unset, .unset, .unset, .unset, .unset, .unset, .unset]) rfl k) ?_
          show Go _ _ _ _ _ _ _ T115 (mkF m 171 #[.val (.int ia), .val (.int ib), .val (.int ic), .val (.int ie), .val (.int ix), .val (.int ifl), .val (.int qq), .val (.int dd), .val (.int pp), .val (.int vv), .val (.ref ad), .val (.ref as__70), .val (.long jL), .second, .val (.double (FP.l2d jL)), .second, .val (.ref b71), .val (.double rr), .second, .val (.double rs), .second, .unset, .unset, .unset, .unset, .unset, .unset, .unset, .unset, .unset] [])
          refine Go.step (fun _ k => XS.lload X115.here hx rfl (hb hby at_171) rfl k) ?_
          refine Go.step (fun _ k => XS.iload X115.here hx rfl (hb hby at_173) rfl k) ?_
          refine Go.step (fun _ k => XS.i2l X115.here hx rfl (hb hby at_175) rfl k) ?_
          refine Go.step (fun _ k => XS.lcmp X115.here hx rfl (hb hby at_176) rfl k) ?_
          show Go _ _ _ _ _ _ _ T115 (mkF m 177 #[.val (.int ia), .val (.int ib), .val (.int ic), .val (.int ie), .val (.int ix), .val (.int ifl), .val (.int qq), .val (.int dd), .val (.int pp), .val (.int vv), .val (.ref ad), .val (.ref as__70), .val (.long jL), .second, .val (.double (FP.l2d jL)), .second, .val (.ref b71), .val (.double rr), .second, .val (.double rs), .second, .unset, .unset, .unset, .unset, .unset, .unset, .unset, .unset, .unset] [(.int (lcmpW jL (qq.toInt64)))])
          have hc177_116 : (qq.toInt64) < jL := (own_ar14 qq jL pp dd q hp hd)
          refine Go.step (fun _ k => XS.ifYes X115.here hx rfl (pc0 := 177) (pc' := 197) rfl (hb hby at_177) rfl ((if0 _ _).trans (tlt ((lw_gt _ _).mpr hc177_116)).2.2.1) (by decide) (by decide) k) ?_
          show Go _ _ _ _ _ _ _ T115 (mkF m 197 #[.val (.int ia), .val (.int ib), .val (.int ic), .val (.int ie), .val (.int ix), .val (.int ifl), .val (.int qq), .val (.int dd), .val (.int pp), .val (.int vv), .val (.ref ad), .val (.ref as__70), .val (.long jL), .second, .val (.double (FP.l2d jL)), .second, .val (.ref b71), .val (.double rr), .second, .val (.double rs), .second, .unset, .unset, .unset, .unset, .unset, .unset, .unset, .unset, .unset] [])
          refine Go.step (fun _ k => XS.lload X115.here hx rfl (hb hby at_197) rfl k) ?_
          refine Go.step (fun _ k => XS.iload X115.here hx rfl (hb hby at_199) rfl k) ?_
          refine Go.step (fun _ k => XS.i2l X115.here hx rfl (hb hby at_201) rfl k) ?_
          refine Go.step (fun _ k => XS.lcmp X115.here hx rfl (hb hby at_202) rfl k) ?_
          show Go _ _ _ _ _ _ _ T115 (mkF m 203 #[.val (.int ia), .val (.int ib), .val (.int ic), .val (.int ie), .val (.int ix), .val (.int ifl), .val (.int qq), .val (.int dd), .val (.int pp), .val (.int vv), .val (.ref ad), .val (.ref as__70), .val (.long jL), .second, .val (.double (FP.l2d jL)), .second, .val (.ref b71), .val (.double rr), .second, .val (.double rs), .second, .unset, .unset, .unset, .unset, .unset, .unset, .unset, .unset, .unset] [(.int (lcmpW jL (pp.toInt64)))])
          have hc203_117 : ¬ ((pp.toInt64) < jL) := (own_ar15 pp jL qq q)
          refine Go.step (fun _ k => XS.ifYes X115.here hx rfl (pc0 := 203) (pc' := 223) rfl (hb hby at_203) rfl ((if0 _ _).trans (flt (mt (lw_gt _ _).mp hc203_117)).2.2.2) (by decide) (by decide) k) ?_
          show Go _ _ _ _ _ _ _ T115 (mkF m 223 #[.val (.int ia), .val (.int ib), .val (.int ic), .val (.int ie), .val (.int ix), .val (.int ifl), .val (.int qq), .val (.int dd), .val (.int pp), .val (.int vv), .val (.ref ad), .val (.ref as__70), .val (.long jL), .second, .val (.double (FP.l2d jL)), .second, .val (.ref b71), .val (.double rr), .second, .val (.double rs), .second, .unset, .unset, .unset, .unset, .unset, .unset, .unset, .unset, .unset] [])
          refine Go.step (fun _ k => XS.iload X115.here hx rfl (hb hby at_223) rfl k) ?_
          refine Go.step (fun _ k => XS.i2l X115.here hx rfl (hb hby at_225) rfl k) ?_
          refine Go.step (fun _ k => XS.lload X115.here hx rfl (hb hby at_226) rfl k) ?_
          refine Go.step (fun _ k => XS.lsub X115.here hx rfl (hb hby at_228) rfl k) ?_
          obtain ⟨jn, hjn, ejn⟩ : ∃ z : Int64, ((pp.toInt64) - jL) = z ∧ z.toInt = pp.toInt - jL.toInt := ⟨_, rfl, (own_ar12 pp jL qq dd hL hp hq hd)⟩
          rw [hjn]
          show Go _ _ _ _ _ _ _ T115 (mkF m 229 #[.val (.int ia), .val (.int ib), .val (.int ic), .val (.int ie), .val (.int ix), .val (.int ifl), .val (.int qq), .val (.int dd), .val (.int pp), .val (.int vv), .val (.ref ad), .val (.ref as__70), .val (.long jL), .second, .val (.double (FP.l2d jL)), .second, .val (.ref b71), .val (.double rr), .second, .val (.double rs), .second, .unset, .unset, .unset, .unset, .unset, .unset, .unset, .unset, .unset] [(.long jn)])
          obtain ⟨w1, w2, w3, w4, w5, w6, w7, w8⟩ := own_fin4 (dd := dd) (jn := jn) Zr Rr (by omega) (by omega) (by omega) (by omega) (by omega)
          refine Go.step (fun _ k => XS.lstore X115.here hx rfl (hb hby at_229) rfl (l' := #[.val (.int ia), .val (.int ib), .val (.int ic), .val (.int ie), .val (.int ix), .val (.int ifl), .val (.int qq), .val (.int dd), .val (.int pp), .val (.int vv), .val (.ref ad), .val (.ref as__70), .val (.long jL), .second, .val (.double (FP.l2d jL)), .second, .val (.ref b71), .val (.double rr), .second, .val (.double rs), .second, .unset, .val (.long jn), .second, .unset, .unset, .unset, .unset, .unset, .unset]) rfl k) ?_
          show Go _ _ _ _ _ _ _ T115 (mkF m 231 #[.val (.int ia), .val (.int ib), .val (.int ic), .val (.int ie), .val (.int ix), .val (.int ifl), .val (.int qq), .val (.int dd), .val (.int pp), .val (.int vv), .val (.ref ad), .val (.ref as__70), .val (.long jL), .second, .val (.double (FP.l2d jL)), .second, .val (.ref b71), .val (.double rr), .second, .val (.double rs), .second, .unset, .val (.long jn), .second, .unset, .unset, .unset, .unset, .unset, .unset] [])
          refine Go.step (fun _ k => XS.iload X115.here hx rfl (hb hby at_231) rfl k) ?_
          refine Go.step (fun _ k => XS.i2dS X115.here hx rfl (hb hby at_233) rfl rfl k) ?_
          show Go _ _ _ _ _ _ _ T115 (mkF m 234 #[.val (.int ia), .val (.int ib), .val (.int ic), .val (.int ie), .val (.int ix), .val (.int ifl), .val (.int qq), .val (.int dd), .val (.int pp), .val (.int vv), .val (.ref ad), .val (.ref as__70), .val (.long jL), .second, .val (.double (FP.l2d jL)), .second, .val (.ref b71), .val (.double rr), .second, .val (.double rs), .second, .unset, .val (.long jn), .second, .unset, .unset, .unset, .unset, .unset, .unset] [(.double (FP.i2d dd))])
          refine Go.step (fun _ k => XS.dstore X115.here hx rfl (hb hby at_234) rfl (l' := #[.val (.int ia), .val (.int ib), .val (.int ic), .val (.int ie), .val (.int ix), .val (.int ifl), .val (.int qq), .val (.int dd), .val (.int pp), .val (.int vv), .val (.ref ad), .val (.ref as__70), .val (.long jL), .second, .val (.double (FP.l2d jL)), .second, .val (.ref b71), .val (.double rr), .second, .val (.double rs), .second, .unset, .val (.long jn), .second, .val (.double (FP.i2d dd)), .second, .unset, .unset, .unset, .unset]) rfl k) ?_
          show Go _ _ _ _ _ _ _ T115 (mkF m 236 #[.val (.int ia), .val (.int ib), .val (.int ic), .val (.int ie), .val (.int ix), .val (.int ifl), .val (.int qq), .val (.int dd), .val (.int pp), .val (.int vv), .val (.ref ad), .val (.ref as__70), .val (.long jL), .second, .val (.double (FP.l2d jL)), .second, .val (.ref b71), .val (.double rr), .second, .val (.double rs), .second, .unset, .val (.long jn), .second, .val (.double (FP.i2d dd)), .second, .unset, .unset, .unset, .unset] [])
          refine Go.step (fun _ k => XS.lload X115.here hx rfl (hb hby at_236) rfl k) ?_
          refine Go.step (fun _ k => XS.l2dS X115.here hx rfl (hb hby at_238) rfl rfl k) ?_
          show Go _ _ _ _ _ _ _ T115 (mkF m 239 #[.val (.int ia), .val (.int ib), .val (.int ic), .val (.int ie), .val (.int ix), .val (.int ifl), .val (.int qq), .val (.int dd), .val (.int pp), .val (.int vv), .val (.ref ad), .val (.ref as__70), .val (.long jL), .second, .val (.double (FP.l2d jL)), .second, .val (.ref b71), .val (.double rr), .second, .val (.double rs), .second, .unset, .val (.long jn), .second, .val (.double (FP.i2d dd)), .second, .unset, .unset, .unset, .unset] [(.double (FP.l2d jn))])
          refine Go.step (fun _ k => XS.dstore X115.here hx rfl (hb hby at_239) rfl (l' := #[.val (.int ia), .val (.int ib), .val (.int ic), .val (.int ie), .val (.int ix), .val (.int ifl), .val (.int qq), .val (.int dd), .val (.int pp), .val (.int vv), .val (.ref ad), .val (.ref as__70), .val (.long jL), .second, .val (.double (FP.l2d jL)), .second, .val (.ref b71), .val (.double rr), .second, .val (.double rs), .second, .unset, .val (.long jn), .second, .val (.double (FP.i2d dd)), .second, .val (.double (FP.l2d jn)), .second, .unset, .unset]) rfl k) ?_
          show Go _ _ _ _ _ _ _ T115 (mkF m 241 #[.val (.int ia), .val (.int ib), .val (.int ic), .val (.int ie), .val (.int ix), .val (.int ifl), .val (.int qq), .val (.int dd), .val (.int pp), .val (.int vv), .val (.ref ad), .val (.ref as__70), .val (.long jL), .second, .val (.double (FP.l2d jL)), .second, .val (.ref b71), .val (.double rr), .second, .val (.double rs), .second, .unset, .val (.long jn), .second, .val (.double (FP.i2d dd)), .second, .val (.double (FP.l2d jn)), .second, .unset, .unset] [])
          refine Go.step (fun _ k => XS.dload X115.here hx rfl (hb hby at_241) rfl k) ?_
          refine Go.step (fun _ k => XS.dload X115.here hx rfl (hb hby at_243) rfl k) ?_
          refine Go.step (fun _ k => XS.dmulS X115.here hx rfl (hb hby at_245) rfl w1 rfl k) ?_
          show Go _ _ _ _ _ _ _ T115 (mkF m 246 #[.val (.int ia), .val (.int ib), .val (.int ic), .val (.int ie), .val (.int ix), .val (.int ifl), .val (.int qq), .val (.int dd), .val (.int pp), .val (.int vv), .val (.ref ad), .val (.ref as__70), .val (.long jL), .second, .val (.double (FP.l2d jL)), .second, .val (.ref b71), .val (.double rr), .second, .val (.double rs), .second, .unset, .val (.long jn), .second, .val (.double (FP.i2d dd)), .second, .val (.double (FP.l2d jn)), .second, .unset, .unset] [(.double (FP.dmul rr (FP.i2d dd)))])
          refine Go.step (fun _ k => XS.dstore X115.here hx rfl (hb hby at_246) rfl (l' := #[.val (.int ia), .val (.int ib), .val (.int ic), .val (.int ie), .val (.int ix), .val (.int ifl), .val (.int qq), .val (.int dd), .val (.int pp), .val (.int vv), .val (.ref ad), .val (.ref as__70), .val (.long jL), .second, .val (.double (FP.l2d jL)), .second, .val (.ref b71), .val (.double rr), .second, .val (.double rs), .second, .unset, .val (.long jn), .second, .val (.double (FP.i2d dd)), .second, .val (.double (FP.l2d jn)), .second, .val (.double (FP.dmul rr (FP.i2d dd))), .second]) rfl k) ?_
          show Go _ _ _ _ _ _ _ T115 (mkF m 248 #[.val (.int ia), .val (.int ib), .val (.int ic), .val (.int ie), .val (.int ix), .val (.int ifl), .val (.int qq), .val (.int dd), .val (.int pp), .val (.int vv), .val (.ref ad), .val (.ref as__70), .val (.long jL), .second, .val (.double (FP.l2d jL)), .second, .val (.ref b71), .val (.double rr), .second, .val (.double rs), .second, .unset, .val (.long jn), .second, .val (.double (FP.i2d dd)), .second, .val (.double (FP.l2d jn)), .second, .val (.double (FP.dmul rr (FP.i2d dd))), .second] [])
          refine Go.step (fun _ k => XS.dload X115.here hx rfl (hb hby at_248) rfl k) ?_
          refine Go.step (fun _ k => XS.dconst0 X115.here hx rfl (v := (0 : UInt64)) (hb hby at_250) (by decide +kernel) k) ?_
          refine Go.step (fun _ k => XS.dcmpS X115.here hx rfl (hb hby at_251) rfl rfl k) ?_
          show Go _ _ _ _ _ _ _ T115 (mkF m 252 #[.val (.int ia), .val (.int ib), .val (.int ic), .val (.int ie), .val (.int ix), .val (.int ifl), .val (.int qq), .val (.int dd), .val (.int pp), .val (.int vv), .val (.ref ad), .val (.ref as__70), .val (.long jL), .second, .val (.double (FP.l2d jL)), .second, .val (.ref b71), .val (.double rr), .second, .val (.double rs), .second, .unset, .val (.long jn), .second, .val (.double (FP.i2d dd)), .second, .val (.double (FP.l2d jn)), .second, .val (.double (FP.dmul rr (FP.i2d dd))), .second] [(.int (cmpValue (FP.dcmp rr (0 : UInt64)) .l))])
          have hc252_118 : ¬ ((cmpValue (FP.dcmp rr (0 : UInt64)) .l) < (0 : Int32)) := w4
          refine Go.step (fun _ k => XS.ifNo X115.here hx rfl (hb hby at_252) rfl ((if0 _ _).trans (flt hc252_118).1) k) ?_
          show Go _ _ _ _ _ _ _ T115 (mkF m 255 #[.val (.int ia), .val (.int ib), .val (.int ic), .val (.int ie), .val (.int ix), .val (.int ifl), .val (.int qq), .val (.int dd), .val (.int pp), .val (.int vv), .val (.ref ad), .val (.ref as__70), .val (.long jL), .second, .val (.double (FP.l2d jL)), .second, .val (.ref b71), .val (.double rr), .second, .val (.double rs), .second, .unset, .val (.long jn), .second, .val (.double (FP.i2d dd)), .second, .val (.double (FP.l2d jn)), .second, .val (.double (FP.dmul rr (FP.i2d dd))), .second] [])
          refine Go.step (fun _ k => XS.dload X115.here hx rfl (hb hby at_255) rfl k) ?_
          refine Go.step (fun _ k => XS.dconst1 X115.here hx rfl (v := (4607182418800017408 : UInt64)) (hb hby at_257) (by decide +kernel) k) ?_
          refine Go.step (fun _ k => XS.dcmpS X115.here hx rfl (hb hby at_258) rfl rfl k) ?_
          show Go _ _ _ _ _ _ _ T115 (mkF m 259 #[.val (.int ia), .val (.int ib), .val (.int ic), .val (.int ie), .val (.int ix), .val (.int ifl), .val (.int qq), .val (.int dd), .val (.int pp), .val (.int vv), .val (.ref ad), .val (.ref as__70), .val (.long jL), .second, .val (.double (FP.l2d jL)), .second, .val (.ref b71), .val (.double rr), .second, .val (.double rs), .second, .unset, .val (.long jn), .second, .val (.double (FP.i2d dd)), .second, .val (.double (FP.l2d jn)), .second, .val (.double (FP.dmul rr (FP.i2d dd))), .second] [(.int (cmpValue (FP.dcmp rr (4607182418800017408 : UInt64)) .g))])
          have hc259_119 : (cmpValue (FP.dcmp rr (4607182418800017408 : UInt64)) .g) < (0 : Int32) := w5
          refine Go.step (fun _ k => XS.ifNo X115.here hx rfl (hb hby at_259) rfl ((if0 _ _).trans (tlt hc259_119).2.1) k) ?_
          show Go _ _ _ _ _ _ _ T115 (mkF m 262 #[.val (.int ia), .val (.int ib), .val (.int ic), .val (.int ie), .val (.int ix), .val (.int ifl), .val (.int qq), .val (.int dd), .val (.int pp), .val (.int vv), .val (.ref ad), .val (.ref as__70), .val (.long jL), .second, .val (.double (FP.l2d jL)), .second, .val (.ref b71), .val (.double rr), .second, .val (.double rs), .second, .unset, .val (.long jn), .second, .val (.double (FP.i2d dd)), .second, .val (.double (FP.l2d jn)), .second, .val (.double (FP.dmul rr (FP.i2d dd))), .second] [])
          refine Go.step (fun _ k => XS.dload X115.here hx rfl (hb hby at_262) rfl k) ?_
          refine Go.step (fun _ k => XS.dload X115.here hx rfl (hb hby at_264) rfl k) ?_
          refine Go.step (X115.ldc2DoubleC hx hown (mvT hZ (hw _ (List.mem_of_getElem? (i := 73) rfl))) (g := (mkF m 266 #[.val (.int ia), .val (.int ib), .val (.int ic), .val (.int ie), .val (.int ix), .val (.int ifl), .val (.int qq), .val (.int dd), .val (.int pp), .val (.int vv), .val (.ref ad), .val (.ref as__70), .val (.long jL), .second, .val (.double (FP.l2d jL)), .second, .val (.ref b71), .val (.double rr), .second, .val (.double rs), .second, .unset, .val (.long jn), .second, .val (.double (FP.i2d dd)), .second, .val (.double (FP.l2d jn)), .second, .val (.double (FP.dmul rr (FP.i2d dd))), .second] [(.double (FP.l2d jn)), (.double (FP.dmul rr (FP.i2d dd)))])) rfl (hb hby at_266)) ?_
          show Go _ _ _ _ _ _ _ T115 (mkF m 269 #[.val (.int ia), .val (.int ib), .val (.int ic), .val (.int ie), .val (.int ix), .val (.int ifl), .val (.int qq), .val (.int dd), .val (.int pp), .val (.int vv), .val (.ref ad), .val (.ref as__70), .val (.long jL), .second, .val (.double (FP.l2d jL)), .second, .val (.ref b71), .val (.double rr), .second, .val (.double rs), .second, .unset, .val (.long jn), .second, .val (.double (FP.i2d dd)), .second, .val (.double (FP.l2d jn)), .second, .val (.double (FP.dmul rr (FP.i2d dd))), .second] [(.double (4562146422526312448 : UInt64)), (.double (FP.l2d jn)), (.double (FP.dmul rr (FP.i2d dd)))])
          refine Go.step (fun _ k => XS.dsubS X115.here hx rfl (hb hby at_269) rfl w2 rfl k) ?_
          show Go _ _ _ _ _ _ _ T115 (mkF m 270 #[.val (.int ia), .val (.int ib), .val (.int ic), .val (.int ie), .val (.int ix), .val (.int ifl), .val (.int qq), .val (.int dd), .val (.int pp), .val (.int vv), .val (.ref ad), .val (.ref as__70), .val (.long jL), .second, .val (.double (FP.l2d jL)), .second, .val (.ref b71), .val (.double rr), .second, .val (.double rs), .second, .unset, .val (.long jn), .second, .val (.double (FP.i2d dd)), .second, .val (.double (FP.l2d jn)), .second, .val (.double (FP.dmul rr (FP.i2d dd))), .second] [(.double (FP.dsub (FP.l2d jn) (4562146422526312448 : UInt64))), (.double (FP.dmul rr (FP.i2d dd)))])
          refine Go.step (fun _ k => XS.dcmpS X115.here hx rfl (hb hby at_270) rfl rfl k) ?_
          show Go _ _ _ _ _ _ _ T115 (mkF m 271 #[.val (.int ia), .val (.int ib), .val (.int ic), .val (.int ie), .val (.int ix), .val (.int ifl), .val (.int qq), .val (.int dd), .val (.int pp), .val (.int vv), .val (.ref ad), .val (.ref as__70), .val (.long jL), .second, .val (.double (FP.l2d jL)), .second, .val (.ref b71), .val (.double rr), .second, .val (.double rs), .second, .unset, .val (.long jn), .second, .val (.double (FP.i2d dd)), .second, .val (.double (FP.l2d jn)), .second, .val (.double (FP.dmul rr (FP.i2d dd))), .second] [(.int (cmpValue (FP.dcmp (FP.dmul rr (FP.i2d dd)) (FP.dsub (FP.l2d jn) (4562146422526312448 : UInt64))) .l))])
          have hc271_120 : ¬ ((cmpValue (FP.dcmp (FP.dmul rr (FP.i2d dd)) (FP.dsub (FP.l2d jn) (4562146422526312448 : UInt64))) .l) < (0 : Int32)) := w6
          refine Go.step (fun _ k => XS.ifNo X115.here hx rfl (hb hby at_271) rfl ((if0 _ _).trans (flt hc271_120).1) k) ?_
          show Go _ _ _ _ _ _ _ T115 (mkF m 274 #[.val (.int ia), .val (.int ib), .val (.int ic), .val (.int ie), .val (.int ix), .val (.int ifl), .val (.int qq), .val (.int dd), .val (.int pp), .val (.int vv), .val (.ref ad), .val (.ref as__70), .val (.long jL), .second, .val (.double (FP.l2d jL)), .second, .val (.ref b71), .val (.double rr), .second, .val (.double rs), .second, .unset, .val (.long jn), .second, .val (.double (FP.i2d dd)), .second, .val (.double (FP.l2d jn)), .second, .val (.double (FP.dmul rr (FP.i2d dd))), .second] [])
          refine Go.step (fun _ k => XS.dload X115.here hx rfl (hb hby at_274) rfl k) ?_
          refine Go.step (fun _ k => XS.dload X115.here hx rfl (hb hby at_276) rfl k) ?_
          refine Go.step (X115.ldc2DoubleC hx hown (mvT hZ (hw _ (List.mem_of_getElem? (i := 73) rfl))) (g := (mkF m 278 #[.val (.int ia), .val (.int ib), .val (.int ic), .val (.int ie), .val (.int ix), .val (.int ifl), .val (.int qq), .val (.int dd), .val (.int pp), .val (.int vv), .val (.ref ad), .val (.ref as__70), .val (.long jL), .second, .val (.double (FP.l2d jL)), .second, .val (.ref b71), .val (.double rr), .second, .val (.double rs), .second, .unset, .val (.long jn), .second, .val (.double (FP.i2d dd)), .second, .val (.double (FP.l2d jn)), .second, .val (.double (FP.dmul rr (FP.i2d dd))), .second] [(.double (FP.l2d jn)), (.double (FP.dmul rr (FP.i2d dd)))])) rfl (hb hby at_278)) ?_
          show Go _ _ _ _ _ _ _ T115 (mkF m 281 #[.val (.int ia), .val (.int ib), .val (.int ic), .val (.int ie), .val (.int ix), .val (.int ifl), .val (.int qq), .val (.int dd), .val (.int pp), .val (.int vv), .val (.ref ad), .val (.ref as__70), .val (.long jL), .second, .val (.double (FP.l2d jL)), .second, .val (.ref b71), .val (.double rr), .second, .val (.double rs), .second, .unset, .val (.long jn), .second, .val (.double (FP.i2d dd)), .second, .val (.double (FP.l2d jn)), .second, .val (.double (FP.dmul rr (FP.i2d dd))), .second] [(.double (4562146422526312448 : UInt64)), (.double (FP.l2d jn)), (.double (FP.dmul rr (FP.i2d dd)))])
          refine Go.step (fun _ k => XS.daddS X115.here hx rfl (hb hby at_281) rfl w3 rfl k) ?_
          show Go _ _ _ _ _ _ _ T115 (mkF m 282 #[.val (.int ia), .val (.int ib), .val (.int ic), .val (.int ie), .val (.int ix), .val (.int ifl), .val (.int qq), .val (.int dd), .val (.int pp), .val (.int vv), .val (.ref ad), .val (.ref as__70), .val (.long jL), .second, .val (.double (FP.l2d jL)), .second, .val (.ref b71), .val (.double rr), .second, .val (.double rs), .second, .unset, .val (.long jn), .second, .val (.double (FP.i2d dd)), .second, .val (.double (FP.l2d jn)), .second, .val (.double (FP.dmul rr (FP.i2d dd))), .second] [(.double (FP.dadd (FP.l2d jn) (4562146422526312448 : UInt64))), (.double (FP.dmul rr (FP.i2d dd)))])
          refine Go.step (fun _ k => XS.dcmpS X115.here hx rfl (hb hby at_282) rfl rfl k) ?_
          show Go _ _ _ _ _ _ _ T115 (mkF m 283 #[.val (.int ia), .val (.int ib), .val (.int ic), .val (.int ie), .val (.int ix), .val (.int ifl), .val (.int qq), .val (.int dd), .val (.int pp), .val (.int vv), .val (.ref ad), .val (.ref as__70), .val (.long jL), .second, .val (.double (FP.l2d jL)), .second, .val (.ref b71), .val (.double rr), .second, .val (.double rs), .second, .unset, .val (.long jn), .second, .val (.double (FP.i2d dd)), .second, .val (.double (FP.l2d jn)), .second, .val (.double (FP.dmul rr (FP.i2d dd))), .second] [(.int (cmpValue (FP.dcmp (FP.dmul rr (FP.i2d dd)) (FP.dadd (FP.l2d jn) (4562146422526312448 : UInt64))) .g))])
          have hc283_121 : ¬ ((0 : Int32) < (cmpValue (FP.dcmp (FP.dmul rr (FP.i2d dd)) (FP.dadd (FP.l2d jn) (4562146422526312448 : UInt64))) .g)) := w7
          refine Go.step (fun _ k => XS.ifNo X115.here hx rfl (hb hby at_283) rfl ((if0 _ _).trans (flt hc283_121).2.2.1) k) ?_
          show Go _ _ _ _ _ _ _ T115 (mkF m 286 #[.val (.int ia), .val (.int ib), .val (.int ic), .val (.int ie), .val (.int ix), .val (.int ifl), .val (.int qq), .val (.int dd), .val (.int pp), .val (.int vv), .val (.ref ad), .val (.ref as__70), .val (.long jL), .second, .val (.double (FP.l2d jL)), .second, .val (.ref b71), .val (.double rr), .second, .val (.double rs), .second, .unset, .val (.long jn), .second, .val (.double (FP.i2d dd)), .second, .val (.double (FP.l2d jn)), .second, .val (.double (FP.dmul rr (FP.i2d dd))), .second] [])
          refine Go.step (fun _ k => XS.iconst X115.here hx rfl (hb hby at_286) k) ?_
          refine Go.step (fun _ k => XS.goto X115.here hx rfl (pc0 := 287) (pc' := 291) rfl (hb hby at_287) (by decide) (by decide) k) ?_
          show Go _ _ _ _ _ _ _ T115 (mkF m 291 #[.val (.int ia), .val (.int ib), .val (.int ic), .val (.int ie), .val (.int ix), .val (.int ifl), .val (.int qq), .val (.int dd), .val (.int pp), .val (.int vv), .val (.ref ad), .val (.ref as__70), .val (.long jL), .second, .val (.double (FP.l2d jL)), .second, .val (.ref b71), .val (.double rr), .second, .val (.double rs), .second, .unset, .val (.long jn), .second, .val (.double (FP.i2d dd)), .second, .val (.double (FP.l2d jn)), .second, .val (.double (FP.dmul rr (FP.i2d dd))), .second] [(.int (1 : Int32))])
          refine Go.step (fun _ k => XS.istore X115.here hx rfl (hb hby at_291) rfl (l' := #[.val (.int ia), .val (.int ib), .val (.int ic), .val (.int ie), .val (.int ix), .val (.int ifl), .val (.int qq), .val (.int dd), .val (.int pp), .val (.int vv), .val (.ref ad), .val (.ref as__70), .val (.long jL), .second, .val (.double (FP.l2d jL)), .second, .val (.ref b71), .val (.double rr), .second, .val (.double rs), .second, .val (.int (1 : Int32)), .val (.long jn), .second, .val (.double (FP.i2d dd)), .second, .val (.double (FP.l2d jn)), .second, .val (.double (FP.dmul rr (FP.i2d dd))), .second]) rfl k) ?_
          show Go _ _ _ _ _ _ _ T115 (mkF m 293 #[.val (.int ia), .val (.int ib), .val (.int ic), .val (.int ie), .val (.int ix), .val (.int ifl), .val (.int qq), .val (.int dd), .val (.int pp), .val (.int vv), .val (.ref ad), .val (.ref as__70), .val (.long jL), .second, .val (.double (FP.l2d jL)), .second, .val (.ref b71), .val (.double rr), .second, .val (.double rs), .second, .val (.int (1 : Int32)), .val (.long jn), .second, .val (.double (FP.i2d dd)), .second, .val (.double (FP.l2d jn)), .second, .val (.double (FP.dmul rr (FP.i2d dd))), .second] [])
          refine Go.step (fun _ k => XS.lload X115.here hx rfl (hb hby at_293) rfl k) ?_
          refine Go.step (fun _ k => XS.lconst X115.here hx rfl (hb hby at_295) k) ?_
          refine Go.step (fun _ k => XS.lcmp X115.here hx rfl (hb hby at_296) rfl k) ?_
          show Go _ _ _ _ _ _ _ T115 (mkF m 297 #[.val (.int ia), .val (.int ib), .val (.int ic), .val (.int ie), .val (.int ix), .val (.int ifl), .val (.int qq), .val (.int dd), .val (.int pp), .val (.int vv), .val (.ref ad), .val (.ref as__70), .val (.long jL), .second, .val (.double (FP.l2d jL)), .second, .val (.ref b71), .val (.double rr), .second, .val (.double rs), .second, .val (.int (1 : Int32)), .val (.long jn), .second, .val (.double (FP.i2d dd)), .second, .val (.double (FP.l2d jn)), .second, .val (.double (FP.dmul rr (FP.i2d dd))), .second] [(.int (lcmpW jn (0 : Int64)))])
          have hc297_122 : ¬ (jn = (0 : Int64)) := (own_ar16 jn jL pp qq q ejn)
          refine Go.step (fun _ k => XS.ifYes X115.here hx rfl (pc0 := 297) (pc' := 319) rfl (hb hby at_297) rfl ((if0 _ _).trans (feq (mt (lw_eq _ _).mp hc297_122)).2) (by decide) (by decide) k) ?_
          show Go _ _ _ _ _ _ _ T115 (mkF m 319 #[.val (.int ia), .val (.int ib), .val (.int ic), .val (.int ie), .val (.int ix), .val (.int ifl), .val (.int qq), .val (.int dd), .val (.int pp), .val (.int vv), .val (.ref ad), .val (.ref as__70), .val (.long jL), .second, .val (.double (FP.l2d jL)), .second, .val (.ref b71), .val (.double rr), .second, .val (.double rs), .second, .val (.int (1 : Int32)), .val (.long jn), .second, .val (.double (FP.i2d dd)), .second, .val (.double (FP.l2d jn)), .second, .val (.double (FP.dmul rr (FP.i2d dd))), .second] [])
          refine Go.step (fun _ k => XS.iload X115.here hx rfl (hb hby at_319) rfl k) ?_
          have hc321_123 : ¬ ((1 : Int32) = (0 : Int32)) := (by decide)
          refine Go.step (fun _ k => XS.ifNo X115.here hx rfl (hb hby at_321) rfl ((if0 _ _).trans (feq hc321_123).1) k) ?_
          show Go _ _ _ _ _ _ _ T115 (mkF m 324 #[.val (.int ia), .val (.int ib), .val (.int ic), .val (.int ie), .val (.int ix), .val (.int ifl), .val (.int qq), .val (.int dd), .val (.int pp), .val (.int vv), .val (.ref ad), .val (.ref as__70), .val (.long jL), .second, .val (.double (FP.l2d jL)), .second, .val (.ref b71), .val (.double rr), .second, .val (.double rs), .second, .val (.int (1 : Int32)), .val (.long jn), .second, .val (.double (FP.i2d dd)), .second, .val (.double (FP.l2d jn)), .second, .val (.double (FP.dmul rr (FP.i2d dd))), .second] [])
          refine Go.step (fun _ k => XS.dload X115.here hx rfl (hb hby at_324) rfl k) ?_
          refine Go.step (fun _ k => XS.dload X115.here hx rfl (hb hby at_326) rfl k) ?_
          refine Go.step (fun _ k => XS.dcmpS X115.here hx rfl (hb hby at_328) rfl rfl k) ?_
          show Go _ _ _ _ _ _ _ T115 (mkF m 329 #[.val (.int ia), .val (.int ib), .val (.int ic), .val (.int ie), .val (.int ix), .val (.int ifl), .val (.int qq), .val (.int dd), .val (.int pp), .val (.int vv), .val (.ref ad), .val (.ref as__70), .val (.long jL), .second, .val (.double (FP.l2d jL)), .second, .val (.ref b71), .val (.double rr), .second, .val (.double rs), .second, .val (.int (1 : Int32)), .val (.long jn), .second, .val (.double (FP.i2d dd)), .second, .val (.double (FP.l2d jn)), .second, .val (.double (FP.dmul rr (FP.i2d dd))), .second] [(.int (cmpValue (FP.dcmp rs rr) .g))])
          have hc329_124 : ¬ ((0 : Int32) < (cmpValue (FP.dcmp rs rr) .g)) := (own_mono (n := jp.toInt - jL.toInt) Zr Rr Zs_ (by rw [show jp.toInt - jL.toInt - 1 = jp.toInt - jM.toInt by omega]; exact Rs) ⟨by omega, by omega⟩)
          refine Go.step (fun _ k => XS.ifNo X115.here hx rfl (hb hby at_329) rfl ((if0 _ _).trans (flt hc329_124).2.2.1) k) ?_
          show Go _ _ _ _ _ _ _ T115 (mkF m 332 #[.val (.int ia), .val (.int ib), .val (.int ic), .val (.int ie), .val (.int ix), .val (.int ifl), .val (.int qq), .val (.int dd), .val (.int pp), .val (.int vv), .val (.ref ad), .val (.ref as__70), .val (.long jL), .second, .val (.double (FP.l2d jL)), .second, .val (.ref b71), .val (.double rr), .second, .val (.double rs), .second, .val (.int (1 : Int32)), .val (.long jn), .second, .val (.double (FP.i2d dd)), .second, .val (.double (FP.l2d jn)), .second, .val (.double (FP.dmul rr (FP.i2d dd))), .second] [])
          refine Go.step (fun _ k => XS.iconst X115.here hx rfl (hb hby at_332) k) ?_
          refine Go.step (fun _ k => XS.goto X115.here hx rfl (pc0 := 333) (pc' := 337) rfl (hb hby at_333) (by decide) (by decide) k) ?_
          show Go _ _ _ _ _ _ _ T115 (mkF m 337 #[.val (.int ia), .val (.int ib), .val (.int ic), .val (.int ie), .val (.int ix), .val (.int ifl), .val (.int qq), .val (.int dd), .val (.int pp), .val (.int vv), .val (.ref ad), .val (.ref as__70), .val (.long jL), .second, .val (.double (FP.l2d jL)), .second, .val (.ref b71), .val (.double rr), .second, .val (.double rs), .second, .val (.int (1 : Int32)), .val (.long jn), .second, .val (.double (FP.i2d dd)), .second, .val (.double (FP.l2d jn)), .second, .val (.double (FP.dmul rr (FP.i2d dd))), .second] [(.int (1 : Int32))])
          exact Go.retN X115 hx (t := .boolean) hret hlk (by simp) (hb hby at_337) e115 (by decide) (by decide) ⟨rfl, N115, trivial⟩
      show Go _ _ _ _ _ _ _ T70 (mkF m 79 #[.val (.int ia), .val (.int ib), .val (.int ic), .val (.int ie), .val (.int ix), .val (.int ifl), .val (.int qq), .val (.int dd), .val (.int pp), .val (.int vv), .val (.ref ad), .val (.ref as__70), .unset, .unset, .unset, .unset, .unset, .unset, .unset, .unset, .unset, .unset, .unset, .unset, .unset, .unset, .unset, .unset, .unset, .unset] [])
      refine Go.step (fun _ k => XS.iload X70.here hx rfl (hb hby at_79) rfl k) ?_
      refine Go.step (fun _ k => XS.iconst X70.here hx rfl (hb hby at_81) k) ?_
      refine Go.step (fun _ k => XS.iand X70.here hx rfl (hb hby at_82) rfl k) ?_
      by_cases hc83_125 : (ifl &&& (2 : Int32)) = (0 : Int32)
      · refine Go.step (fun _ k => XS.ifYes X70.here hx rfl (pc0 := 83) (pc' := 94) rfl (hb hby at_83) rfl ((if0 _ _).trans (teq hc83_125).1) (by decide) (by decide) k) ?_
        show Go _ _ _ _ _ _ _ T70 (mkF m 94 #[.val (.int ia), .val (.int ib), .val (.int ic), .val (.int ie), .val (.int ix), .val (.int ifl), .val (.int qq), .val (.int dd), .val (.int pp), .val (.int vv), .val (.ref ad), .val (.ref as__70), .unset, .unset, .unset, .unset, .unset, .unset, .unset, .unset, .unset, .unset, .unset, .unset, .unset, .unset, .unset, .unset, .unset, .unset] [])
        refine Go.step (fun _ k => XS.iload X70.here hx rfl (hb hby at_94) rfl k) ?_
        refine Go.step (fun _ k => XS.iconst X70.here hx rfl (hb hby at_96) k) ?_
        refine Go.step (fun _ k => XS.iadd X70.here hx rfl (hb hby at_97) rfl k) ?_
        refine Go.step (fun _ k => XS.istore X70.here hx rfl (hb hby at_98) rfl (l' := #[.val (.int ia), .val (.int ib), .val (.int ic), .val (.int ie), .val (.int ix), .val (.int ifl), .val (.int qq), .val (.int dd), .val (.int pp), .val (.int vv), .val (.ref ad), .val (.ref as__70), .unset, .unset, .val (.int (dd + (3 : Int32))), .unset, .unset, .unset, .unset, .unset, .unset, .unset, .unset, .unset, .unset, .unset, .unset, .unset, .unset, .unset]) rfl k) ?_
        show Go _ _ _ _ _ _ _ T70 (mkF m 100 #[.val (.int ia), .val (.int ib), .val (.int ic), .val (.int ie), .val (.int ix), .val (.int ifl), .val (.int qq), .val (.int dd), .val (.int pp), .val (.int vv), .val (.ref ad), .val (.ref as__70), .unset, .unset, .val (.int (dd + (3 : Int32))), .unset, .unset, .unset, .unset, .unset, .unset, .unset, .unset, .unset, .unset, .unset, .unset, .unset, .unset, .unset] [])
        refine Go.step (fun _ k => XS.iload X70.here hx rfl (hb hby at_100) rfl k) ?_
        refine Go.step (fun _ k => XS.iload X70.here hx rfl (hb hby at_102) rfl k) ?_
        refine Go.step (fun _ k => iremM X70 hx rfl (hb hby at_104) rfl (own_ar17 dd hd) k) ?_
        refine Go.step (fun _ k => XS.iload X70.here hx rfl (hb hby at_105) rfl k) ?_
        refine Go.step (fun _ k => XS.iadd X70.here hx rfl (hb hby at_107) rfl k) ?_
        refine Go.step (fun _ k => XS.iload X70.here hx rfl (hb hby at_108) rfl k) ?_
        refine Go.step (fun _ k => iremM X70 hx rfl (hb hby at_110) rfl (own_ar17 dd hd) k) ?_
        refine Go.step (fun _ k => XS.istore X70.here hx rfl (hb hby at_111) rfl (l' := #[.val (.int ia), .val (.int ib), .val (.int ic), .val (.int ie), .val (.int ix), .val (.int ifl), .val (.int qq), .val (.int dd), .val (.int pp), .val (.int vv), .val (.ref ad), .val (.ref as__70), .unset, .unset, .val (.int (dd + (3 : Int32))), .val (.int (((ix % (dd + (3 : Int32))) + (dd + (3 : Int32))) % (dd + (3 : Int32)))), .unset, .unset, .unset, .unset, .unset, .unset, .unset, .unset, .unset, .unset, .unset, .unset, .unset, .unset]) rfl k) ?_
        show Go _ _ _ _ _ _ _ T70 (mkF m 113 #[.val (.int ia), .val (.int ib), .val (.int ic), .val (.int ie), .val (.int ix), .val (.int ifl), .val (.int qq), .val (.int dd), .val (.int pp), .val (.int vv), .val (.ref ad), .val (.ref as__70), .unset, .unset, .val (.int (dd + (3 : Int32))), .val (.int (((ix % (dd + (3 : Int32))) + (dd + (3 : Int32))) % (dd + (3 : Int32)))), .unset, .unset, .unset, .unset, .unset, .unset, .unset, .unset, .unset, .unset, .unset, .unset, .unset, .unset] [])
        refine Go.step (fun _ k => XS.iload X70.here hx rfl (hb hby at_113) rfl k) ?_
        refine Go.step (fun _ k => XS.i2l X70.here hx rfl (hb hby at_115) rfl k) ?_
        refine Go.step (fun _ k => XS.iload X70.here hx rfl (hb hby at_116) rfl k) ?_
        refine Go.step (fun _ k => XS.i2l X70.here hx rfl (hb hby at_118) rfl k) ?_
        refine Go.step (fun _ k => XS.ladd X70.here hx rfl (hb hby at_119) rfl k) ?_
        refine Go.step (fun _ k => XS.lconst X70.here hx rfl (hb hby at_120) k) ?_
        refine Go.step (fun _ k => XS.lsub X70.here hx rfl (hb hby at_121) rfl k) ?_
        refine Go.step (fun _ k => XS.lstore X70.here hx rfl (hb hby at_122) rfl (l' := #[.val (.int ia), .val (.int ib), .val (.int ic), .val (.int ie), .val (.int ix), .val (.int ifl), .val (.int qq), .val (.int dd), .val (.int pp), .val (.int vv), .val (.ref ad), .val (.ref as__70), .val (.long (((qq.toInt64) + ((((ix % (dd + (3 : Int32))) + (dd + (3 : Int32))) % (dd + (3 : Int32))).toInt64)) - (1 : Int64))), .second, .val (.int (dd + (3 : Int32))), .val (.int (((ix % (dd + (3 : Int32))) + (dd + (3 : Int32))) % (dd + (3 : Int32)))), .unset, .unset, .unset, .unset, .unset, .unset, .unset, .unset, .unset, .unset, .unset, .unset, .unset, .unset]) rfl k) ?_
        show Go _ _ _ _ _ _ _ T70 (mkF m 124 #[.val (.int ia), .val (.int ib), .val (.int ic), .val (.int ie), .val (.int ix), .val (.int ifl), .val (.int qq), .val (.int dd), .val (.int pp), .val (.int vv), .val (.ref ad), .val (.ref as__70), .val (.long (((qq.toInt64) + ((((ix % (dd + (3 : Int32))) + (dd + (3 : Int32))) % (dd + (3 : Int32))).toInt64)) - (1 : Int64))), .second, .val (.int (dd + (3 : Int32))), .val (.int (((ix % (dd + (3 : Int32))) + (dd + (3 : Int32))) % (dd + (3 : Int32)))), .unset, .unset, .unset, .unset, .unset, .unset, .unset, .unset, .unset, .unset, .unset, .unset, .unset, .unset] [])
        refine Go.step (fun _ k => XS.lload X70.here hx rfl (hb hby at_124) rfl k) ?_
        refine Go.step (fun _ k => XS.l2dS X70.here hx rfl (hb hby at_126) rfl rfl k) ?_
        show Go _ _ _ _ _ _ _ T70 (mkF m 127 #[.val (.int ia), .val (.int ib), .val (.int ic), .val (.int ie), .val (.int ix), .val (.int ifl), .val (.int qq), .val (.int dd), .val (.int pp), .val (.int vv), .val (.ref ad), .val (.ref as__70), .val (.long (((qq.toInt64) + ((((ix % (dd + (3 : Int32))) + (dd + (3 : Int32))) % (dd + (3 : Int32))).toInt64)) - (1 : Int64))), .second, .val (.int (dd + (3 : Int32))), .val (.int (((ix % (dd + (3 : Int32))) + (dd + (3 : Int32))) % (dd + (3 : Int32)))), .unset, .unset, .unset, .unset, .unset, .unset, .unset, .unset, .unset, .unset, .unset, .unset, .unset, .unset] [(.double (FP.l2d (((qq.toInt64) + ((((ix % (dd + (3 : Int32))) + (dd + (3 : Int32))) % (dd + (3 : Int32))).toInt64)) - (1 : Int64))))])
        refine Go.step (fun _ k => XS.dstore X70.here hx rfl (hb hby at_127) rfl (l' := #[.val (.int ia), .val (.int ib), .val (.int ic), .val (.int ie), .val (.int ix), .val (.int ifl), .val (.int qq), .val (.int dd), .val (.int pp), .val (.int vv), .val (.ref ad), .val (.ref as__70), .val (.long (((qq.toInt64) + ((((ix % (dd + (3 : Int32))) + (dd + (3 : Int32))) % (dd + (3 : Int32))).toInt64)) - (1 : Int64))), .second, .val (.double (FP.l2d (((qq.toInt64) + ((((ix % (dd + (3 : Int32))) + (dd + (3 : Int32))) % (dd + (3 : Int32))).toInt64)) - (1 : Int64)))), .second, .unset, .unset, .unset, .unset, .unset, .unset, .unset, .unset, .unset, .unset, .unset, .unset, .unset, .unset]) rfl k) ?_
        show Go _ _ _ _ _ _ _ T70 (mkF m 129 #[.val (.int ia), .val (.int ib), .val (.int ic), .val (.int ie), .val (.int ix), .val (.int ifl), .val (.int qq), .val (.int dd), .val (.int pp), .val (.int vv), .val (.ref ad), .val (.ref as__70), .val (.long (((qq.toInt64) + ((((ix % (dd + (3 : Int32))) + (dd + (3 : Int32))) % (dd + (3 : Int32))).toInt64)) - (1 : Int64))), .second, .val (.double (FP.l2d (((qq.toInt64) + ((((ix % (dd + (3 : Int32))) + (dd + (3 : Int32))) % (dd + (3 : Int32))).toInt64)) - (1 : Int64)))), .second, .unset, .unset, .unset, .unset, .unset, .unset, .unset, .unset, .unset, .unset, .unset, .unset, .unset, .unset] [])
        have f126 : Old Z n0 h70 := (Ok.keep Kq70 all0)
        exact M T70 h70 _ (((qq.toInt64) + ((((ix % (dd + (3 : Int32))) + (dd + (3 : Int32))) % (dd + (3 : Int32))).toInt64)) - (1 : Int64)) (X70.more (by decide) (by decide)) e70 N70 Z70 f126 Es_70 Fv_70 Vt_70 (own_ar18 qq ix dd hq hd)
      · refine Go.step (fun _ k => XS.ifNo X70.here hx rfl (hb hby at_83) rfl ((if0 _ _).trans (feq hc83_125).1) k) ?_
        show Go _ _ _ _ _ _ _ T70 (mkF m 86 #[.val (.int ia), .val (.int ib), .val (.int ic), .val (.int ie), .val (.int ix), .val (.int ifl), .val (.int qq), .val (.int dd), .val (.int pp), .val (.int vv), .val (.ref ad), .val (.ref as__70), .unset, .unset, .unset, .unset, .unset, .unset, .unset, .unset, .unset, .unset, .unset, .unset, .unset, .unset, .unset, .unset, .unset, .unset] [])
        refine Go.step (fun _ k => XS.iload X70.here hx rfl (hb hby at_86) rfl k) ?_
        refine Go.step (fun _ k => XS.i2l X70.here hx rfl (hb hby at_88) rfl k) ?_
        refine Go.step (fun _ k => XS.lstore X70.here hx rfl (hb hby at_89) rfl (l' := #[.val (.int ia), .val (.int ib), .val (.int ic), .val (.int ie), .val (.int ix), .val (.int ifl), .val (.int qq), .val (.int dd), .val (.int pp), .val (.int vv), .val (.ref ad), .val (.ref as__70), .val (.long (ix.toInt64)), .second, .unset, .unset, .unset, .unset, .unset, .unset, .unset, .unset, .unset, .unset, .unset, .unset, .unset, .unset, .unset, .unset]) rfl k) ?_
        show Go _ _ _ _ _ _ _ T70 (mkF m 91 #[.val (.int ia), .val (.int ib), .val (.int ic), .val (.int ie), .val (.int ix), .val (.int ifl), .val (.int qq), .val (.int dd), .val (.int pp), .val (.int vv), .val (.ref ad), .val (.ref as__70), .val (.long (ix.toInt64)), .second, .unset, .unset, .unset, .unset, .unset, .unset, .unset, .unset, .unset, .unset, .unset, .unset, .unset, .unset, .unset, .unset] [])
        refine Go.step (fun _ k => XS.goto X70.here hx rfl (pc0 := 91) (pc' := 124) rfl (hb hby at_91) (by decide) (by decide) k) ?_
        show Go _ _ _ _ _ _ _ T70 (mkF m 124 #[.val (.int ia), .val (.int ib), .val (.int ic), .val (.int ie), .val (.int ix), .val (.int ifl), .val (.int qq), .val (.int dd), .val (.int pp), .val (.int vv), .val (.ref ad), .val (.ref as__70), .val (.long (ix.toInt64)), .second, .unset, .unset, .unset, .unset, .unset, .unset, .unset, .unset, .unset, .unset, .unset, .unset, .unset, .unset, .unset, .unset] [])
        refine Go.step (fun _ k => XS.lload X70.here hx rfl (hb hby at_124) rfl k) ?_
        refine Go.step (fun _ k => XS.l2dS X70.here hx rfl (hb hby at_126) rfl rfl k) ?_
        show Go _ _ _ _ _ _ _ T70 (mkF m 127 #[.val (.int ia), .val (.int ib), .val (.int ic), .val (.int ie), .val (.int ix), .val (.int ifl), .val (.int qq), .val (.int dd), .val (.int pp), .val (.int vv), .val (.ref ad), .val (.ref as__70), .val (.long (ix.toInt64)), .second, .unset, .unset, .unset, .unset, .unset, .unset, .unset, .unset, .unset, .unset, .unset, .unset, .unset, .unset, .unset, .unset] [(.double (FP.l2d (ix.toInt64)))])
        refine Go.step (fun _ k => XS.dstore X70.here hx rfl (hb hby at_127) rfl (l' := #[.val (.int ia), .val (.int ib), .val (.int ic), .val (.int ie), .val (.int ix), .val (.int ifl), .val (.int qq), .val (.int dd), .val (.int pp), .val (.int vv), .val (.ref ad), .val (.ref as__70), .val (.long (ix.toInt64)), .second, .val (.double (FP.l2d (ix.toInt64))), .second, .unset, .unset, .unset, .unset, .unset, .unset, .unset, .unset, .unset, .unset, .unset, .unset, .unset, .unset]) rfl k) ?_
        show Go _ _ _ _ _ _ _ T70 (mkF m 129 #[.val (.int ia), .val (.int ib), .val (.int ic), .val (.int ie), .val (.int ix), .val (.int ifl), .val (.int qq), .val (.int dd), .val (.int pp), .val (.int vv), .val (.ref ad), .val (.ref as__70), .val (.long (ix.toInt64)), .second, .val (.double (FP.l2d (ix.toInt64))), .second, .unset, .unset, .unset, .unset, .unset, .unset, .unset, .unset, .unset, .unset, .unset, .unset, .unset, .unset] [])
        have f127 : Old Z n0 h70 := (Ok.keep Kq70 all0)
        exact M T70 h70 _ (ix.toInt64) (X70.more (by decide) (by decide)) e70 N70 Z70 f127 Es_70 Fv_70 Vt_70 (own_ar19 ix dd qq hq hd)
    show Go _ _ _ _ _ _ _ TJ (mkF m 50 #[.val (.int ia), .val (.int ib), .val (.int ic), .val (.int ie), .val (.int ix), .val (.int ifl), .val (.int qq), .val (.int dd), .val (.int pp), .val (.int vv), .unset, .unset, .unset, .unset, .unset, .unset, .unset, .unset, .unset, .unset, .unset, .unset, .unset, .unset, .unset, .unset, .unset, .unset, .unset, .unset] [])
    refine Go.step (fun _ k => XS.iload XJ.here hx rfl (hb hby at_50) rfl k) ?_
    refine Go.step (fun _ k => XS.iconst XJ.here hx rfl (hb hby at_52) k) ?_
    refine Go.step (fun _ k => XS.iand XJ.here hx rfl (hb hby at_53) rfl k) ?_
    by_cases hc54_128 : (ifl &&& (1 : Int32)) = (0 : Int32)
    · refine Go.step (fun _ k => XS.ifYes XJ.here hx rfl (pc0 := 54) (pc' := 63) rfl (hb hby at_54) rfl ((if0 _ _).trans (teq hc54_128).1) (by decide) (by decide) k) ?_
      show Go _ _ _ _ _ _ _ TJ (mkF m 63 #[.val (.int ia), .val (.int ib), .val (.int ic), .val (.int ie), .val (.int ix), .val (.int ifl), .val (.int qq), .val (.int dd), .val (.int pp), .val (.int vv), .unset, .unset, .unset, .unset, .unset, .unset, .unset, .unset, .unset, .unset, .unset, .unset, .unset, .unset, .unset, .unset, .unset, .unset, .unset, .unset] [])
      obtain ⟨T129, X129, e129, st129⟩ := getS2 XJ hx hZ hown (host := "") (Or.inl (hw _ (List.mem_of_getElem? (i := 71) rfl))) Via.refl eJ (SN.ext Oj.2) (g := (mkF m 63 #[.val (.int ia), .val (.int ib), .val (.int ic), .val (.int ie), .val (.int ix), .val (.int ifl), .val (.int qq), .val (.int dd), .val (.int pp), .val (.int vv), .unset, .unset, .unset, .unset, .unset, .unset, .unset, .unset, .unset, .unset, .unset, .unset, .unset, .unset, .unset, .unset, .unset, .unset, .unset, .unset] [])) rfl (hb hby at_63)
      refine Go.step st129 ?_
      show Go _ _ _ _ _ _ _ T129 (mkF m 66 #[.val (.int ia), .val (.int ib), .val (.int ic), .val (.int ie), .val (.int ix), .val (.int ifl), .val (.int qq), .val (.int dd), .val (.int pp), .val (.int vv), .unset, .unset, .unset, .unset, .unset, .unset, .unset, .unset, .unset, .unset, .unset, .unset, .unset, .unset, .unset, .unset, .unset, .unset, .unset, .unset] [(.ref x2)])
      exact K T129 hJ _ x2 (X129.more (by decide) (by decide)) e129 NJ ZJ Oj
    · refine Go.step (fun _ k => XS.ifNo XJ.here hx rfl (hb hby at_54) rfl ((if0 _ _).trans (feq hc54_128).1) k) ?_
      show Go _ _ _ _ _ _ _ TJ (mkF m 57 #[.val (.int ia), .val (.int ib), .val (.int ic), .val (.int ie), .val (.int ix), .val (.int ifl), .val (.int qq), .val (.int dd), .val (.int pp), .val (.int vv), .unset, .unset, .unset, .unset, .unset, .unset, .unset, .unset, .unset, .unset, .unset, .unset, .unset, .unset, .unset, .unset, .unset, .unset, .unset, .unset] [])
      obtain ⟨T130, X130, e130, st130⟩ := getS2 XJ hx hZ hown (host := "") (Or.inl (hw _ (List.mem_of_getElem? (i := 1) rfl))) Via.refl eJ (SX.ext Oj.2) (g := (mkF m 57 #[.val (.int ia), .val (.int ib), .val (.int ic), .val (.int ie), .val (.int ix), .val (.int ifl), .val (.int qq), .val (.int dd), .val (.int pp), .val (.int vv), .unset, .unset, .unset, .unset, .unset, .unset, .unset, .unset, .unset, .unset, .unset, .unset, .unset, .unset, .unset, .unset, .unset, .unset, .unset, .unset] [])) rfl (hb hby at_57)
      refine Go.step st130 ?_
      show Go _ _ _ _ _ _ _ T130 (mkF m 60 #[.val (.int ia), .val (.int ib), .val (.int ic), .val (.int ie), .val (.int ix), .val (.int ifl), .val (.int qq), .val (.int dd), .val (.int pp), .val (.int vv), .unset, .unset, .unset, .unset, .unset, .unset, .unset, .unset, .unset, .unset, .unset, .unset, .unset, .unset, .unset, .unset, .unset, .unset, .unset, .unset] [(.ref x1)])
      refine Go.step (fun _ k => XS.goto X130.here hx rfl (pc0 := 60) (pc' := 66) rfl (hb hby at_60) (by decide) (by decide) k) ?_
      show Go _ _ _ _ _ _ _ T130 (mkF m 66 #[.val (.int ia), .val (.int ib), .val (.int ic), .val (.int ie), .val (.int ix), .val (.int ifl), .val (.int qq), .val (.int dd), .val (.int pp), .val (.int vv), .unset, .unset, .unset, .unset, .unset, .unset, .unset, .unset, .unset, .unset, .unset, .unset, .unset, .unset, .unset, .unset, .unset, .unset, .unset, .unset] [(.ref x1)])
      exact K T130 hJ _ x1 (X130.more (by decide) (by decide)) e130 NJ ZJ Oj
  show Go _ _ _ _ _ _ _ s₁ (mkF m 6 #[.val (.int ia), .val (.int ib), .val (.int ic), .val (.int ie), .val (.int ix), .val (.int ifl), .val (.int qq), .unset, .unset, .unset, .unset, .unset, .unset, .unset, .unset, .unset, .unset, .unset, .unset, .unset, .unset, .unset, .unset, .unset, .unset, .unset, .unset, .unset, .unset, .unset] [])
  refine Go.step (fun _ k => XS.iloadN X0.here hx rfl (hb hby at_6) rfl k) ?_
  refine Go.step (fun _ k => XS.iconst X0.here hx rfl (hb hby at_7) k) ?_
  refine Go.step (fun _ k => XS.iand X0.here hx rfl (hb hby at_8) rfl k) ?_
  by_cases hc9_131 : (ib &&& (1 : Int32)) = (0 : Int32)
  · refine Go.step (fun _ k => XS.ifYes X0.here hx rfl (pc0 := 9) (pc' := 25) rfl (hb hby at_9) rfl ((if0 _ _).trans (teq hc9_131).1) (by decide) (by decide) k) ?_
    show Go _ _ _ _ _ _ _ s₁ (mkF m 25 #[.val (.int ia), .val (.int ib), .val (.int ic), .val (.int ie), .val (.int ix), .val (.int ifl), .val (.int qq), .unset, .unset, .unset, .unset, .unset, .unset, .unset, .unset, .unset, .unset, .unset, .unset, .unset, .unset, .unset, .unset, .unset, .unset, .unset, .unset, .unset, .unset, .unset] [])
    refine Go.step (fun _ k => XS.iloadN X0.here hx rfl (hb hby at_25) rfl k) ?_
    refine Go.step (fun _ k => XS.iconst X0.here hx rfl (hb hby at_26) k) ?_
    refine Go.step (fun _ k => XS.iushr X0.here hx rfl (hb hby at_27) rfl k) ?_
    show Go _ _ _ _ _ _ _ s₁ (mkF m 28 #[.val (.int ia), .val (.int ib), .val (.int ic), .val (.int ie), .val (.int ix), .val (.int ifl), .val (.int qq), .unset, .unset, .unset, .unset, .unset, .unset, .unset, .unset, .unset, .unset, .unset, .unset, .unset, .unset, .unset, .unset, .unset, .unset, .unset, .unset, .unset, .unset, .unset] [(.int ((ib.toUInt32 >>> ((1 : Int32) &&& 31).toUInt32).toInt32))])
    refine Go.step (fun _ k => XS.sipush X0.here hx rfl (hb hby at_28) k) ?_
    refine Go.step (fun _ k => XS.iand X0.here hx rfl (hb hby at_31) rfl k) ?_
    refine Go.step (fun _ k => XS.istore X0.here hx rfl (hb hby at_32) rfl (l' := #[.val (.int ia), .val (.int ib), .val (.int ic), .val (.int ie), .val (.int ix), .val (.int ifl), .val (.int qq), .val (.int (((ib.toUInt32 >>> ((1 : Int32) &&& 31).toUInt32).toInt32) &&& (255 : Int32))), .unset, .unset, .unset, .unset, .unset, .unset, .unset, .unset, .unset, .unset, .unset, .unset, .unset, .unset, .unset, .unset, .unset, .unset, .unset, .unset, .unset, .unset]) rfl k) ?_
    show Go _ _ _ _ _ _ _ s₁ (mkF m 34 #[.val (.int ia), .val (.int ib), .val (.int ic), .val (.int ie), .val (.int ix), .val (.int ifl), .val (.int qq), .val (.int (((ib.toUInt32 >>> ((1 : Int32) &&& 31).toUInt32).toInt32) &&& (255 : Int32))), .unset, .unset, .unset, .unset, .unset, .unset, .unset, .unset, .unset, .unset, .unset, .unset, .unset, .unset, .unset, .unset, .unset, .unset, .unset, .unset, .unset, .unset] [])
    exact J s₁ h0 _ (((ib.toUInt32 >>> ((1 : Int32) &&& 31).toUInt32).toInt32) &&& (255 : Int32)) (X0.more (by decide) (by decide)) e0 N0 Z0 O0 (own_ar20 ib)
  · refine Go.step (fun _ k => XS.ifNo X0.here hx rfl (hb hby at_9) rfl ((if0 _ _).trans (feq hc9_131).1) k) ?_
    show Go _ _ _ _ _ _ _ s₁ (mkF m 12 #[.val (.int ia), .val (.int ib), .val (.int ic), .val (.int ie), .val (.int ix), .val (.int ifl), .val (.int qq), .unset, .unset, .unset, .unset, .unset, .unset, .unset, .unset, .unset, .unset, .unset, .unset, .unset, .unset, .unset, .unset, .unset, .unset, .unset, .unset, .unset, .unset, .unset] [])
    refine Go.step (fun _ k => XS.iconst X0.here hx rfl (hb hby at_12) k) ?_
    refine Go.step (fun _ k => XS.iloadN X0.here hx rfl (hb hby at_13) rfl k) ?_
    refine Go.step (fun _ k => XS.iconst X0.here hx rfl (hb hby at_14) k) ?_
    refine Go.step (fun _ k => XS.iushr X0.here hx rfl (hb hby at_15) rfl k) ?_
    show Go _ _ _ _ _ _ _ s₁ (mkF m 16 #[.val (.int ia), .val (.int ib), .val (.int ic), .val (.int ie), .val (.int ix), .val (.int ifl), .val (.int qq), .unset, .unset, .unset, .unset, .unset, .unset, .unset, .unset, .unset, .unset, .unset, .unset, .unset, .unset, .unset, .unset, .unset, .unset, .unset, .unset, .unset, .unset, .unset] [(.int ((ib.toUInt32 >>> ((1 : Int32) &&& 31).toUInt32).toInt32)), (.int (1 : Int32))])
    refine Go.step (fun _ k => XS.bipush X0.here hx rfl (hb hby at_16) k) ?_
    refine Go.step (fun _ k => XS.iand X0.here hx rfl (hb hby at_18) rfl k) ?_
    refine Go.step (fun _ k => XS.ishl X0.here hx rfl (hb hby at_19) rfl k) ?_
    show Go _ _ _ _ _ _ _ s₁ (mkF m 20 #[.val (.int ia), .val (.int ib), .val (.int ic), .val (.int ie), .val (.int ix), .val (.int ifl), .val (.int qq), .unset, .unset, .unset, .unset, .unset, .unset, .unset, .unset, .unset, .unset, .unset, .unset, .unset, .unset, .unset, .unset, .unset, .unset, .unset, .unset, .unset, .unset, .unset] [(.int ((1 : Int32) <<< ((((ib.toUInt32 >>> ((1 : Int32) &&& 31).toUInt32).toInt32) &&& (15 : Int32)) &&& 31)))])
    refine Go.step (fun _ k => XS.istore X0.here hx rfl (hb hby at_20) rfl (l' := #[.val (.int ia), .val (.int ib), .val (.int ic), .val (.int ie), .val (.int ix), .val (.int ifl), .val (.int qq), .val (.int ((1 : Int32) <<< ((((ib.toUInt32 >>> ((1 : Int32) &&& 31).toUInt32).toInt32) &&& (15 : Int32)) &&& 31))), .unset, .unset, .unset, .unset, .unset, .unset, .unset, .unset, .unset, .unset, .unset, .unset, .unset, .unset, .unset, .unset, .unset, .unset, .unset, .unset, .unset, .unset]) rfl k) ?_
    show Go _ _ _ _ _ _ _ s₁ (mkF m 22 #[.val (.int ia), .val (.int ib), .val (.int ic), .val (.int ie), .val (.int ix), .val (.int ifl), .val (.int qq), .val (.int ((1 : Int32) <<< ((((ib.toUInt32 >>> ((1 : Int32) &&& 31).toUInt32).toInt32) &&& (15 : Int32)) &&& 31))), .unset, .unset, .unset, .unset, .unset, .unset, .unset, .unset, .unset, .unset, .unset, .unset, .unset, .unset, .unset, .unset, .unset, .unset, .unset, .unset, .unset, .unset] [])
    refine Go.step (fun _ k => XS.goto X0.here hx rfl (pc0 := 22) (pc' := 34) rfl (hb hby at_22) (by decide) (by decide) k) ?_
    show Go _ _ _ _ _ _ _ s₁ (mkF m 34 #[.val (.int ia), .val (.int ib), .val (.int ic), .val (.int ie), .val (.int ix), .val (.int ifl), .val (.int qq), .val (.int ((1 : Int32) <<< ((((ib.toUInt32 >>> ((1 : Int32) &&& 31).toUInt32).toInt32) &&& (15 : Int32)) &&& 31))), .unset, .unset, .unset, .unset, .unset, .unset, .unset, .unset, .unset, .unset, .unset, .unset, .unset, .unset, .unset, .unset, .unset, .unset, .unset, .unset, .unset, .unset] [])
    exact J s₁ h0 _ ((1 : Int32) <<< ((((ib.toUInt32 >>> ((1 : Int32) &&& 31).toUInt32).toInt32) &&& (15 : Int32)) &&& 31)) (X0.more (by decide) (by decide)) e0 N0 Z0 O0 (own_k16 _)
set_option maxRecDepth 65536 in
set_option maxHeartbeats 40000000 in
theorem comes_1 {Post : Tables → Env → Array Value → State → Outcome → State → Prop} (hpost : ∀ tb e args s v u, (limb_1_1.after args s (.returned v) u = true ∧ limb_1_2.after args s (.returned v) u = true ∧ True) → FrameEnd s (.returned v) u (Jvm.fieldLocs frame_1_writes args s ++ Jvm.arrayLocs frame_1_arrays args s ++ Jvm.staticLocs frame_1_statics s) 16 128 → Post tb e args s (.returned v) u) :
    ArmFor flags0 classFile x code maxLocals ret World_1 tables_1 room_1 Calls_1 rest_1 Pre_1 Post := by
  intro l hfl _ _ p e ha hc hk s m args below hf hA hF happ hP
  obtain ⟨hcalls, hrest, hpre⟩ := hP
  obtain ⟨-, -, -, hnamed, -, -, -, hat⟩ := (Spec.applies_iff hf).mp happ
  obtain ⟨hg, hn⟩ := and_e (Cond.before_iff.mp (show (Jvm.Cond.and given_1 narrow_1).before args s = true from hpre))
  obtain ⟨gg1, gg2⟩ := and_e hg
  obtain ⟨gg3, gg4⟩ := and_e gg2
  obtain ⟨gg5, gg6⟩ := and_e gg4
  obtain ⟨gg7, gg8⟩ := and_e gg6
  obtain ⟨gg9, gg10⟩ := and_e gg8
  obtain ⟨gg11, gg12⟩ := and_e gg10
  obtain ⟨w0, w1, w2, w3, w4, w5, rfl⟩ : ∃ w0 w1 w2 w3 w4 w5 : Value, args = #[w0, w1, w2, w3, w4, w5] := by
    have hs : args.size = 6 := by simpa [Cond.value, given_1] using gg1
    obtain ⟨L⟩ := args
    match L, hs with
    | [w0, w1, w2, w3, w4, w5], _ => exact ⟨w0, w1, w2, w3, w4, w5, rfl⟩
  have hw := fun d (hd : d ∈ tables_1) => atoms_spec (ws := Jvm.Cond.code x code maxLocals ret :: tables_1) hat d (List.mem_cons_of_mem _ hd)
  have hfit : Fit s := fun {y c} hc i hi => by
    obtain ⟨ha, rfl⟩ := Array.getElem?_eq_some_iff.mp hc
    have q := List.all_eq_true.mp ((Array.all_eq_true_iff_forall_mem.mp hF) _ (Array.getElem_mem ha)) i (List.mem_range.mpr hi)
    simpa [Array.getElem?_eq_getElem hi] using q
  obtain ⟨hsets, hown0⟩ := atoms_of _ (rest_1_c_eq ▸ (show rest_1_c.before _ s = true from hrest))
  have hr0 := Cond.before_iff.mp hown0
  obtain ⟨ia, ei0⟩ := is_v gg3
  obtain rfl : w0 = (.int ia) := Option.some.inj ei0
  obtain ⟨ib, ei1⟩ := is_v gg5
  obtain rfl : w1 = (.int ib) := Option.some.inj ei1
  obtain ⟨ic, ei2⟩ := is_v gg7
  obtain rfl : w2 = (.int ic) := Option.some.inj ei2
  obtain ⟨ie, ei3⟩ := is_v gg9
  obtain rfl : w3 = (.int ie) := Option.some.inj ei3
  obtain ⟨ix, ei4⟩ := is_v gg11
  obtain rfl : w4 = (.int ix) := Option.some.inj ei4
  obtain ⟨ifl, ei5⟩ := is_v gg12
  obtain rfl : w5 = (.int ifl) := Option.some.inj ei5
  obtain ⟨G1, eG1⟩ := is_v (Cond.before_iff.mp (hsets _ (List.mem_of_getElem? (i := 1) rfl)))
  have O2 := Sta.start eG1 (Or.inl (hsets _ (List.mem_of_getElem? (i := 0) rfl)))
  have P5 : ¬ (G1 = (0 : Int32)) := gotF (Cond.eq_ints eG1 (Term.int_eval (0))) (not_v (Cond.before_iff.mp (hsets _ (List.mem_of_getElem? (i := 2) rfl))))
  obtain ⟨nn1, nn2⟩ := and_e hn
  obtain ⟨x1, ex1⟩ := exa_v nn1
  obtain ⟨x2, ex2⟩ := exa_v nn2
  have SX := Sta.start ex1 (Or.inr ⟨(hw _ (List.mem_of_getElem? (i := 2) rfl)), (hw _ (List.mem_of_getElem? (i := 3) rfl))⟩)
  have SN := Sta.start ex2 (Or.inr ⟨(hw _ (List.mem_of_getElem? (i := 2) rfl)), (hw _ (List.mem_of_getElem? (i := 72) rfl))⟩)
  obtain ⟨n, o, h1, h2, h3, _, L, rfl, ⟨rfl, N, -⟩, hq⟩ := rm0 l s _ hw tables_1 ia ib ic ie ix ifl G1 x1 x2 s.heap s.heap.size (Nat.le_refl _) (Old.start s) O2 P5 SX SN p e ha hc hk s m _ below hf ((Spec.applies_iff_loose hf).mp happ).1 ⟨rfl, State.Warmed39.refl s, rfl⟩ trivial
  refine ⟨n, _, h1, h2, h3, hpost _ _ _ _ _ _ ⟨Cond.after_iff.mpr rfl, Cond.after_iff.mpr (eq_i res_at (Term.int_eval (1)) rfl), trivial⟩ ⟨hq.1, hq.2.1, (hq.2.2.sift fun y hy => Or.inr (N y hy)).mono (by decide) (by decide)⟩⟩
theorem main_1_1 : Claimed_1_1 := comes_1 fun _ _ _ _ _ _ h hF => ⟨h.1, hF⟩
theorem main_1_2 : Claimed_1_2 := comes_1 fun _ _ _ _ _ _ h hF => ⟨h.2.1, hF⟩
end Jvm.Pilot.@@N@@
namespace Jvm.Pilot.@@N@@
open Jvm Jvm.ClassFile Sem Op Lib Jvm.Free Jvm.Stand Jvm.Pilot.@@N@@.Jvm.D
/-! MADE BY PROGRAM (witnessworld.py) out of the Statement's table words and the real class files: 23 classes; the members and pool entries that the words name. The judged class is class 1, her method 1. -/
namespace start1
open Jvm.ClassFile
def u (s : String) : CpInfo := .utf8 (stringToUtf16 s)
/-- a pool by its gaps: so many unusable entries, then the entry; so many at the end -/
def gap : Nat → List CpInfo → List CpInfo
  | 0, r => r
  | n + 1, r => .unusable :: gap n r
def poolList (es : List (Nat × CpInfo)) (last : Nat) : List CpInfo := es.foldr (fun e r => gap e.1 (e.2 :: r)) (gap last [])
def pool (es : List (Nat × CpInfo)) (last : Nat) : Array CpInfo := ⟨poolList es last⟩
def fileOf (pool : Array CpInfo) (this : Nat) (attrs : Array Attribute := #[]) (ms : Array MethodInfo := #[]) (fl : Nat := 33) (sup : Nat := 0) (ifs : Array Nat := #[]) (fds : Array FieldInfo := #[]) : ClassFile where
  minorVersion := 0
  majorVersion := 65
  constantPool := pool
  accessFlags := fl
  thisClass := this
  superClass := sup
  interfaces := ifs
  fields := fds
  methods := ms
  attributes := attrs
def plain (name : String) (sup : Option ClassId) : Class where
  name := name
  kind := .ordinary
  loader := none
  accessFlags := 33
  super := sup
  interfaces := #[]
  cf := none
  fields := #[]
  methods := #[]
  instanceTypes := #[]
  staticTypes := #[]
  resolved := #[]
  callSites := []
  init := .initialized
  statics := none
  mirror := none

def pool0 : Array CpInfo := pool [(5, u "<init>"), (0, u "()V"), (1, .class_ 10), (1, u "java/lang/Object")] 113

def k0c0 : Code := { maxStack := 0, maxLocals := 1, code := object_method_1_code, exceptionTable := #[], attributes := #[] }
def k0m0 : Method := { name := "<init>", desc := "()V", sig := { parameters := [], returnType := none }, accessFlags := 1, code := some k0c0 }
/-- java/lang/Object -/
def k0 : Class := { plain "java/lang/Object" none with
  accessFlags := 33
  interfaces := #[]
  cf := some (fileOf pool0 8 #[] #[{ accessFlags := 1, nameIndex := 5, descriptorIndex := 6, attributes := #[] }] 33 0 #[] #[])
  fields := #[]
  methods := #[k0m0]
  instanceTypes := #[]
  staticTypes := #[]
  resolved := Array.replicate 124 none
  statics := none }

def pool1 : Array CpInfo := pool [(2, .class_ 4), (1, u "java/lang/Object"), (0, u "<init>"), (0, u "()V"), (0, .integer 65535), (0, .fieldref 9 10), (0, .class_ 11), (0, .nameAndType 12 13), (0, u "com/example/wayfront/wayfront/decision/Criterion$Direction"), (0, u "MAX"), (0, u "Lcom/example/wayfront/wayfront/decision/Criterion$Direction;"), (0, .fieldref 9 15), (0, .nameAndType 16 13), (0, u "MIN"), (0, .methodref 18 19), (0, .class_ 20), (0, .nameAndType 21 22), (0, u "java/lang/String"), (0, u "valueOf"), (0, u "(C)Ljava/lang/String;"), (0, .class_ 24), (0, u "com/example/wayfront/wayfront/decision/Criterion"), (0, .methodref 23 26), (0, .nameAndType 5 27), (0, u "(Ljava/lang/String;Lcom/example/wayfront/wayfront/decision/Criterion$Direction;DDD)V"), (0, .methodref 23 29), (0, .nameAndType 30 31), (0, u "concordance"), (0, u "(D)D"), (0, .double 4562146422526312448), (1, .class_ 35), (0, u "com/example/wayfront/wayfront/decision/CriterionConcordancePinLaw"), (2, u "law"), (0, u "(IIIIII)Z")] 5

def k1m0 : Method := { name := "<init>", desc := "()V", sig := { parameters := [], returnType := none }, accessFlags := 1, code := none }
def k1c1 : Code := { maxStack := 10, maxLocals := 30, code := code, exceptionTable := #[], attributes := #[] }
def k1m1 : Method := { name := "law", desc := "(IIIIII)Z", sig := { parameters := [.int, .int, .int, .int, .int, .int], returnType := some .boolean }, accessFlags := 9, code := some k1c1 }
/-- com/example/wayfront/wayfront/decision/CriterionConcordancePinLaw -/
def k1 : Class := { plain "com/example/wayfront/wayfront/decision/CriterionConcordancePinLaw" (some 0) with
  accessFlags := 49
  interfaces := #[]
  cf := some (fileOf pool1 34 #[] #[{ accessFlags := 1, nameIndex := 5, descriptorIndex := 6, attributes := #[] }, { accessFlags := 9, nameIndex := 38, descriptorIndex := 39, attributes := #[] }] 49 2 #[] #[])
  fields := #[]
  methods := #[k1m0, k1m1]
  instanceTypes := #[]
  staticTypes := #[]
  resolved := Array.replicate 45 none
  statics := none }

def pool2 : Array CpInfo := pool [(1, .class_ 2), (0, u "java/lang/constant/Constable"), (0, .class_ 4), (0, u "java/lang/Object")] 6

/-- java/lang/constant/Constable -/
def k2 : Class := { plain "java/lang/constant/Constable" (some 0) with
  accessFlags := 1537
  interfaces := #[]
  cf := some (fileOf pool2 1 #[] #[] 1537 3 #[] #[])
  fields := #[]
  methods := #[]
  instanceTypes := #[]
  staticTypes := #[]
  resolved := Array.replicate 11 none
  statics := none }

def pool3 : Array CpInfo := pool [(1, .class_ 2), (0, u "java/lang/Comparable"), (0, .class_ 4), (0, u "java/lang/Object")] 7

/-- java/lang/Comparable -/
def k3 : Class := { plain "java/lang/Comparable" (some 0) with
  accessFlags := 1537
  interfaces := #[]
  cf := some (fileOf pool3 1 #[] #[] 1537 3 #[] #[])
  fields := #[]
  methods := #[]
  instanceTypes := #[]
  staticTypes := #[]
  resolved := Array.replicate 12 none
  statics := none }

def pool4 : Array CpInfo := pool [(1, .class_ 2), (0, u "java/io/Serializable"), (0, .class_ 4), (0, u "java/lang/Object")] 2

/-- java/io/Serializable -/
def k4 : Class := { plain "java/io/Serializable" (some 0) with
  accessFlags := 1537
  interfaces := #[]
  cf := some (fileOf pool4 1 #[] #[] 1537 3 #[] #[])
  fields := #[]
  methods := #[]
  instanceTypes := #[]
  staticTypes := #[]
  resolved := Array.replicate 7 none
  statics := none }

def pool5 : Array CpInfo := pool [(2, .class_ 4), (1, u "java/lang/Enum"), (0, u "name"), (0, u "Ljava/lang/String;"), (2, u "ordinal"), (0, u "I"), (1, .class_ 14), (1, u "java/lang/Object"), (4, u "hash"), (86, .class_ 108), (1, u "java/lang/Enum$EnumDesc"), (2, .class_ 112), (0, u "java/lang/constant/Constable"), (0, .class_ 114), (0, u "java/lang/Comparable"), (0, .class_ 116), (0, u "java/io/Serializable")] 87

/-- java/lang/Enum -/
def k5 : Class := { plain "java/lang/Enum" (some 0) with
  accessFlags := 1057
  interfaces := #[2, 3, 4]
  cf := some (fileOf pool5 2 #[.nestMembers #[106]] #[] 1057 12 #[111, 113, 115] #[{ accessFlags := 18, nameIndex := 5, descriptorIndex := 6, attributes := #[] }, { accessFlags := 18, nameIndex := 9, descriptorIndex := 10, attributes := #[] }, { accessFlags := 2, nameIndex := 19, descriptorIndex := 10, attributes := #[] }])
  fields := #[{ name := "name", type := (.object "java/lang/String"), accessFlags := 18, slot := 0, constantValue := 0 }, { name := "ordinal", type := .int, accessFlags := 18, slot := 1, constantValue := 0 }, { name := "hash", type := .int, accessFlags := 2, slot := 2, constantValue := 0 }]
  methods := #[]
  instanceTypes := #[(.object "java/lang/String"), .int, .int]
  staticTypes := #[]
  resolved := Array.replicate 204 none
  statics := none }

def pool6 : Array CpInfo := pool [(1, .class_ 2), (0, u "com/example/wayfront/wayfront/decision/Criterion$Direction"), (2, u "MAX"), (0, u "Lcom/example/wayfront/wayfront/decision/Criterion$Direction;"), (2, u "MIN"), (2, u "$VALUES"), (0, u "[Lcom/example/wayfront/wayfront/decision/Criterion$Direction;"), (6, .class_ 22), (1, u "java/lang/Enum"), (25, .class_ 49), (0, u "com/example/wayfront/wayfront/decision/Criterion")] 2

/-- com/example/wayfront/wayfront/decision/Criterion$Direction -/
def k6 : Class := { plain "com/example/wayfront/wayfront/decision/Criterion$Direction" (some 5) with
  accessFlags := 16433
  interfaces := #[]
  cf := some (fileOf pool6 1 #[.nestHost 48] #[] 16433 20 #[] #[{ accessFlags := 16409, nameIndex := 5, descriptorIndex := 6, attributes := #[] }, { accessFlags := 16409, nameIndex := 9, descriptorIndex := 6, attributes := #[] }, { accessFlags := 4122, nameIndex := 12, descriptorIndex := 13, attributes := #[] }])
  fields := #[{ name := "MAX", type := (.object "com/example/wayfront/wayfront/decision/Criterion$Direction"), accessFlags := 16409, slot := 0, constantValue := 0 }, { name := "MIN", type := (.object "com/example/wayfront/wayfront/decision/Criterion$Direction"), accessFlags := 16409, slot := 1, constantValue := 0 }, { name := "$VALUES", type := (.array (.object "com/example/wayfront/wayfront/decision/Criterion$Direction")), accessFlags := 4122, slot := 2, constantValue := 0 }]
  methods := #[]
  instanceTypes := #[(.object "java/lang/String"), .int, .int]
  staticTypes := #[(.object "com/example/wayfront/wayfront/decision/Criterion$Direction"), (.object "com/example/wayfront/wayfront/decision/Criterion$Direction"), (.array (.object "com/example/wayfront/wayfront/decision/Criterion$Direction"))]
  resolved := Array.replicate 52 none
  statics := some 0 }

def pool7 : Array CpInfo := pool [(2, .class_ 4), (1, u "java/lang/CharSequence"), (42, .class_ 48), (0, u "java/lang/CharSequence$1CodePointIterator"), (10, .class_ 60), (0, u "java/lang/CharSequence$1CharIterator"), (5, .class_ 67), (0, u "java/lang/Object")] 63

/-- java/lang/CharSequence -/
def k7 : Class := { plain "java/lang/CharSequence" (some 0) with
  accessFlags := 1537
  interfaces := #[]
  cf := some (fileOf pool7 2 #[.nestMembers #[47, 59]] #[] 1537 66 #[] #[])
  fields := #[]
  methods := #[]
  instanceTypes := #[]
  staticTypes := #[]
  resolved := Array.replicate 131 none
  statics := none }

def pool8 : Array CpInfo := pool [(1, .class_ 2), (0, u "java/lang/constant/ConstantDesc"), (0, .class_ 4), (0, u "java/lang/Object")] 32

/-- java/lang/constant/ConstantDesc -/
def k8 : Class := { plain "java/lang/constant/ConstantDesc" (some 0) with
  accessFlags := 1537
  interfaces := #[]
  cf := some (fileOf pool8 1 #[] #[] 1537 3 #[] #[])
  fields := #[]
  methods := #[]
  instanceTypes := #[]
  staticTypes := #[]
  resolved := Array.replicate 37 none
  statics := none }

def pool9 : Array CpInfo := pool [(1, .methodref 2 3), (0, .class_ 4), (0, .nameAndType 5 6), (0, u "java/lang/Object"), (0, u "<init>"), (0, u "()V"), (2, .fieldref 10 11), (0, .class_ 12), (0, .nameAndType 13 14), (0, u "java/lang/String"), (0, u "value"), (0, u "[B"), (0, .fieldref 10 16), (0, .nameAndType 17 18), (0, u "coder"), (0, u "B"), (2, u "hash"), (0, u "I"), (2, u "hashIsZero"), (0, u "Z"), (11, .fieldref 10 39), (0, .nameAndType 40 26), (0, u "COMPACT_STRINGS"), (12, u "toBytes"), (53, .class_ 109), (1, u "java/lang/StringLatin1"), (32, u "()Z"), (66, .methodref 10 210), (0, .nameAndType 5 211), (0, u "([BB)V"), (157, u "(C)Z"), (205, .class_ 576), (0, u "java/lang/CharSequence"), (22, u "CASE_INSENSITIVE_ORDER"), (0, u "Ljava/util/Comparator;"), (91, u "isEmpty"), (89, u "valueOf"), (0, u "(C)Ljava/lang/String;"), (231, .methodref 107 1016), (0, .nameAndType 1017 369), (0, u "canEncode"), (0, .methodref 107 1019), (0, .nameAndType 53 1020), (0, u "(C)[B"), (80, u "serialPersistentFields"), (0, u "[Ljava/io/ObjectStreamField;"), (0, .class_ 1104), (0, u "java/lang/String$CaseInsensitiveComparator"), (1, .class_ 1107), (0, u "java/io/Serializable"), (0, .class_ 1109), (0, u "java/lang/Comparable"), (0, .class_ 1111), (0, u "java/lang/constant/Constable"), (0, .class_ 1113), (0, u "java/lang/constant/ConstantDesc"), (2, u "serialVersionUID"), (0, u "J"), (3, u "REPL"), (0, u "C"), (2, u "LATIN1"), (1, u "UTF16")] 323

def k9m0 : Method := { name := "<init>", desc := "()V", sig := { parameters := [], returnType := none }, accessFlags := 1, code := none }
def k9c1 : Code := { maxStack := 1, maxLocals := 1, code := jdk_42_method_55_code, exceptionTable := #[], attributes := #[] }
def k9m1 : Method := { name := "isEmpty", desc := "()Z", sig := { parameters := [], returnType := some .boolean }, accessFlags := 1, code := some k9c1 }
def k9c2 : Code := { maxStack := 4, maxLocals := 1, code := jdk_42_method_139_code, exceptionTable := #[], attributes := #[] }
def k9m2 : Method := { name := "valueOf", desc := "(C)Ljava/lang/String;", sig := { parameters := [.char], returnType := some (.object "java/lang/String") }, accessFlags := 9, code := some k9c2 }
def k9c3 : Code := { maxStack := 2, maxLocals := 3, code := jdk_42_method_151_code, exceptionTable := #[], attributes := #[] }
def k9m3 : Method := { name := "<init>", desc := "([BB)V", sig := { parameters := [(.array .byte), .byte], returnType := none }, accessFlags := 0, code := some k9c3 }
/-- java/lang/String -/
def k9 : Class := { plain "java/lang/String" (some 0) with
  accessFlags := 49
  interfaces := #[4, 3, 7, 2, 8]
  cf := some (fileOf pool9 10 #[.nestMembers #[1103]] #[{ accessFlags := 1, nameIndex := 5, descriptorIndex := 6, attributes := #[] }, { accessFlags := 1, nameIndex := 692, descriptorIndex := 142, attributes := #[] }, { accessFlags := 9, nameIndex := 782, descriptorIndex := 783, attributes := #[] }, { accessFlags := 0, nameIndex := 5, descriptorIndex := 211, attributes := #[] }] 49 2 #[1106, 1108, 575, 1110, 1112] #[{ accessFlags := 18, nameIndex := 13, descriptorIndex := 14, attributes := #[] }, { accessFlags := 18, nameIndex := 17, descriptorIndex := 18, attributes := #[] }, { accessFlags := 2, nameIndex := 21, descriptorIndex := 22, attributes := #[] }, { accessFlags := 2, nameIndex := 25, descriptorIndex := 26, attributes := #[] }, { accessFlags := 26, nameIndex := 1116, descriptorIndex := 1117, attributes := #[] }, { accessFlags := 24, nameIndex := 40, descriptorIndex := 26, attributes := #[] }, { accessFlags := 26, nameIndex := 1101, descriptorIndex := 1102, attributes := #[] }, { accessFlags := 26, nameIndex := 1121, descriptorIndex := 1122, attributes := #[] }, { accessFlags := 25, nameIndex := 599, descriptorIndex := 600, attributes := #[] }, { accessFlags := 24, nameIndex := 1125, descriptorIndex := 18, attributes := #[] }, { accessFlags := 24, nameIndex := 1127, descriptorIndex := 18, attributes := #[] }])
  fields := #[{ name := "value", type := (.array .byte), accessFlags := 18, slot := 0, constantValue := 0 }, { name := "coder", type := .byte, accessFlags := 18, slot := 1, constantValue := 0 }, { name := "hash", type := .int, accessFlags := 2, slot := 2, constantValue := 0 }, { name := "hashIsZero", type := .boolean, accessFlags := 2, slot := 3, constantValue := 0 }, { name := "serialVersionUID", type := .long, accessFlags := 26, slot := 0, constantValue := 0 }, { name := "COMPACT_STRINGS", type := .boolean, accessFlags := 24, slot := 1, constantValue := 0 }, { name := "serialPersistentFields", type := (.array (.object "java/io/ObjectStreamField")), accessFlags := 26, slot := 2, constantValue := 0 }, { name := "REPL", type := .char, accessFlags := 26, slot := 3, constantValue := 0 }, { name := "CASE_INSENSITIVE_ORDER", type := (.object "java/util/Comparator"), accessFlags := 25, slot := 4, constantValue := 0 }, { name := "LATIN1", type := .byte, accessFlags := 24, slot := 5, constantValue := 0 }, { name := "UTF16", type := .byte, accessFlags := 24, slot := 6, constantValue := 0 }]
  methods := #[k9m0, k9m1, k9m2, k9m3]
  instanceTypes := #[(.array .byte), .byte, .int, .boolean]
  staticTypes := #[.long, .boolean, (.array (.object "java/io/ObjectStreamField")), .char, (.object "java/util/Comparator"), .byte, .byte]
  resolved := Array.replicate 1451 none
  statics := some 1 }

def pool10 : Array CpInfo := pool [(4, .class_ 6), (1, u "java/lang/Object"), (0, u "<init>"), (0, u "()V"), (5, .class_ 16), (1, u "java/lang/StringLatin1"), (73, u "canEncode"), (14, u "(C)Z"), (15, u "$assertionsDisabled"), (0, u "Z"), (98, .class_ 223), (1, u "java/lang/StringLatin1$LinesSpliterator"), (156, u "toBytes"), (1, u "(C)[B"), (7, .class_ 391), (0, u "java/lang/StringLatin1$CharsSpliterator")] 3

def k10m0 : Method := { name := "<init>", desc := "()V", sig := { parameters := [], returnType := none }, accessFlags := 0, code := none }
def k10c1 : Code := { maxStack := 2, maxLocals := 1, code := jdk_43_method_3_code, exceptionTable := #[], attributes := #[] }
def k10m1 : Method := { name := "canEncode", desc := "(C)Z", sig := { parameters := [.char], returnType := some .boolean }, accessFlags := 9, code := some k10c1 }
def k10c2 : Code := { maxStack := 4, maxLocals := 1, code := jdk_43_method_46_code, exceptionTable := #[], attributes := #[] }
def k10m2 : Method := { name := "toBytes", desc := "(C)[B", sig := { parameters := [.char], returnType := some (.array .byte) }, accessFlags := 9, code := some k10c2 }
/-- java/lang/StringLatin1 -/
def k10 : Class := { plain "java/lang/StringLatin1" (some 0) with
  accessFlags := 48
  interfaces := #[]
  cf := some (fileOf pool10 14 #[.nestMembers #[390, 221]] #[{ accessFlags := 0, nameIndex := 7, descriptorIndex := 8, attributes := #[] }, { accessFlags := 9, nameIndex := 90, descriptorIndex := 105, attributes := #[] }, { accessFlags := 9, nameIndex := 380, descriptorIndex := 382, attributes := #[] }] 48 4 #[] #[{ accessFlags := 4120, nameIndex := 121, descriptorIndex := 122, attributes := #[] }])
  fields := #[{ name := "$assertionsDisabled", type := .boolean, accessFlags := 4120, slot := 0, constantValue := 0 }]
  methods := #[k10m0, k10m1, k10m2]
  instanceTypes := #[]
  staticTypes := #[.boolean]
  resolved := Array.replicate 395 none
  statics := none }

def pool11 : Array CpInfo := pool [(1, .methodref 2 3), (0, .class_ 4), (0, .nameAndType 5 6), (0, u "java/lang/Object"), (0, u "<init>"), (0, u "()V"), (0, .class_ 8), (0, u "java/lang/Record")] 13

def k11c0 : Code := { maxStack := 1, maxLocals := 1, code := jdk_30_method_1_code, exceptionTable := #[], attributes := #[] }
def k11m0 : Method := { name := "<init>", desc := "()V", sig := { parameters := [], returnType := none }, accessFlags := 4, code := some k11c0 }
/-- java/lang/Record -/
def k11 : Class := { plain "java/lang/Record" (some 0) with
  accessFlags := 1057
  interfaces := #[]
  cf := some (fileOf pool11 7 #[] #[{ accessFlags := 4, nameIndex := 5, descriptorIndex := 6, attributes := #[] }] 1057 2 #[] #[])
  fields := #[]
  methods := #[k11m0]
  instanceTypes := #[]
  staticTypes := #[]
  resolved := Array.replicate 22 none
  statics := none }

def pool12 : Array CpInfo := pool [(1, .methodref 2 3), (0, .class_ 4), (0, .nameAndType 5 6), (0, u "java/lang/Record"), (0, u "<init>"), (0, u "()V"), (0, .methodref 8 9), (0, .class_ 10), (0, .nameAndType 11 12), (0, u "java/lang/String"), (0, u "isEmpty"), (0, u "()Z"), (9, .methodref 23 24), (0, .class_ 25), (0, .nameAndType 26 27), (0, u "java/lang/Double"), (0, u "isFinite"), (0, u "(D)Z"), (7, .fieldref 36 37), (0, .class_ 38), (0, .nameAndType 39 40), (0, u "com/example/wayfront/wayfront/decision/Criterion"), (0, u "name"), (0, u "Ljava/lang/String;"), (0, .fieldref 36 42), (0, .nameAndType 43 44), (0, u "direction"), (0, u "Lcom/example/wayfront/wayfront/decision/Criterion$Direction;"), (0, .fieldref 36 46), (0, .nameAndType 47 48), (0, u "indifference"), (0, u "D"), (0, .fieldref 36 50), (0, .nameAndType 51 48), (0, u "preference"), (0, .fieldref 36 53), (0, .nameAndType 54 48), (0, u "veto"), (1, .class_ 58), (1, u "com/example/wayfront/wayfront/decision/Criterion$Direction"), (13, u "(Ljava/lang/String;Lcom/example/wayfront/wayfront/decision/Criterion$Direction;DDD)V"), (6, u "concordance"), (0, u "(D)D")] 42

def k12c0 : Code := { maxStack := 9, maxLocals := 9, code := prog_21_method_1_code, exceptionTable := #[], attributes := #[] }
def k12m0 : Method := { name := "<init>", desc := "(Ljava/lang/String;Lcom/example/wayfront/wayfront/decision/Criterion$Direction;DDD)V", sig := { parameters := [(.object "java/lang/String"), (.object "com/example/wayfront/wayfront/decision/Criterion$Direction"), .double, .double, .double], returnType := none }, accessFlags := 1, code := some k12c0 }
def k12c1 : Code := { maxStack := 6, maxLocals := 3, code := prog_21_method_3_code, exceptionTable := #[], attributes := #[] }
def k12m1 : Method := { name := "concordance", desc := "(D)D", sig := { parameters := [.double], returnType := some .double }, accessFlags := 1, code := some k12c1 }
/-- com/example/wayfront/wayfront/decision/Criterion -/
def k12 : Class := { plain "com/example/wayfront/wayfront/decision/Criterion" (some 11) with
  accessFlags := 49
  interfaces := #[]
  cf := some (fileOf pool12 36 #[.nestMembers #[56]] #[{ accessFlags := 1, nameIndex := 5, descriptorIndex := 72, attributes := #[] }, { accessFlags := 1, nameIndex := 79, descriptorIndex := 80, attributes := #[] }] 49 2 #[] #[{ accessFlags := 18, nameIndex := 39, descriptorIndex := 40, attributes := #[] }, { accessFlags := 18, nameIndex := 43, descriptorIndex := 44, attributes := #[] }, { accessFlags := 18, nameIndex := 47, descriptorIndex := 48, attributes := #[] }, { accessFlags := 18, nameIndex := 51, descriptorIndex := 48, attributes := #[] }, { accessFlags := 18, nameIndex := 54, descriptorIndex := 48, attributes := #[] }])
  fields := #[{ name := "name", type := (.object "java/lang/String"), accessFlags := 18, slot := 0, constantValue := 0 }, { name := "direction", type := (.object "com/example/wayfront/wayfront/decision/Criterion$Direction"), accessFlags := 18, slot := 1, constantValue := 0 }, { name := "indifference", type := .double, accessFlags := 18, slot := 2, constantValue := 0 }, { name := "preference", type := .double, accessFlags := 18, slot := 3, constantValue := 0 }, { name := "veto", type := .double, accessFlags := 18, slot := 4, constantValue := 0 }]
  methods := #[k12m0, k12m1]
  instanceTypes := #[(.object "java/lang/String"), (.object "com/example/wayfront/wayfront/decision/Criterion$Direction"), .double, .double, .double]
  staticTypes := #[]
  resolved := Array.replicate 123 none
  statics := none }

def pool13 : Array CpInfo := pool [(2, .class_ 4), (1, u "java/lang/Object"), (0, u "<init>"), (0, u "()V"), (1, .class_ 10), (1, u "java/lang/Number"), (2, .class_ 14), (0, u "java/io/Serializable"), (0, u "serialVersionUID"), (0, u "J")] 20

def k13m0 : Method := { name := "<init>", desc := "()V", sig := { parameters := [], returnType := none }, accessFlags := 1, code := none }
/-- java/lang/Number -/
def k13 : Class := { plain "java/lang/Number" (some 0) with
  accessFlags := 1057
  interfaces := #[4]
  cf := some (fileOf pool13 8 #[] #[{ accessFlags := 1, nameIndex := 5, descriptorIndex := 6, attributes := #[] }] 1057 2 #[13] #[{ accessFlags := 26, nameIndex := 15, descriptorIndex := 16, attributes := #[] }])
  fields := #[{ name := "serialVersionUID", type := .long, accessFlags := 26, slot := 0, constantValue := 0 }]
  methods := #[k13m0]
  instanceTypes := #[]
  staticTypes := #[.long]
  resolved := Array.replicate 37 none
  statics := none }

def pool14 : Array CpInfo := pool [(1, .class_ 2), (0, u "java/lang/Double"), (10, u "isFinite"), (0, u "(D)Z"), (8, .class_ 25), (1, u "java/lang/Math"), (12, .methodref 23 39), (0, .nameAndType 40 41), (0, u "abs"), (0, u "(D)D"), (69, .double 9218868437227405311), (2, .class_ 116), (1, u "java/lang/Number"), (3, u "value"), (0, u "D"), (51, u "TYPE"), (0, u "Ljava/lang/Class;"), (0, .class_ 176), (0, u "java/lang/Comparable"), (0, .class_ 178), (0, u "java/lang/constant/Constable"), (0, .class_ 180), (0, u "java/lang/constant/ConstantDesc"), (0, u "POSITIVE_INFINITY"), (3, u "NEGATIVE_INFINITY"), (2, u "NaN"), (2, u "MAX_VALUE"), (0, u "MIN_NORMAL"), (0, u "MIN_VALUE"), (2, u "SIZE"), (0, u "I"), (1, u "PRECISION"), (1, u "MAX_EXPONENT"), (1, u "MIN_EXPONENT"), (1, u "BYTES"), (3, u "serialVersionUID"), (0, u "J")] 79

def k14c0 : Code := { maxStack := 4, maxLocals := 2, code := jdk_117_method_8_code, exceptionTable := #[], attributes := #[] }
def k14m0 : Method := { name := "isFinite", desc := "(D)Z", sig := { parameters := [.double], returnType := some .boolean }, accessFlags := 9, code := some k14c0 }
/-- java/lang/Double -/
def k14 : Class := { plain "java/lang/Double" (some 13) with
  accessFlags := 49
  interfaces := #[3, 2, 8]
  cf := some (fileOf pool14 1 #[] #[{ accessFlags := 9, nameIndex := 13, descriptorIndex := 14, attributes := #[] }] 49 114 #[175, 177, 179] #[{ accessFlags := 25, nameIndex := 181, descriptorIndex := 121, attributes := #[] }, { accessFlags := 25, nameIndex := 185, descriptorIndex := 121, attributes := #[] }, { accessFlags := 25, nameIndex := 188, descriptorIndex := 121, attributes := #[] }, { accessFlags := 25, nameIndex := 191, descriptorIndex := 121, attributes := #[] }, { accessFlags := 25, nameIndex := 192, descriptorIndex := 121, attributes := #[] }, { accessFlags := 25, nameIndex := 193, descriptorIndex := 121, attributes := #[] }, { accessFlags := 25, nameIndex := 196, descriptorIndex := 197, attributes := #[] }, { accessFlags := 25, nameIndex := 199, descriptorIndex := 197, attributes := #[] }, { accessFlags := 25, nameIndex := 201, descriptorIndex := 197, attributes := #[] }, { accessFlags := 25, nameIndex := 203, descriptorIndex := 197, attributes := #[] }, { accessFlags := 25, nameIndex := 205, descriptorIndex := 197, attributes := #[] }, { accessFlags := 25, nameIndex := 173, descriptorIndex := 174, attributes := #[] }, { accessFlags := 18, nameIndex := 120, descriptorIndex := 121, attributes := #[] }, { accessFlags := 26, nameIndex := 209, descriptorIndex := 210, attributes := #[] }])
  fields := #[{ name := "POSITIVE_INFINITY", type := .double, accessFlags := 25, slot := 0, constantValue := 0 }, { name := "NEGATIVE_INFINITY", type := .double, accessFlags := 25, slot := 1, constantValue := 0 }, { name := "NaN", type := .double, accessFlags := 25, slot := 2, constantValue := 0 }, { name := "MAX_VALUE", type := .double, accessFlags := 25, slot := 3, constantValue := 0 }, { name := "MIN_NORMAL", type := .double, accessFlags := 25, slot := 4, constantValue := 0 }, { name := "MIN_VALUE", type := .double, accessFlags := 25, slot := 5, constantValue := 0 }, { name := "SIZE", type := .int, accessFlags := 25, slot := 6, constantValue := 0 }, { name := "PRECISION", type := .int, accessFlags := 25, slot := 7, constantValue := 0 }, { name := "MAX_EXPONENT", type := .int, accessFlags := 25, slot := 8, constantValue := 0 }, { name := "MIN_EXPONENT", type := .int, accessFlags := 25, slot := 9, constantValue := 0 }, { name := "BYTES", type := .int, accessFlags := 25, slot := 10, constantValue := 0 }, { name := "TYPE", type := (.object "java/lang/Class"), accessFlags := 25, slot := 11, constantValue := 0 }, { name := "value", type := .double, accessFlags := 18, slot := 0, constantValue := 0 }, { name := "serialVersionUID", type := .long, accessFlags := 26, slot := 12, constantValue := 0 }]
  methods := #[k14m0]
  instanceTypes := #[.double]
  staticTypes := #[.double, .double, .double, .double, .double, .double, .int, .int, .int, .int, .int, (.object "java/lang/Class"), .long]
  resolved := Array.replicate 290 none
  statics := none }

def pool15 : Array CpInfo := pool [(1, .class_ 2), (0, u "java/lang/Math"), (1, .class_ 6), (1, u "java/lang/Object"), (0, u "<init>"), (0, u "()V"), (5, u "(D)D"), (83, .class_ 100), (1, u "java/lang/Math$RandomNumberGeneratorHolder"), (23, u "abs"), (47, u "negativeZeroFloatBits"), (0, u "J"), (2, u "negativeZeroDoubleBits"), (68, u "$assertionsDisabled"), (0, u "Z"), (91, u "twoToTheDoubleScaleDown"), (0, u "D"), (4, u "twoToTheDoubleScaleUp"), (9, u "E"), (3, u "PI"), (2, u "TAU"), (2, u "DEGREES_TO_RADIANS"), (0, u "RADIANS_TO_DEGREES")] 94

def k15m0 : Method := { name := "<init>", desc := "()V", sig := { parameters := [], returnType := none }, accessFlags := 2, code := none }
def k15c1 : Code := { maxStack := 4, maxLocals := 2, code := jdk_29_method_64_code, exceptionTable := #[], attributes := #[] }
def k15m1 : Method := { name := "abs", desc := "(D)D", sig := { parameters := [.double], returnType := some .double }, accessFlags := 9, code := some k15c1 }
/-- java/lang/Math -/
def k15 : Class := { plain "java/lang/Math" (some 0) with
  accessFlags := 49
  interfaces := #[]
  cf := some (fileOf pool15 1 #[.nestMembers #[98]] #[{ accessFlags := 2, nameIndex := 7, descriptorIndex := 8, attributes := #[] }, { accessFlags := 9, nameIndex := 124, descriptorIndex := 14, attributes := #[] }] 49 4 #[] #[{ accessFlags := 25, nameIndex := 354, descriptorIndex := 339, attributes := #[] }, { accessFlags := 25, nameIndex := 358, descriptorIndex := 339, attributes := #[] }, { accessFlags := 25, nameIndex := 361, descriptorIndex := 339, attributes := #[] }, { accessFlags := 26, nameIndex := 364, descriptorIndex := 339, attributes := #[] }, { accessFlags := 26, nameIndex := 365, descriptorIndex := 339, attributes := #[] }, { accessFlags := 26, nameIndex := 172, descriptorIndex := 173, attributes := #[] }, { accessFlags := 26, nameIndex := 176, descriptorIndex := 173, attributes := #[] }, { accessFlags := 8, nameIndex := 344, descriptorIndex := 339, attributes := #[] }, { accessFlags := 8, nameIndex := 338, descriptorIndex := 339, attributes := #[] }, { accessFlags := 4120, nameIndex := 245, descriptorIndex := 246, attributes := #[] }])
  fields := #[{ name := "E", type := .double, accessFlags := 25, slot := 0, constantValue := 0 }, { name := "PI", type := .double, accessFlags := 25, slot := 1, constantValue := 0 }, { name := "TAU", type := .double, accessFlags := 25, slot := 2, constantValue := 0 }, { name := "DEGREES_TO_RADIANS", type := .double, accessFlags := 26, slot := 3, constantValue := 0 }, { name := "RADIANS_TO_DEGREES", type := .double, accessFlags := 26, slot := 4, constantValue := 0 }, { name := "negativeZeroFloatBits", type := .long, accessFlags := 26, slot := 5, constantValue := 0 }, { name := "negativeZeroDoubleBits", type := .long, accessFlags := 26, slot := 6, constantValue := 0 }, { name := "twoToTheDoubleScaleUp", type := .double, accessFlags := 8, slot := 7, constantValue := 0 }, { name := "twoToTheDoubleScaleDown", type := .double, accessFlags := 8, slot := 8, constantValue := 0 }, { name := "$assertionsDisabled", type := .boolean, accessFlags := 4120, slot := 9, constantValue := 0 }]
  methods := #[k15m0, k15m1]
  instanceTypes := #[]
  staticTypes := #[.double, .double, .double, .double, .double, .long, .long, .double, .double, .boolean]
  resolved := Array.replicate 460 none
  statics := none }

def pool16 : Array CpInfo := pool [(2, .class_ 4), (1, u "java/lang/Object"), (0, u "<init>"), (0, u "()V"), (17, .class_ 26), (1, u "jdk/internal/util/Preconditions"), (28, .class_ 56), (0, u "jdk/internal/util/Preconditions$4"), (57, .class_ 115), (0, u "jdk/internal/util/Preconditions$1"), (7, u "SIOOBE_FORMATTER"), (0, u "Ljava/util/function/BiFunction;"), (0, .class_ 126), (0, u "jdk/internal/util/Preconditions$2"), (3, u "AIOOBE_FORMATTER"), (0, .class_ 132), (0, u "jdk/internal/util/Preconditions$3"), (3, u "IOOBE_FORMATTER")] 57

def k16m0 : Method := { name := "<init>", desc := "()V", sig := { parameters := [], returnType := none }, accessFlags := 1, code := none }
/-- jdk/internal/util/Preconditions -/
def k16 : Class := { plain "jdk/internal/util/Preconditions" (some 0) with
  accessFlags := 33
  interfaces := #[]
  cf := some (fileOf pool16 24 #[.nestMembers #[55, 131, 125, 114]] #[{ accessFlags := 1, nameIndex := 5, descriptorIndex := 6, attributes := #[] }] 33 2 #[] #[{ accessFlags := 25, nameIndex := 123, descriptorIndex := 124, attributes := #[] }, { accessFlags := 25, nameIndex := 130, descriptorIndex := 124, attributes := #[] }, { accessFlags := 25, nameIndex := 136, descriptorIndex := 124, attributes := #[] }])
  fields := #[{ name := "SIOOBE_FORMATTER", type := (.object "java/util/function/BiFunction"), accessFlags := 25, slot := 0, constantValue := 0 }, { name := "AIOOBE_FORMATTER", type := (.object "java/util/function/BiFunction"), accessFlags := 25, slot := 1, constantValue := 0 }, { name := "IOOBE_FORMATTER", type := (.object "java/util/function/BiFunction"), accessFlags := 25, slot := 2, constantValue := 0 }]
  methods := #[k16m0]
  instanceTypes := #[]
  staticTypes := #[(.object "java/util/function/BiFunction"), (.object "java/util/function/BiFunction"), (.object "java/util/function/BiFunction")]
  resolved := Array.replicate 194 none
  statics := some 2 }

def pool17 : Array CpInfo := pool [(9, u "<init>"), (6, .class_ 18), (1, u "java/lang/Object"), (0, u "()V"), (1, .class_ 23), (1, u "jdk/internal/util/ArraysSupport"), (0, u "LOG2_ARRAY_LONG_INDEX_SCALE"), (0, u "I"), (2, u "U"), (0, u "Ljdk/internal/misc/Unsafe;"), (8, u "BIG_ENDIAN"), (0, u "Z"), (8, u "LOG2_BYTE_BIT_SIZE"), (4, u "LOG2_ARRAY_INT_INDEX_SCALE"), (54, u "JLA"), (0, u "Ljdk/internal/access/JavaLangAccess;"), (11, u "LOG2_ARRAY_BOOLEAN_INDEX_SCALE"), (9, u "LOG2_ARRAY_BYTE_INDEX_SCALE"), (5, u "LOG2_ARRAY_CHAR_INDEX_SCALE"), (5, u "LOG2_ARRAY_SHORT_INDEX_SCALE"), (18, u "LOG2_ARRAY_FLOAT_INDEX_SCALE"), (24, u "LOG2_ARRAY_DOUBLE_INDEX_SCALE"), (89, u "T_BOOLEAN"), (2, u "T_CHAR"), (1, u "T_FLOAT"), (1, u "T_DOUBLE"), (1, u "T_BYTE"), (1, u "T_SHORT"), (1, u "T_INT"), (1, u "T_LONG"), (1, u "SOFT_MAX_ARRAY_LENGTH")] 83

def k17m0 : Method := { name := "<init>", desc := "()V", sig := { parameters := [], returnType := none }, accessFlags := 2, code := none }
/-- jdk/internal/util/ArraysSupport -/
def k17 : Class := { plain "jdk/internal/util/ArraysSupport" (some 0) with
  accessFlags := 33
  interfaces := #[]
  cf := some (fileOf pool17 21 #[] #[{ accessFlags := 2, nameIndex := 9, descriptorIndex := 19, attributes := #[] }] 33 16 #[] #[{ accessFlags := 24, nameIndex := 28, descriptorIndex := 29, attributes := #[] }, { accessFlags := 26, nameIndex := 38, descriptorIndex := 39, attributes := #[] }, { accessFlags := 25, nameIndex := 121, descriptorIndex := 25, attributes := #[] }, { accessFlags := 25, nameIndex := 131, descriptorIndex := 25, attributes := #[] }, { accessFlags := 25, nameIndex := 137, descriptorIndex := 25, attributes := #[] }, { accessFlags := 25, nameIndex := 143, descriptorIndex := 25, attributes := #[] }, { accessFlags := 25, nameIndex := 53, descriptorIndex := 25, attributes := #[] }, { accessFlags := 25, nameIndex := 24, descriptorIndex := 25, attributes := #[] }, { accessFlags := 25, nameIndex := 162, descriptorIndex := 25, attributes := #[] }, { accessFlags := 25, nameIndex := 187, descriptorIndex := 25, attributes := #[] }, { accessFlags := 26, nameIndex := 48, descriptorIndex := 25, attributes := #[] }, { accessFlags := 25, nameIndex := 277, descriptorIndex := 25, attributes := #[] }, { accessFlags := 25, nameIndex := 280, descriptorIndex := 25, attributes := #[] }, { accessFlags := 25, nameIndex := 282, descriptorIndex := 25, attributes := #[] }, { accessFlags := 25, nameIndex := 284, descriptorIndex := 25, attributes := #[] }, { accessFlags := 25, nameIndex := 286, descriptorIndex := 25, attributes := #[] }, { accessFlags := 25, nameIndex := 288, descriptorIndex := 25, attributes := #[] }, { accessFlags := 25, nameIndex := 290, descriptorIndex := 25, attributes := #[] }, { accessFlags := 25, nameIndex := 292, descriptorIndex := 25, attributes := #[] }, { accessFlags := 26, nameIndex := 108, descriptorIndex := 109, attributes := #[] }, { accessFlags := 25, nameIndex := 294, descriptorIndex := 25, attributes := #[] }])
  fields := #[{ name := "U", type := (.object "jdk/internal/misc/Unsafe"), accessFlags := 24, slot := 0, constantValue := 0 }, { name := "BIG_ENDIAN", type := .boolean, accessFlags := 26, slot := 1, constantValue := 0 }, { name := "LOG2_ARRAY_BOOLEAN_INDEX_SCALE", type := .int, accessFlags := 25, slot := 2, constantValue := 0 }, { name := "LOG2_ARRAY_BYTE_INDEX_SCALE", type := .int, accessFlags := 25, slot := 3, constantValue := 0 }, { name := "LOG2_ARRAY_CHAR_INDEX_SCALE", type := .int, accessFlags := 25, slot := 4, constantValue := 0 }, { name := "LOG2_ARRAY_SHORT_INDEX_SCALE", type := .int, accessFlags := 25, slot := 5, constantValue := 0 }, { name := "LOG2_ARRAY_INT_INDEX_SCALE", type := .int, accessFlags := 25, slot := 6, constantValue := 0 }, { name := "LOG2_ARRAY_LONG_INDEX_SCALE", type := .int, accessFlags := 25, slot := 7, constantValue := 0 }, { name := "LOG2_ARRAY_FLOAT_INDEX_SCALE", type := .int, accessFlags := 25, slot := 8, constantValue := 0 }, { name := "LOG2_ARRAY_DOUBLE_INDEX_SCALE", type := .int, accessFlags := 25, slot := 9, constantValue := 0 }, { name := "LOG2_BYTE_BIT_SIZE", type := .int, accessFlags := 26, slot := 10, constantValue := 0 }, { name := "T_BOOLEAN", type := .int, accessFlags := 25, slot := 11, constantValue := 0 }, { name := "T_CHAR", type := .int, accessFlags := 25, slot := 12, constantValue := 0 }, { name := "T_FLOAT", type := .int, accessFlags := 25, slot := 13, constantValue := 0 }, { name := "T_DOUBLE", type := .int, accessFlags := 25, slot := 14, constantValue := 0 }, { name := "T_BYTE", type := .int, accessFlags := 25, slot := 15, constantValue := 0 }, { name := "T_SHORT", type := .int, accessFlags := 25, slot := 16, constantValue := 0 }, { name := "T_INT", type := .int, accessFlags := 25, slot := 17, constantValue := 0 }, { name := "T_LONG", type := .int, accessFlags := 25, slot := 18, constantValue := 0 }, { name := "JLA", type := (.object "jdk/internal/access/JavaLangAccess"), accessFlags := 26, slot := 19, constantValue := 0 }, { name := "SOFT_MAX_ARRAY_LENGTH", type := .int, accessFlags := 25, slot := 20, constantValue := 0 }]
  methods := #[k17m0]
  instanceTypes := #[]
  staticTypes := #[(.object "jdk/internal/misc/Unsafe"), .boolean, .int, .int, .int, .int, .int, .int, .int, .int, .int, .int, .int, .int, .int, .int, .int, .int, .int, (.object "jdk/internal/access/JavaLangAccess"), .int]
  resolved := Array.replicate 378 none
  statics := none }

def pool18 : Array CpInfo := pool [(1, u "java/lang/Cloneable"), (0, .class_ 1), (0, u "java/lang/Object"), (0, .class_ 3)] 3

/-- java/lang/Cloneable -/
def k18 : Class := { plain "java/lang/Cloneable" (some 0) with
  accessFlags := 1537
  interfaces := #[]
  cf := some (fileOf pool18 2 #[] #[] 1537 4 #[] #[])
  fields := #[]
  methods := #[]
  instanceTypes := #[]
  staticTypes := #[]
  resolved := Array.replicate 8 none
  statics := none }

/-- the primitive byte -/
def k19 : Class := { plain "byte" none with kind := .primitive 'B', accessFlags := 0x411 }
/-- [B -/
def k20 : Class := { plain "[B" (some 0) with kind := .array 19 .byte, interfaces := #[18, 4], accessFlags := 1041 }

/-- the primitive int -/
def k21 : Class := { plain "int" none with kind := .primitive 'I', accessFlags := 0x411 }
/-- [I -/
def k22 : Class := { plain "[I" (some 0) with kind := .array 21 .int, interfaces := #[18, 4], accessFlags := 1041 }

def heap : Heap := #[{ cls := 6, slots := #[.ref 3, .ref 4, .null], vm := .statics 6 },
  { cls := 9, slots := #[.long 0, .int 1, .null, .int 0, .null, .int 0, .int 0], vm := .statics 9 },
  { cls := 16, slots := #[.null, .null, .null], vm := .statics 16 },
  { cls := 6, slots := #[.null, .int 0, .int 0], vm := .none },
  { cls := 6, slots := #[.null, .int 1, .int 0], vm := .none }]
def classes : Array Class := #[k0, k1, k2, k3, k4, k5, k6, k7, k8, k9, k10, k11, k12, k13, k14, k15, k16, k17, k18, k19, k20, k21, k22]
def interned : List (Array UInt16 × Addr) := []
def slotsUsed : Nat := 19
def theMethod : MethodId := ⟨1, 1⟩
def args0 : Array Value := #[.int 5, .int 7, .int 3, .int 2, .int 1, .int 65]
def aboutOver (below : List Frame) : State where
  vm := { classes := classes, interned := interned.toArray }
  heap := heap
  slotsUsed := slotsUsed
  threads := #[{ frames := .invoking theMethod args0 :: below }]
def below0 : List Frame := [.native { method := ⟨0, 0⟩, args := #[] }]
def about1 : State := aboutOver below0
def p0 : Program := .bare "" "" ""
def e0 : Env := launch0.env 0 0 0
theorem w_frames : about1.frames = Frame.invoking theMethod args0 :: below0 := rfl
set_option maxRecDepth 65536 in
theorem w_args : argsFit about1.vm theMethod args0 = true := by decide +kernel
set_option maxRecDepth 65536 in
theorem w_heap : heapFits about1 = true := by decide +kernel
set_option maxRecDepth 65536 in
theorem w_runnable : about1.curStatus? = some .runnable := by decide +kernel
set_option maxRecDepth 65536 in
theorem w_alone : about1.alone = true := by decide +kernel
set_option maxRecDepth 65536 in
theorem w_named : about1.methodNamed? x = some theMethod := by decide +kernel
set_option maxRecDepth 65536 in
theorem w_hears : about1.hears theMethod below0 = true := by decide +kernel
set_option maxRecDepth 65536 in
theorem w_ripe : about1.ripe theMethod args0 below0 = true := by decide +kernel
theorem w_running : about1.status = .running := rfl
set_option maxRecDepth 65536 in
theorem w_room : about1.hasRoom e0.platform room_1 = true :=
  launch0.hasRoom_least _ room_1 (by decide +kernel) (by decide +kernel) (by decide +kernel) (by decide +kernel) (by decide +kernel) (by decide +kernel)
theorem allAtoms_all (ts : List Jvm.Cond) (a : Array Jvm.Value) (st : Jvm.State) : (allAtoms ts).before a st = ts.all (fun c => c.before a st) := by
  induction ts with
  | nil => rfl
  | cons c t ih =>
    show (Jvm.Cond.and c (allAtoms t)).before a st = _
    rw [Jvm.Cond.before_and, ih, List.all_cons]
def words1 : List Jvm.Cond := Jvm.Cond.code x code maxLocals ret :: tables_1
/-- a 'code' word, met by the world's own term for the bytes: nothing is compared byte by byte -/
theorem code_word {y : MethodName} {bytes : ByteArray} {mx : Nat} {rt : Option FieldType} {a : Array Value} {s : State} {m : MethodId} {meth : Method} {c : Code} (h1 : s.methodNamed? y = some m) (h2 : s.vm.method? m = some meth) (h3 : meth.code = some c) (h4 : c.code = bytes)
    (h5 : (c.maxLocals == mx && c.exceptionTable.isEmpty && decide (c.maxStack ≤ mostOperands) && decide (meth.sig.returnType = rt) && !meth.locks && decide (parseMethodDescriptor y.desc = some meth.sig)) = true) : (Jvm.Cond.code y bytes mx rt).before a s = true := by
  simp only [Bool.and_eq_true, beq_iff_eq, Bool.not_eq_true', decide_eq_true_eq] at h5
  obtain ⟨⟨⟨⟨⟨g1, g2⟩, g3⟩, g4⟩, g5⟩, g6⟩ := h5
  simp [Cond.before, Cond.holds, Cond.value, h1, h2, h3, h4, g1, g2, g3, g4, g5, g6]
def isCode : Jvm.Cond → Bool
  | .code _ _ _ _ => true
  | _ => false
theorem all_split {L : List Jvm.Cond} {P : Jvm.Cond → Bool} (h1 : L.all (fun c => isCode c || P c) = true) (h2 : ∀ c ∈ L.filter isCode, P c = true) : L.all P = true := by
  refine List.all_eq_true.mpr fun c hc => ?_
  have h := List.all_eq_true.mp h1 c hc
  rcases Bool.eq_false_or_eq_true (isCode c) with hi | hi
  · exact h2 c (List.mem_filter.mpr ⟨hc, hi⟩)
  · simpa [hi] using h
set_option maxRecDepth 65536 in
theorem w_c0 : (Jvm.Cond.code x code maxLocals ret).before args0 about1 = true := code_word (m := ⟨1, 1⟩) (meth := k1m1) (c := k1c1) (by decide +kernel) rfl rfl rfl (by decide +kernel)
set_option maxRecDepth 65536 in
theorem w_c1 : (Jvm.Cond.code ({ cls := "java/lang/String", name := "valueOf", desc := "(C)Ljava/lang/String;" } : Jvm.MethodName) jdk_42_method_139_code (1 : Nat) (Option.some (Jvm.ClassFile.FieldType.object "java/lang/String"))).before args0 about1 = true := code_word (m := ⟨9, 2⟩) (meth := k9m2) (c := k9c2) (by decide +kernel) rfl rfl rfl (by decide +kernel)
set_option maxRecDepth 65536 in
theorem w_c2 : (Jvm.Cond.code ({ cls := "java/lang/StringLatin1", name := "canEncode", desc := "(C)Z" } : Jvm.MethodName) jdk_43_method_3_code (1 : Nat) (Option.some Jvm.ClassFile.FieldType.boolean)).before args0 about1 = true := code_word (m := ⟨10, 1⟩) (meth := k10m1) (c := k10c1) (by decide +kernel) rfl rfl rfl (by decide +kernel)
set_option maxRecDepth 65536 in
theorem w_c3 : (Jvm.Cond.code ({ cls := "java/lang/StringLatin1", name := "toBytes", desc := "(C)[B" } : Jvm.MethodName) jdk_43_method_46_code (1 : Nat) (Option.some (Jvm.ClassFile.FieldType.array Jvm.ClassFile.FieldType.byte))).before args0 about1 = true := code_word (m := ⟨10, 2⟩) (meth := k10m2) (c := k10c2) (by decide +kernel) rfl rfl rfl (by decide +kernel)
set_option maxRecDepth 65536 in
theorem w_c4 : (Jvm.Cond.code ({ cls := "java/lang/String", name := "<init>", desc := "([BB)V" } : Jvm.MethodName) jdk_42_method_151_code (3 : Nat) (Option.none : Option Jvm.ClassFile.FieldType)).before args0 about1 = true := code_word (m := ⟨9, 3⟩) (meth := k9m3) (c := k9c3) (by decide +kernel) rfl rfl rfl (by decide +kernel)
set_option maxRecDepth 65536 in
theorem w_c5 : (Jvm.Cond.code ({ cls := "java/lang/Object", name := "<init>", desc := "()V" } : Jvm.MethodName) object_method_1_code (1 : Nat) (Option.none : Option Jvm.ClassFile.FieldType)).before args0 about1 = true := code_word (m := ⟨0, 0⟩) (meth := k0m0) (c := k0c0) (by decide +kernel) rfl rfl rfl (by decide +kernel)
set_option maxRecDepth 65536 in
theorem w_c6 : (Jvm.Cond.code ({ cls := "com/example/wayfront/wayfront/decision/Criterion", name := "<init>", desc := "(Ljava/lang/String;Lcom/example/wayfront/wayfront/decision/Criterion$Direction;DDD)V" } : Jvm.MethodName) prog_21_method_1_code (9 : Nat) (Option.none : Option Jvm.ClassFile.FieldType)).before args0 about1 = true := code_word (m := ⟨12, 0⟩) (meth := k12m0) (c := k12c0) (by decide +kernel) rfl rfl rfl (by decide +kernel)
set_option maxRecDepth 65536 in
theorem w_c7 : (Jvm.Cond.code ({ cls := "java/lang/Record", name := "<init>", desc := "()V" } : Jvm.MethodName) jdk_30_method_1_code (1 : Nat) (Option.none : Option Jvm.ClassFile.FieldType)).before args0 about1 = true := code_word (m := ⟨11, 0⟩) (meth := k11m0) (c := k11c0) (by decide +kernel) rfl rfl rfl (by decide +kernel)
set_option maxRecDepth 65536 in
theorem w_c8 : (Jvm.Cond.code ({ cls := "java/lang/String", name := "isEmpty", desc := "()Z" } : Jvm.MethodName) jdk_42_method_55_code (1 : Nat) (Option.some Jvm.ClassFile.FieldType.boolean)).before args0 about1 = true := code_word (m := ⟨9, 1⟩) (meth := k9m1) (c := k9c1) (by decide +kernel) rfl rfl rfl (by decide +kernel)
set_option maxRecDepth 65536 in
theorem w_c9 : (Jvm.Cond.code ({ cls := "java/lang/Double", name := "isFinite", desc := "(D)Z" } : Jvm.MethodName) jdk_117_method_8_code (2 : Nat) (Option.some Jvm.ClassFile.FieldType.boolean)).before args0 about1 = true := code_word (m := ⟨14, 0⟩) (meth := k14m0) (c := k14c0) (by decide +kernel) rfl rfl rfl (by decide +kernel)
set_option maxRecDepth 65536 in
theorem w_c10 : (Jvm.Cond.code ({ cls := "java/lang/Math", name := "abs", desc := "(D)D" } : Jvm.MethodName) jdk_29_method_64_code (2 : Nat) (Option.some Jvm.ClassFile.FieldType.double)).before args0 about1 = true := code_word (m := ⟨15, 1⟩) (meth := k15m1) (c := k15c1) (by decide +kernel) rfl rfl rfl (by decide +kernel)
set_option maxRecDepth 65536 in
theorem w_c11 : (Jvm.Cond.code ({ cls := "com/example/wayfront/wayfront/decision/Criterion", name := "concordance", desc := "(D)D" } : Jvm.MethodName) prog_21_method_3_code (3 : Nat) (Option.some Jvm.ClassFile.FieldType.double)).before args0 about1 = true := code_word (m := ⟨12, 1⟩) (meth := k12m1) (c := k12c1) (by decide +kernel) rfl rfl rfl (by decide +kernel)
def codes1 : List Jvm.Cond := [Jvm.Cond.code x code maxLocals ret, Jvm.Cond.code ({ cls := "java/lang/String", name := "valueOf", desc := "(C)Ljava/lang/String;" } : Jvm.MethodName) jdk_42_method_139_code (1 : Nat) (Option.some (Jvm.ClassFile.FieldType.object "java/lang/String")), Jvm.Cond.code ({ cls := "java/lang/StringLatin1", name := "canEncode", desc := "(C)Z" } : Jvm.MethodName) jdk_43_method_3_code (1 : Nat) (Option.some Jvm.ClassFile.FieldType.boolean), Jvm.Cond.code ({ cls := "java/lang/StringLatin1", name := "toBytes", desc := "(C)[B" } : Jvm.MethodName) jdk_43_method_46_code (1 : Nat) (Option.some (Jvm.ClassFile.FieldType.array Jvm.ClassFile.FieldType.byte)), Jvm.Cond.code ({ cls := "java/lang/String", name := "<init>", desc := "([BB)V" } : Jvm.MethodName) jdk_42_method_151_code (3 : Nat) (Option.none : Option Jvm.ClassFile.FieldType), Jvm.Cond.code ({ cls := "java/lang/Object", name := "<init>", desc := "()V" } : Jvm.MethodName) object_method_1_code (1 : Nat) (Option.none : Option Jvm.ClassFile.FieldType), Jvm.Cond.code ({ cls := "com/example/wayfront/wayfront/decision/Criterion", name := "<init>", desc := "(Ljava/lang/String;Lcom/example/wayfront/wayfront/decision/Criterion$Direction;DDD)V" } : Jvm.MethodName) prog_21_method_1_code (9 : Nat) (Option.none : Option Jvm.ClassFile.FieldType), Jvm.Cond.code ({ cls := "java/lang/Record", name := "<init>", desc := "()V" } : Jvm.MethodName) jdk_30_method_1_code (1 : Nat) (Option.none : Option Jvm.ClassFile.FieldType), Jvm.Cond.code ({ cls := "java/lang/String", name := "isEmpty", desc := "()Z" } : Jvm.MethodName) jdk_42_method_55_code (1 : Nat) (Option.some Jvm.ClassFile.FieldType.boolean), Jvm.Cond.code ({ cls := "java/lang/Double", name := "isFinite", desc := "(D)Z" } : Jvm.MethodName) jdk_117_method_8_code (2 : Nat) (Option.some Jvm.ClassFile.FieldType.boolean), Jvm.Cond.code ({ cls := "java/lang/Math", name := "abs", desc := "(D)D" } : Jvm.MethodName) jdk_29_method_64_code (2 : Nat) (Option.some Jvm.ClassFile.FieldType.double), Jvm.Cond.code ({ cls := "com/example/wayfront/wayfront/decision/Criterion", name := "concordance", desc := "(D)D" } : Jvm.MethodName) prog_21_method_3_code (3 : Nat) (Option.some Jvm.ClassFile.FieldType.double)]
set_option maxRecDepth 65536 in
theorem codes_eq : words1.filter isCode = codes1 := rfl
theorem w_codes : ∀ c ∈ words1.filter isCode, c.before args0 about1 = true := by
  rw [codes_eq]
  intro c hc
  simp only [codes1, List.mem_cons, List.not_mem_nil, or_false] at hc
  rcases hc with rfl | rfl | rfl | rfl | rfl | rfl | rfl | rfl | rfl | rfl | rfl | rfl
  · exact w_c0
  · exact w_c1
  · exact w_c2
  · exact w_c3
  · exact w_c4
  · exact w_c5
  · exact w_c6
  · exact w_c7
  · exact w_c8
  · exact w_c9
  · exact w_c10
  · exact w_c11
set_option maxRecDepth 65536 in
theorem w_t1 : (words1.take 24).all (fun c => isCode c || c.before args0 about1) = true := by decide +kernel
set_option maxRecDepth 65536 in
theorem w_t2 : ((words1.drop 24).take 24).all (fun c => isCode c || c.before args0 about1) = true := by decide +kernel
set_option maxRecDepth 65536 in
theorem w_t3 : (((words1.drop 24).drop 24).take 24).all (fun c => isCode c || c.before args0 about1) = true := by decide +kernel
set_option maxRecDepth 65536 in
theorem w_t4 : (((words1.drop 24).drop 24).drop 24).all (fun c => isCode c || c.before args0 about1) = true := by decide +kernel
theorem w_tables : (allAtoms (Jvm.Cond.code x code maxLocals ret :: tables_1)).before args0 about1 = true := by
  rw [allAtoms_all]
  show words1.all (fun c => c.before args0 about1) = true
  refine all_split ?_ w_codes
  rw [← List.take_append_drop 24 words1, List.all_append, w_t1, ← List.take_append_drop 24 (words1.drop 24), List.all_append, w_t2, ← List.take_append_drop 24 ((words1.drop 24).drop 24), List.all_append, w_t3, w_t4]
  rfl
set_option maxRecDepth 65536 in
theorem w_rest : rest_1_c.before args0 about1 = true := by decide +kernel
set_option maxRecDepth 65536 in
theorem w_case : (Jvm.Cond.and given_1 narrow_1).before args0 about1 = true := by decide +kernel
theorem w_applies : (headSpec (Jvm.Cond.code x code maxLocals ret :: tables_1) room_1).applies x e0.platform about1 = true :=
  (Spec.applies_iff w_frames).mpr ⟨w_running, w_runnable, w_alone, w_named, w_hears, w_ripe, w_room, w_tables⟩
theorem atStart : AtStart classFile x code maxLocals ret World_1 tables_1 room_1 Calls_1 rest_1 Pre_1 launch0 p0 e0 about1 theMethod args0 below0 :=
  ⟨lists_1, trivial, launch0.admits_env _ _ _, launch0.least_env, fairChoices_fair.cas, fairChoices_fair.clock, w_frames, w_args, w_heap, w_applies, trivial, w_rest, w_case⟩
end start1
theorem witness_1 : WitnessClaimed_1 := ⟨start1.p0, start1.e0, start1.about1, start1.theMethod, start1.args0, start1.below0, start1.atStart⟩
end Jvm.Pilot.@@N@@
