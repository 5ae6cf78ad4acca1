import JvmDerived
import JvmDerived.Pilot.@@N@@Statement
import JvmDerived.Pilot.@@N@@Code
set_option linter.unusedVariables false
set_option linter.unusedSimpArgs false
namespace Jvm.RoadKit
open Sem ClassFile Op Lib Jvm.Stand Jvm.Free Jvm.LawKit
section OwnGo
variable {p : Program} {l : Launch} {e : Env} {R : Room} {s : State} {m : MethodId} {args : Array Value} {below : List Frame} {meth : Method} {c : Code} {T T' : State} {locs : List Loc} {cells slots kc ks : Nat} {Q : Option Value → Heap → List Loc → Prop} {f f' : JFrame} {h : Heap}
/-- from the state T with the top frame f the body comes to its end, and what it leaves meets Q -/
def Go (p : Program) (e : Env) (below : List Frame) (s : State) (kc ks : Nat) (Q : Option Value → Heap → List Loc → Prop) (T : State) (f : JFrame) : Prop :=
  ∃ (s₂ : State) (o : Outcome), Steps p.tables e below (T.setTop f) s₂ ∧ s₂.status = .running ∧ Ended s₂ below o ∧ ∃ v L, o = .returned v ∧ Q v s₂.heap L ∧ FrameEnd s o s₂ L kc ks
theorem Go.step (h : ∀ target, Steps p.tables e below (T'.setTop f') target → Steps p.tables e below (T.setTop f) target) (k : Go p e below s kc ks Q T' f') : Go p e below s kc ks Q T f := by
  obtain ⟨s₂, o, h1, r⟩ := k
  exact ⟨s₂, o, h _ h1, r⟩
theorem Go.trans (h : Steps p.tables e below (T.setTop f) (T'.setTop f')) (k : Go p e below s kc ks Q T' f') : Go p e below s kc ks Q T f := by
  obtain ⟨s₂, o, h1, r⟩ := k
  exact ⟨s₂, o, h.trans h1, r⟩
theorem Go.cast (q : f = f') (k : Go p e below s kc ks Q T f') : Go p e below s kc ks Q T f := q ▸ k
theorem Go.enter {g : JFrame} {s₁ : State} (k : Go p e below s kc ks Q s₁ f) (q : g = f) :
    ∃ s₂ o, Steps p.tables e below (s₁.setTop g) s₂ ∧ s₂.status = .running ∧ Ended s₂ below o ∧ ∃ v L, o = .returned v ∧ Q v s₂.heap L ∧ FrameEnd s o s₂ L kc ks := by
  subst q; exact k
theorem Go.ret (X : Stand p l e R s m args below meth c T locs cells slots) (hx : p.tables.exec = Jvm.exec) {pc : Nat} {Ls : Array Slot} {w : Value} {t : FieldType} {i : Instr} {rest : List Value} (hret : meth.sig.returnType = some t) (hlk : meth.locks = false) (hn : narrow t w = w)
    (hi : (i = .ireturn ∧ (t = .int ∨ t = .boolean ∨ t = .byte ∨ t = .char ∨ t = .short) ∧ ∃ z, w = .int z) ∨ (i = .lreturn ∧ t = .long ∧ ∃ z, w = .long z) ∨ (i = .dreturn ∧ t = .double ∧ ∃ z, w = .double z) ∨ (i = .freturn ∧ t = .float ∧ ∃ z, w = .float z) ∨ (i = .areturn ∧ t.isReference = true ∧ w.isRef = true))
    (hd : decode c.code pc = .ok (i, 1)) (eT : T.heap = h) (hc : cells ≤ kc) (hs : slots ≤ ks) (hQ : Q (some w) h locs) : Go p e below s kc ks Q T (mkF m pc Ls (w :: rest)) := by
  obtain ⟨fs, hr, hrun, hended, hW, hsame⟩ := X.leave (v := some w) (fun q => by rw [hret] at q; cases q) hlk
  exact ⟨_, _, retOut X hx hret hn hi hd hr, hrun, hended, _, _, rfl, (by subst eT; exact hQ), ⟨_, rfl⟩, hW, hsame.mono hc hs⟩
theorem Go.retI (X : Stand p l e R s m args below meth c T locs cells slots) (hx : p.tables.exec = Jvm.exec) {pc : Nat} {Ls : Array Slot} {z : Int32} {rest : List Value} (hret : meth.sig.returnType = some .int) (hlk : meth.locks = false)
    (hd : decode c.code pc = .ok (.ireturn, 1)) (eT : T.heap = h) (hc : cells ≤ kc) (hs : slots ≤ ks) (hQ : Q (some (.int z)) h locs) : Go p e below s kc ks Q T (mkF m pc Ls (.int z :: rest)) :=
  Go.ret X hx hret hlk rfl (Or.inl ⟨rfl, Or.inl rfl, _, rfl⟩) hd eT hc hs hQ
theorem Go.retJ (X : Stand p l e R s m args below meth c T locs cells slots) (hx : p.tables.exec = Jvm.exec) {pc : Nat} {Ls : Array Slot} {z : Int64} {rest : List Value} (hret : meth.sig.returnType = some .long) (hlk : meth.locks = false)
    (hd : decode c.code pc = .ok (.lreturn, 1)) (eT : T.heap = h) (hc : cells ≤ kc) (hs : slots ≤ ks) (hQ : Q (some (.long z)) h locs) : Go p e below s kc ks Q T (mkF m pc Ls (.long z :: rest)) :=
  Go.ret X hx hret hlk rfl (Or.inr (Or.inl ⟨rfl, rfl, _, rfl⟩)) hd eT hc hs hQ
theorem Go.retA (X : Stand p l e R s m args below meth c T locs cells slots) (hx : p.tables.exec = Jvm.exec) {pc : Nat} {Ls : Array Slot} {w : Value} {t : FieldType} {rest : List Value} (hret : meth.sig.returnType = some t) (hlk : meth.locks = false) (ht : t.isReference = true) (hv : w.isRef = true)
    (hd : decode c.code pc = .ok (.areturn, 1)) (eT : T.heap = h) (hc : cells ≤ kc) (hs : slots ≤ ks) (hQ : Q (some w) h locs) : Go p e below s kc ks Q T (mkF m pc Ls (w :: rest)) :=
  Go.ret X hx hret hlk (by cases t <;> first | (cases ht; done) | (cases w <;> first | (cases hv; done) | rfl)) (Or.inr (Or.inr (Or.inr (Or.inr ⟨rfl, ht, hv⟩)))) hd eT hc hs hQ
theorem Go.retN (X : Stand p l e R s m args below meth c T locs cells slots) (hx : p.tables.exec = Jvm.exec) {pc : Nat} {Ls : Array Slot} {z : Int32} {t : FieldType} {rest : List Value} (hret : meth.sig.returnType = some t) (hlk : meth.locks = false) (ht : t = .boolean ∨ t = .byte ∨ t = .char ∨ t = .short)
    (hd : decode c.code pc = .ok (.ireturn, 1)) (eT : T.heap = h) (hc : cells ≤ kc) (hs : slots ≤ ks) (hQ : Q (some (.int (nar t z))) h locs) : Go p e below s kc ks Q T (mkF m pc Ls (.int z :: rest)) := by
  obtain ⟨fs, hr, hrun, hended, hW, hsame⟩ := X.leave (v := some (.int (nar t z))) (fun q => by rw [hret] at q; cases q) hlk
  exact ⟨_, _, Jvm.RoadKit.retN X hx hret ht hd hr, hrun, hended, _, _, rfl, (by subst eT; exact hQ), ⟨_, rfl⟩, hW, hsame.mono hc hs⟩
theorem Go.ret0 (X : Stand p l e R s m args below meth c T locs cells slots) (hx : p.tables.exec = Jvm.exec) {pc : Nat} {Ls : Array Slot} (hret : meth.sig.returnType = none) (hlk : meth.locks = false)
    (hd : decode c.code pc = .ok (.return_, 1)) (eT : T.heap = h) (hc : cells ≤ kc) (hs : slots ≤ ks) (hQ : Q none h locs) : Go p e below s kc ks Q T (mkF m pc Ls []) := by
  obtain ⟨fs, hr, hrun, hended, hW, hsame⟩ := X.leave (v := none) (fun _ => rfl) hlk
  exact ⟨_, _, X.returnOut hx hret hd hr, hrun, hended, _, _, rfl, (by subst eT; exact hQ), ⟨_, rfl⟩, hW, hsame.mono hc hs⟩
theorem own_selp {args' : Array Value} {y : MethodName} {n : Nat} (wi : (Cond.instantiable y.cls n).before args' s = true) (hpriv : s.PrivateAt y) (hinst : (Cond.instanceMethod y).before args' s = true) (hy : y.cls ≠ "java/lang/invoke/MethodHandle" ∧ y.cls ≠ "java/lang/invoke/VarHandle") : (Cond.selects y.cls y y).before args' s = true := by
  obtain ⟨c, k, h1, h2, -, h4, -⟩ := Cond.instantiable_spec wi
  exact selects_self_of_private h1 h2 (by simp only [Bool.or_eq_false_iff] at h4; exact h4.1) hpriv hinst hy
theorem own_mvMN {Z : State} {a0 args' : Array Value} {own host : String} {y : MethodName} {index : Nat} (hZ : Z.Warmed39 s.vm) (w : (Cond.methodLinkNest own index y host).before a0 Z = true) : (Cond.methodLinkNest own index y host).before args' s = true := (Cond.methodLinkNest_wide hZ w :)
theorem own_nar01 {z : Int32} (h : z = 0 ∨ z = 1) : nar .boolean z = z := by rcases h with rfl | rfl <;> decide
end OwnGo
end Jvm.RoadKit
namespace Jvm.Pilot.@@N@@
open Jvm Jvm.ClassFile Sem Op Lib Jvm.Free Jvm.Stand Jvm.LawKit Jvm.RoadKit Bundle Jvm.Pilot.@@N@@.Jvm.D
def own_bidi (c : Int32) : Int32 := if c = 8206 ∨ c = 8207 ∨ (¬ c < 8234 ∧ ¬ 8238 < c) then 1 else 0
theorem own_bidi0 {c : Int32} (h1 : c ≠ 8206) (h2 : c ≠ 8207) (h3 : c ≠ 8234) (h4 : c ≠ 8235) (h5 : c ≠ 8236) (h6 : c ≠ 8237) (h7 : c ≠ 8238) : own_bidi c = 0 := by
  unfold own_bidi
  rw [if_neg]
  simp only [Int32.lt_iff_toInt_lt, ne_eq, ← Int32.toInt_inj] at *
  have : (8206 : Int32).toInt = 8206 := rfl
  have : (8207 : Int32).toInt = 8207 := rfl
  have : (8234 : Int32).toInt = 8234 := rfl
  have : (8235 : Int32).toInt = 8235 := rfl
  have : (8236 : Int32).toInt = 8236 := rfl
  have : (8237 : Int32).toInt = 8237 := rfl
  have : (8238 : Int32).toInt = 8238 := rfl
  omega
theorem d1_0 : decode prog_5_method_3_code 0 = .ok (.iload_n 0, 1) := by decide +kernel
theorem d1_1 : decode prog_5_method_3_code 1 = .ok (.sipush 8206, 3) := by decide +kernel
theorem d1_4 : decode prog_5_method_3_code 4 = .ok (.if_icmp .eq 24, 3) := by decide +kernel
theorem d1_7 : decode prog_5_method_3_code 7 = .ok (.iload_n 0, 1) := by decide +kernel
theorem d1_8 : decode prog_5_method_3_code 8 = .ok (.sipush 8207, 3) := by decide +kernel
theorem d1_11 : decode prog_5_method_3_code 11 = .ok (.if_icmp .eq 17, 3) := by decide +kernel
theorem d1_14 : decode prog_5_method_3_code 14 = .ok (.iload_n 0, 1) := by decide +kernel
theorem d1_15 : decode prog_5_method_3_code 15 = .ok (.sipush 8234, 3) := by decide +kernel
theorem d1_18 : decode prog_5_method_3_code 18 = .ok (.if_icmp .lt 14, 3) := by decide +kernel
theorem d1_21 : decode prog_5_method_3_code 21 = .ok (.iload_n 0, 1) := by decide +kernel
theorem d1_22 : decode prog_5_method_3_code 22 = .ok (.sipush 8238, 3) := by decide +kernel
theorem d1_25 : decode prog_5_method_3_code 25 = .ok (.if_icmp .gt 7, 3) := by decide +kernel
theorem d1_28 : decode prog_5_method_3_code 28 = .ok (.iconst 1, 1) := by decide +kernel
theorem d1_29 : decode prog_5_method_3_code 29 = .ok (.goto 4, 3) := by decide +kernel
theorem d1_32 : decode prog_5_method_3_code 32 = .ok (.iconst 0, 1) := by decide +kernel
theorem d1_33 : decode prog_5_method_3_code 33 = .ok (.ireturn, 1) := by decide +kernel
theorem pn_com_example_eiri_eiri_IriCharacters : plainName "com/example/eiri/eiri/IriCharacters" = true := by first | (simp [plainName, overriddenIn]; done) | decide +kernel
theorem ef_rm1 (m : MethodId) (ci : Int32) : entryFrame m #[(.int ci)] 1 = mkF m 0 #[.val (.int ci)] [] := by first | (simp [entryFrame, mkF, argsToLocals, Value.category]; done) | rfl
def Q_rm1 (Z : State) (ci : Int32) (h0 : Heap) (n0 : Nat) (v : Option Value) (h : Heap) (L : List Loc) : Prop := (v = some (.int (own_bidi ci))) ∧ (Fr n0 L) ∧ (h = h0)
set_option maxRecDepth 65536 in
set_option maxHeartbeats 40000000 in
theorem rm1 (l : Launch) (Z : State) (a0 : Array Value) (hw : ∀ d ∈ tables_1, d.before a0 Z = true) (ws : List Jvm.Cond) (ci : Int32) (h0 : Heap) (n0 : Nat) (Z0 : n0 ≤ h0.size) :
    MetFree l (⟨"com/example/eiri/eiri/IriCharacters", "isBidiFormatting", "(I)Z"⟩ : MethodName) (head1 (Jvm.Cond.code (⟨"com/example/eiri/eiri/IriCharacters", "isBidiFormatting", "(I)Z"⟩ : MethodName) prog_5_method_3_code 1 (some .boolean) :: ws) ({ frames := 0, cells := 0, slots := 0, locals := 0 } : Room)) (fun aA U => aA = #[(.int ci)] ∧ Z.Warmed39 U.vm ∧ U.heap = h0) (fun _ _ _ _ _ => True) (fun _ U o U' => ∃ v L, o = .returned v ∧ Q_rm1 Z ci h0 n0 v U'.heap L ∧ FrameEnd U o U' L ({ frames := 0, cells := 0, slots := 0, locals := 0 } : Room).cells ({ frames := 0, cells := 0, slots := 0, locals := 0 } : Room).slots) := by
  refine MetFree.of_bodySF (plainFor_of_name pn_com_example_eiri_eiri_IriCharacters) hisR ?_
  intro p e s m args below meth c s₁ Bd hml0 hP hK
  obtain ⟨rfl, hZ, hh⟩ := hP
  have hx := Bd.exec
  have hby := Bd.bytes
  have hml : c.maxLocals = 1 := hml0
  have hown : s.vm.findClass "com/example/eiri/eiri/IriCharacters" = some m.cls := findClass_of_methodNamed Bd.named
  have hnm := (name_of_methodNamed Bd.named Bd.method).1
  have hret := Bd.returns
  have hlk : meth.locks = false := BodyLoose.notSynchronized Bd
  have X0 : Stand p l e ({ frames := 0, cells := 0, slots := 0, locals := 0 } : Room) s m #[(.int ci)] below meth c s₁ [] 0 0 := Stand.of_body Bd
  have e0 : s₁.heap = h0 := by rw [← hh, Bd.state]; rfl
  have N0 := Fr.nil n0
  suffices hgo : Go p e below s ({ frames := 0, cells := 0, slots := 0, locals := 0 } : Room).cells ({ frames := 0, cells := 0, slots := 0, locals := 0 } : Room).slots (Q_rm1 Z ci h0 n0) s₁ (mkF m 0 #[.val (.int ci)] []) from hgo.enter (ef_rm1 m ci)
  refine Go.step (fun _ k => XS.iloadN X0.here hx rfl (hb hby d1_0) rfl k) ?_
  show Go _ _ _ _ _ _ _ s₁ (mkF m 1 #[.val (.int ci)] [(.int ci)])
  refine Go.step (fun _ k => XS.sipush X0.here hx rfl (hb hby d1_1) k) ?_
  show Go _ _ _ _ _ _ _ s₁ (mkF m 4 #[.val (.int ci)] [(.int (8206 : Int32)), (.int ci)])
  by_cases hc4_1 : ci = (8206 : Int32)
  · refine Go.step (fun _ k => XS.icmpYes X0.here hx rfl (pc0 := 4) (pc' := 28) rfl (hb hby d1_4) rfl (teq hc4_1).1 (by decide) (by decide) k) ?_
    show Go _ _ _ _ _ _ _ s₁ (mkF m 28 #[.val (.int ci)] [])
    refine Go.step (fun _ k => XS.iconst X0.here hx rfl (hb hby d1_28) k) ?_
    show Go _ _ _ _ _ _ _ s₁ (mkF m 29 #[.val (.int ci)] [(.int (1 : Int32))])
    refine Go.step (fun _ k => XS.goto X0.here hx rfl (pc0 := 29) (pc' := 33) rfl (hb hby d1_29) (by decide) (by decide) k) ?_
    show Go _ _ _ _ _ _ _ s₁ (mkF m 33 #[.val (.int ci)] [(.int (1 : Int32))])
    exact Go.retN X0 hx (t := .boolean) hret hlk (by simp) (hb hby d1_33) e0 (by decide) (by decide) ⟨(congrArg (fun z => some (Value.int z)) (by simp [own_bidi, hc4_1] <;> rfl)), N0, rfl⟩
  · refine Go.step (fun _ k => XS.icmpNo X0.here hx rfl (hb hby d1_4) rfl (feq hc4_1).1 k) ?_
    show Go _ _ _ _ _ _ _ s₁ (mkF m 7 #[.val (.int ci)] [])
    refine Go.step (fun _ k => XS.iloadN X0.here hx rfl (hb hby d1_7) rfl k) ?_
    show Go _ _ _ _ _ _ _ s₁ (mkF m 8 #[.val (.int ci)] [(.int ci)])
    refine Go.step (fun _ k => XS.sipush X0.here hx rfl (hb hby d1_8) k) ?_
    show Go _ _ _ _ _ _ _ s₁ (mkF m 11 #[.val (.int ci)] [(.int (8207 : Int32)), (.int ci)])
    by_cases hc11_2 : ci = (8207 : Int32)
    · refine Go.step (fun _ k => XS.icmpYes X0.here hx rfl (pc0 := 11) (pc' := 28) rfl (hb hby d1_11) rfl (teq hc11_2).1 (by decide) (by decide) k) ?_
      show Go _ _ _ _ _ _ _ s₁ (mkF m 28 #[.val (.int ci)] [])
      refine Go.step (fun _ k => XS.iconst X0.here hx rfl (hb hby d1_28) k) ?_
      show Go _ _ _ _ _ _ _ s₁ (mkF m 29 #[.val (.int ci)] [(.int (1 : Int32))])
      refine Go.step (fun _ k => XS.goto X0.here hx rfl (pc0 := 29) (pc' := 33) rfl (hb hby d1_29) (by decide) (by decide) k) ?_
      show Go _ _ _ _ _ _ _ s₁ (mkF m 33 #[.val (.int ci)] [(.int (1 : Int32))])
      exact Go.retN X0 hx (t := .boolean) hret hlk (by simp) (hb hby d1_33) e0 (by decide) (by decide) ⟨(congrArg (fun z => some (Value.int z)) (by simp [own_bidi, hc4_1, hc11_2] <;> rfl)), N0, rfl⟩
    · refine Go.step (fun _ k => XS.icmpNo X0.here hx rfl (hb hby d1_11) rfl (feq hc11_2).1 k) ?_
      show Go _ _ _ _ _ _ _ s₁ (mkF m 14 #[.val (.int ci)] [])
      refine Go.step (fun _ k => XS.iloadN X0.here hx rfl (hb hby d1_14) rfl k) ?_
      show Go _ _ _ _ _ _ _ s₁ (mkF m 15 #[.val (.int ci)] [(.int ci)])
      refine Go.step (fun _ k => XS.sipush X0.here hx rfl (hb hby d1_15) k) ?_
      show Go _ _ _ _ _ _ _ s₁ (mkF m 18 #[.val (.int ci)] [(.int (8234 : Int32)), (.int ci)])
      by_cases hc18_3 : ci < (8234 : Int32)
      · refine Go.step (fun _ k => XS.icmpYes X0.here hx rfl (pc0 := 18) (pc' := 32) rfl (hb hby d1_18) rfl (tlt hc18_3).1 (by decide) (by decide) k) ?_
        show Go _ _ _ _ _ _ _ s₁ (mkF m 32 #[.val (.int ci)] [])
        refine Go.step (fun _ k => XS.iconst X0.here hx rfl (hb hby d1_32) k) ?_
        show Go _ _ _ _ _ _ _ s₁ (mkF m 33 #[.val (.int ci)] [(.int (0 : Int32))])
        exact Go.retN X0 hx (t := .boolean) hret hlk (by simp) (hb hby d1_33) e0 (by decide) (by decide) ⟨(congrArg (fun z => some (Value.int z)) (by simp [own_bidi, hc4_1, hc11_2, hc18_3] <;> rfl)), N0, rfl⟩
      · refine Go.step (fun _ k => XS.icmpNo X0.here hx rfl (hb hby d1_18) rfl (flt hc18_3).1 k) ?_
        show Go _ _ _ _ _ _ _ s₁ (mkF m 21 #[.val (.int ci)] [])
        refine Go.step (fun _ k => XS.iloadN X0.here hx rfl (hb hby d1_21) rfl k) ?_
        show Go _ _ _ _ _ _ _ s₁ (mkF m 22 #[.val (.int ci)] [(.int ci)])
        refine Go.step (fun _ k => XS.sipush X0.here hx rfl (hb hby d1_22) k) ?_
        show Go _ _ _ _ _ _ _ s₁ (mkF m 25 #[.val (.int ci)] [(.int (8238 : Int32)), (.int ci)])
        by_cases hc25_4 : (8238 : Int32) < ci
        · refine Go.step (fun _ k => XS.icmpYes X0.here hx rfl (pc0 := 25) (pc' := 32) rfl (hb hby d1_25) rfl (tlt hc25_4).2.2.1 (by decide) (by decide) k) ?_
          show Go _ _ _ _ _ _ _ s₁ (mkF m 32 #[.val (.int ci)] [])
          refine Go.step (fun _ k => XS.iconst X0.here hx rfl (hb hby d1_32) k) ?_
          show Go _ _ _ _ _ _ _ s₁ (mkF m 33 #[.val (.int ci)] [(.int (0 : Int32))])
          exact Go.retN X0 hx (t := .boolean) hret hlk (by simp) (hb hby d1_33) e0 (by decide) (by decide) ⟨(congrArg (fun z => some (Value.int z)) (by simp [own_bidi, hc4_1, hc11_2, hc18_3, hc25_4] <;> rfl)), N0, rfl⟩
        · refine Go.step (fun _ k => XS.icmpNo X0.here hx rfl (hb hby d1_25) rfl (flt hc25_4).2.2.1 k) ?_
          show Go _ _ _ _ _ _ _ s₁ (mkF m 28 #[.val (.int ci)] [])
          refine Go.step (fun _ k => XS.iconst X0.here hx rfl (hb hby d1_28) k) ?_
          show Go _ _ _ _ _ _ _ s₁ (mkF m 29 #[.val (.int ci)] [(.int (1 : Int32))])
          refine Go.step (fun _ k => XS.goto X0.here hx rfl (pc0 := 29) (pc' := 33) rfl (hb hby d1_29) (by decide) (by decide) k) ?_
          show Go _ _ _ _ _ _ _ s₁ (mkF m 33 #[.val (.int ci)] [(.int (1 : Int32))])
          exact Go.retN X0 hx (t := .boolean) hret hlk (by simp) (hb hby d1_33) e0 (by decide) (by decide) ⟨(congrArg (fun z => some (Value.int z)) (by simp [own_bidi, hc4_1, hc11_2, hc18_3, hc25_4] <;> rfl)), N0, rfl⟩
theorem d2_0 : decode method_2_code 0 = .ok (.iload_n 0, 1) := by decide +kernel
theorem d2_1 : decode method_2_code 1 = .ok (.sipush 8206, 3) := by decide +kernel
theorem d2_4 : decode method_2_code 4 = .ok (.if_icmp .ne 7, 3) := by decide +kernel
theorem d2_7 : decode method_2_code 7 = .ok (.iconst 1, 1) := by decide +kernel
theorem d2_8 : decode method_2_code 8 = .ok (.goto 4, 3) := by decide +kernel
theorem d2_11 : decode method_2_code 11 = .ok (.iconst 0, 1) := by decide +kernel
theorem d2_12 : decode method_2_code 12 = .ok (.istore_n 1, 1) := by decide +kernel
theorem d2_13 : decode method_2_code 13 = .ok (.iload_n 0, 1) := by decide +kernel
theorem d2_14 : decode method_2_code 14 = .ok (.sipush 8207, 3) := by decide +kernel
theorem d2_17 : decode method_2_code 17 = .ok (.if_icmp .ne 7, 3) := by decide +kernel
theorem d2_20 : decode method_2_code 20 = .ok (.iconst 1, 1) := by decide +kernel
theorem d2_21 : decode method_2_code 21 = .ok (.goto 4, 3) := by decide +kernel
theorem d2_24 : decode method_2_code 24 = .ok (.iconst 0, 1) := by decide +kernel
theorem d2_25 : decode method_2_code 25 = .ok (.istore_n 2, 1) := by decide +kernel
theorem d2_26 : decode method_2_code 26 = .ok (.iload_n 0, 1) := by decide +kernel
theorem d2_27 : decode method_2_code 27 = .ok (.sipush 8234, 3) := by decide +kernel
theorem d2_30 : decode method_2_code 30 = .ok (.if_icmp .ne 7, 3) := by decide +kernel
theorem d2_33 : decode method_2_code 33 = .ok (.iconst 1, 1) := by decide +kernel
theorem d2_34 : decode method_2_code 34 = .ok (.goto 4, 3) := by decide +kernel
theorem d2_37 : decode method_2_code 37 = .ok (.iconst 0, 1) := by decide +kernel
theorem d2_38 : decode method_2_code 38 = .ok (.istore_n 3, 1) := by decide +kernel
theorem d2_39 : decode method_2_code 39 = .ok (.iload_n 0, 1) := by decide +kernel
theorem d2_40 : decode method_2_code 40 = .ok (.sipush 8235, 3) := by decide +kernel
theorem d2_43 : decode method_2_code 43 = .ok (.if_icmp .ne 7, 3) := by decide +kernel
theorem d2_46 : decode method_2_code 46 = .ok (.iconst 1, 1) := by decide +kernel
theorem d2_47 : decode method_2_code 47 = .ok (.goto 4, 3) := by decide +kernel
theorem d2_50 : decode method_2_code 50 = .ok (.iconst 0, 1) := by decide +kernel
theorem d2_51 : decode method_2_code 51 = .ok (.istore 4, 2) := by decide +kernel
theorem d2_53 : decode method_2_code 53 = .ok (.iload_n 0, 1) := by decide +kernel
theorem d2_54 : decode method_2_code 54 = .ok (.sipush 8236, 3) := by decide +kernel
theorem d2_57 : decode method_2_code 57 = .ok (.if_icmp .ne 7, 3) := by decide +kernel
theorem d2_60 : decode method_2_code 60 = .ok (.iconst 1, 1) := by decide +kernel
theorem d2_61 : decode method_2_code 61 = .ok (.goto 4, 3) := by decide +kernel
theorem d2_64 : decode method_2_code 64 = .ok (.iconst 0, 1) := by decide +kernel
theorem d2_65 : decode method_2_code 65 = .ok (.istore 5, 2) := by decide +kernel
theorem d2_67 : decode method_2_code 67 = .ok (.iload_n 0, 1) := by decide +kernel
theorem d2_68 : decode method_2_code 68 = .ok (.sipush 8237, 3) := by decide +kernel
theorem d2_71 : decode method_2_code 71 = .ok (.if_icmp .ne 7, 3) := by decide +kernel
theorem d2_74 : decode method_2_code 74 = .ok (.iconst 1, 1) := by decide +kernel
theorem d2_75 : decode method_2_code 75 = .ok (.goto 4, 3) := by decide +kernel
theorem d2_78 : decode method_2_code 78 = .ok (.iconst 0, 1) := by decide +kernel
theorem d2_79 : decode method_2_code 79 = .ok (.istore 6, 2) := by decide +kernel
theorem d2_81 : decode method_2_code 81 = .ok (.iload_n 0, 1) := by decide +kernel
theorem d2_82 : decode method_2_code 82 = .ok (.sipush 8238, 3) := by decide +kernel
theorem d2_85 : decode method_2_code 85 = .ok (.if_icmp .ne 7, 3) := by decide +kernel
theorem d2_88 : decode method_2_code 88 = .ok (.iconst 1, 1) := by decide +kernel
theorem d2_89 : decode method_2_code 89 = .ok (.goto 4, 3) := by decide +kernel
theorem d2_92 : decode method_2_code 92 = .ok (.iconst 0, 1) := by decide +kernel
theorem d2_93 : decode method_2_code 93 = .ok (.istore 7, 2) := by decide +kernel
theorem d2_95 : decode method_2_code 95 = .ok (.iload_n 1, 1) := by decide +kernel
theorem d2_96 : decode method_2_code 96 = .ok (.ifCond .ne 31, 3) := by decide +kernel
theorem d2_99 : decode method_2_code 99 = .ok (.iload_n 2, 1) := by decide +kernel
theorem d2_100 : decode method_2_code 100 = .ok (.ifCond .ne 27, 3) := by decide +kernel
theorem d2_103 : decode method_2_code 103 = .ok (.iload_n 3, 1) := by decide +kernel
theorem d2_104 : decode method_2_code 104 = .ok (.ifCond .ne 23, 3) := by decide +kernel
theorem d2_107 : decode method_2_code 107 = .ok (.iload 4, 2) := by decide +kernel
theorem d2_109 : decode method_2_code 109 = .ok (.ifCond .ne 18, 3) := by decide +kernel
theorem d2_112 : decode method_2_code 112 = .ok (.iload 5, 2) := by decide +kernel
theorem d2_114 : decode method_2_code 114 = .ok (.ifCond .ne 13, 3) := by decide +kernel
theorem d2_117 : decode method_2_code 117 = .ok (.iload 6, 2) := by decide +kernel
theorem d2_119 : decode method_2_code 119 = .ok (.ifCond .ne 8, 3) := by decide +kernel
theorem d2_122 : decode method_2_code 122 = .ok (.iload 7, 2) := by decide +kernel
theorem d2_124 : decode method_2_code 124 = .ok (.ifCond .eq 7, 3) := by decide +kernel
theorem d2_127 : decode method_2_code 127 = .ok (.iconst 1, 1) := by decide +kernel
theorem d2_128 : decode method_2_code 128 = .ok (.goto 4, 3) := by decide +kernel
theorem d2_131 : decode method_2_code 131 = .ok (.iconst 0, 1) := by decide +kernel
theorem d2_132 : decode method_2_code 132 = .ok (.ireturn, 1) := by decide +kernel
theorem pn_com_example_eiri_eiri_IriCharactersIsBidiFormattingPinLaw : plainName "com/example/eiri/eiri/IriCharactersIsBidiFormattingPinLaw" = true := by first | (simp [plainName, overriddenIn]; done) | decide +kernel
theorem ef_rm2 (m : MethodId) (ci : Int32) : entryFrame m #[(.int ci)] 8 = mkF m 0 #[.val (.int ci), .unset, .unset, .unset, .unset, .unset, .unset, .unset] [] := by first | (simp [entryFrame, mkF, argsToLocals, Value.category]; done) | rfl
def Q_rm2 (Z : State) (ci : Int32) (h0 : Heap) (n0 : Nat) (v : Option Value) (h : Heap) (L : List Loc) : Prop := (v = some (.int (own_bidi ci))) ∧ (Fr n0 L) ∧ (h = h0)
set_option maxRecDepth 65536 in
set_option maxHeartbeats 40000000 in
theorem rm2 (l : Launch) (Z : State) (a0 : Array Value) (hw : ∀ d ∈ tables_1, d.before a0 Z = true) (ws : List Jvm.Cond) (ci : Int32) (h0 : Heap) (n0 : Nat) (Z0 : n0 ≤ h0.size) :
    MetFree l (⟨"com/example/eiri/eiri/IriCharactersIsBidiFormattingPinLaw", "reference", "(I)Z"⟩ : MethodName) (head1 (Jvm.Cond.code (⟨"com/example/eiri/eiri/IriCharactersIsBidiFormattingPinLaw", "reference", "(I)Z"⟩ : MethodName) method_2_code 8 (some .boolean) :: ws) ({ frames := 0, cells := 0, slots := 0, locals := 0 } : Room)) (fun aA U => aA = #[(.int ci)] ∧ Z.Warmed39 U.vm ∧ U.heap = h0) (fun _ _ _ _ _ => True) (fun _ U o U' => ∃ v L, o = .returned v ∧ Q_rm2 Z ci h0 n0 v U'.heap L ∧ FrameEnd U o U' L ({ frames := 0, cells := 0, slots := 0, locals := 0 } : Room).cells ({ frames := 0, cells := 0, slots := 0, locals := 0 } : Room).slots) := by
  refine MetFree.of_bodySF (plainFor_of_name pn_com_example_eiri_eiri_IriCharactersIsBidiFormattingPinLaw) hisR ?_
  intro p e s m args below meth c s₁ Bd hml0 hP hK
  obtain ⟨rfl, hZ, hh⟩ := hP
  have hx := Bd.exec
  have hby := Bd.bytes
  have hml : c.maxLocals = 8 := hml0
  have hown : s.vm.findClass "com/example/eiri/eiri/IriCharactersIsBidiFormattingPinLaw" = some m.cls := findClass_of_methodNamed Bd.named
  have hnm := (name_of_methodNamed Bd.named Bd.method).1
  have hret := Bd.returns
  have hlk : meth.locks = false := BodyLoose.notSynchronized Bd
  have X0 : Stand p l e ({ frames := 0, cells := 0, slots := 0, locals := 0 } : Room) s m #[(.int ci)] below meth c s₁ [] 0 0 := Stand.of_body Bd
  have e0 : s₁.heap = h0 := by rw [← hh, Bd.state]; rfl
  have N0 := Fr.nil n0
  suffices hgo : Go p e below s ({ frames := 0, cells := 0, slots := 0, locals := 0 } : Room).cells ({ frames := 0, cells := 0, slots := 0, locals := 0 } : Room).slots (Q_rm2 Z ci h0 n0) s₁ (mkF m 0 #[.val (.int ci), .unset, .unset, .unset, .unset, .unset, .unset, .unset] []) from hgo.enter (ef_rm2 m ci)
  by_cases hk8206 : ci = 8206
  · subst hk8206
    show Go _ _ _ _ _ _ _ s₁ (mkF m 0 #[.val (.int (8206 : Int32)), .unset, .unset, .unset, .unset, .unset, .unset, .unset] [])
    refine Go.step (fun _ k => XS.iloadN X0.here hx rfl (hb hby d2_0) rfl k) ?_
    show Go _ _ _ _ _ _ _ s₁ (mkF m 1 #[.val (.int (8206 : Int32)), .unset, .unset, .unset, .unset, .unset, .unset, .unset] [(.int (8206 : Int32))])
    refine Go.step (fun _ k => XS.sipush X0.here hx rfl (hb hby d2_1) k) ?_
    show Go _ _ _ _ _ _ _ s₁ (mkF m 4 #[.val (.int (8206 : Int32)), .unset, .unset, .unset, .unset, .unset, .unset, .unset] [(.int (8206 : Int32)), (.int (8206 : Int32))])
    have hc4_5 : (8206 : Int32) = (8206 : Int32) := (by decide)
    refine Go.step (fun _ k => XS.icmpNo X0.here hx rfl (hb hby d2_4) rfl (teq hc4_5).2 k) ?_
    show Go _ _ _ _ _ _ _ s₁ (mkF m 7 #[.val (.int (8206 : Int32)), .unset, .unset, .unset, .unset, .unset, .unset, .unset] [])
    refine Go.step (fun _ k => XS.iconst X0.here hx rfl (hb hby d2_7) k) ?_
    show Go _ _ _ _ _ _ _ s₁ (mkF m 8 #[.val (.int (8206 : Int32)), .unset, .unset, .unset, .unset, .unset, .unset, .unset] [(.int (1 : Int32))])
    refine Go.step (fun _ k => XS.goto X0.here hx rfl (pc0 := 8) (pc' := 12) rfl (hb hby d2_8) (by decide) (by decide) k) ?_
    show Go _ _ _ _ _ _ _ s₁ (mkF m 12 #[.val (.int (8206 : Int32)), .unset, .unset, .unset, .unset, .unset, .unset, .unset] [(.int (1 : Int32))])
    refine Go.step (fun _ k => XS.istoreN X0.here hx rfl (hb hby d2_12) rfl (l' := #[.val (.int (8206 : Int32)), .val (.int (1 : Int32)), .unset, .unset, .unset, .unset, .unset, .unset]) rfl k) ?_
    show Go _ _ _ _ _ _ _ s₁ (mkF m 13 #[.val (.int (8206 : Int32)), .val (.int (1 : Int32)), .unset, .unset, .unset, .unset, .unset, .unset] [])
    refine Go.step (fun _ k => XS.iloadN X0.here hx rfl (hb hby d2_13) rfl k) ?_
    show Go _ _ _ _ _ _ _ s₁ (mkF m 14 #[.val (.int (8206 : Int32)), .val (.int (1 : Int32)), .unset, .unset, .unset, .unset, .unset, .unset] [(.int (8206 : Int32))])
    refine Go.step (fun _ k => XS.sipush X0.here hx rfl (hb hby d2_14) k) ?_
    show Go _ _ _ _ _ _ _ s₁ (mkF m 17 #[.val (.int (8206 : Int32)), .val (.int (1 : Int32)), .unset, .unset, .unset, .unset, .unset, .unset] [(.int (8207 : Int32)), (.int (8206 : Int32))])
    have hc17_6 : ¬ ((8206 : Int32) = (8207 : Int32)) := (by decide)
    refine Go.step (fun _ k => XS.icmpYes X0.here hx rfl (pc0 := 17) (pc' := 24) rfl (hb hby d2_17) rfl (feq hc17_6).2 (by decide) (by decide) k) ?_
    show Go _ _ _ _ _ _ _ s₁ (mkF m 24 #[.val (.int (8206 : Int32)), .val (.int (1 : Int32)), .unset, .unset, .unset, .unset, .unset, .unset] [])
    refine Go.step (fun _ k => XS.iconst X0.here hx rfl (hb hby d2_24) k) ?_
    show Go _ _ _ _ _ _ _ s₁ (mkF m 25 #[.val (.int (8206 : Int32)), .val (.int (1 : Int32)), .unset, .unset, .unset, .unset, .unset, .unset] [(.int (0 : Int32))])
    refine Go.step (fun _ k => XS.istoreN X0.here hx rfl (hb hby d2_25) rfl (l' := #[.val (.int (8206 : Int32)), .val (.int (1 : Int32)), .val (.int (0 : Int32)), .unset, .unset, .unset, .unset, .unset]) rfl k) ?_
    show Go _ _ _ _ _ _ _ s₁ (mkF m 26 #[.val (.int (8206 : Int32)), .val (.int (1 : Int32)), .val (.int (0 : Int32)), .unset, .unset, .unset, .unset, .unset] [])
    refine Go.step (fun _ k => XS.iloadN X0.here hx rfl (hb hby d2_26) rfl k) ?_
    show Go _ _ _ _ _ _ _ s₁ (mkF m 27 #[.val (.int (8206 : Int32)), .val (.int (1 : Int32)), .val (.int (0 : Int32)), .unset, .unset, .unset, .unset, .unset] [(.int (8206 : Int32))])
    refine Go.step (fun _ k => XS.sipush X0.here hx rfl (hb hby d2_27) k) ?_
    show Go _ _ _ _ _ _ _ s₁ (mkF m 30 #[.val (.int (8206 : Int32)), .val (.int (1 : Int32)), .val (.int (0 : Int32)), .unset, .unset, .unset, .unset, .unset] [(.int (8234 : Int32)), (.int (8206 : Int32))])
    have hc30_7 : ¬ ((8206 : Int32) = (8234 : Int32)) := (by decide)
    refine Go.step (fun _ k => XS.icmpYes X0.here hx rfl (pc0 := 30) (pc' := 37) rfl (hb hby d2_30) rfl (feq hc30_7).2 (by decide) (by decide) k) ?_
    show Go _ _ _ _ _ _ _ s₁ (mkF m 37 #[.val (.int (8206 : Int32)), .val (.int (1 : Int32)), .val (.int (0 : Int32)), .unset, .unset, .unset, .unset, .unset] [])
    refine Go.step (fun _ k => XS.iconst X0.here hx rfl (hb hby d2_37) k) ?_
    show Go _ _ _ _ _ _ _ s₁ (mkF m 38 #[.val (.int (8206 : Int32)), .val (.int (1 : Int32)), .val (.int (0 : Int32)), .unset, .unset, .unset, .unset, .unset] [(.int (0 : Int32))])
    refine Go.step (fun _ k => XS.istoreN X0.here hx rfl (hb hby d2_38) rfl (l' := #[.val (.int (8206 : Int32)), .val (.int (1 : Int32)), .val (.int (0 : Int32)), .val (.int (0 : Int32)), .unset, .unset, .unset, .unset]) rfl k) ?_
    show Go _ _ _ _ _ _ _ s₁ (mkF m 39 #[.val (.int (8206 : Int32)), .val (.int (1 : Int32)), .val (.int (0 : Int32)), .val (.int (0 : Int32)), .unset, .unset, .unset, .unset] [])
    refine Go.step (fun _ k => XS.iloadN X0.here hx rfl (hb hby d2_39) rfl k) ?_
    show Go _ _ _ _ _ _ _ s₁ (mkF m 40 #[.val (.int (8206 : Int32)), .val (.int (1 : Int32)), .val (.int (0 : Int32)), .val (.int (0 : Int32)), .unset, .unset, .unset, .unset] [(.int (8206 : Int32))])
    refine Go.step (fun _ k => XS.sipush X0.here hx rfl (hb hby d2_40) k) ?_
    show Go _ _ _ _ _ _ _ s₁ (mkF m 43 #[.val (.int (8206 : Int32)), .val (.int (1 : Int32)), .val (.int (0 : Int32)), .val (.int (0 : Int32)), .unset, .unset, .unset, .unset] [(.int (8235 : Int32)), (.int (8206 : Int32))])
    have hc43_8 : ¬ ((8206 : Int32) = (8235 : Int32)) := (by decide)
    refine Go.step (fun _ k => XS.icmpYes X0.here hx rfl (pc0 := 43) (pc' := 50) rfl (hb hby d2_43) rfl (feq hc43_8).2 (by decide) (by decide) k) ?_
    show Go _ _ _ _ _ _ _ s₁ (mkF m 50 #[.val (.int (8206 : Int32)), .val (.int (1 : Int32)), .val (.int (0 : Int32)), .val (.int (0 : Int32)), .unset, .unset, .unset, .unset] [])
    refine Go.step (fun _ k => XS.iconst X0.here hx rfl (hb hby d2_50) k) ?_
    show Go _ _ _ _ _ _ _ s₁ (mkF m 51 #[.val (.int (8206 : Int32)), .val (.int (1 : Int32)), .val (.int (0 : Int32)), .val (.int (0 : Int32)), .unset, .unset, .unset, .unset] [(.int (0 : Int32))])
    refine Go.step (fun _ k => XS.istore X0.here hx rfl (hb hby d2_51) rfl (l' := #[.val (.int (8206 : Int32)), .val (.int (1 : Int32)), .val (.int (0 : Int32)), .val (.int (0 : Int32)), .val (.int (0 : Int32)), .unset, .unset, .unset]) rfl k) ?_
    show Go _ _ _ _ _ _ _ s₁ (mkF m 53 #[.val (.int (8206 : Int32)), .val (.int (1 : Int32)), .val (.int (0 : Int32)), .val (.int (0 : Int32)), .val (.int (0 : Int32)), .unset, .unset, .unset] [])
    refine Go.step (fun _ k => XS.iloadN X0.here hx rfl (hb hby d2_53) rfl k) ?_
    show Go _ _ _ _ _ _ _ s₁ (mkF m 54 #[.val (.int (8206 : Int32)), .val (.int (1 : Int32)), .val (.int (0 : Int32)), .val (.int (0 : Int32)), .val (.int (0 : Int32)), .unset, .unset, .unset] [(.int (8206 : Int32))])
    refine Go.step (fun _ k => XS.sipush X0.here hx rfl (hb hby d2_54) k) ?_
    show Go _ _ _ _ _ _ _ s₁ (mkF m 57 #[.val (.int (8206 : Int32)), .val (.int (1 : Int32)), .val (.int (0 : Int32)), .val (.int (0 : Int32)), .val (.int (0 : Int32)), .unset, .unset, .unset] [(.int (8236 : Int32)), (.int (8206 : Int32))])
    have hc57_9 : ¬ ((8206 : Int32) = (8236 : Int32)) := (by decide)
    refine Go.step (fun _ k => XS.icmpYes X0.here hx rfl (pc0 := 57) (pc' := 64) rfl (hb hby d2_57) rfl (feq hc57_9).2 (by decide) (by decide) k) ?_
    show Go _ _ _ _ _ _ _ s₁ (mkF m 64 #[.val (.int (8206 : Int32)), .val (.int (1 : Int32)), .val (.int (0 : Int32)), .val (.int (0 : Int32)), .val (.int (0 : Int32)), .unset, .unset, .unset] [])
    refine Go.step (fun _ k => XS.iconst X0.here hx rfl (hb hby d2_64) k) ?_
    show Go _ _ _ _ _ _ _ s₁ (mkF m 65 #[.val (.int (8206 : Int32)), .val (.int (1 : Int32)), .val (.int (0 : Int32)), .val (.int (0 : Int32)), .val (.int (0 : Int32)), .unset, .unset, .unset] [(.int (0 : Int32))])
    refine Go.step (fun _ k => XS.istore X0.here hx rfl (hb hby d2_65) rfl (l' := #[.val (.int (8206 : Int32)), .val (.int (1 : Int32)), .val (.int (0 : Int32)), .val (.int (0 : Int32)), .val (.int (0 : Int32)), .val (.int (0 : Int32)), .unset, .unset]) rfl k) ?_
    show Go _ _ _ _ _ _ _ s₁ (mkF m 67 #[.val (.int (8206 : Int32)), .val (.int (1 : Int32)), .val (.int (0 : Int32)), .val (.int (0 : Int32)), .val (.int (0 : Int32)), .val (.int (0 : Int32)), .unset, .unset] [])
    refine Go.step (fun _ k => XS.iloadN X0.here hx rfl (hb hby d2_67) rfl k) ?_
    show Go _ _ _ _ _ _ _ s₁ (mkF m 68 #[.val (.int (8206 : Int32)), .val (.int (1 : Int32)), .val (.int (0 : Int32)), .val (.int (0 : Int32)), .val (.int (0 : Int32)), .val (.int (0 : Int32)), .unset, .unset] [(.int (8206 : Int32))])
    refine Go.step (fun _ k => XS.sipush X0.here hx rfl (hb hby d2_68) k) ?_
    show Go _ _ _ _ _ _ _ s₁ (mkF m 71 #[.val (.int (8206 : Int32)), .val (.int (1 : Int32)), .val (.int (0 : Int32)), .val (.int (0 : Int32)), .val (.int (0 : Int32)), .val (.int (0 : Int32)), .unset, .unset] [(.int (8237 : Int32)), (.int (8206 : Int32))])
    have hc71_10 : ¬ ((8206 : Int32) = (8237 : Int32)) := (by decide)
    refine Go.step (fun _ k => XS.icmpYes X0.here hx rfl (pc0 := 71) (pc' := 78) rfl (hb hby d2_71) rfl (feq hc71_10).2 (by decide) (by decide) k) ?_
    show Go _ _ _ _ _ _ _ s₁ (mkF m 78 #[.val (.int (8206 : Int32)), .val (.int (1 : Int32)), .val (.int (0 : Int32)), .val (.int (0 : Int32)), .val (.int (0 : Int32)), .val (.int (0 : Int32)), .unset, .unset] [])
    refine Go.step (fun _ k => XS.iconst X0.here hx rfl (hb hby d2_78) k) ?_
    show Go _ _ _ _ _ _ _ s₁ (mkF m 79 #[.val (.int (8206 : Int32)), .val (.int (1 : Int32)), .val (.int (0 : Int32)), .val (.int (0 : Int32)), .val (.int (0 : Int32)), .val (.int (0 : Int32)), .unset, .unset] [(.int (0 : Int32))])
    refine Go.step (fun _ k => XS.istore X0.here hx rfl (hb hby d2_79) rfl (l' := #[.val (.int (8206 : Int32)), .val (.int (1 : Int32)), .val (.int (0 : Int32)), .val (.int (0 : Int32)), .val (.int (0 : Int32)), .val (.int (0 : Int32)), .val (.int (0 : Int32)), .unset]) rfl k) ?_
    show Go _ _ _ _ _ _ _ s₁ (mkF m 81 #[.val (.int (8206 : Int32)), .val (.int (1 : Int32)), .val (.int (0 : Int32)), .val (.int (0 : Int32)), .val (.int (0 : Int32)), .val (.int (0 : Int32)), .val (.int (0 : Int32)), .unset] [])
    refine Go.step (fun _ k => XS.iloadN X0.here hx rfl (hb hby d2_81) rfl k) ?_
    show Go _ _ _ _ _ _ _ s₁ (mkF m 82 #[.val (.int (8206 : Int32)), .val (.int (1 : Int32)), .val (.int (0 : Int32)), .val (.int (0 : Int32)), .val (.int (0 : Int32)), .val (.int (0 : Int32)), .val (.int (0 : Int32)), .unset] [(.int (8206 : Int32))])
    refine Go.step (fun _ k => XS.sipush X0.here hx rfl (hb hby d2_82) k) ?_
    show Go _ _ _ _ _ _ _ s₁ (mkF m 85 #[.val (.int (8206 : Int32)), .val (.int (1 : Int32)), .val (.int (0 : Int32)), .val (.int (0 : Int32)), .val (.int (0 : Int32)), .val (.int (0 : Int32)), .val (.int (0 : Int32)), .unset] [(.int (8238 : Int32)), (.int (8206 : Int32))])
    have hc85_11 : ¬ ((8206 : Int32) = (8238 : Int32)) := (by decide)
    refine Go.step (fun _ k => XS.icmpYes X0.here hx rfl (pc0 := 85) (pc' := 92) rfl (hb hby d2_85) rfl (feq hc85_11).2 (by decide) (by decide) k) ?_
    show Go _ _ _ _ _ _ _ s₁ (mkF m 92 #[.val (.int (8206 : Int32)), .val (.int (1 : Int32)), .val (.int (0 : Int32)), .val (.int (0 : Int32)), .val (.int (0 : Int32)), .val (.int (0 : Int32)), .val (.int (0 : Int32)), .unset] [])
    refine Go.step (fun _ k => XS.iconst X0.here hx rfl (hb hby d2_92) k) ?_
    show Go _ _ _ _ _ _ _ s₁ (mkF m 93 #[.val (.int (8206 : Int32)), .val (.int (1 : Int32)), .val (.int (0 : Int32)), .val (.int (0 : Int32)), .val (.int (0 : Int32)), .val (.int (0 : Int32)), .val (.int (0 : Int32)), .unset] [(.int (0 : Int32))])
    refine Go.step (fun _ k => XS.istore X0.here hx rfl (hb hby d2_93) rfl (l' := #[.val (.int (8206 : Int32)), .val (.int (1 : Int32)), .val (.int (0 : Int32)), .val (.int (0 : Int32)), .val (.int (0 : Int32)), .val (.int (0 : Int32)), .val (.int (0 : Int32)), .val (.int (0 : Int32))]) rfl k) ?_
    show Go _ _ _ _ _ _ _ s₁ (mkF m 95 #[.val (.int (8206 : Int32)), .val (.int (1 : Int32)), .val (.int (0 : Int32)), .val (.int (0 : Int32)), .val (.int (0 : Int32)), .val (.int (0 : Int32)), .val (.int (0 : Int32)), .val (.int (0 : Int32))] [])
    refine Go.step (fun _ k => XS.iloadN X0.here hx rfl (hb hby d2_95) rfl k) ?_
    show Go _ _ _ _ _ _ _ s₁ (mkF m 96 #[.val (.int (8206 : Int32)), .val (.int (1 : Int32)), .val (.int (0 : Int32)), .val (.int (0 : Int32)), .val (.int (0 : Int32)), .val (.int (0 : Int32)), .val (.int (0 : Int32)), .val (.int (0 : Int32))] [(.int (1 : Int32))])
    have hc96_12 : ¬ ((1 : Int32) = (0 : Int32)) := (by decide)
    refine Go.step (fun _ k => XS.ifYes X0.here hx rfl (pc0 := 96) (pc' := 127) rfl (hb hby d2_96) rfl ((if0 _ _).trans (feq hc96_12).2) (by decide) (by decide) k) ?_
    show Go _ _ _ _ _ _ _ s₁ (mkF m 127 #[.val (.int (8206 : Int32)), .val (.int (1 : Int32)), .val (.int (0 : Int32)), .val (.int (0 : Int32)), .val (.int (0 : Int32)), .val (.int (0 : Int32)), .val (.int (0 : Int32)), .val (.int (0 : Int32))] [])
    refine Go.step (fun _ k => XS.iconst X0.here hx rfl (hb hby d2_127) k) ?_
    show Go _ _ _ _ _ _ _ s₁ (mkF m 128 #[.val (.int (8206 : Int32)), .val (.int (1 : Int32)), .val (.int (0 : Int32)), .val (.int (0 : Int32)), .val (.int (0 : Int32)), .val (.int (0 : Int32)), .val (.int (0 : Int32)), .val (.int (0 : Int32))] [(.int (1 : Int32))])
    refine Go.step (fun _ k => XS.goto X0.here hx rfl (pc0 := 128) (pc' := 132) rfl (hb hby d2_128) (by decide) (by decide) k) ?_
    show Go _ _ _ _ _ _ _ s₁ (mkF m 132 #[.val (.int (8206 : Int32)), .val (.int (1 : Int32)), .val (.int (0 : Int32)), .val (.int (0 : Int32)), .val (.int (0 : Int32)), .val (.int (0 : Int32)), .val (.int (0 : Int32)), .val (.int (0 : Int32))] [(.int (1 : Int32))])
    exact Go.retN X0 hx (t := .boolean) hret hlk (by simp) (hb hby d2_132) e0 (by decide) (by decide) ⟨rfl, N0, rfl⟩
  by_cases hk8207 : ci = 8207
  · subst hk8207
    show Go _ _ _ _ _ _ _ s₁ (mkF m 0 #[.val (.int (8207 : Int32)), .unset, .unset, .unset, .unset, .unset, .unset, .unset] [])
    refine Go.step (fun _ k => XS.iloadN X0.here hx rfl (hb hby d2_0) rfl k) ?_
    show Go _ _ _ _ _ _ _ s₁ (mkF m 1 #[.val (.int (8207 : Int32)), .unset, .unset, .unset, .unset, .unset, .unset, .unset] [(.int (8207 : Int32))])
    refine Go.step (fun _ k => XS.sipush X0.here hx rfl (hb hby d2_1) k) ?_
    show Go _ _ _ _ _ _ _ s₁ (mkF m 4 #[.val (.int (8207 : Int32)), .unset, .unset, .unset, .unset, .unset, .unset, .unset] [(.int (8206 : Int32)), (.int (8207 : Int32))])
    have hc4_13 : ¬ ((8207 : Int32) = (8206 : Int32)) := (by decide)
    refine Go.step (fun _ k => XS.icmpYes X0.here hx rfl (pc0 := 4) (pc' := 11) rfl (hb hby d2_4) rfl (feq hc4_13).2 (by decide) (by decide) k) ?_
    show Go _ _ _ _ _ _ _ s₁ (mkF m 11 #[.val (.int (8207 : Int32)), .unset, .unset, .unset, .unset, .unset, .unset, .unset] [])
    refine Go.step (fun _ k => XS.iconst X0.here hx rfl (hb hby d2_11) k) ?_
    show Go _ _ _ _ _ _ _ s₁ (mkF m 12 #[.val (.int (8207 : Int32)), .unset, .unset, .unset, .unset, .unset, .unset, .unset] [(.int (0 : Int32))])
    refine Go.step (fun _ k => XS.istoreN X0.here hx rfl (hb hby d2_12) rfl (l' := #[.val (.int (8207 : Int32)), .val (.int (0 : Int32)), .unset, .unset, .unset, .unset, .unset, .unset]) rfl k) ?_
    show Go _ _ _ _ _ _ _ s₁ (mkF m 13 #[.val (.int (8207 : Int32)), .val (.int (0 : Int32)), .unset, .unset, .unset, .unset, .unset, .unset] [])
    refine Go.step (fun _ k => XS.iloadN X0.here hx rfl (hb hby d2_13) rfl k) ?_
    show Go _ _ _ _ _ _ _ s₁ (mkF m 14 #[.val (.int (8207 : Int32)), .val (.int (0 : Int32)), .unset, .unset, .unset, .unset, .unset, .unset] [(.int (8207 : Int32))])
    refine Go.step (fun _ k => XS.sipush X0.here hx rfl (hb hby d2_14) k) ?_
    show Go _ _ _ _ _ _ _ s₁ (mkF m 17 #[.val (.int (8207 : Int32)), .val (.int (0 : Int32)), .unset, .unset, .unset, .unset, .unset, .unset] [(.int (8207 : Int32)), (.int (8207 : Int32))])
    have hc17_14 : (8207 : Int32) = (8207 : Int32) := (by decide)
    refine Go.step (fun _ k => XS.icmpNo X0.here hx rfl (hb hby d2_17) rfl (teq hc17_14).2 k) ?_
    show Go _ _ _ _ _ _ _ s₁ (mkF m 20 #[.val (.int (8207 : Int32)), .val (.int (0 : Int32)), .unset, .unset, .unset, .unset, .unset, .unset] [])
    refine Go.step (fun _ k => XS.iconst X0.here hx rfl (hb hby d2_20) k) ?_
    show Go _ _ _ _ _ _ _ s₁ (mkF m 21 #[.val (.int (8207 : Int32)), .val (.int (0 : Int32)), .unset, .unset, .unset, .unset, .unset, .unset] [(.int (1 : Int32))])
    refine Go.step (fun _ k => XS.goto X0.here hx rfl (pc0 := 21) (pc' := 25) rfl (hb hby d2_21) (by decide) (by decide) k) ?_
    show Go _ _ _ _ _ _ _ s₁ (mkF m 25 #[.val (.int (8207 : Int32)), .val (.int (0 : Int32)), .unset, .unset, .unset, .unset, .unset, .unset] [(.int (1 : Int32))])
    refine Go.step (fun _ k => XS.istoreN X0.here hx rfl (hb hby d2_25) rfl (l' := #[.val (.int (8207 : Int32)), .val (.int (0 : Int32)), .val (.int (1 : Int32)), .unset, .unset, .unset, .unset, .unset]) rfl k) ?_
    show Go _ _ _ _ _ _ _ s₁ (mkF m 26 #[.val (.int (8207 : Int32)), .val (.int (0 : Int32)), .val (.int (1 : Int32)), .unset, .unset, .unset, .unset, .unset] [])
    refine Go.step (fun _ k => XS.iloadN X0.here hx rfl (hb hby d2_26) rfl k) ?_
    show Go _ _ _ _ _ _ _ s₁ (mkF m 27 #[.val (.int (8207 : Int32)), .val (.int (0 : Int32)), .val (.int (1 : Int32)), .unset, .unset, .unset, .unset, .unset] [(.int (8207 : Int32))])
    refine Go.step (fun _ k => XS.sipush X0.here hx rfl (hb hby d2_27) k) ?_
    show Go _ _ _ _ _ _ _ s₁ (mkF m 30 #[.val (.int (8207 : Int32)), .val (.int (0 : Int32)), .val (.int (1 : Int32)), .unset, .unset, .unset, .unset, .unset] [(.int (8234 : Int32)), (.int (8207 : Int32))])
    have hc30_15 : ¬ ((8207 : Int32) = (8234 : Int32)) := (by decide)
    refine Go.step (fun _ k => XS.icmpYes X0.here hx rfl (pc0 := 30) (pc' := 37) rfl (hb hby d2_30) rfl (feq hc30_15).2 (by decide) (by decide) k) ?_
    show Go _ _ _ _ _ _ _ s₁ (mkF m 37 #[.val (.int (8207 : Int32)), .val (.int (0 : Int32)), .val (.int (1 : Int32)), .unset, .unset, .unset, .unset, .unset] [])
    refine Go.step (fun _ k => XS.iconst X0.here hx rfl (hb hby d2_37) k) ?_
    show Go _ _ _ _ _ _ _ s₁ (mkF m 38 #[.val (.int (8207 : Int32)), .val (.int (0 : Int32)), .val (.int (1 : Int32)), .unset, .unset, .unset, .unset, .unset] [(.int (0 : Int32))])
    refine Go.step (fun _ k => XS.istoreN X0.here hx rfl (hb hby d2_38) rfl (l' := #[.val (.int (8207 : Int32)), .val (.int (0 : Int32)), .val (.int (1 : Int32)), .val (.int (0 : Int32)), .unset, .unset, .unset, .unset]) rfl k) ?_
    show Go _ _ _ _ _ _ _ s₁ (mkF m 39 #[.val (.int (8207 : Int32)), .val (.int (0 : Int32)), .val (.int (1 : Int32)), .val (.int (0 : Int32)), .unset, .unset, .unset, .unset] [])
    refine Go.step (fun _ k => XS.iloadN X0.here hx rfl (hb hby d2_39) rfl k) ?_
    show Go _ _ _ _ _ _ _ s₁ (mkF m 40 #[.val (.int (8207 : Int32)), .val (.int (0 : Int32)), .val (.int (1 : Int32)), .val (.int (0 : Int32)), .unset, .unset, .unset, .unset] [(.int (8207 : Int32))])
    refine Go.step (fun _ k => XS.sipush X0.here hx rfl (hb hby d2_40) k) ?_
    show Go _ _ _ _ _ _ _ s₁ (mkF m 43 #[.val (.int (8207 : Int32)), .val (.int (0 : Int32)), .val (.int (1 : Int32)), .val (.int (0 : Int32)), .unset, .unset, .unset, .unset] [(.int (8235 : Int32)), (.int (8207 : Int32))])
    have hc43_16 : ¬ ((8207 : Int32) = (8235 : Int32)) := (by decide)
    refine Go.step (fun _ k => XS.icmpYes X0.here hx rfl (pc0 := 43) (pc' := 50) rfl (hb hby d2_43) rfl (feq hc43_16).2 (by decide) (by decide) k) ?_
    show Go _ _ _ _ _ _ _ s₁ (mkF m 50 #[.val (.int (8207 : Int32)), .val (.int (0 : Int32)), .val (.int (1 : Int32)), .val (.int (0 : Int32)), .unset, .unset, .unset, .unset] [])
    refine Go.step (fun _ k => XS.iconst X0.here hx rfl (hb hby d2_50) k) ?_
    show Go _ _ _ _ _ _ _ s₁ (mkF m 51 #[.val (.int (8207 : Int32)), .val (.int (0 : Int32)), .val (.int (1 : Int32)), .val (.int (0 : Int32)), .unset, .unset, .unset, .unset] [(.int (0 : Int32))])
    refine Go.step (fun _ k => XS.istore X0.here hx rfl (hb hby d2_51) rfl (l' := #[.val (.int (8207 : Int32)), .val (.int (0 : Int32)), .val (.int (1 : Int32)), .val (.int (0 : Int32)), .val (.int (0 : Int32)), .unset, .unset, .unset]) rfl k) ?_
    show Go _ _ _ _ _ _ _ s₁ (mkF m 53 #[.val (.int (8207 : Int32)), .val (.int (0 : Int32)), .val (.int (1 : Int32)), .val (.int (0 : Int32)), .val (.int (0 : Int32)), .unset, .unset, .unset] [])
    refine Go.step (fun _ k => XS.iloadN X0.here hx rfl (hb hby d2_53) rfl k) ?_
    show Go _ _ _ _ _ _ _ s₁ (mkF m 54 #[.val (.int (8207 : Int32)), .val (.int (0 : Int32)), .val (.int (1 : Int32)), .val (.int (0 : Int32)), .val (.int (0 : Int32)), .unset, .unset, .unset] [(.int (8207 : Int32))])
    refine Go.step (fun _ k => XS.sipush X0.here hx rfl (hb hby d2_54) k) ?_
    show Go _ _ _ _ _ _ _ s₁ (mkF m 57 #[.val (.int (8207 : Int32)), .val (.int (0 : Int32)), .val (.int (1 : Int32)), .val (.int (0 : Int32)), .val (.int (0 : Int32)), .unset, .unset, .unset] [(.int (8236 : Int32)), (.int (8207 : Int32))])
    have hc57_17 : ¬ ((8207 : Int32) = (8236 : Int32)) := (by decide)
    refine Go.step (fun _ k => XS.icmpYes X0.here hx rfl (pc0 := 57) (pc' := 64) rfl (hb hby d2_57) rfl (feq hc57_17).2 (by decide) (by decide) k) ?_
    show Go _ _ _ _ _ _ _ s₁ (mkF m 64 #[.val (.int (8207 : Int32)), .val (.int (0 : Int32)), .val (.int (1 : Int32)), .val (.int (0 : Int32)), .val (.int (0 : Int32)), .unset, .unset, .unset] [])
    refine Go.step (fun _ k => XS.iconst X0.here hx rfl (hb hby d2_64) k) ?_
    show Go _ _ _ _ _ _ _ s₁ (mkF m 65 #[.val (.int (8207 : Int32)), .val (.int (0 : Int32)), .val (.int (1 : Int32)), .val (.int (0 : Int32)), .val (.int (0 : Int32)), .unset, .unset, .unset] [(.int (0 : Int32))])
    refine Go.step (fun _ k => XS.istore X0.here hx rfl (hb hby d2_65) rfl (l' := #[.val (.int (8207 : Int32)), .val (.int (0 : Int32)), .val (.int (1 : Int32)), .val (.int (0 : Int32)), .val (.int (0 : Int32)), .val (.int (0 : Int32)), .unset, .unset]) rfl k) ?_
    show Go _ _ _ _ _ _ _ s₁ (mkF m 67 #[.val (.int (8207 : Int32)), .val (.int (0 : Int32)), .val (.int (1 : Int32)), .val (.int (0 : Int32)), .val (.int (0 : Int32)), .val (.int (0 : Int32)), .unset, .unset] [])
    refine Go.step (fun _ k => XS.iloadN X0.here hx rfl (hb hby d2_67) rfl k) ?_
    show Go _ _ _ _ _ _ _ s₁ (mkF m 68 #[.val (.int (8207 : Int32)), .val (.int (0 : Int32)), .val (.int (1 : Int32)), .val (.int (0 : Int32)), .val (.int (0 : Int32)), .val (.int (0 : Int32)), .unset, .unset] [(.int (8207 : Int32))])
    refine Go.step (fun _ k => XS.sipush X0.here hx rfl (hb hby d2_68) k) ?_
    show Go _ _ _ _ _ _ _ s₁ (mkF m 71 #[.val (.int (8207 : Int32)), .val (.int (0 : Int32)), .val (.int (1 : Int32)), .val (.int (0 : Int32)), .val (.int (0 : Int32)), .val (.int (0 : Int32)), .unset, .unset] [(.int (8237 : Int32)), (.int (8207 : Int32))])
    have hc71_18 : ¬ ((8207 : Int32) = (8237 : Int32)) := (by decide)
    refine Go.step (fun _ k => XS.icmpYes X0.here hx rfl (pc0 := 71) (pc' := 78) rfl (hb hby d2_71) rfl (feq hc71_18).2 (by decide) (by decide) k) ?_
    show Go _ _ _ _ _ _ _ s₁ (mkF m 78 #[.val (.int (8207 : Int32)), .val (.int (0 : Int32)), .val (.int (1 : Int32)), .val (.int (0 : Int32)), .val (.int (0 : Int32)), .val (.int (0 : Int32)), .unset, .unset] [])
    refine Go.step (fun _ k => XS.iconst X0.here hx rfl (hb hby d2_78) k) ?_
    show Go _ _ _ _ _ _ _ s₁ (mkF m 79 #[.val (.int (8207 : Int32)), .val (.int (0 : Int32)), .val (.int (1 : Int32)), .val (.int (0 : Int32)), .val (.int (0 : Int32)), .val (.int (0 : Int32)), .unset, .unset] [(.int (0 : Int32))])
    refine Go.step (fun _ k => XS.istore X0.here hx rfl (hb hby d2_79) rfl (l' := #[.val (.int (8207 : Int32)), .val (.int (0 : Int32)), .val (.int (1 : Int32)), .val (.int (0 : Int32)), .val (.int (0 : Int32)), .val (.int (0 : Int32)), .val (.int (0 : Int32)), .unset]) rfl k) ?_
    show Go _ _ _ _ _ _ _ s₁ (mkF m 81 #[.val (.int (8207 : Int32)), .val (.int (0 : Int32)), .val (.int (1 : Int32)), .val (.int (0 : Int32)), .val (.int (0 : Int32)), .val (.int (0 : Int32)), .val (.int (0 : Int32)), .unset] [])
    refine Go.step (fun _ k => XS.iloadN X0.here hx rfl (hb hby d2_81) rfl k) ?_
    show Go _ _ _ _ _ _ _ s₁ (mkF m 82 #[.val (.int (8207 : Int32)), .val (.int (0 : Int32)), .val (.int (1 : Int32)), .val (.int (0 : Int32)), .val (.int (0 : Int32)), .val (.int (0 : Int32)), .val (.int (0 : Int32)), .unset] [(.int (8207 : Int32))])
    refine Go.step (fun _ k => XS.sipush X0.here hx rfl (hb hby d2_82) k) ?_
    show Go _ _ _ _ _ _ _ s₁ (mkF m 85 #[.val (.int (8207 : Int32)), .val (.int (0 : Int32)), .val (.int (1 : Int32)), .val (.int (0 : Int32)), .val (.int (0 : Int32)), .val (.int (0 : Int32)), .val (.int (0 : Int32)), .unset] [(.int (8238 : Int32)), (.int (8207 : Int32))])
    have hc85_19 : ¬ ((8207 : Int32) = (8238 : Int32)) := (by decide)
    refine Go.step (fun _ k => XS.icmpYes X0.here hx rfl (pc0 := 85) (pc' := 92) rfl (hb hby d2_85) rfl (feq hc85_19).2 (by decide) (by decide) k) ?_
    show Go _ _ _ _ _ _ _ s₁ (mkF m 92 #[.val (.int (8207 : Int32)), .val (.int (0 : Int32)), .val (.int (1 : Int32)), .val (.int (0 : Int32)), .val (.int (0 : Int32)), .val (.int (0 : Int32)), .val (.int (0 : Int32)), .unset] [])
    refine Go.step (fun _ k => XS.iconst X0.here hx rfl (hb hby d2_92) k) ?_
    show Go _ _ _ _ _ _ _ s₁ (mkF m 93 #[.val (.int (8207 : Int32)), .val (.int (0 : Int32)), .val (.int (1 : Int32)), .val (.int (0 : Int32)), .val (.int (0 : Int32)), .val (.int (0 : Int32)), .val (.int (0 : Int32)), .unset] [(.int (0 : Int32))])
    refine Go.step (fun _ k => XS.istore X0.here hx rfl (hb hby d2_93) rfl (l' := #[.val (.int (8207 : Int32)), .val (.int (0 : Int32)), .val (.int (1 : Int32)), .val (.int (0 : Int32)), .val (.int (0 : Int32)), .val (.int (0 : Int32)), .val (.int (0 : Int32)), .val (.int (0 : Int32))]) rfl k) ?_
    show Go _ _ _ _ _ _ _ s₁ (mkF m 95 #[.val (.int (8207 : Int32)), .val (.int (0 : Int32)), .val (.int (1 : Int32)), .val (.int (0 : Int32)), .val (.int (0 : Int32)), .val (.int (0 : Int32)), .val (.int (0 : Int32)), .val (.int (0 : Int32))] [])
    refine Go.step (fun _ k => XS.iloadN X0.here hx rfl (hb hby d2_95) rfl k) ?_
    show Go _ _ _ _ _ _ _ s₁ (mkF m 96 #[.val (.int (8207 : Int32)), .val (.int (0 : Int32)), .val (.int (1 : Int32)), .val (.int (0 : Int32)), .val (.int (0 : Int32)), .val (.int (0 : Int32)), .val (.int (0 : Int32)), .val (.int (0 : Int32))] [(.int (0 : Int32))])
    have hc96_20 : (0 : Int32) = (0 : Int32) := (by decide)
    refine Go.step (fun _ k => XS.ifNo X0.here hx rfl (hb hby d2_96) rfl ((if0 _ _).trans (teq hc96_20).2) k) ?_
    show Go _ _ _ _ _ _ _ s₁ (mkF m 99 #[.val (.int (8207 : Int32)), .val (.int (0 : Int32)), .val (.int (1 : Int32)), .val (.int (0 : Int32)), .val (.int (0 : Int32)), .val (.int (0 : Int32)), .val (.int (0 : Int32)), .val (.int (0 : Int32))] [])
    refine Go.step (fun _ k => XS.iloadN X0.here hx rfl (hb hby d2_99) rfl k) ?_
    show Go _ _ _ _ _ _ _ s₁ (mkF m 100 #[.val (.int (8207 : Int32)), .val (.int (0 : Int32)), .val (.int (1 : Int32)), .val (.int (0 : Int32)), .val (.int (0 : Int32)), .val (.int (0 : Int32)), .val (.int (0 : Int32)), .val (.int (0 : Int32))] [(.int (1 : Int32))])
    have hc100_21 : ¬ ((1 : Int32) = (0 : Int32)) := (by decide)
    refine Go.step (fun _ k => XS.ifYes X0.here hx rfl (pc0 := 100) (pc' := 127) rfl (hb hby d2_100) rfl ((if0 _ _).trans (feq hc100_21).2) (by decide) (by decide) k) ?_
    show Go _ _ _ _ _ _ _ s₁ (mkF m 127 #[.val (.int (8207 : Int32)), .val (.int (0 : Int32)), .val (.int (1 : Int32)), .val (.int (0 : Int32)), .val (.int (0 : Int32)), .val (.int (0 : Int32)), .val (.int (0 : Int32)), .val (.int (0 : Int32))] [])
    refine Go.step (fun _ k => XS.iconst X0.here hx rfl (hb hby d2_127) k) ?_
    show Go _ _ _ _ _ _ _ s₁ (mkF m 128 #[.val (.int (8207 : Int32)), .val (.int (0 : Int32)), .val (.int (1 : Int32)), .val (.int (0 : Int32)), .val (.int (0 : Int32)), .val (.int (0 : Int32)), .val (.int (0 : Int32)), .val (.int (0 : Int32))] [(.int (1 : Int32))])
    refine Go.step (fun _ k => XS.goto X0.here hx rfl (pc0 := 128) (pc' := 132) rfl (hb hby d2_128) (by decide) (by decide) k) ?_
    show Go _ _ _ _ _ _ _ s₁ (mkF m 132 #[.val (.int (8207 : Int32)), .val (.int (0 : Int32)), .val (.int (1 : Int32)), .val (.int (0 : Int32)), .val (.int (0 : Int32)), .val (.int (0 : Int32)), .val (.int (0 : Int32)), .val (.int (0 : Int32))] [(.int (1 : Int32))])
    exact Go.retN X0 hx (t := .boolean) hret hlk (by simp) (hb hby d2_132) e0 (by decide) (by decide) ⟨rfl, N0, rfl⟩
  by_cases hk8234 : ci = 8234
  · subst hk8234
    show Go _ _ _ _ _ _ _ s₁ (mkF m 0 #[.val (.int (8234 : Int32)), .unset, .unset, .unset, .unset, .unset, .unset, .unset] [])
    refine Go.step (fun _ k => XS.iloadN X0.here hx rfl (hb hby d2_0) rfl k) ?_
    show Go _ _ _ _ _ _ _ s₁ (mkF m 1 #[.val (.int (8234 : Int32)), .unset, .unset, .unset, .unset, .unset, .unset, .unset] [(.int (8234 : Int32))])
    refine Go.step (fun _ k => XS.sipush X0.here hx rfl (hb hby d2_1) k) ?_
    show Go _ _ _ _ _ _ _ s₁ (mkF m 4 #[.val (.int (8234 : Int32)), .unset, .unset, .unset, .unset, .unset, .unset, .unset] [(.int (8206 : Int32)), (.int (8234 : Int32))])
    have hc4_22 : ¬ ((8234 : Int32) = (8206 : Int32)) := (by decide)
    refine Go.step (fun _ k => XS.icmpYes X0.here hx rfl (pc0 := 4) (pc' := 11) rfl (hb hby d2_4) rfl (feq hc4_22).2 (by decide) (by decide) k) ?_
    show Go _ _ _ _ _ _ _ s₁ (mkF m 11 #[.val (.int (8234 : Int32)), .unset, .unset, .unset, .unset, .unset, .unset, .unset] [])
    refine Go.step (fun _ k => XS.iconst X0.here hx rfl (hb hby d2_11) k) ?_
    show Go _ _ _ _ _ _ _ s₁ (mkF m 12 #[.val (.int (8234 : Int32)), .unset, .unset, .unset, .unset, .unset, .unset, .unset] [(.int (0 : Int32))])
    refine Go.step (fun _ k => XS.istoreN X0.here hx rfl (hb hby d2_12) rfl (l' := #[.val (.int (8234 : Int32)), .val (.int (0 : Int32)), .unset, .unset, .unset, .unset, .unset, .unset]) rfl k) ?_
    show Go _ _ _ _ _ _ _ s₁ (mkF m 13 #[.val (.int (8234 : Int32)), .val (.int (0 : Int32)), .unset, .unset, .unset, .unset, .unset, .unset] [])
    refine Go.step (fun _ k => XS.iloadN X0.here hx rfl (hb hby d2_13) rfl k) ?_
    show Go _ _ _ _ _ _ _ s₁ (mkF m 14 #[.val (.int (8234 : Int32)), .val (.int (0 : Int32)), .unset, .unset, .unset, .unset, .unset, .unset] [(.int (8234 : Int32))])
    refine Go.step (fun _ k => XS.sipush X0.here hx rfl (hb hby d2_14) k) ?_
    show Go _ _ _ _ _ _ _ s₁ (mkF m 17 #[.val (.int (8234 : Int32)), .val (.int (0 : Int32)), .unset, .unset, .unset, .unset, .unset, .unset] [(.int (8207 : Int32)), (.int (8234 : Int32))])
    have hc17_23 : ¬ ((8234 : Int32) = (8207 : Int32)) := (by decide)
    refine Go.step (fun _ k => XS.icmpYes X0.here hx rfl (pc0 := 17) (pc' := 24) rfl (hb hby d2_17) rfl (feq hc17_23).2 (by decide) (by decide) k) ?_
    show Go _ _ _ _ _ _ _ s₁ (mkF m 24 #[.val (.int (8234 : Int32)), .val (.int (0 : Int32)), .unset, .unset, .unset, .unset, .unset, .unset] [])
    refine Go.step (fun _ k => XS.iconst X0.here hx rfl (hb hby d2_24) k) ?_
    show Go _ _ _ _ _ _ _ s₁ (mkF m 25 #[.val (.int (8234 : Int32)), .val (.int (0 : Int32)), .unset, .unset, .unset, .unset, .unset, .unset] [(.int (0 : Int32))])
    refine Go.step (fun _ k => XS.istoreN X0.here hx rfl (hb hby d2_25) rfl (l' := #[.val (.int (8234 : Int32)), .val (.int (0 : Int32)), .val (.int (0 : Int32)), .unset, .unset, .unset, .unset, .unset]) rfl k) ?_
    show Go _ _ _ _ _ _ _ s₁ (mkF m 26 #[.val (.int (8234 : Int32)), .val (.int (0 : Int32)), .val (.int (0 : Int32)), .unset, .unset, .unset, .unset, .unset] [])
    refine Go.step (fun _ k => XS.iloadN X0.here hx rfl (hb hby d2_26) rfl k) ?_
    show Go _ _ _ _ _ _ _ s₁ (mkF m 27 #[.val (.int (8234 : Int32)), .val (.int (0 : Int32)), .val (.int (0 : Int32)), .unset, .unset, .unset, .unset, .unset] [(.int (8234 : Int32))])
    refine Go.step (fun _ k => XS.sipush X0.here hx rfl (hb hby d2_27) k) ?_
    show Go _ _ _ _ _ _ _ s₁ (mkF m 30 #[.val (.int (8234 : Int32)), .val (.int (0 : Int32)), .val (.int (0 : Int32)), .unset, .unset, .unset, .unset, .unset] [(.int (8234 : Int32)), (.int (8234 : Int32))])
    have hc30_24 : (8234 : Int32) = (8234 : Int32) := (by decide)
    refine Go.step (fun _ k => XS.icmpNo X0.here hx rfl (hb hby d2_30) rfl (teq hc30_24).2 k) ?_
    show Go _ _ _ _ _ _ _ s₁ (mkF m 33 #[.val (.int (8234 : Int32)), .val (.int (0 : Int32)), .val (.int (0 : Int32)), .unset, .unset, .unset, .unset, .unset] [])
    refine Go.step (fun _ k => XS.iconst X0.here hx rfl (hb hby d2_33) k) ?_
    show Go _ _ _ _ _ _ _ s₁ (mkF m 34 #[.val (.int (8234 : Int32)), .val (.int (0 : Int32)), .val (.int (0 : Int32)), .unset, .unset, .unset, .unset, .unset] [(.int (1 : Int32))])
    refine Go.step (fun _ k => XS.goto X0.here hx rfl (pc0 := 34) (pc' := 38) rfl (hb hby d2_34) (by decide) (by decide) k) ?_
    show Go _ _ _ _ _ _ _ s₁ (mkF m 38 #[.val (.int (8234 : Int32)), .val (.int (0 : Int32)), .val (.int (0 : Int32)), .unset, .unset, .unset, .unset, .unset] [(.int (1 : Int32))])
    refine Go.step (fun _ k => XS.istoreN X0.here hx rfl (hb hby d2_38) rfl (l' := #[.val (.int (8234 : Int32)), .val (.int (0 : Int32)), .val (.int (0 : Int32)), .val (.int (1 : Int32)), .unset, .unset, .unset, .unset]) rfl k) ?_
    show Go _ _ _ _ _ _ _ s₁ (mkF m 39 #[.val (.int (8234 : Int32)), .val (.int (0 : Int32)), .val (.int (0 : Int32)), .val (.int (1 : Int32)), .unset, .unset, .unset, .unset] [])
    refine Go.step (fun _ k => XS.iloadN X0.here hx rfl (hb hby d2_39) rfl k) ?_
    show Go _ _ _ _ _ _ _ s₁ (mkF m 40 #[.val (.int (8234 : Int32)), .val (.int (0 : Int32)), .val (.int (0 : Int32)), .val (.int (1 : Int32)), .unset, .unset, .unset, .unset] [(.int (8234 : Int32))])
    refine Go.step (fun _ k => XS.sipush X0.here hx rfl (hb hby d2_40) k) ?_
    show Go _ _ _ _ _ _ _ s₁ (mkF m 43 #[.val (.int (8234 : Int32)), .val (.int (0 : Int32)), .val (.int (0 : Int32)), .val (.int (1 : Int32)), .unset, .unset, .unset, .unset] [(.int (8235 : Int32)), (.int (8234 : Int32))])
    have hc43_25 : ¬ ((8234 : Int32) = (8235 : Int32)) := (by decide)
    refine Go.step (fun _ k => XS.icmpYes X0.here hx rfl (pc0 := 43) (pc' := 50) rfl (hb hby d2_43) rfl (feq hc43_25).2 (by decide) (by decide) k) ?_
    show Go _ _ _ _ _ _ _ s₁ (mkF m 50 #[.val (.int (8234 : Int32)), .val (.int (0 : Int32)), .val (.int (0 : Int32)), .val (.int (1 : Int32)), .unset, .unset, .unset, .unset] [])
    refine Go.step (fun _ k => XS.iconst X0.here hx rfl (hb hby d2_50) k) ?_
    show Go _ _ _ _ _ _ _ s₁ (mkF m 51 #[.val (.int (8234 : Int32)), .val (.int (0 : Int32)), .val (.int (0 : Int32)), .val (.int (1 : Int32)), .unset, .unset, .unset, .unset] [(.int (0 : Int32))])
    refine Go.step (fun _ k => XS.istore X0.here hx rfl (hb hby d2_51) rfl (l' := #[.val (.int (8234 : Int32)), .val (.int (0 : Int32)), .val (.int (0 : Int32)), .val (.int (1 : Int32)), .val (.int (0 : Int32)), .unset, .unset, .unset]) rfl k) ?_
    show Go _ _ _ _ _ _ _ s₁ (mkF m 53 #[.val (.int (8234 : Int32)), .val (.int (0 : Int32)), .val (.int (0 : Int32)), .val (.int (1 : Int32)), .val (.int (0 : Int32)), .unset, .unset, .unset] [])
    refine Go.step (fun _ k => XS.iloadN X0.here hx rfl (hb hby d2_53) rfl k) ?_
    show Go _ _ _ _ _ _ _ s₁ (mkF m 54 #[.val (.int (8234 : Int32)), .val (.int (0 : Int32)), .val (.int (0 : Int32)), .val (.int (1 : Int32)), .val (.int (0 : Int32)), .unset, .unset, .unset] [(.int (8234 : Int32))])
    refine Go.step (fun _ k => XS.sipush X0.here hx rfl (hb hby d2_54) k) ?_
    show Go _ _ _ _ _ _ _ s₁ (mkF m 57 #[.val (.int (8234 : Int32)), .val (.int (0 : Int32)), .val (.int (0 : Int32)), .val (.int (1 : Int32)), .val (.int (0 : Int32)), .unset, .unset, .unset] [(.int (8236 : Int32)), (.int (8234 : Int32))])
    have hc57_26 : ¬ ((8234 : Int32) = (8236 : Int32)) := (by decide)
    refine Go.step (fun _ k => XS.icmpYes X0.here hx rfl (pc0 := 57) (pc' := 64) rfl (hb hby d2_57) rfl (feq hc57_26).2 (by decide) (by decide) k) ?_
    show Go _ _ _ _ _ _ _ s₁ (mkF m 64 #[.val (.int (8234 : Int32)), .val (.int (0 : Int32)), .val (.int (0 : Int32)), .val (.int (1 : Int32)), .val (.int (0 : Int32)), .unset, .unset, .unset] [])
    refine Go.step (fun _ k => XS.iconst X0.here hx rfl (hb hby d2_64) k) ?_
    show Go _ _ _ _ _ _ _ s₁ (mkF m 65 #[.val (.int (8234 : Int32)), .val (.int (0 : Int32)), .val (.int (0 : Int32)), .val (.int (1 : Int32)), .val (.int (0 : Int32)), .unset, .unset, .unset] [(.int (0 : Int32))])
    refine Go.step (fun _ k => XS.istore X0.here hx rfl (hb hby d2_65) rfl (l' := #[.val (.int (8234 : Int32)), .val (.int (0 : Int32)), .val (.int (0 : Int32)), .val (.int (1 : Int32)), .val (.int (0 : Int32)), .val (.int (0 : Int32)), .unset, .unset]) rfl k) ?_
    show Go _ _ _ _ _ _ _ s₁ (mkF m 67 #[.val (.int (8234 : Int32)), .val (.int (0 : Int32)), .val (.int (0 : Int32)), .val (.int (1 : Int32)), .val (.int (0 : Int32)), .val (.int (0 : Int32)), .unset, .unset] [])
    refine Go.step (fun _ k => XS.iloadN X0.here hx rfl (hb hby d2_67) rfl k) ?_
    show Go _ _ _ _ _ _ _ s₁ (mkF m 68 #[.val (.int (8234 : Int32)), .val (.int (0 : Int32)), .val (.int (0 : Int32)), .val (.int (1 : Int32)), .val (.int (0 : Int32)), .val (.int (0 : Int32)), .unset, .unset] [(.int (8234 : Int32))])
    refine Go.step (fun _ k => XS.sipush X0.here hx rfl (hb hby d2_68) k) ?_
    show Go _ _ _ _ _ _ _ s₁ (mkF m 71 #[.val (.int (8234 : Int32)), .val (.int (0 : Int32)), .val (.int (0 : Int32)), .val (.int (1 : Int32)), .val (.int (0 : Int32)), .val (.int (0 : Int32)), .unset, .unset] [(.int (8237 : Int32)), (.int (8234 : Int32))])
    have hc71_27 : ¬ ((8234 : Int32) = (8237 : Int32)) := (by decide)
    refine Go.step (fun _ k => XS.icmpYes X0.here hx rfl (pc0 := 71) (pc' := 78) rfl (hb hby d2_71) rfl (feq hc71_27).2 (by decide) (by decide) k) ?_
    show Go _ _ _ _ _ _ _ s₁ (mkF m 78 #[.val (.int (8234 : Int32)), .val (.int (0 : Int32)), .val (.int (0 : Int32)), .val (.int (1 : Int32)), .val (.int (0 : Int32)), .val (.int (0 : Int32)), .unset, .unset] [])
    refine Go.step (fun _ k => XS.iconst X0.here hx rfl (hb hby d2_78) k) ?_
    show Go _ _ _ _ _ _ _ s₁ (mkF m 79 #[.val (.int (8234 : Int32)), .val (.int (0 : Int32)), .val (.int (0 : Int32)), .val (.int (1 : Int32)), .val (.int (0 : Int32)), .val (.int (0 : Int32)), .unset, .unset] [(.int (0 : Int32))])
    refine Go.step (fun _ k => XS.istore X0.here hx rfl (hb hby d2_79) rfl (l' := #[.val (.int (8234 : Int32)), .val (.int (0 : Int32)), .val (.int (0 : Int32)), .val (.int (1 : Int32)), .val (.int (0 : Int32)), .val (.int (0 : Int32)), .val (.int (0 : Int32)), .unset]) rfl k) ?_
    show Go _ _ _ _ _ _ _ s₁ (mkF m 81 #[.val (.int (8234 : Int32)), .val (.int (0 : Int32)), .val (.int (0 : Int32)), .val (.int (1 : Int32)), .val (.int (0 : Int32)), .val (.int (0 : Int32)), .val (.int (0 : Int32)), .unset] [])
    refine Go.step (fun _ k => XS.iloadN X0.here hx rfl (hb hby d2_81) rfl k) ?_
    show Go _ _ _ _ _ _ _ s₁ (mkF m 82 #[.val (.int (8234 : Int32)), .val (.int (0 : Int32)), .val (.int (0 : Int32)), .val (.int (1 : Int32)), .val (.int (0 : Int32)), .val (.int (0 : Int32)), .val (.int (0 : Int32)), .unset] [(.int (8234 : Int32))])
    refine Go.step (fun _ k => XS.sipush X0.here hx rfl (hb hby d2_82) k) ?_
    show Go _ _ _ _ _ _ _ s₁ (mkF m 85 #[.val (.int (8234 : Int32)), .val (.int (0 : Int32)), .val (.int (0 : Int32)), .val (.int (1 : Int32)), .val (.int (0 : Int32)), .val (.int (0 : Int32)), .val (.int (0 : Int32)), .unset] [(.int (8238 : Int32)), (.int (8234 : Int32))])
    have hc85_28 : ¬ ((8234 : Int32) = (8238 : Int32)) := (by decide)
    refine Go.step (fun _ k => XS.icmpYes X0.here hx rfl (pc0 := 85) (pc' := 92) rfl (hb hby d2_85) rfl (feq hc85_28).2 (by decide) (by decide) k) ?_
    show Go _ _ _ _ _ _ _ s₁ (mkF m 92 #[.val (.int (8234 : Int32)), .val (.int (0 : Int32)), .val (.int (0 : Int32)), .val (.int (1 : Int32)), .val (.int (0 : Int32)), .val (.int (0 : Int32)), .val (.int (0 : Int32)), .unset] [])
    refine Go.step (fun _ k => XS.iconst X0.here hx rfl (hb hby d2_92) k) ?_
    show Go _ _ _ _ _ _ _ s₁ (mkF m 93 #[.val (.int (8234 : Int32)), .val (.int (0 : Int32)), .val (.int (0 : Int32)), .val (.int (1 : Int32)), .val (.int (0 : Int32)), .val (.int (0 : Int32)), .val (.int (0 : Int32)), .unset] [(.int (0 : Int32))])
    refine Go.step (fun _ k => XS.istore X0.here hx rfl (hb hby d2_93) rfl (l' := #[.val (.int (8234 : Int32)), .val (.int (0 : Int32)), .val (.int (0 : Int32)), .val (.int (1 : Int32)), .val (.int (0 : Int32)), .val (.int (0 : Int32)), .val (.int (0 : Int32)), .val (.int (0 : Int32))]) rfl k) ?_
    show Go _ _ _ _ _ _ _ s₁ (mkF m 95 #[.val (.int (8234 : Int32)), .val (.int (0 : Int32)), .val (.int (0 : Int32)), .val (.int (1 : Int32)), .val (.int (0 : Int32)), .val (.int (0 : Int32)), .val (.int (0 : Int32)), .val (.int (0 : Int32))] [])
    refine Go.step (fun _ k => XS.iloadN X0.here hx rfl (hb hby d2_95) rfl k) ?_
    show Go _ _ _ _ _ _ _ s₁ (mkF m 96 #[.val (.int (8234 : Int32)), .val (.int (0 : Int32)), .val (.int (0 : Int32)), .val (.int (1 : Int32)), .val (.int (0 : Int32)), .val (.int (0 : Int32)), .val (.int (0 : Int32)), .val (.int (0 : Int32))] [(.int (0 : Int32))])
    have hc96_29 : (0 : Int32) = (0 : Int32) := (by decide)
    refine Go.step (fun _ k => XS.ifNo X0.here hx rfl (hb hby d2_96) rfl ((if0 _ _).trans (teq hc96_29).2) k) ?_
    show Go _ _ _ _ _ _ _ s₁ (mkF m 99 #[.val (.int (8234 : Int32)), .val (.int (0 : Int32)), .val (.int (0 : Int32)), .val (.int (1 : Int32)), .val (.int (0 : Int32)), .val (.int (0 : Int32)), .val (.int (0 : Int32)), .val (.int (0 : Int32))] [])
    refine Go.step (fun _ k => XS.iloadN X0.here hx rfl (hb hby d2_99) rfl k) ?_
    show Go _ _ _ _ _ _ _ s₁ (mkF m 100 #[.val (.int (8234 : Int32)), .val (.int (0 : Int32)), .val (.int (0 : Int32)), .val (.int (1 : Int32)), .val (.int (0 : Int32)), .val (.int (0 : Int32)), .val (.int (0 : Int32)), .val (.int (0 : Int32))] [(.int (0 : Int32))])
    have hc100_30 : (0 : Int32) = (0 : Int32) := (by decide)
    refine Go.step (fun _ k => XS.ifNo X0.here hx rfl (hb hby d2_100) rfl ((if0 _ _).trans (teq hc100_30).2) k) ?_
    show Go _ _ _ _ _ _ _ s₁ (mkF m 103 #[.val (.int (8234 : Int32)), .val (.int (0 : Int32)), .val (.int (0 : Int32)), .val (.int (1 : Int32)), .val (.int (0 : Int32)), .val (.int (0 : Int32)), .val (.int (0 : Int32)), .val (.int (0 : Int32))] [])
    refine Go.step (fun _ k => XS.iloadN X0.here hx rfl (hb hby d2_103) rfl k) ?_
    show Go _ _ _ _ _ _ _ s₁ (mkF m 104 #[.val (.int (8234 : Int32)), .val (.int (0 : Int32)), .val (.int (0 : Int32)), .val (.int (1 : Int32)), .val (.int (0 : Int32)), .val (.int (0 : Int32)), .val (.int (0 : Int32)), .val (.int (0 : Int32))] [(.int (1 : Int32))])
    have hc104_31 : ¬ ((1 : Int32) = (0 : Int32)) := (by decide)
    refine Go.step (fun _ k => XS.ifYes X0.here hx rfl (pc0 := 104) (pc' := 127) rfl (hb hby d2_104) rfl ((if0 _ _).trans (feq hc104_31).2) (by decide) (by decide) k) ?_
    show Go _ _ _ _ _ _ _ s₁ (mkF m 127 #[.val (.int (8234 : Int32)), .val (.int (0 : Int32)), .val (.int (0 : Int32)), .val (.int (1 : Int32)), .val (.int (0 : Int32)), .val (.int (0 : Int32)), .val (.int (0 : Int32)), .val (.int (0 : Int32))] [])
    refine Go.step (fun _ k => XS.iconst X0.here hx rfl (hb hby d2_127) k) ?_
    show Go _ _ _ _ _ _ _ s₁ (mkF m 128 #[.val (.int (8234 : Int32)), .val (.int (0 : Int32)), .val (.int (0 : Int32)), .val (.int (1 : Int32)), .val (.int (0 : Int32)), .val (.int (0 : Int32)), .val (.int (0 : Int32)), .val (.int (0 : Int32))] [(.int (1 : Int32))])
    refine Go.step (fun _ k => XS.goto X0.here hx rfl (pc0 := 128) (pc' := 132) rfl (hb hby d2_128) (by decide) (by decide) k) ?_
    show Go _ _ _ _ _ _ _ s₁ (mkF m 132 #[.val (.int (8234 : Int32)), .val (.int (0 : Int32)), .val (.int (0 : Int32)), .val (.int (1 : Int32)), .val (.int (0 : Int32)), .val (.int (0 : Int32)), .val (.int (0 : Int32)), .val (.int (0 : Int32))] [(.int (1 : Int32))])
    exact Go.retN X0 hx (t := .boolean) hret hlk (by simp) (hb hby d2_132) e0 (by decide) (by decide) ⟨rfl, N0, rfl⟩
  by_cases hk8235 : ci = 8235
  · subst hk8235
    show Go _ _ _ _ _ _ _ s₁ (mkF m 0 #[.val (.int (8235 : Int32)), .unset, .unset, .unset, .unset, .unset, .unset, .unset] [])
    refine Go.step (fun _ k => XS.iloadN X0.here hx rfl (hb hby d2_0) rfl k) ?_
    show Go _ _ _ _ _ _ _ s₁ (mkF m 1 #[.val (.int (8235 : Int32)), .unset, .unset, .unset, .unset, .unset, .unset, .unset] [(.int (8235 : Int32))])
    refine Go.step (fun _ k => XS.sipush X0.here hx rfl (hb hby d2_1) k) ?_
    show Go _ _ _ _ _ _ _ s₁ (mkF m 4 #[.val (.int (8235 : Int32)), .unset, .unset, .unset, .unset, .unset, .unset, .unset] [(.int (8206 : Int32)), (.int (8235 : Int32))])
    have hc4_32 : ¬ ((8235 : Int32) = (8206 : Int32)) := (by decide)
    refine Go.step (fun _ k => XS.icmpYes X0.here hx rfl (pc0 := 4) (pc' := 11) rfl (hb hby d2_4) rfl (feq hc4_32).2 (by decide) (by decide) k) ?_
    show Go _ _ _ _ _ _ _ s₁ (mkF m 11 #[.val (.int (8235 : Int32)), .unset, .unset, .unset, .unset, .unset, .unset, .unset] [])
    refine Go.step (fun _ k => XS.iconst X0.here hx rfl (hb hby d2_11) k) ?_
    show Go _ _ _ _ _ _ _ s₁ (mkF m 12 #[.val (.int (8235 : Int32)), .unset, .unset, .unset, .unset, .unset, .unset, .unset] [(.int (0 : Int32))])
    refine Go.step (fun _ k => XS.istoreN X0.here hx rfl (hb hby d2_12) rfl (l' := #[.val (.int (8235 : Int32)), .val (.int (0 : Int32)), .unset, .unset, .unset, .unset, .unset, .unset]) rfl k) ?_
    show Go _ _ _ _ _ _ _ s₁ (mkF m 13 #[.val (.int (8235 : Int32)), .val (.int (0 : Int32)), .unset, .unset, .unset, .unset, .unset, .unset] [])
    refine Go.step (fun _ k => XS.iloadN X0.here hx rfl (hb hby d2_13) rfl k) ?_
    show Go _ _ _ _ _ _ _ s₁ (mkF m 14 #[.val (.int (8235 : Int32)), .val (.int (0 : Int32)), .unset, .unset, .unset, .unset, .unset, .unset] [(.int (8235 : Int32))])
    refine Go.step (fun _ k => XS.sipush X0.here hx rfl (hb hby d2_14) k) ?_
    show Go _ _ _ _ _ _ _ s₁ (mkF m 17 #[.val (.int (8235 : Int32)), .val (.int (0 : Int32)), .unset, .unset, .unset, .unset, .unset, .unset] [(.int (8207 : Int32)), (.int (8235 : Int32))])
    have hc17_33 : ¬ ((8235 : Int32) = (8207 : Int32)) := (by decide)
    refine Go.step (fun _ k => XS.icmpYes X0.here hx rfl (pc0 := 17) (pc' := 24) rfl (hb hby d2_17) rfl (feq hc17_33).2 (by decide) (by decide) k) ?_
    show Go _ _ _ _ _ _ _ s₁ (mkF m 24 #[.val (.int (8235 : Int32)), .val (.int (0 : Int32)), .unset, .unset, .unset, .unset, .unset, .unset] [])
    refine Go.step (fun _ k => XS.iconst X0.here hx rfl (hb hby d2_24) k) ?_
    show Go _ _ _ _ _ _ _ s₁ (mkF m 25 #[.val (.int (8235 : Int32)), .val (.int (0 : Int32)), .unset, .unset, .unset, .unset, .unset, .unset] [(.int (0 : Int32))])
    refine Go.step (fun _ k => XS.istoreN X0.here hx rfl (hb hby d2_25) rfl (l' := #[.val (.int (8235 : Int32)), .val (.int (0 : Int32)), .val (.int (0 : Int32)), .unset, .unset, .unset, .unset, .unset]) rfl k) ?_
    show Go _ _ _ _ _ _ _ s₁ (mkF m 26 #[.val (.int (8235 : Int32)), .val (.int (0 : Int32)), .val (.int (0 : Int32)), .unset, .unset, .unset, .unset, .unset] [])
    refine Go.step (fun _ k => XS.iloadN X0.here hx rfl (hb hby d2_26) rfl k) ?_
    show Go _ _ _ _ _ _ _ s₁ (mkF m 27 #[.val (.int (8235 : Int32)), .val (.int (0 : Int32)), .val (.int (0 : Int32)), .unset, .unset, .unset, .unset, .unset] [(.int (8235 : Int32))])
    refine Go.step (fun _ k => XS.sipush X0.here hx rfl (hb hby d2_27) k) ?_
    show Go _ _ _ _ _ _ _ s₁ (mkF m 30 #[.val (.int (8235 : Int32)), .val (.int (0 : Int32)), .val (.int (0 : Int32)), .unset, .unset, .unset, .unset, .unset] [(.int (8234 : Int32)), (.int (8235 : Int32))])
    have hc30_34 : ¬ ((8235 : Int32) = (8234 : Int32)) := (by decide)
    refine Go.step (fun _ k => XS.icmpYes X0.here hx rfl (pc0 := 30) (pc' := 37) rfl (hb hby d2_30) rfl (feq hc30_34).2 (by decide) (by decide) k) ?_
    show Go _ _ _ _ _ _ _ s₁ (mkF m 37 #[.val (.int (8235 : Int32)), .val (.int (0 : Int32)), .val (.int (0 : Int32)), .unset, .unset, .unset, .unset, .unset] [])
    refine Go.step (fun _ k => XS.iconst X0.here hx rfl (hb hby d2_37) k) ?_
    show Go _ _ _ _ _ _ _ s₁ (mkF m 38 #[.val (.int (8235 : Int32)), .val (.int (0 : Int32)), .val (.int (0 : Int32)), .unset, .unset, .unset, .unset, .unset] [(.int (0 : Int32))])
    refine Go.step (fun _ k => XS.istoreN X0.here hx rfl (hb hby d2_38) rfl (l' := #[.val (.int (8235 : Int32)), .val (.int (0 : Int32)), .val (.int (0 : Int32)), .val (.int (0 : Int32)), .unset, .unset, .unset, .unset]) rfl k) ?_
    show Go _ _ _ _ _ _ _ s₁ (mkF m 39 #[.val (.int (8235 : Int32)), .val (.int (0 : Int32)), .val (.int (0 : Int32)), .val (.int (0 : Int32)), .unset, .unset, .unset, .unset] [])
    refine Go.step (fun _ k => XS.iloadN X0.here hx rfl (hb hby d2_39) rfl k) ?_
    show Go _ _ _ _ _ _ _ s₁ (mkF m 40 #[.val (.int (8235 : Int32)), .val (.int (0 : Int32)), .val (.int (0 : Int32)), .val (.int (0 : Int32)), .unset, .unset, .unset, .unset] [(.int (8235 : Int32))])
    refine Go.step (fun _ k => XS.sipush X0.here hx rfl (hb hby d2_40) k) ?_
    show Go _ _ _ _ _ _ _ s₁ (mkF m 43 #[.val (.int (8235 : Int32)), .val (.int (0 : Int32)), .val (.int (0 : Int32)), .val (.int (0 : Int32)), .unset, .unset, .unset, .unset] [(.int (8235 : Int32)), (.int (8235 : Int32))])
    have hc43_35 : (8235 : Int32) = (8235 : Int32) := (by decide)
    refine Go.step (fun _ k => XS.icmpNo X0.here hx rfl (hb hby d2_43) rfl (teq hc43_35).2 k) ?_
    show Go _ _ _ _ _ _ _ s₁ (mkF m 46 #[.val (.int (8235 : Int32)), .val (.int (0 : Int32)), .val (.int (0 : Int32)), .val (.int (0 : Int32)), .unset, .unset, .unset, .unset] [])
    refine Go.step (fun _ k => XS.iconst X0.here hx rfl (hb hby d2_46) k) ?_
    show Go _ _ _ _ _ _ _ s₁ (mkF m 47 #[.val (.int (8235 : Int32)), .val (.int (0 : Int32)), .val (.int (0 : Int32)), .val (.int (0 : Int32)), .unset, .unset, .unset, .unset] [(.int (1 : Int32))])
    refine Go.step (fun _ k => XS.goto X0.here hx rfl (pc0 := 47) (pc' := 51) rfl (hb hby d2_47) (by decide) (by decide) k) ?_
    show Go _ _ _ _ _ _ _ s₁ (mkF m 51 #[.val (.int (8235 : Int32)), .val (.int (0 : Int32)), .val (.int (0 : Int32)), .val (.int (0 : Int32)), .unset, .unset, .unset, .unset] [(.int (1 : Int32))])
    refine Go.step (fun _ k => XS.istore X0.here hx rfl (hb hby d2_51) rfl (l' := #[.val (.int (8235 : Int32)), .val (.int (0 : Int32)), .val (.int (0 : Int32)), .val (.int (0 : Int32)), .val (.int (1 : Int32)), .unset, .unset, .unset]) rfl k) ?_
    show Go _ _ _ _ _ _ _ s₁ (mkF m 53 #[.val (.int (8235 : Int32)), .val (.int (0 : Int32)), .val (.int (0 : Int32)), .val (.int (0 : Int32)), .val (.int (1 : Int32)), .unset, .unset, .unset] [])
    refine Go.step (fun _ k => XS.iloadN X0.here hx rfl (hb hby d2_53) rfl k) ?_
    show Go _ _ _ _ _ _ _ s₁ (mkF m 54 #[.val (.int (8235 : Int32)), .val (.int (0 : Int32)), .val (.int (0 : Int32)), .val (.int (0 : Int32)), .val (.int (1 : Int32)), .unset, .unset, .unset] [(.int (8235 : Int32))])
    refine Go.step (fun _ k => XS.sipush X0.here hx rfl (hb hby d2_54) k) ?_
    show Go _ _ _ _ _ _ _ s₁ (mkF m 57 #[.val (.int (8235 : Int32)), .val (.int (0 : Int32)), .val (.int (0 : Int32)), .val (.int (0 : Int32)), .val (.int (1 : Int32)), .unset, .unset, .unset] [(.int (8236 : Int32)), (.int (8235 : Int32))])
    have hc57_36 : ¬ ((8235 : Int32) = (8236 : Int32)) := (by decide)
    refine Go.step (fun _ k => XS.icmpYes X0.here hx rfl (pc0 := 57) (pc' := 64) rfl (hb hby d2_57) rfl (feq hc57_36).2 (by decide) (by decide) k) ?_
    show Go _ _ _ _ _ _ _ s₁ (mkF m 64 #[.val (.int (8235 : Int32)), .val (.int (0 : Int32)), .val (.int (0 : Int32)), .val (.int (0 : Int32)), .val (.int (1 : Int32)), .unset, .unset, .unset] [])
    refine Go.step (fun _ k => XS.iconst X0.here hx rfl (hb hby d2_64) k) ?_
    show Go _ _ _ _ _ _ _ s₁ (mkF m 65 #[.val (.int (8235 : Int32)), .val (.int (0 : Int32)), .val (.int (0 : Int32)), .val (.int (0 : Int32)), .val (.int (1 : Int32)), .unset, .unset, .unset] [(.int (0 : Int32))])
    refine Go.step (fun _ k => XS.istore X0.here hx rfl (hb hby d2_65) rfl (l' := #[.val (.int (8235 : Int32)), .val (.int (0 : Int32)), .val (.int (0 : Int32)), .val (.int (0 : Int32)), .val (.int (1 : Int32)), .val (.int (0 : Int32)), .unset, .unset]) rfl k) ?_
    show Go _ _ _ _ _ _ _ s₁ (mkF m 67 #[.val (.int (8235 : Int32)), .val (.int (0 : Int32)), .val (.int (0 : Int32)), .val (.int (0 : Int32)), .val (.int (1 : Int32)), .val (.int (0 : Int32)), .unset, .unset] [])
    refine Go.step (fun _ k => XS.iloadN X0.here hx rfl (hb hby d2_67) rfl k) ?_
    show Go _ _ _ _ _ _ _ s₁ (mkF m 68 #[.val (.int (8235 : Int32)), .val (.int (0 : Int32)), .val (.int (0 : Int32)), .val (.int (0 : Int32)), .val (.int (1 : Int32)), .val (.int (0 : Int32)), .unset, .unset] [(.int (8235 : Int32))])
    refine Go.step (fun _ k => XS.sipush X0.here hx rfl (hb hby d2_68) k) ?_
    show Go _ _ _ _ _ _ _ s₁ (mkF m 71 #[.val (.int (8235 : Int32)), .val (.int (0 : Int32)), .val (.int (0 : Int32)), .val (.int (0 : Int32)), .val (.int (1 : Int32)), .val (.int (0 : Int32)), .unset, .unset] [(.int (8237 : Int32)), (.int (8235 : Int32))])
    have hc71_37 : ¬ ((8235 : Int32) = (8237 : Int32)) := (by decide)
    refine Go.step (fun _ k => XS.icmpYes X0.here hx rfl (pc0 := 71) (pc' := 78) rfl (hb hby d2_71) rfl (feq hc71_37).2 (by decide) (by decide) k) ?_
    show Go _ _ _ _ _ _ _ s₁ (mkF m 78 #[.val (.int (8235 : Int32)), .val (.int (0 : Int32)), .val (.int (0 : Int32)), .val (.int (0 : Int32)), .val (.int (1 : Int32)), .val (.int (0 : Int32)), .unset, .unset] [])
    refine Go.step (fun _ k => XS.iconst X0.here hx rfl (hb hby d2_78) k) ?_
    show Go _ _ _ _ _ _ _ s₁ (mkF m 79 #[.val (.int (8235 : Int32)), .val (.int (0 : Int32)), .val (.int (0 : Int32)), .val (.int (0 : Int32)), .val (.int (1 : Int32)), .val (.int (0 : Int32)), .unset, .unset] [(.int (0 : Int32))])
    refine Go.step (fun _ k => XS.istore X0.here hx rfl (hb hby d2_79) rfl (l' := #[.val (.int (8235 : Int32)), .val (.int (0 : Int32)), .val (.int (0 : Int32)), .val (.int (0 : Int32)), .val (.int (1 : Int32)), .val (.int (0 : Int32)), .val (.int (0 : Int32)), .unset]) rfl k) ?_
    show Go _ _ _ _ _ _ _ s₁ (mkF m 81 #[.val (.int (8235 : Int32)), .val (.int (0 : Int32)), .val (.int (0 : Int32)), .val (.int (0 : Int32)), .val (.int (1 : Int32)), .val (.int (0 : Int32)), .val (.int (0 : Int32)), .unset] [])
    refine Go.step (fun _ k => XS.iloadN X0.here hx rfl (hb hby d2_81) rfl k) ?_
    show Go _ _ _ _ _ _ _ s₁ (mkF m 82 #[.val (.int (8235 : Int32)), .val (.int (0 : Int32)), .val (.int (0 : Int32)), .val (.int (0 : Int32)), .val (.int (1 : Int32)), .val (.int (0 : Int32)), .val (.int (0 : Int32)), .unset] [(.int (8235 : Int32))])
    refine Go.step (fun _ k => XS.sipush X0.here hx rfl (hb hby d2_82) k) ?_
    show Go _ _ _ _ _ _ _ s₁ (mkF m 85 #[.val (.int (8235 : Int32)), .val (.int (0 : Int32)), .val (.int (0 : Int32)), .val (.int (0 : Int32)), .val (.int (1 : Int32)), .val (.int (0 : Int32)), .val (.int (0 : Int32)), .unset] [(.int (8238 : Int32)), (.int (8235 : Int32))])
    have hc85_38 : ¬ ((8235 : Int32) = (8238 : Int32)) := (by decide)
    refine Go.step (fun _ k => XS.icmpYes X0.here hx rfl (pc0 := 85) (pc' := 92) rfl (hb hby d2_85) rfl (feq hc85_38).2 (by decide) (by decide) k) ?_
    show Go _ _ _ _ _ _ _ s₁ (mkF m 92 #[.val (.int (8235 : Int32)), .val (.int (0 : Int32)), .val (.int (0 : Int32)), .val (.int (0 : Int32)), .val (.int (1 : Int32)), .val (.int (0 : Int32)), .val (.int (0 : Int32)), .unset] [])
    refine Go.step (fun _ k => XS.iconst X0.here hx rfl (hb hby d2_92) k) ?_
    show Go _ _ _ _ _ _ _ s₁ (mkF m 93 #[.val (.int (8235 : Int32)), .val (.int (0 : Int32)), .val (.int (0 : Int32)), .val (.int (0 : Int32)), .val (.int (1 : Int32)), .val (.int (0 : Int32)), .val (.int (0 : Int32)), .unset] [(.int (0 : Int32))])
    refine Go.step (fun _ k => XS.istore X0.here hx rfl (hb hby d2_93) rfl (l' := #[.val (.int (8235 : Int32)), .val (.int (0 : Int32)), .val (.int (0 : Int32)), .val (.int (0 : Int32)), .val (.int (1 : Int32)), .val (.int (0 : Int32)), .val (.int (0 : Int32)), .val (.int (0 : Int32))]) rfl k) ?_
    show Go _ _ _ _ _ _ _ s₁ (mkF m 95 #[.val (.int (8235 : Int32)), .val (.int (0 : Int32)), .val (.int (0 : Int32)), .val (.int (0 : Int32)), .val (.int (1 : Int32)), .val (.int (0 : Int32)), .val (.int (0 : Int32)), .val (.int (0 : Int32))] [])
    refine Go.step (fun _ k => XS.iloadN X0.here hx rfl (hb hby d2_95) rfl k) ?_
    show Go _ _ _ _ _ _ _ s₁ (mkF m 96 #[.val (.int (8235 : Int32)), .val (.int (0 : Int32)), .val (.int (0 : Int32)), .val (.int (0 : Int32)), .val (.int (1 : Int32)), .val (.int (0 : Int32)), .val (.int (0 : Int32)), .val (.int (0 : Int32))] [(.int (0 : Int32))])
    have hc96_39 : (0 : Int32) = (0 : Int32) := (by decide)
    refine Go.step (fun _ k => XS.ifNo X0.here hx rfl (hb hby d2_96) rfl ((if0 _ _).trans (teq hc96_39).2) k) ?_
    show Go _ _ _ _ _ _ _ s₁ (mkF m 99 #[.val (.int (8235 : Int32)), .val (.int (0 : Int32)), .val (.int (0 : Int32)), .val (.int (0 : Int32)), .val (.int (1 : Int32)), .val (.int (0 : Int32)), .val (.int (0 : Int32)), .val (.int (0 : Int32))] [])
    refine Go.step (fun _ k => XS.iloadN X0.here hx rfl (hb hby d2_99) rfl k) ?_
    show Go _ _ _ _ _ _ _ s₁ (mkF m 100 #[.val (.int (8235 : Int32)), .val (.int (0 : Int32)), .val (.int (0 : Int32)), .val (.int (0 : Int32)), .val (.int (1 : Int32)), .val (.int (0 : Int32)), .val (.int (0 : Int32)), .val (.int (0 : Int32))] [(.int (0 : Int32))])
    have hc100_40 : (0 : Int32) = (0 : Int32) := (by decide)
    refine Go.step (fun _ k => XS.ifNo X0.here hx rfl (hb hby d2_100) rfl ((if0 _ _).trans (teq hc100_40).2) k) ?_
    show Go _ _ _ _ _ _ _ s₁ (mkF m 103 #[.val (.int (8235 : Int32)), .val (.int (0 : Int32)), .val (.int (0 : Int32)), .val (.int (0 : Int32)), .val (.int (1 : Int32)), .val (.int (0 : Int32)), .val (.int (0 : Int32)), .val (.int (0 : Int32))] [])
    refine Go.step (fun _ k => XS.iloadN X0.here hx rfl (hb hby d2_103) rfl k) ?_
    show Go _ _ _ _ _ _ _ s₁ (mkF m 104 #[.val (.int (8235 : Int32)), .val (.int (0 : Int32)), .val (.int (0 : Int32)), .val (.int (0 : Int32)), .val (.int (1 : Int32)), .val (.int (0 : Int32)), .val (.int (0 : Int32)), .val (.int (0 : Int32))] [(.int (0 : Int32))])
    have hc104_41 : (0 : Int32) = (0 : Int32) := (by decide)
    refine Go.step (fun _ k => XS.ifNo X0.here hx rfl (hb hby d2_104) rfl ((if0 _ _).trans (teq hc104_41).2) k) ?_
    show Go _ _ _ _ _ _ _ s₁ (mkF m 107 #[.val (.int (8235 : Int32)), .val (.int (0 : Int32)), .val (.int (0 : Int32)), .val (.int (0 : Int32)), .val (.int (1 : Int32)), .val (.int (0 : Int32)), .val (.int (0 : Int32)), .val (.int (0 : Int32))] [])
    refine Go.step (fun _ k => XS.iload X0.here hx rfl (hb hby d2_107) rfl k) ?_
    show Go _ _ _ _ _ _ _ s₁ (mkF m 109 #[.val (.int (8235 : Int32)), .val (.int (0 : Int32)), .val (.int (0 : Int32)), .val (.int (0 : Int32)), .val (.int (1 : Int32)), .val (.int (0 : Int32)), .val (.int (0 : Int32)), .val (.int (0 : Int32))] [(.int (1 : Int32))])
    have hc109_42 : ¬ ((1 : Int32) = (0 : Int32)) := (by decide)
    refine Go.step (fun _ k => XS.ifYes X0.here hx rfl (pc0 := 109) (pc' := 127) rfl (hb hby d2_109) rfl ((if0 _ _).trans (feq hc109_42).2) (by decide) (by decide) k) ?_
    show Go _ _ _ _ _ _ _ s₁ (mkF m 127 #[.val (.int (8235 : Int32)), .val (.int (0 : Int32)), .val (.int (0 : Int32)), .val (.int (0 : Int32)), .val (.int (1 : Int32)), .val (.int (0 : Int32)), .val (.int (0 : Int32)), .val (.int (0 : Int32))] [])
    refine Go.step (fun _ k => XS.iconst X0.here hx rfl (hb hby d2_127) k) ?_
    show Go _ _ _ _ _ _ _ s₁ (mkF m 128 #[.val (.int (8235 : Int32)), .val (.int (0 : Int32)), .val (.int (0 : Int32)), .val (.int (0 : Int32)), .val (.int (1 : Int32)), .val (.int (0 : Int32)), .val (.int (0 : Int32)), .val (.int (0 : Int32))] [(.int (1 : Int32))])
    refine Go.step (fun _ k => XS.goto X0.here hx rfl (pc0 := 128) (pc' := 132) rfl (hb hby d2_128) (by decide) (by decide) k) ?_
    show Go _ _ _ _ _ _ _ s₁ (mkF m 132 #[.val (.int (8235 : Int32)), .val (.int (0 : Int32)), .val (.int (0 : Int32)), .val (.int (0 : Int32)), .val (.int (1 : Int32)), .val (.int (0 : Int32)), .val (.int (0 : Int32)), .val (.int (0 : Int32))] [(.int (1 : Int32))])
    exact Go.retN X0 hx (t := .boolean) hret hlk (by simp) (hb hby d2_132) e0 (by decide) (by decide) ⟨rfl, N0, rfl⟩
  by_cases hk8236 : ci = 8236
  · subst hk8236
    show Go _ _ _ _ _ _ _ s₁ (mkF m 0 #[.val (.int (8236 : Int32)), .unset, .unset, .unset, .unset, .unset, .unset, .unset] [])
    refine Go.step (fun _ k => XS.iloadN X0.here hx rfl (hb hby d2_0) rfl k) ?_
    show Go _ _ _ _ _ _ _ s₁ (mkF m 1 #[.val (.int (8236 : Int32)), .unset, .unset, .unset, .unset, .unset, .unset, .unset] [(.int (8236 : Int32))])
    refine Go.step (fun _ k => XS.sipush X0.here hx rfl (hb hby d2_1) k) ?_
    show Go _ _ _ _ _ _ _ s₁ (mkF m 4 #[.val (.int (8236 : Int32)), .unset, .unset, .unset, .unset, .unset, .unset, .unset] [(.int (8206 : Int32)), (.int (8236 : Int32))])
    have hc4_43 : ¬ ((8236 : Int32) = (8206 : Int32)) := (by decide)
    refine Go.step (fun _ k => XS.icmpYes X0.here hx rfl (pc0 := 4) (pc' := 11) rfl (hb hby d2_4) rfl (feq hc4_43).2 (by decide) (by decide) k) ?_
    show Go _ _ _ _ _ _ _ s₁ (mkF m 11 #[.val (.int (8236 : Int32)), .unset, .unset, .unset, .unset, .unset, .unset, .unset] [])
    refine Go.step (fun _ k => XS.iconst X0.here hx rfl (hb hby d2_11) k) ?_
    show Go _ _ _ _ _ _ _ s₁ (mkF m 12 #[.val (.int (8236 : Int32)), .unset, .unset, .unset, .unset, .unset, .unset, .unset] [(.int (0 : Int32))])
    refine Go.step (fun _ k => XS.istoreN X0.here hx rfl (hb hby d2_12) rfl (l' := #[.val (.int (8236 : Int32)), .val (.int (0 : Int32)), .unset, .unset, .unset, .unset, .unset, .unset]) rfl k) ?_
    show Go _ _ _ _ _ _ _ s₁ (mkF m 13 #[.val (.int (8236 : Int32)), .val (.int (0 : Int32)), .unset, .unset, .unset, .unset, .unset, .unset] [])
    refine Go.step (fun _ k => XS.iloadN X0.here hx rfl (hb hby d2_13) rfl k) ?_
    show Go _ _ _ _ _ _ _ s₁ (mkF m 14 #[.val (.int (8236 : Int32)), .val (.int (0 : Int32)), .unset, .unset, .unset, .unset, .unset, .unset] [(.int (8236 : Int32))])
    refine Go.step (fun _ k => XS.sipush X0.here hx rfl (hb hby d2_14) k) ?_
    show Go _ _ _ _ _ _ _ s₁ (mkF m 17 #[.val (.int (8236 : Int32)), .val (.int (0 : Int32)), .unset, .unset, .unset, .unset, .unset, .unset] [(.int (8207 : Int32)), (.int (8236 : Int32))])
    have hc17_44 : ¬ ((8236 : Int32) = (8207 : Int32)) := (by decide)
    refine Go.step (fun _ k => XS.icmpYes X0.here hx rfl (pc0 := 17) (pc' := 24) rfl (hb hby d2_17) rfl (feq hc17_44).2 (by decide) (by decide) k) ?_
    show Go _ _ _ _ _ _ _ s₁ (mkF m 24 #[.val (.int (8236 : Int32)), .val (.int (0 : Int32)), .unset, .unset, .unset, .unset, .unset, .unset] [])
    refine Go.step (fun _ k => XS.iconst X0.here hx rfl (hb hby d2_24) k) ?_
    show Go _ _ _ _ _ _ _ s₁ (mkF m 25 #[.val (.int (8236 : Int32)), .val (.int (0 : Int32)), .unset, .unset, .unset, .unset, .unset, .unset] [(.int (0 : Int32))])
    refine Go.step (fun _ k => XS.istoreN X0.here hx rfl (hb hby d2_25) rfl (l' := #[.val (.int (8236 : Int32)), .val (.int (0 : Int32)), .val (.int (0 : Int32)), .unset, .unset, .unset, .unset, .unset]) rfl k) ?_
    show Go _ _ _ _ _ _ _ s₁ (mkF m 26 #[.val (.int (8236 : Int32)), .val (.int (0 : Int32)), .val (.int (0 : Int32)), .unset, .unset, .unset, .unset, .unset] [])
    refine Go.step (fun _ k => XS.iloadN X0.here hx rfl (hb hby d2_26) rfl k) ?_
    show Go _ _ _ _ _ _ _ s₁ (mkF m 27 #[.val (.int (8236 : Int32)), .val (.int (0 : Int32)), .val (.int (0 : Int32)), .unset, .unset, .unset, .unset, .unset] [(.int (8236 : Int32))])
    refine Go.step (fun _ k => XS.sipush X0.here hx rfl (hb hby d2_27) k) ?_
    show Go _ _ _ _ _ _ _ s₁ (mkF m 30 #[.val (.int (8236 : Int32)), .val (.int (0 : Int32)), .val (.int (0 : Int32)), .unset, .unset, .unset, .unset, .unset] [(.int (8234 : Int32)), (.int (8236 : Int32))])
    have hc30_45 : ¬ ((8236 : Int32) = (8234 : Int32)) := (by decide)
    refine Go.step (fun _ k => XS.icmpYes X0.here hx rfl (pc0 := 30) (pc' := 37) rfl (hb hby d2_30) rfl (feq hc30_45).2 (by decide) (by decide) k) ?_
    show Go _ _ _ _ _ _ _ s₁ (mkF m 37 #[.val (.int (8236 : Int32)), .val (.int (0 : Int32)), .val (.int (0 : Int32)), .unset, .unset, .unset, .unset, .unset] [])
    refine Go.step (fun _ k => XS.iconst X0.here hx rfl (hb hby d2_37) k) ?_
    show Go _ _ _ _ _ _ _ s₁ (mkF m 38 #[.val (.int (8236 : Int32)), .val (.int (0 : Int32)), .val (.int (0 : Int32)), .unset, .unset, .unset, .unset, .unset] [(.int (0 : Int32))])
    refine Go.step (fun _ k => XS.istoreN X0.here hx rfl (hb hby d2_38) rfl (l' := #[.val (.int (8236 : Int32)), .val (.int (0 : Int32)), .val (.int (0 : Int32)), .val (.int (0 : Int32)), .unset, .unset, .unset, .unset]) rfl k) ?_
    show Go _ _ _ _ _ _ _ s₁ (mkF m 39 #[.val (.int (8236 : Int32)), .val (.int (0 : Int32)), .val (.int (0 : Int32)), .val (.int (0 : Int32)), .unset, .unset, .unset, .unset] [])
    refine Go.step (fun _ k => XS.iloadN X0.here hx rfl (hb hby d2_39) rfl k) ?_
    show Go _ _ _ _ _ _ _ s₁ (mkF m 40 #[.val (.int (8236 : Int32)), .val (.int (0 : Int32)), .val (.int (0 : Int32)), .val (.int (0 : Int32)), .unset, .unset, .unset, .unset] [(.int (8236 : Int32))])
    refine Go.step (fun _ k => XS.sipush X0.here hx rfl (hb hby d2_40) k) ?_
    show Go _ _ _ _ _ _ _ s₁ (mkF m 43 #[.val (.int (8236 : Int32)), .val (.int (0 : Int32)), .val (.int (0 : Int32)), .val (.int (0 : Int32)), .unset, .unset, .unset, .unset] [(.int (8235 : Int32)), (.int (8236 : Int32))])
    have hc43_46 : ¬ ((8236 : Int32) = (8235 : Int32)) := (by decide)
    refine Go.step (fun _ k => XS.icmpYes X0.here hx rfl (pc0 := 43) (pc' := 50) rfl (hb hby d2_43) rfl (feq hc43_46).2 (by decide) (by decide) k) ?_
    show Go _ _ _ _ _ _ _ s₁ (mkF m 50 #[.val (.int (8236 : Int32)), .val (.int (0 : Int32)), .val (.int (0 : Int32)), .val (.int (0 : Int32)), .unset, .unset, .unset, .unset] [])
    refine Go.step (fun _ k => XS.iconst X0.here hx rfl (hb hby d2_50) k) ?_
    show Go _ _ _ _ _ _ _ s₁ (mkF m 51 #[.val (.int (8236 : Int32)), .val (.int (0 : Int32)), .val (.int (0 : Int32)), .val (.int (0 : Int32)), .unset, .unset, .unset, .unset] [(.int (0 : Int32))])
    refine Go.step (fun _ k => XS.istore X0.here hx rfl (hb hby d2_51) rfl (l' := #[.val (.int (8236 : Int32)), .val (.int (0 : Int32)), .val (.int (0 : Int32)), .val (.int (0 : Int32)), .val (.int (0 : Int32)), .unset, .unset, .unset]) rfl k) ?_
    show Go _ _ _ _ _ _ _ s₁ (mkF m 53 #[.val (.int (8236 : Int32)), .val (.int (0 : Int32)), .val (.int (0 : Int32)), .val (.int (0 : Int32)), .val (.int (0 : Int32)), .unset, .unset, .unset] [])
    refine Go.step (fun _ k => XS.iloadN X0.here hx rfl (hb hby d2_53) rfl k) ?_
    show Go _ _ _ _ _ _ _ s₁ (mkF m 54 #[.val (.int (8236 : Int32)), .val (.int (0 : Int32)), .val (.int (0 : Int32)), .val (.int (0 : Int32)), .val (.int (0 : Int32)), .unset, .unset, .unset] [(.int (8236 : Int32))])
    refine Go.step (fun _ k => XS.sipush X0.here hx rfl (hb hby d2_54) k) ?_
    show Go _ _ _ _ _ _ _ s₁ (mkF m 57 #[.val (.int (8236 : Int32)), .val (.int (0 : Int32)), .val (.int (0 : Int32)), .val (.int (0 : Int32)), .val (.int (0 : Int32)), .unset, .unset, .unset] [(.int (8236 : Int32)), (.int (8236 : Int32))])
    have hc57_47 : (8236 : Int32) = (8236 : Int32) := (by decide)
    refine Go.step (fun _ k => XS.icmpNo X0.here hx rfl (hb hby d2_57) rfl (teq hc57_47).2 k) ?_
    show Go _ _ _ _ _ _ _ s₁ (mkF m 60 #[.val (.int (8236 : Int32)), .val (.int (0 : Int32)), .val (.int (0 : Int32)), .val (.int (0 : Int32)), .val (.int (0 : Int32)), .unset, .unset, .unset] [])
    refine Go.step (fun _ k => XS.iconst X0.here hx rfl (hb hby d2_60) k) ?_
    show Go _ _ _ _ _ _ _ s₁ (mkF m 61 #[.val (.int (8236 : Int32)), .val (.int (0 : Int32)), .val (.int (0 : Int32)), .val (.int (0 : Int32)), .val (.int (0 : Int32)), .unset, .unset, .unset] [(.int (1 : Int32))])
    refine Go.step (fun _ k => XS.goto X0.here hx rfl (pc0 := 61) (pc' := 65) rfl (hb hby d2_61) (by decide) (by decide) k) ?_
    show Go _ _ _ _ _ _ _ s₁ (mkF m 65 #[.val (.int (8236 : Int32)), .val (.int (0 : Int32)), .val (.int (0 : Int32)), .val (.int (0 : Int32)), .val (.int (0 : Int32)), .unset, .unset, .unset] [(.int (1 : Int32))])
    refine Go.step (fun _ k => XS.istore X0.here hx rfl (hb hby d2_65) rfl (l' := #[.val (.int (8236 : Int32)), .val (.int (0 : Int32)), .val (.int (0 : Int32)), .val (.int (0 : Int32)), .val (.int (0 : Int32)), .val (.int (1 : Int32)), .unset, .unset]) rfl k) ?_
    show Go _ _ _ _ _ _ _ s₁ (mkF m 67 #[.val (.int (8236 : Int32)), .val (.int (0 : Int32)), .val (.int (0 : Int32)), .val (.int (0 : Int32)), .val (.int (0 : Int32)), .val (.int (1 : Int32)), .unset, .unset] [])
    refine Go.step (fun _ k => XS.iloadN X0.here hx rfl (hb hby d2_67) rfl k) ?_
    show Go _ _ _ _ _ _ _ s₁ (mkF m 68 #[.val (.int (8236 : Int32)), .val (.int (0 : Int32)), .val (.int (0 : Int32)), .val (.int (0 : Int32)), .val (.int (0 : Int32)), .val (.int (1 : Int32)), .unset, .unset] [(.int (8236 : Int32))])
    refine Go.step (fun _ k => XS.sipush X0.here hx rfl (hb hby d2_68) k) ?_
    show Go _ _ _ _ _ _ _ s₁ (mkF m 71 #[.val (.int (8236 : Int32)), .val (.int (0 : Int32)), .val (.int (0 : Int32)), .val (.int (0 : Int32)), .val (.int (0 : Int32)), .val (.int (1 : Int32)), .unset, .unset] [(.int (8237 : Int32)), (.int (8236 : Int32))])
    have hc71_48 : ¬ ((8236 : Int32) = (8237 : Int32)) := (by decide)
    refine Go.step (fun _ k => XS.icmpYes X0.here hx rfl (pc0 := 71) (pc' := 78) rfl (hb hby d2_71) rfl (feq hc71_48).2 (by decide) (by decide) k) ?_
    show Go _ _ _ _ _ _ _ s₁ (mkF m 78 #[.val (.int (8236 : Int32)), .val (.int (0 : Int32)), .val (.int (0 : Int32)), .val (.int (0 : Int32)), .val (.int (0 : Int32)), .val (.int (1 : Int32)), .unset, .unset] [])
    refine Go.step (fun _ k => XS.iconst X0.here hx rfl (hb hby d2_78) k) ?_
    show Go _ _ _ _ _ _ _ s₁ (mkF m 79 #[.val (.int (8236 : Int32)), .val (.int (0 : Int32)), .val (.int (0 : Int32)), .val (.int (0 : Int32)), .val (.int (0 : Int32)), .val (.int (1 : Int32)), .unset, .unset] [(.int (0 : Int32))])
    refine Go.step (fun _ k => XS.istore X0.here hx rfl (hb hby d2_79) rfl (l' := #[.val (.int (8236 : Int32)), .val (.int (0 : Int32)), .val (.int (0 : Int32)), .val (.int (0 : Int32)), .val (.int (0 : Int32)), .val (.int (1 : Int32)), .val (.int (0 : Int32)), .unset]) rfl k) ?_
    show Go _ _ _ _ _ _ _ s₁ (mkF m 81 #[.val (.int (8236 : Int32)), .val (.int (0 : Int32)), .val (.int (0 : Int32)), .val (.int (0 : Int32)), .val (.int (0 : Int32)), .val (.int (1 : Int32)), .val (.int (0 : Int32)), .unset] [])
    refine Go.step (fun _ k => XS.iloadN X0.here hx rfl (hb hby d2_81) rfl k) ?_
    show Go _ _ _ _ _ _ _ s₁ (mkF m 82 #[.val (.int (8236 : Int32)), .val (.int (0 : Int32)), .val (.int (0 : Int32)), .val (.int (0 : Int32)), .val (.int (0 : Int32)), .val (.int (1 : Int32)), .val (.int (0 : Int32)), .unset] [(.int (8236 : Int32))])
    refine Go.step (fun _ k => XS.sipush X0.here hx rfl (hb hby d2_82) k) ?_
    show Go _ _ _ _ _ _ _ s₁ (mkF m 85 #[.val (.int (8236 : Int32)), .val (.int (0 : Int32)), .val (.int (0 : Int32)), .val (.int (0 : Int32)), .val (.int (0 : Int32)), .val (.int (1 : Int32)), .val (.int (0 : Int32)), .unset] [(.int (8238 : Int32)), (.int (8236 : Int32))])
    have hc85_49 : ¬ ((8236 : Int32) = (8238 : Int32)) := (by decide)
    refine Go.step (fun _ k => XS.icmpYes X0.here hx rfl (pc0 := 85) (pc' := 92) rfl (hb hby d2_85) rfl (feq hc85_49).2 (by decide) (by decide) k) ?_
    show Go _ _ _ _ _ _ _ s₁ (mkF m 92 #[.val (.int (8236 : Int32)), .val (.int (0 : Int32)), .val (.int (0 : Int32)), .val (.int (0 : Int32)), .val (.int (0 : Int32)), .val (.int (1 : Int32)), .val (.int (0 : Int32)), .unset] [])
    refine Go.step (fun _ k => XS.iconst X0.here hx rfl (hb hby d2_92) k) ?_
    show Go _ _ _ _ _ _ _ s₁ (mkF m 93 #[.val (.int (8236 : Int32)), .val (.int (0 : Int32)), .val (.int (0 : Int32)), .val (.int (0 : Int32)), .val (.int (0 : Int32)), .val (.int (1 : Int32)), .val (.int (0 : Int32)), .unset] [(.int (0 : Int32))])
    refine Go.step (fun _ k => XS.istore X0.here hx rfl (hb hby d2_93) rfl (l' := #[.val (.int (8236 : Int32)), .val (.int (0 : Int32)), .val (.int (0 : Int32)), .val (.int (0 : Int32)), .val (.int (0 : Int32)), .val (.int (1 : Int32)), .val (.int (0 : Int32)), .val (.int (0 : Int32))]) rfl k) ?_
    show Go _ _ _ _ _ _ _ s₁ (mkF m 95 #[.val (.int (8236 : Int32)), .val (.int (0 : Int32)), .val (.int (0 : Int32)), .val (.int (0 : Int32)), .val (.int (0 : Int32)), .val (.int (1 : Int32)), .val (.int (0 : Int32)), .val (.int (0 : Int32))] [])
    refine Go.step (fun _ k => XS.iloadN X0.here hx rfl (hb hby d2_95) rfl k) ?_
    show Go _ _ _ _ _ _ _ s₁ (mkF m 96 #[.val (.int (8236 : Int32)), .val (.int (0 : Int32)), .val (.int (0 : Int32)), .val (.int (0 : Int32)), .val (.int (0 : Int32)), .val (.int (1 : Int32)), .val (.int (0 : Int32)), .val (.int (0 : Int32))] [(.int (0 : Int32))])
    have hc96_50 : (0 : Int32) = (0 : Int32) := (by decide)
    refine Go.step (fun _ k => XS.ifNo X0.here hx rfl (hb hby d2_96) rfl ((if0 _ _).trans (teq hc96_50).2) k) ?_
    show Go _ _ _ _ _ _ _ s₁ (mkF m 99 #[.val (.int (8236 : Int32)), .val (.int (0 : Int32)), .val (.int (0 : Int32)), .val (.int (0 : Int32)), .val (.int (0 : Int32)), .val (.int (1 : Int32)), .val (.int (0 : Int32)), .val (.int (0 : Int32))] [])
    refine Go.step (fun _ k => XS.iloadN X0.here hx rfl (hb hby d2_99) rfl k) ?_
    show Go _ _ _ _ _ _ _ s₁ (mkF m 100 #[.val (.int (8236 : Int32)), .val (.int (0 : Int32)), .val (.int (0 : Int32)), .val (.int (0 : Int32)), .val (.int (0 : Int32)), .val (.int (1 : Int32)), .val (.int (0 : Int32)), .val (.int (0 : Int32))] [(.int (0 : Int32))])
    have hc100_51 : (0 : Int32) = (0 : Int32) := (by decide)
    refine Go.step (fun _ k => XS.ifNo X0.here hx rfl (hb hby d2_100) rfl ((if0 _ _).trans (teq hc100_51).2) k) ?_
    show Go _ _ _ _ _ _ _ s₁ (mkF m 103 #[.val (.int (8236 : Int32)), .val (.int (0 : Int32)), .val (.int (0 : Int32)), .val (.int (0 : Int32)), .val (.int (0 : Int32)), .val (.int (1 : Int32)), .val (.int (0 : Int32)), .val (.int (0 : Int32))] [])
    refine Go.step (fun _ k => XS.iloadN X0.here hx rfl (hb hby d2_103) rfl k) ?_
    show Go _ _ _ _ _ _ _ s₁ (mkF m 104 #[.val (.int (8236 : Int32)), .val (.int (0 : Int32)), .val (.int (0 : Int32)), .val (.int (0 : Int32)), .val (.int (0 : Int32)), .val (.int (1 : Int32)), .val (.int (0 : Int32)), .val (.int (0 : Int32))] [(.int (0 : Int32))])
    have hc104_52 : (0 : Int32) = (0 : Int32) := (by decide)
    refine Go.step (fun _ k => XS.ifNo X0.here hx rfl (hb hby d2_104) rfl ((if0 _ _).trans (teq hc104_52).2) k) ?_
    show Go _ _ _ _ _ _ _ s₁ (mkF m 107 #[.val (.int (8236 : Int32)), .val (.int (0 : Int32)), .val (.int (0 : Int32)), .val (.int (0 : Int32)), .val (.int (0 : Int32)), .val (.int (1 : Int32)), .val (.int (0 : Int32)), .val (.int (0 : Int32))] [])
    refine Go.step (fun _ k => XS.iload X0.here hx rfl (hb hby d2_107) rfl k) ?_
    show Go _ _ _ _ _ _ _ s₁ (mkF m 109 #[.val (.int (8236 : Int32)), .val (.int (0 : Int32)), .val (.int (0 : Int32)), .val (.int (0 : Int32)), .val (.int (0 : Int32)), .val (.int (1 : Int32)), .val (.int (0 : Int32)), .val (.int (0 : Int32))] [(.int (0 : Int32))])
    have hc109_53 : (0 : Int32) = (0 : Int32) := (by decide)
    refine Go.step (fun _ k => XS.ifNo X0.here hx rfl (hb hby d2_109) rfl ((if0 _ _).trans (teq hc109_53).2) k) ?_
    show Go _ _ _ _ _ _ _ s₁ (mkF m 112 #[.val (.int (8236 : Int32)), .val (.int (0 : Int32)), .val (.int (0 : Int32)), .val (.int (0 : Int32)), .val (.int (0 : Int32)), .val (.int (1 : Int32)), .val (.int (0 : Int32)), .val (.int (0 : Int32))] [])
    refine Go.step (fun _ k => XS.iload X0.here hx rfl (hb hby d2_112) rfl k) ?_
    show Go _ _ _ _ _ _ _ s₁ (mkF m 114 #[.val (.int (8236 : Int32)), .val (.int (0 : Int32)), .val (.int (0 : Int32)), .val (.int (0 : Int32)), .val (.int (0 : Int32)), .val (.int (1 : Int32)), .val (.int (0 : Int32)), .val (.int (0 : Int32))] [(.int (1 : Int32))])
    have hc114_54 : ¬ ((1 : Int32) = (0 : Int32)) := (by decide)
    refine Go.step (fun _ k => XS.ifYes X0.here hx rfl (pc0 := 114) (pc' := 127) rfl (hb hby d2_114) rfl ((if0 _ _).trans (feq hc114_54).2) (by decide) (by decide) k) ?_
    show Go _ _ _ _ _ _ _ s₁ (mkF m 127 #[.val (.int (8236 : Int32)), .val (.int (0 : Int32)), .val (.int (0 : Int32)), .val (.int (0 : Int32)), .val (.int (0 : Int32)), .val (.int (1 : Int32)), .val (.int (0 : Int32)), .val (.int (0 : Int32))] [])
    refine Go.step (fun _ k => XS.iconst X0.here hx rfl (hb hby d2_127) k) ?_
    show Go _ _ _ _ _ _ _ s₁ (mkF m 128 #[.val (.int (8236 : Int32)), .val (.int (0 : Int32)), .val (.int (0 : Int32)), .val (.int (0 : Int32)), .val (.int (0 : Int32)), .val (.int (1 : Int32)), .val (.int (0 : Int32)), .val (.int (0 : Int32))] [(.int (1 : Int32))])
    refine Go.step (fun _ k => XS.goto X0.here hx rfl (pc0 := 128) (pc' := 132) rfl (hb hby d2_128) (by decide) (by decide) k) ?_
    show Go _ _ _ _ _ _ _ s₁ (mkF m 132 #[.val (.int (8236 : Int32)), .val (.int (0 : Int32)), .val (.int (0 : Int32)), .val (.int (0 : Int32)), .val (.int (0 : Int32)), .val (.int (1 : Int32)), .val (.int (0 : Int32)), .val (.int (0 : Int32))] [(.int (1 : Int32))])
    exact Go.retN X0 hx (t := .boolean) hret hlk (by simp) (hb hby d2_132) e0 (by decide) (by decide) ⟨rfl, N0, rfl⟩
  by_cases hk8237 : ci = 8237
  · subst hk8237
    show Go _ _ _ _ _ _ _ s₁ (mkF m 0 #[.val (.int (8237 : Int32)), .unset, .unset, .unset, .unset, .unset, .unset, .unset] [])
    refine Go.step (fun _ k => XS.iloadN X0.here hx rfl (hb hby d2_0) rfl k) ?_
    show Go _ _ _ _ _ _ _ s₁ (mkF m 1 #[.val (.int (8237 : Int32)), .unset, .unset, .unset, .unset, .unset, .unset, .unset] [(.int (8237 : Int32))])
    refine Go.step (fun _ k => XS.sipush X0.here hx rfl (hb hby d2_1) k) ?_
    show Go _ _ _ _ _ _ _ s₁ (mkF m 4 #[.val (.int (8237 : Int32)), .unset, .unset, .unset, .unset, .unset, .unset, .unset] [(.int (8206 : Int32)), (.int (8237 : Int32))])
    have hc4_55 : ¬ ((8237 : Int32) = (8206 : Int32)) := (by decide)
    refine Go.step (fun _ k => XS.icmpYes X0.here hx rfl (pc0 := 4) (pc' := 11) rfl (hb hby d2_4) rfl (feq hc4_55).2 (by decide) (by decide) k) ?_
    show Go _ _ _ _ _ _ _ s₁ (mkF m 11 #[.val (.int (8237 : Int32)), .unset, .unset, .unset, .unset, .unset, .unset, .unset] [])
    refine Go.step (fun _ k => XS.iconst X0.here hx rfl (hb hby d2_11) k) ?_
    show Go _ _ _ _ _ _ _ s₁ (mkF m 12 #[.val (.int (8237 : Int32)), .unset, .unset, .unset, .unset, .unset, .unset, .unset] [(.int (0 : Int32))])
    refine Go.step (fun _ k => XS.istoreN X0.here hx rfl (hb hby d2_12) rfl (l' := #[.val (.int (8237 : Int32)), .val (.int (0 : Int32)), .unset, .unset, .unset, .unset, .unset, .unset]) rfl k) ?_
    show Go _ _ _ _ _ _ _ s₁ (mkF m 13 #[.val (.int (8237 : Int32)), .val (.int (0 : Int32)), .unset, .unset, .unset, .unset, .unset, .unset] [])
    refine Go.step (fun _ k => XS.iloadN X0.here hx rfl (hb hby d2_13) rfl k) ?_
    show Go _ _ _ _ _ _ _ s₁ (mkF m 14 #[.val (.int (8237 : Int32)), .val (.int (0 : Int32)), .unset, .unset, .unset, .unset, .unset, .unset] [(.int (8237 : Int32))])
    refine Go.step (fun _ k => XS.sipush X0.here hx rfl (hb hby d2_14) k) ?_
    show Go _ _ _ _ _ _ _ s₁ (mkF m 17 #[.val (.int (8237 : Int32)), .val (.int (0 : Int32)), .unset, .unset, .unset, .unset, .unset, .unset] [(.int (8207 : Int32)), (.int (8237 : Int32))])
    have hc17_56 : ¬ ((8237 : Int32) = (8207 : Int32)) := (by decide)
    refine Go.step (fun _ k => XS.icmpYes X0.here hx rfl (pc0 := 17) (pc' := 24) rfl (hb hby d2_17) rfl (feq hc17_56).2 (by decide) (by decide) k) ?_
    show Go _ _ _ _ _ _ _ s₁ (mkF m 24 #[.val (.int (8237 : Int32)), .val (.int (0 : Int32)), .unset, .unset, .unset, .unset, .unset, .unset] [])
    refine Go.step (fun _ k => XS.iconst X0.here hx rfl (hb hby d2_24) k) ?_
    show Go _ _ _ _ _ _ _ s₁ (mkF m 25 #[.val (.int (8237 : Int32)), .val (.int (0 : Int32)), .unset, .unset, .unset, .unset, .unset, .unset] [(.int (0 : Int32))])
    refine Go.step (fun _ k => XS.istoreN X0.here hx rfl (hb hby d2_25) rfl (l' := #[.val (.int (8237 : Int32)), .val (.int (0 : Int32)), .val (.int (0 : Int32)), .unset, .unset, .unset, .unset, .unset]) rfl k) ?_
    show Go _ _ _ _ _ _ _ s₁ (mkF m 26 #[.val (.int (8237 : Int32)), .val (.int (0 : Int32)), .val (.int (0 : Int32)), .unset, .unset, .unset, .unset, .unset] [])
    refine Go.step (fun _ k => XS.iloadN X0.here hx rfl (hb hby d2_26) rfl k) ?_
    show Go _ _ _ _ _ _ _ s₁ (mkF m 27 #[.val (.int (8237 : Int32)), .val (.int (0 : Int32)), .val (.int (0 : Int32)), .unset, .unset, .unset, .unset, .unset] [(.int (8237 : Int32))])
    refine Go.step (fun _ k => XS.sipush X0.here hx rfl (hb hby d2_27) k) ?_
    show Go _ _ _ _ _ _ _ s₁ (mkF m 30 #[.val (.int (8237 : Int32)), .val (.int (0 : Int32)), .val (.int (0 : Int32)), .unset, .unset, .unset, .unset, .unset] [(.int (8234 : Int32)), (.int (8237 : Int32))])
    have hc30_57 : ¬ ((8237 : Int32) = (8234 : Int32)) := (by decide)
    refine Go.step (fun _ k => XS.icmpYes X0.here hx rfl (pc0 := 30) (pc' := 37) rfl (hb hby d2_30) rfl (feq hc30_57).2 (by decide) (by decide) k) ?_
    show Go _ _ _ _ _ _ _ s₁ (mkF m 37 #[.val (.int (8237 : Int32)), .val (.int (0 : Int32)), .val (.int (0 : Int32)), .unset, .unset, .unset, .unset, .unset] [])
    refine Go.step (fun _ k => XS.iconst X0.here hx rfl (hb hby d2_37) k) ?_
    show Go _ _ _ _ _ _ _ s₁ (mkF m 38 #[.val (.int (8237 : Int32)), .val (.int (0 : Int32)), .val (.int (0 : Int32)), .unset, .unset, .unset, .unset, .unset] [(.int (0 : Int32))])
    refine Go.step (fun _ k => XS.istoreN X0.here hx rfl (hb hby d2_38) rfl (l' := #[.val (.int (8237 : Int32)), .val (.int (0 : Int32)), .val (.int (0 : Int32)), .val (.int (0 : Int32)), .unset, .unset, .unset, .unset]) rfl k) ?_
    show Go _ _ _ _ _ _ _ s₁ (mkF m 39 #[.val (.int (8237 : Int32)), .val (.int (0 : Int32)), .val (.int (0 : Int32)), .val (.int (0 : Int32)), .unset, .unset, .unset, .unset] [])
    refine Go.step (fun _ k => XS.iloadN X0.here hx rfl (hb hby d2_39) rfl k) ?_
    show Go _ _ _ _ _ _ _ s₁ (mkF m 40 #[.val (.int (8237 : Int32)), .val (.int (0 : Int32)), .val (.int (0 : Int32)), .val (.int (0 : Int32)), .unset, .unset, .unset, .unset] [(.int (8237 : Int32))])
    refine Go.step (fun _ k => XS.sipush X0.here hx rfl (hb hby d2_40) k) ?_
    show Go _ _ _ _ _ _ _ s₁ (mkF m 43 #[.val (.int (8237 : Int32)), .val (.int (0 : Int32)), .val (.int (0 : Int32)), .val (.int (0 : Int32)), .unset, .unset, .unset, .unset] [(.int (8235 : Int32)), (.int (8237 : Int32))])
    have hc43_58 : ¬ ((8237 : Int32) = (8235 : Int32)) := (by decide)
    refine Go.step (fun _ k => XS.icmpYes X0.here hx rfl (pc0 := 43) (pc' := 50) rfl (hb hby d2_43) rfl (feq hc43_58).2 (by decide) (by decide) k) ?_
    show Go _ _ _ _ _ _ _ s₁ (mkF m 50 #[.val (.int (8237 : Int32)), .val (.int (0 : Int32)), .val (.int (0 : Int32)), .val (.int (0 : Int32)), .unset, .unset, .unset, .unset] [])
    refine Go.step (fun _ k => XS.iconst X0.here hx rfl (hb hby d2_50) k) ?_
    show Go _ _ _ _ _ _ _ s₁ (mkF m 51 #[.val (.int (8237 : Int32)), .val (.int (0 : Int32)), .val (.int (0 : Int32)), .val (.int (0 : Int32)), .unset, .unset, .unset, .unset] [(.int (0 : Int32))])
    refine Go.step (fun _ k => XS.istore X0.here hx rfl (hb hby d2_51) rfl (l' := #[.val (.int (8237 : Int32)), .val (.int (0 : Int32)), .val (.int (0 : Int32)), .val (.int (0 : Int32)), .val (.int (0 : Int32)), .unset, .unset, .unset]) rfl k) ?_
    show Go _ _ _ _ _ _ _ s₁ (mkF m 53 #[.val (.int (8237 : Int32)), .val (.int (0 : Int32)), .val (.int (0 : Int32)), .val (.int (0 : Int32)), .val (.int (0 : Int32)), .unset, .unset, .unset] [])
    refine Go.step (fun _ k => XS.iloadN X0.here hx rfl (hb hby d2_53) rfl k) ?_
    show Go _ _ _ _ _ _ _ s₁ (mkF m 54 #[.val (.int (8237 : Int32)), .val (.int (0 : Int32)), .val (.int (0 : Int32)), .val (.int (0 : Int32)), .val (.int (0 : Int32)), .unset, .unset, .unset] [(.int (8237 : Int32))])
    refine Go.step (fun _ k => XS.sipush X0.here hx rfl (hb hby d2_54) k) ?_
    show Go _ _ _ _ _ _ _ s₁ (mkF m 57 #[.val (.int (8237 : Int32)), .val (.int (0 : Int32)), .val (.int (0 : Int32)), .val (.int (0 : Int32)), .val (.int (0 : Int32)), .unset, .unset, .unset] [(.int (8236 : Int32)), (.int (8237 : Int32))])
    have hc57_59 : ¬ ((8237 : Int32) = (8236 : Int32)) := (by decide)
    refine Go.step (fun _ k => XS.icmpYes X0.here hx rfl (pc0 := 57) (pc' := 64) rfl (hb hby d2_57) rfl (feq hc57_59).2 (by decide) (by decide) k) ?_
    show Go _ _ _ _ _ _ _ s₁ (mkF m 64 #[.val (.int (8237 : Int32)), .val (.int (0 : Int32)), .val (.int (0 : Int32)), .val (.int (0 : Int32)), .val (.int (0 : Int32)), .unset, .unset, .unset] [])
    refine Go.step (fun _ k => XS.iconst X0.here hx rfl (hb hby d2_64) k) ?_
    show Go _ _ _ _ _ _ _ s₁ (mkF m 65 #[.val (.int (8237 : Int32)), .val (.int (0 : Int32)), .val (.int (0 : Int32)), .val (.int (0 : Int32)), .val (.int (0 : Int32)), .unset, .unset, .unset] [(.int (0 : Int32))])
    refine Go.step (fun _ k => XS.istore X0.here hx rfl (hb hby d2_65) rfl (l' := #[.val (.int (8237 : Int32)), .val (.int (0 : Int32)), .val (.int (0 : Int32)), .val (.int (0 : Int32)), .val (.int (0 : Int32)), .val (.int (0 : Int32)), .unset, .unset]) rfl k) ?_
    show Go _ _ _ _ _ _ _ s₁ (mkF m 67 #[.val (.int (8237 : Int32)), .val (.int (0 : Int32)), .val (.int (0 : Int32)), .val (.int (0 : Int32)), .val (.int (0 : Int32)), .val (.int (0 : Int32)), .unset, .unset] [])
    refine Go.step (fun _ k => XS.iloadN X0.here hx rfl (hb hby d2_67) rfl k) ?_
    show Go _ _ _ _ _ _ _ s₁ (mkF m 68 #[.val (.int (8237 : Int32)), .val (.int (0 : Int32)), .val (.int (0 : Int32)), .val (.int (0 : Int32)), .val (.int (0 : Int32)), .val (.int (0 : Int32)), .unset, .unset] [(.int (8237 : Int32))])
    refine Go.step (fun _ k => XS.sipush X0.here hx rfl (hb hby d2_68) k) ?_
    show Go _ _ _ _ _ _ _ s₁ (mkF m 71 #[.val (.int (8237 : Int32)), .val (.int (0 : Int32)), .val (.int (0 : Int32)), .val (.int (0 : Int32)), .val (.int (0 : Int32)), .val (.int (0 : Int32)), .unset, .unset] [(.int (8237 : Int32)), (.int (8237 : Int32))])
    have hc71_60 : (8237 : Int32) = (8237 : Int32) := (by decide)
    refine Go.step (fun _ k => XS.icmpNo X0.here hx rfl (hb hby d2_71) rfl (teq hc71_60).2 k) ?_
    show Go _ _ _ _ _ _ _ s₁ (mkF m 74 #[.val (.int (8237 : Int32)), .val (.int (0 : Int32)), .val (.int (0 : Int32)), .val (.int (0 : Int32)), .val (.int (0 : Int32)), .val (.int (0 : Int32)), .unset, .unset] [])
    refine Go.step (fun _ k => XS.iconst X0.here hx rfl (hb hby d2_74) k) ?_
    show Go _ _ _ _ _ _ _ s₁ (mkF m 75 #[.val (.int (8237 : Int32)), .val (.int (0 : Int32)), .val (.int (0 : Int32)), .val (.int (0 : Int32)), .val (.int (0 : Int32)), .val (.int (0 : Int32)), .unset, .unset] [(.int (1 : Int32))])
    refine Go.step (fun _ k => XS.goto X0.here hx rfl (pc0 := 75) (pc' := 79) rfl (hb hby d2_75) (by decide) (by decide) k) ?_
    show Go _ _ _ _ _ _ _ s₁ (mkF m 79 #[.val (.int (8237 : Int32)), .val (.int (0 : Int32)), .val (.int (0 : Int32)), .val (.int (0 : Int32)), .val (.int (0 : Int32)), .val (.int (0 : Int32)), .unset, .unset] [(.int (1 : Int32))])
    refine Go.step (fun _ k => XS.istore X0.here hx rfl (hb hby d2_79) rfl (l' := #[.val (.int (8237 : Int32)), .val (.int (0 : Int32)), .val (.int (0 : Int32)), .val (.int (0 : Int32)), .val (.int (0 : Int32)), .val (.int (0 : Int32)), .val (.int (1 : Int32)), .unset]) rfl k) ?_
    show Go _ _ _ _ _ _ _ s₁ (mkF m 81 #[.val (.int (8237 : Int32)), .val (.int (0 : Int32)), .val (.int (0 : Int32)), .val (.int (0 : Int32)), .val (.int (0 : Int32)), .val (.int (0 : Int32)), .val (.int (1 : Int32)), .unset] [])
    refine Go.step (fun _ k => XS.iloadN X0.here hx rfl (hb hby d2_81) rfl k) ?_
    show Go _ _ _ _ _ _ _ s₁ (mkF m 82 #[.val (.int (8237 : Int32)), .val (.int (0 : Int32)), .val (.int (0 : Int32)), .val (.int (0 : Int32)), .val (.int (0 : Int32)), .val (.int (0 : Int32)), .val (.int (1 : Int32)), .unset] [(.int (8237 : Int32))])
    refine Go.step (fun _ k => XS.sipush X0.here hx rfl (hb hby d2_82) k) ?_
    show Go _ _ _ _ _ _ _ s₁ (mkF m 85 #[.val (.int (8237 : Int32)), .val (.int (0 : Int32)), .val (.int (0 : Int32)), .val (.int (0 : Int32)), .val (.int (0 : Int32)), .val (.int (0 : Int32)), .val (.int (1 : Int32)), .unset] [(.int (8238 : Int32)), (.int (8237 : Int32))])
    have hc85_61 : ¬ ((8237 : Int32) = (8238 : Int32)) := (by decide)
    refine Go.step (fun _ k => XS.icmpYes X0.here hx rfl (pc0 := 85) (pc' := 92) rfl (hb hby d2_85) rfl (feq hc85_61).2 (by decide) (by decide) k) ?_
    show Go _ _ _ _ _ _ _ s₁ (mkF m 92 #[.val (.int (8237 : Int32)), .val (.int (0 : Int32)), .val (.int (0 : Int32)), .val (.int (0 : Int32)), .val (.int (0 : Int32)), .val (.int (0 : Int32)), .val (.int (1 : Int32)), .unset] [])
    refine Go.step (fun _ k => XS.iconst X0.here hx rfl (hb hby d2_92) k) ?_
    show Go _ _ _ _ _ _ _ s₁ (mkF m 93 #[.val (.int (8237 : Int32)), .val (.int (0 : Int32)), .val (.int (0 : Int32)), .val (.int (0 : Int32)), .val (.int (0 : Int32)), .val (.int (0 : Int32)), .val (.int (1 : Int32)), .unset] [(.int (0 : Int32))])
    refine Go.step (fun _ k => XS.istore X0.here hx rfl (hb hby d2_93) rfl (l' := #[.val (.int (8237 : Int32)), .val (.int (0 : Int32)), .val (.int (0 : Int32)), .val (.int (0 : Int32)), .val (.int (0 : Int32)), .val (.int (0 : Int32)), .val (.int (1 : Int32)), .val (.int (0 : Int32))]) rfl k) ?_
    show Go _ _ _ _ _ _ _ s₁ (mkF m 95 #[.val (.int (8237 : Int32)), .val (.int (0 : Int32)), .val (.int (0 : Int32)), .val (.int (0 : Int32)), .val (.int (0 : Int32)), .val (.int (0 : Int32)), .val (.int (1 : Int32)), .val (.int (0 : Int32))] [])
    refine Go.step (fun _ k => XS.iloadN X0.here hx rfl (hb hby d2_95) rfl k) ?_
    show Go _ _ _ _ _ _ _ s₁ (mkF m 96 #[.val (.int (8237 : Int32)), .val (.int (0 : Int32)), .val (.int (0 : Int32)), .val (.int (0 : Int32)), .val (.int (0 : Int32)), .val (.int (0 : Int32)), .val (.int (1 : Int32)), .val (.int (0 : Int32))] [(.int (0 : Int32))])
    have hc96_62 : (0 : Int32) = (0 : Int32) := (by decide)
    refine Go.step (fun _ k => XS.ifNo X0.here hx rfl (hb hby d2_96) rfl ((if0 _ _).trans (teq hc96_62).2) k) ?_
    show Go _ _ _ _ _ _ _ s₁ (mkF m 99 #[.val (.int (8237 : Int32)), .val (.int (0 : Int32)), .val (.int (0 : Int32)), .val (.int (0 : Int32)), .val (.int (0 : Int32)), .val (.int (0 : Int32)), .val (.int (1 : Int32)), .val (.int (0 : Int32))] [])
    refine Go.step (fun _ k => XS.iloadN X0.here hx rfl (hb hby d2_99) rfl k) ?_
    show Go _ _ _ _ _ _ _ s₁ (mkF m 100 #[.val (.int (8237 : Int32)), .val (.int (0 : Int32)), .val (.int (0 : Int32)), .val (.int (0 : Int32)), .val (.int (0 : Int32)), .val (.int (0 : Int32)), .val (.int (1 : Int32)), .val (.int (0 : Int32))] [(.int (0 : Int32))])
    have hc100_63 : (0 : Int32) = (0 : Int32) := (by decide)
    refine Go.step (fun _ k => XS.ifNo X0.here hx rfl (hb hby d2_100) rfl ((if0 _ _).trans (teq hc100_63).2) k) ?_
    show Go _ _ _ _ _ _ _ s₁ (mkF m 103 #[.val (.int (8237 : Int32)), .val (.int (0 : Int32)), .val (.int (0 : Int32)), .val (.int (0 : Int32)), .val (.int (0 : Int32)), .val (.int (0 : Int32)), .val (.int (1 : Int32)), .val (.int (0 : Int32))] [])
    refine Go.step (fun _ k => XS.iloadN X0.here hx rfl (hb hby d2_103) rfl k) ?_
    show Go _ _ _ _ _ _ _ s₁ (mkF m 104 #[.val (.int (8237 : Int32)), .val (.int (0 : Int32)), .val (.int (0 : Int32)), .val (.int (0 : Int32)), .val (.int (0 : Int32)), .val (.int (0 : Int32)), .val (.int (1 : Int32)), .val (.int (0 : Int32))] [(.int (0 : Int32))])
    have hc104_64 : (0 : Int32) = (0 : Int32) := (by decide)
    refine Go.step (fun _ k => XS.ifNo X0.here hx rfl (hb hby d2_104) rfl ((if0 _ _).trans (teq hc104_64).2) k) ?_
    show Go _ _ _ _ _ _ _ s₁ (mkF m 107 #[.val (.int (8237 : Int32)), .val (.int (0 : Int32)), .val (.int (0 : Int32)), .val (.int (0 : Int32)), .val (.int (0 : Int32)), .val (.int (0 : Int32)), .val (.int (1 : Int32)), .val (.int (0 : Int32))] [])
    refine Go.step (fun _ k => XS.iload X0.here hx rfl (hb hby d2_107) rfl k) ?_
    show Go _ _ _ _ _ _ _ s₁ (mkF m 109 #[.val (.int (8237 : Int32)), .val (.int (0 : Int32)), .val (.int (0 : Int32)), .val (.int (0 : Int32)), .val (.int (0 : Int32)), .val (.int (0 : Int32)), .val (.int (1 : Int32)), .val (.int (0 : Int32))] [(.int (0 : Int32))])
    have hc109_65 : (0 : Int32) = (0 : Int32) := (by decide)
    refine Go.step (fun _ k => XS.ifNo X0.here hx rfl (hb hby d2_109) rfl ((if0 _ _).trans (teq hc109_65).2) k) ?_
    show Go _ _ _ _ _ _ _ s₁ (mkF m 112 #[.val (.int (8237 : Int32)), .val (.int (0 : Int32)), .val (.int (0 : Int32)), .val (.int (0 : Int32)), .val (.int (0 : Int32)), .val (.int (0 : Int32)), .val (.int (1 : Int32)), .val (.int (0 : Int32))] [])
    refine Go.step (fun _ k => XS.iload X0.here hx rfl (hb hby d2_112) rfl k) ?_
    show Go _ _ _ _ _ _ _ s₁ (mkF m 114 #[.val (.int (8237 : Int32)), .val (.int (0 : Int32)), .val (.int (0 : Int32)), .val (.int (0 : Int32)), .val (.int (0 : Int32)), .val (.int (0 : Int32)), .val (.int (1 : Int32)), .val (.int (0 : Int32))] [(.int (0 : Int32))])
    have hc114_66 : (0 : Int32) = (0 : Int32) := (by decide)
    refine Go.step (fun _ k => XS.ifNo X0.here hx rfl (hb hby d2_114) rfl ((if0 _ _).trans (teq hc114_66).2) k) ?_
    show Go _ _ _ _ _ _ _ s₁ (mkF m 117 #[.val (.int (8237 : Int32)), .val (.int (0 : Int32)), .val (.int (0 : Int32)), .val (.int (0 : Int32)), .val (.int (0 : Int32)), .val (.int (0 : Int32)), .val (.int (1 : Int32)), .val (.int (0 : Int32))] [])
    refine Go.step (fun _ k => XS.iload X0.here hx rfl (hb hby d2_117) rfl k) ?_
    show Go _ _ _ _ _ _ _ s₁ (mkF m 119 #[.val (.int (8237 : Int32)), .val (.int (0 : Int32)), .val (.int (0 : Int32)), .val (.int (0 : Int32)), .val (.int (0 : Int32)), .val (.int (0 : Int32)), .val (.int (1 : Int32)), .val (.int (0 : Int32))] [(.int (1 : Int32))])
    have hc119_67 : ¬ ((1 : Int32) = (0 : Int32)) := (by decide)
    refine Go.step (fun _ k => XS.ifYes X0.here hx rfl (pc0 := 119) (pc' := 127) rfl (hb hby d2_119) rfl ((if0 _ _).trans (feq hc119_67).2) (by decide) (by decide) k) ?_
    show Go _ _ _ _ _ _ _ s₁ (mkF m 127 #[.val (.int (8237 : Int32)), .val (.int (0 : Int32)), .val (.int (0 : Int32)), .val (.int (0 : Int32)), .val (.int (0 : Int32)), .val (.int (0 : Int32)), .val (.int (1 : Int32)), .val (.int (0 : Int32))] [])
    refine Go.step (fun _ k => XS.iconst X0.here hx rfl (hb hby d2_127) k) ?_
    show Go _ _ _ _ _ _ _ s₁ (mkF m 128 #[.val (.int (8237 : Int32)), .val (.int (0 : Int32)), .val (.int (0 : Int32)), .val (.int (0 : Int32)), .val (.int (0 : Int32)), .val (.int (0 : Int32)), .val (.int (1 : Int32)), .val (.int (0 : Int32))] [(.int (1 : Int32))])
    refine Go.step (fun _ k => XS.goto X0.here hx rfl (pc0 := 128) (pc' := 132) rfl (hb hby d2_128) (by decide) (by decide) k) ?_
    show Go _ _ _ _ _ _ _ s₁ (mkF m 132 #[.val (.int (8237 : Int32)), .val (.int (0 : Int32)), .val (.int (0 : Int32)), .val (.int (0 : Int32)), .val (.int (0 : Int32)), .val (.int (0 : Int32)), .val (.int (1 : Int32)), .val (.int (0 : Int32))] [(.int (1 : Int32))])
    exact Go.retN X0 hx (t := .boolean) hret hlk (by simp) (hb hby d2_132) e0 (by decide) (by decide) ⟨rfl, N0, rfl⟩
  by_cases hk8238 : ci = 8238
  · subst hk8238
    show Go _ _ _ _ _ _ _ s₁ (mkF m 0 #[.val (.int (8238 : Int32)), .unset, .unset, .unset, .unset, .unset, .unset, .unset] [])
    refine Go.step (fun _ k => XS.iloadN X0.here hx rfl (hb hby d2_0) rfl k) ?_
    show Go _ _ _ _ _ _ _ s₁ (mkF m 1 #[.val (.int (8238 : Int32)), .unset, .unset, .unset, .unset, .unset, .unset, .unset] [(.int (8238 : Int32))])
    refine Go.step (fun _ k => XS.sipush X0.here hx rfl (hb hby d2_1) k) ?_
    show Go _ _ _ _ _ _ _ s₁ (mkF m 4 #[.val (.int (8238 : Int32)), .unset, .unset, .unset, .unset, .unset, .unset, .unset] [(.int (8206 : Int32)), (.int (8238 : Int32))])
    have hc4_68 : ¬ ((8238 : Int32) = (8206 : Int32)) := (by decide)
    refine Go.step (fun _ k => XS.icmpYes X0.here hx rfl (pc0 := 4) (pc' := 11) rfl (hb hby d2_4) rfl (feq hc4_68).2 (by decide) (by decide) k) ?_
    show Go _ _ _ _ _ _ _ s₁ (mkF m 11 #[.val (.int (8238 : Int32)), .unset, .unset, .unset, .unset, .unset, .unset, .unset] [])
    refine Go.step (fun _ k => XS.iconst X0.here hx rfl (hb hby d2_11) k) ?_
    show Go _ _ _ _ _ _ _ s₁ (mkF m 12 #[.val (.int (8238 : Int32)), .unset, .unset, .unset, .unset, .unset, .unset, .unset] [(.int (0 : Int32))])
    refine Go.step (fun _ k => XS.istoreN X0.here hx rfl (hb hby d2_12) rfl (l' := #[.val (.int (8238 : Int32)), .val (.int (0 : Int32)), .unset, .unset, .unset, .unset, .unset, .unset]) rfl k) ?_
    show Go _ _ _ _ _ _ _ s₁ (mkF m 13 #[.val (.int (8238 : Int32)), .val (.int (0 : Int32)), .unset, .unset, .unset, .unset, .unset, .unset] [])
    refine Go.step (fun _ k => XS.iloadN X0.here hx rfl (hb hby d2_13) rfl k) ?_
    show Go _ _ _ _ _ _ _ s₁ (mkF m 14 #[.val (.int (8238 : Int32)), .val (.int (0 : Int32)), .unset, .unset, .unset, .unset, .unset, .unset] [(.int (8238 : Int32))])
    refine Go.step (fun _ k => XS.sipush X0.here hx rfl (hb hby d2_14) k) ?_
    show Go _ _ _ _ _ _ _ s₁ (mkF m 17 #[.val (.int (8238 : Int32)), .val (.int (0 : Int32)), .unset, .unset, .unset, .unset, .unset, .unset] [(.int (8207 : Int32)), (.int (8238 : Int32))])
    have hc17_69 : ¬ ((8238 : Int32) = (8207 : Int32)) := (by decide)
    refine Go.step (fun _ k => XS.icmpYes X0.here hx rfl (pc0 := 17) (pc' := 24) rfl (hb hby d2_17) rfl (feq hc17_69).2 (by decide) (by decide) k) ?_
    show Go _ _ _ _ _ _ _ s₁ (mkF m 24 #[.val (.int (8238 : Int32)), .val (.int (0 : Int32)), .unset, .unset, .unset, .unset, .unset, .unset] [])
    refine Go.step (fun _ k => XS.iconst X0.here hx rfl (hb hby d2_24) k) ?_
    show Go _ _ _ _ _ _ _ s₁ (mkF m 25 #[.val (.int (8238 : Int32)), .val (.int (0 : Int32)), .unset, .unset, .unset, .unset, .unset, .unset] [(.int (0 : Int32))])
    refine Go.step (fun _ k => XS.istoreN X0.here hx rfl (hb hby d2_25) rfl (l' := #[.val (.int (8238 : Int32)), .val (.int (0 : Int32)), .val (.int (0 : Int32)), .unset, .unset, .unset, .unset, .unset]) rfl k) ?_
    show Go _ _ _ _ _ _ _ s₁ (mkF m 26 #[.val (.int (8238 : Int32)), .val (.int (0 : Int32)), .val (.int (0 : Int32)), .unset, .unset, .unset, .unset, .unset] [])
    refine Go.step (fun _ k => XS.iloadN X0.here hx rfl (hb hby d2_26) rfl k) ?_
    show Go _ _ _ _ _ _ _ s₁ (mkF m 27 #[.val (.int (8238 : Int32)), .val (.int (0 : Int32)), .val (.int (0 : Int32)), .unset, .unset, .unset, .unset, .unset] [(.int (8238 : Int32))])
    refine Go.step (fun _ k => XS.sipush X0.here hx rfl (hb hby d2_27) k) ?_
    show Go _ _ _ _ _ _ _ s₁ (mkF m 30 #[.val (.int (8238 : Int32)), .val (.int (0 : Int32)), .val (.int (0 : Int32)), .unset, .unset, .unset, .unset, .unset] [(.int (8234 : Int32)), (.int (8238 : Int32))])
    have hc30_70 : ¬ ((8238 : Int32) = (8234 : Int32)) := (by decide)
    refine Go.step (fun _ k => XS.icmpYes X0.here hx rfl (pc0 := 30) (pc' := 37) rfl (hb hby d2_30) rfl (feq hc30_70).2 (by decide) (by decide) k) ?_
    show Go _ _ _ _ _ _ _ s₁ (mkF m 37 #[.val (.int (8238 : Int32)), .val (.int (0 : Int32)), .val (.int (0 : Int32)), .unset, .unset, .unset, .unset, .unset] [])
    refine Go.step (fun _ k => XS.iconst X0.here hx rfl (hb hby d2_37) k) ?_
    show Go _ _ _ _ _ _ _ s₁ (mkF m 38 #[.val (.int (8238 : Int32)), .val (.int (0 : Int32)), .val (.int (0 : Int32)), .unset, .unset, .unset, .unset, .unset] [(.int (0 : Int32))])
    refine Go.step (fun _ k => XS.istoreN X0.here hx rfl (hb hby d2_38) rfl (l' := #[.val (.int (8238 : Int32)), .val (.int (0 : Int32)), .val (.int (0 : Int32)), .val (.int (0 : Int32)), .unset, .unset, .unset, .unset]) rfl k) ?_
    show Go _ _ _ _ _ _ _ s₁ (mkF m 39 #[.val (.int (8238 : Int32)), .val (.int (0 : Int32)), .val (.int (0 : Int32)), .val (.int (0 : Int32)), .unset, .unset, .unset, .unset] [])
    refine Go.step (fun _ k => XS.iloadN X0.here hx rfl (hb hby d2_39) rfl k) ?_
    show Go _ _ _ _ _ _ _ s₁ (mkF m 40 #[.val (.int (8238 : Int32)), .val (.int (0 : Int32)), .val (.int (0 : Int32)), .val (.int (0 : Int32)), .unset, .unset, .unset, .unset] [(.int (8238 : Int32))])
    refine Go.step (fun _ k => XS.sipush X0.here hx rfl (hb hby d2_40) k) ?_
    show Go _ _ _ _ _ _ _ s₁ (mkF m 43 #[.val (.int (8238 : Int32)), .val (.int (0 : Int32)), .val (.int (0 : Int32)), .val (.int (0 : Int32)), .unset, .unset, .unset, .unset] [(.int (8235 : Int32)), (.int (8238 : Int32))])
    have hc43_71 : ¬ ((8238 : Int32) = (8235 : Int32)) := (by decide)
    refine Go.step (fun _ k => XS.icmpYes X0.here hx rfl (pc0 := 43) (pc' := 50) rfl (hb hby d2_43) rfl (feq hc43_71).2 (by decide) (by decide) k) ?_
    show Go _ _ _ _ _ _ _ s₁ (mkF m 50 #[.val (.int (8238 : Int32)), .val (.int (0 : Int32)), .val (.int (0 : Int32)), .val (.int (0 : Int32)), .unset, .unset, .unset, .unset] [])
    refine Go.step (fun _ k => XS.iconst X0.here hx rfl (hb hby d2_50) k) ?_
    show Go _ _ _ _ _ _ _ s₁ (mkF m 51 #[.val (.int (8238 : Int32)), .val (.int (0 : Int32)), .val (.int (0 : Int32)), .val (.int (0 : Int32)), .unset, .unset, .unset, .unset] [(.int (0 : Int32))])
    refine Go.step (fun _ k => XS.istore X0.here hx rfl (hb hby d2_51) rfl (l' := #[.val (.int (8238 : Int32)), .val (.int (0 : Int32)), .val (.int (0 : Int32)), .val (.int (0 : Int32)), .val (.int (0 : Int32)), .unset, .unset, .unset]) rfl k) ?_
    show Go _ _ _ _ _ _ _ s₁ (mkF m 53 #[.val (.int (8238 : Int32)), .val (.int (0 : Int32)), .val (.int (0 : Int32)), .val (.int (0 : Int32)), .val (.int (0 : Int32)), .unset, .unset, .unset] [])
    refine Go.step (fun _ k => XS.iloadN X0.here hx rfl (hb hby d2_53) rfl k) ?_
    show Go _ _ _ _ _ _ _ s₁ (mkF m 54 #[.val (.int (8238 : Int32)), .val (.int (0 : Int32)), .val (.int (0 : Int32)), .val (.int (0 : Int32)), .val (.int (0 : Int32)), .unset, .unset, .unset] [(.int (8238 : Int32))])
    refine Go.step (fun _ k => XS.sipush X0.here hx rfl (hb hby d2_54) k) ?_
    show Go _ _ _ _ _ _ _ s₁ (mkF m 57 #[.val (.int (8238 : Int32)), .val (.int (0 : Int32)), .val (.int (0 : Int32)), .val (.int (0 : Int32)), .val (.int (0 : Int32)), .unset, .unset, .unset] [(.int (8236 : Int32)), (.int (8238 : Int32))])
    have hc57_72 : ¬ ((8238 : Int32) = (8236 : Int32)) := (by decide)
    refine Go.step (fun _ k => XS.icmpYes X0.here hx rfl (pc0 := 57) (pc' := 64) rfl (hb hby d2_57) rfl (feq hc57_72).2 (by decide) (by decide) k) ?_
    show Go _ _ _ _ _ _ _ s₁ (mkF m 64 #[.val (.int (8238 : Int32)), .val (.int (0 : Int32)), .val (.int (0 : Int32)), .val (.int (0 : Int32)), .val (.int (0 : Int32)), .unset, .unset, .unset] [])
    refine Go.step (fun _ k => XS.iconst X0.here hx rfl (hb hby d2_64) k) ?_
    show Go _ _ _ _ _ _ _ s₁ (mkF m 65 #[.val (.int (8238 : Int32)), .val (.int (0 : Int32)), .val (.int (0 : Int32)), .val (.int (0 : Int32)), .val (.int (0 : Int32)), .unset, .unset, .unset] [(.int (0 : Int32))])
    refine Go.step (fun _ k => XS.istore X0.here hx rfl (hb hby d2_65) rfl (l' := #[.val (.int (8238 : Int32)), .val (.int (0 : Int32)), .val (.int (0 : Int32)), .val (.int (0 : Int32)), .val (.int (0 : Int32)), .val (.int (0 : Int32)), .unset, .unset]) rfl k) ?_
    show Go _ _ _ _ _ _ _ s₁ (mkF m 67 #[.val (.int (8238 : Int32)), .val (.int (0 : Int32)), .val (.int (0 : Int32)), .val (.int (0 : Int32)), .val (.int (0 : Int32)), .val (.int (0 : Int32)), .unset, .unset] [])
    refine Go.step (fun _ k => XS.iloadN X0.here hx rfl (hb hby d2_67) rfl k) ?_
    show Go _ _ _ _ _ _ _ s₁ (mkF m 68 #[.val (.int (8238 : Int32)), .val (.int (0 : Int32)), .val (.int (0 : Int32)), .val (.int (0 : Int32)), .val (.int (0 : Int32)), .val (.int (0 : Int32)), .unset, .unset] [(.int (8238 : Int32))])
    refine Go.step (fun _ k => XS.sipush X0.here hx rfl (hb hby d2_68) k) ?_
    show Go _ _ _ _ _ _ _ s₁ (mkF m 71 #[.val (.int (8238 : Int32)), .val (.int (0 : Int32)), .val (.int (0 : Int32)), .val (.int (0 : Int32)), .val (.int (0 : Int32)), .val (.int (0 : Int32)), .unset, .unset] [(.int (8237 : Int32)), (.int (8238 : Int32))])
    have hc71_73 : ¬ ((8238 : Int32) = (8237 : Int32)) := (by decide)
    refine Go.step (fun _ k => XS.icmpYes X0.here hx rfl (pc0 := 71) (pc' := 78) rfl (hb hby d2_71) rfl (feq hc71_73).2 (by decide) (by decide) k) ?_
    show Go _ _ _ _ _ _ _ s₁ (mkF m 78 #[.val (.int (8238 : Int32)), .val (.int (0 : Int32)), .val (.int (0 : Int32)), .val (.int (0 : Int32)), .val (.int (0 : Int32)), .val (.int (0 : Int32)), .unset, .unset] [])
    refine Go.step (fun _ k => XS.iconst X0.here hx rfl (hb hby d2_78) k) ?_
    show Go _ _ _ _ _ _ _ s₁ (mkF m 79 #[.val (.int (8238 : Int32)), .val (.int (0 : Int32)), .val (.int (0 : Int32)), .val (.int (0 : Int32)), .val (.int (0 : Int32)), .val (.int (0 : Int32)), .unset, .unset] [(.int (0 : Int32))])
    refine Go.step (fun _ k => XS.istore X0.here hx rfl (hb hby d2_79) rfl (l' := #[.val (.int (8238 : Int32)), .val (.int (0 : Int32)), .val (.int (0 : Int32)), .val (.int (0 : Int32)), .val (.int (0 : Int32)), .val (.int (0 : Int32)), .val (.int (0 : Int32)), .unset]) rfl k) ?_
    show Go _ _ _ _ _ _ _ s₁ (mkF m 81 #[.val (.int (8238 : Int32)), .val (.int (0 : Int32)), .val (.int (0 : Int32)), .val (.int (0 : Int32)), .val (.int (0 : Int32)), .val (.int (0 : Int32)), .val (.int (0 : Int32)), .unset] [])
    refine Go.step (fun _ k => XS.iloadN X0.here hx rfl (hb hby d2_81) rfl k) ?_
    show Go _ _ _ _ _ _ _ s₁ (mkF m 82 #[.val (.int (8238 : Int32)), .val (.int (0 : Int32)), .val (.int (0 : Int32)), .val (.int (0 : Int32)), .val (.int (0 : Int32)), .val (.int (0 : Int32)), .val (.int (0 : Int32)), .unset] [(.int (8238 : Int32))])
    refine Go.step (fun _ k => XS.sipush X0.here hx rfl (hb hby d2_82) k) ?_
    show Go _ _ _ _ _ _ _ s₁ (mkF m 85 #[.val (.int (8238 : Int32)), .val (.int (0 : Int32)), .val (.int (0 : Int32)), .val (.int (0 : Int32)), .val (.int (0 : Int32)), .val (.int (0 : Int32)), .val (.int (0 : Int32)), .unset] [(.int (8238 : Int32)), (.int (8238 : Int32))])
    have hc85_74 : (8238 : Int32) = (8238 : Int32) := (by decide)
    refine Go.step (fun _ k => XS.icmpNo X0.here hx rfl (hb hby d2_85) rfl (teq hc85_74).2 k) ?_
    show Go _ _ _ _ _ _ _ s₁ (mkF m 88 #[.val (.int (8238 : Int32)), .val (.int (0 : Int32)), .val (.int (0 : Int32)), .val (.int (0 : Int32)), .val (.int (0 : Int32)), .val (.int (0 : Int32)), .val (.int (0 : Int32)), .unset] [])
    refine Go.step (fun _ k => XS.iconst X0.here hx rfl (hb hby d2_88) k) ?_
    show Go _ _ _ _ _ _ _ s₁ (mkF m 89 #[.val (.int (8238 : Int32)), .val (.int (0 : Int32)), .val (.int (0 : Int32)), .val (.int (0 : Int32)), .val (.int (0 : Int32)), .val (.int (0 : Int32)), .val (.int (0 : Int32)), .unset] [(.int (1 : Int32))])
    refine Go.step (fun _ k => XS.goto X0.here hx rfl (pc0 := 89) (pc' := 93) rfl (hb hby d2_89) (by decide) (by decide) k) ?_
    show Go _ _ _ _ _ _ _ s₁ (mkF m 93 #[.val (.int (8238 : Int32)), .val (.int (0 : Int32)), .val (.int (0 : Int32)), .val (.int (0 : Int32)), .val (.int (0 : Int32)), .val (.int (0 : Int32)), .val (.int (0 : Int32)), .unset] [(.int (1 : Int32))])
    refine Go.step (fun _ k => XS.istore X0.here hx rfl (hb hby d2_93) rfl (l' := #[.val (.int (8238 : Int32)), .val (.int (0 : Int32)), .val (.int (0 : Int32)), .val (.int (0 : Int32)), .val (.int (0 : Int32)), .val (.int (0 : Int32)), .val (.int (0 : Int32)), .val (.int (1 : Int32))]) rfl k) ?_
    show Go _ _ _ _ _ _ _ s₁ (mkF m 95 #[.val (.int (8238 : Int32)), .val (.int (0 : Int32)), .val (.int (0 : Int32)), .val (.int (0 : Int32)), .val (.int (0 : Int32)), .val (.int (0 : Int32)), .val (.int (0 : Int32)), .val (.int (1 : Int32))] [])
    refine Go.step (fun _ k => XS.iloadN X0.here hx rfl (hb hby d2_95) rfl k) ?_
    show Go _ _ _ _ _ _ _ s₁ (mkF m 96 #[.val (.int (8238 : Int32)), .val (.int (0 : Int32)), .val (.int (0 : Int32)), .val (.int (0 : Int32)), .val (.int (0 : Int32)), .val (.int (0 : Int32)), .val (.int (0 : Int32)), .val (.int (1 : Int32))] [(.int (0 : Int32))])
    have hc96_75 : (0 : Int32) = (0 : Int32) := (by decide)
    refine Go.step (fun _ k => XS.ifNo X0.here hx rfl (hb hby d2_96) rfl ((if0 _ _).trans (teq hc96_75).2) k) ?_
    show Go _ _ _ _ _ _ _ s₁ (mkF m 99 #[.val (.int (8238 : Int32)), .val (.int (0 : Int32)), .val (.int (0 : Int32)), .val (.int (0 : Int32)), .val (.int (0 : Int32)), .val (.int (0 : Int32)), .val (.int (0 : Int32)), .val (.int (1 : Int32))] [])
    refine Go.step (fun _ k => XS.iloadN X0.here hx rfl (hb hby d2_99) rfl k) ?_
    show Go _ _ _ _ _ _ _ s₁ (mkF m 100 #[.val (.int (8238 : Int32)), .val (.int (0 : Int32)), .val (.int (0 : Int32)), .val (.int (0 : Int32)), .val (.int (0 : Int32)), .val (.int (0 : Int32)), .val (.int (0 : Int32)), .val (.int (1 : Int32))] [(.int (0 : Int32))])
    have hc100_76 : (0 : Int32) = (0 : Int32) := (by decide)
    refine Go.step (fun _ k => XS.ifNo X0.here hx rfl (hb hby d2_100) rfl ((if0 _ _).trans (teq hc100_76).2) k) ?_
    show Go _ _ _ _ _ _ _ s₁ (mkF m 103 #[.val (.int (8238 : Int32)), .val (.int (0 : Int32)), .val (.int (0 : Int32)), .val (.int (0 : Int32)), .val (.int (0 : Int32)), .val (.int (0 : Int32)), .val (.int (0 : Int32)), .val (.int (1 : Int32))] [])
    refine Go.step (fun _ k => XS.iloadN X0.here hx rfl (hb hby d2_103) rfl k) ?_
    show Go _ _ _ _ _ _ _ s₁ (mkF m 104 #[.val (.int (8238 : Int32)), .val (.int (0 : Int32)), .val (.int (0 : Int32)), .val (.int (0 : Int32)), .val (.int (0 : Int32)), .val (.int (0 : Int32)), .val (.int (0 : Int32)), .val (.int (1 : Int32))] [(.int (0 : Int32))])
    have hc104_77 : (0 : Int32) = (0 : Int32) := (by decide)
    refine Go.step (fun _ k => XS.ifNo X0.here hx rfl (hb hby d2_104) rfl ((if0 _ _).trans (teq hc104_77).2) k) ?_
    show Go _ _ _ _ _ _ _ s₁ (mkF m 107 #[.val (.int (8238 : Int32)), .val (.int (0 : Int32)), .val (.int (0 : Int32)), .val (.int (0 : Int32)), .val (.int (0 : Int32)), .val (.int (0 : Int32)), .val (.int (0 : Int32)), .val (.int (1 : Int32))] [])
    refine Go.step (fun _ k => XS.iload X0.here hx rfl (hb hby d2_107) rfl k) ?_
    show Go _ _ _ _ _ _ _ s₁ (mkF m 109 #[.val (.int (8238 : Int32)), .val (.int (0 : Int32)), .val (.int (0 : Int32)), .val (.int (0 : Int32)), .val (.int (0 : Int32)), .val (.int (0 : Int32)), .val (.int (0 : Int32)), .val (.int (1 : Int32))] [(.int (0 : Int32))])
    have hc109_78 : (0 : Int32) = (0 : Int32) := (by decide)
    refine Go.step (fun _ k => XS.ifNo X0.here hx rfl (hb hby d2_109) rfl ((if0 _ _).trans (teq hc109_78).2) k) ?_
    show Go _ _ _ _ _ _ _ s₁ (mkF m 112 #[.val (.int (8238 : Int32)), .val (.int (0 : Int32)), .val (.int (0 : Int32)), .val (.int (0 : Int32)), .val (.int (0 : Int32)), .val (.int (0 : Int32)), .val (.int (0 : Int32)), .val (.int (1 : Int32))] [])
    refine Go.step (fun _ k => XS.iload X0.here hx rfl (hb hby d2_112) rfl k) ?_
    show Go _ _ _ _ _ _ _ s₁ (mkF m 114 #[.val (.int (8238 : Int32)), .val (.int (0 : Int32)), .val (.int (0 : Int32)), .val (.int (0 : Int32)), .val (.int (0 : Int32)), .val (.int (0 : Int32)), .val (.int (0 : Int32)), .val (.int (1 : Int32))] [(.int (0 : Int32))])
    have hc114_79 : (0 : Int32) = (0 : Int32) := (by decide)
    refine Go.step (fun _ k => XS.ifNo X0.here hx rfl (hb hby d2_114) rfl ((if0 _ _).trans (teq hc114_79).2) k) ?_
    show Go _ _ _ _ _ _ _ s₁ (mkF m 117 #[.val (.int (8238 : Int32)), .val (.int (0 : Int32)), .val (.int (0 : Int32)), .val (.int (0 : Int32)), .val (.int (0 : Int32)), .val (.int (0 : Int32)), .val (.int (0 : Int32)), .val (.int (1 : Int32))] [])
    refine Go.step (fun _ k => XS.iload X0.here hx rfl (hb hby d2_117) rfl k) ?_
    show Go _ _ _ _ _ _ _ s₁ (mkF m 119 #[.val (.int (8238 : Int32)), .val (.int (0 : Int32)), .val (.int (0 : Int32)), .val (.int (0 : Int32)), .val (.int (0 : Int32)), .val (.int (0 : Int32)), .val (.int (0 : Int32)), .val (.int (1 : Int32))] [(.int (0 : Int32))])
    have hc119_80 : (0 : Int32) = (0 : Int32) := (by decide)
    refine Go.step (fun _ k => XS.ifNo X0.here hx rfl (hb hby d2_119) rfl ((if0 _ _).trans (teq hc119_80).2) k) ?_
    show Go _ _ _ _ _ _ _ s₁ (mkF m 122 #[.val (.int (8238 : Int32)), .val (.int (0 : Int32)), .val (.int (0 : Int32)), .val (.int (0 : Int32)), .val (.int (0 : Int32)), .val (.int (0 : Int32)), .val (.int (0 : Int32)), .val (.int (1 : Int32))] [])
    refine Go.step (fun _ k => XS.iload X0.here hx rfl (hb hby d2_122) rfl k) ?_
    show Go _ _ _ _ _ _ _ s₁ (mkF m 124 #[.val (.int (8238 : Int32)), .val (.int (0 : Int32)), .val (.int (0 : Int32)), .val (.int (0 : Int32)), .val (.int (0 : Int32)), .val (.int (0 : Int32)), .val (.int (0 : Int32)), .val (.int (1 : Int32))] [(.int (1 : Int32))])
    have hc124_81 : ¬ ((1 : Int32) = (0 : Int32)) := (by decide)
    refine Go.step (fun _ k => XS.ifNo X0.here hx rfl (hb hby d2_124) rfl ((if0 _ _).trans (feq hc124_81).1) k) ?_
    show Go _ _ _ _ _ _ _ s₁ (mkF m 127 #[.val (.int (8238 : Int32)), .val (.int (0 : Int32)), .val (.int (0 : Int32)), .val (.int (0 : Int32)), .val (.int (0 : Int32)), .val (.int (0 : Int32)), .val (.int (0 : Int32)), .val (.int (1 : Int32))] [])
    refine Go.step (fun _ k => XS.iconst X0.here hx rfl (hb hby d2_127) k) ?_
    show Go _ _ _ _ _ _ _ s₁ (mkF m 128 #[.val (.int (8238 : Int32)), .val (.int (0 : Int32)), .val (.int (0 : Int32)), .val (.int (0 : Int32)), .val (.int (0 : Int32)), .val (.int (0 : Int32)), .val (.int (0 : Int32)), .val (.int (1 : Int32))] [(.int (1 : Int32))])
    refine Go.step (fun _ k => XS.goto X0.here hx rfl (pc0 := 128) (pc' := 132) rfl (hb hby d2_128) (by decide) (by decide) k) ?_
    show Go _ _ _ _ _ _ _ s₁ (mkF m 132 #[.val (.int (8238 : Int32)), .val (.int (0 : Int32)), .val (.int (0 : Int32)), .val (.int (0 : Int32)), .val (.int (0 : Int32)), .val (.int (0 : Int32)), .val (.int (0 : Int32)), .val (.int (1 : Int32))] [(.int (1 : Int32))])
    exact Go.retN X0 hx (t := .boolean) hret hlk (by simp) (hb hby d2_132) e0 (by decide) (by decide) ⟨rfl, N0, rfl⟩
  show Go _ _ _ _ _ _ _ s₁ (mkF m 0 #[.val (.int ci), .unset, .unset, .unset, .unset, .unset, .unset, .unset] [])
  refine Go.step (fun _ k => XS.iloadN X0.here hx rfl (hb hby d2_0) rfl k) ?_
  show Go _ _ _ _ _ _ _ s₁ (mkF m 1 #[.val (.int ci), .unset, .unset, .unset, .unset, .unset, .unset, .unset] [(.int ci)])
  refine Go.step (fun _ k => XS.sipush X0.here hx rfl (hb hby d2_1) k) ?_
  show Go _ _ _ _ _ _ _ s₁ (mkF m 4 #[.val (.int ci), .unset, .unset, .unset, .unset, .unset, .unset, .unset] [(.int (8206 : Int32)), (.int ci)])
  have hc4_82 : ¬ (ci = (8206 : Int32)) := hk8206
  refine Go.step (fun _ k => XS.icmpYes X0.here hx rfl (pc0 := 4) (pc' := 11) rfl (hb hby d2_4) rfl (feq hc4_82).2 (by decide) (by decide) k) ?_
  show Go _ _ _ _ _ _ _ s₁ (mkF m 11 #[.val (.int ci), .unset, .unset, .unset, .unset, .unset, .unset, .unset] [])
  refine Go.step (fun _ k => XS.iconst X0.here hx rfl (hb hby d2_11) k) ?_
  show Go _ _ _ _ _ _ _ s₁ (mkF m 12 #[.val (.int ci), .unset, .unset, .unset, .unset, .unset, .unset, .unset] [(.int (0 : Int32))])
  refine Go.step (fun _ k => XS.istoreN X0.here hx rfl (hb hby d2_12) rfl (l' := #[.val (.int ci), .val (.int (0 : Int32)), .unset, .unset, .unset, .unset, .unset, .unset]) rfl k) ?_
  show Go _ _ _ _ _ _ _ s₁ (mkF m 13 #[.val (.int ci), .val (.int (0 : Int32)), .unset, .unset, .unset, .unset, .unset, .unset] [])
  refine Go.step (fun _ k => XS.iloadN X0.here hx rfl (hb hby d2_13) rfl k) ?_
  show Go _ _ _ _ _ _ _ s₁ (mkF m 14 #[.val (.int ci), .val (.int (0 : Int32)), .unset, .unset, .unset, .unset, .unset, .unset] [(.int ci)])
  refine Go.step (fun _ k => XS.sipush X0.here hx rfl (hb hby d2_14) k) ?_
  show Go _ _ _ _ _ _ _ s₁ (mkF m 17 #[.val (.int ci), .val (.int (0 : Int32)), .unset, .unset, .unset, .unset, .unset, .unset] [(.int (8207 : Int32)), (.int ci)])
  have hc17_83 : ¬ (ci = (8207 : Int32)) := hk8207
  refine Go.step (fun _ k => XS.icmpYes X0.here hx rfl (pc0 := 17) (pc' := 24) rfl (hb hby d2_17) rfl (feq hc17_83).2 (by decide) (by decide) k) ?_
  show Go _ _ _ _ _ _ _ s₁ (mkF m 24 #[.val (.int ci), .val (.int (0 : Int32)), .unset, .unset, .unset, .unset, .unset, .unset] [])
  refine Go.step (fun _ k => XS.iconst X0.here hx rfl (hb hby d2_24) k) ?_
  show Go _ _ _ _ _ _ _ s₁ (mkF m 25 #[.val (.int ci), .val (.int (0 : Int32)), .unset, .unset, .unset, .unset, .unset, .unset] [(.int (0 : Int32))])
  refine Go.step (fun _ k => XS.istoreN X0.here hx rfl (hb hby d2_25) rfl (l' := #[.val (.int ci), .val (.int (0 : Int32)), .val (.int (0 : Int32)), .unset, .unset, .unset, .unset, .unset]) rfl k) ?_
  show Go _ _ _ _ _ _ _ s₁ (mkF m 26 #[.val (.int ci), .val (.int (0 : Int32)), .val (.int (0 : Int32)), .unset, .unset, .unset, .unset, .unset] [])
  refine Go.step (fun _ k => XS.iloadN X0.here hx rfl (hb hby d2_26) rfl k) ?_
  show Go _ _ _ _ _ _ _ s₁ (mkF m 27 #[.val (.int ci), .val (.int (0 : Int32)), .val (.int (0 : Int32)), .unset, .unset, .unset, .unset, .unset] [(.int ci)])
  refine Go.step (fun _ k => XS.sipush X0.here hx rfl (hb hby d2_27) k) ?_
  show Go _ _ _ _ _ _ _ s₁ (mkF m 30 #[.val (.int ci), .val (.int (0 : Int32)), .val (.int (0 : Int32)), .unset, .unset, .unset, .unset, .unset] [(.int (8234 : Int32)), (.int ci)])
  have hc30_84 : ¬ (ci = (8234 : Int32)) := hk8234
  refine Go.step (fun _ k => XS.icmpYes X0.here hx rfl (pc0 := 30) (pc' := 37) rfl (hb hby d2_30) rfl (feq hc30_84).2 (by decide) (by decide) k) ?_
  show Go _ _ _ _ _ _ _ s₁ (mkF m 37 #[.val (.int ci), .val (.int (0 : Int32)), .val (.int (0 : Int32)), .unset, .unset, .unset, .unset, .unset] [])
  refine Go.step (fun _ k => XS.iconst X0.here hx rfl (hb hby d2_37) k) ?_
  show Go _ _ _ _ _ _ _ s₁ (mkF m 38 #[.val (.int ci), .val (.int (0 : Int32)), .val (.int (0 : Int32)), .unset, .unset, .unset, .unset, .unset] [(.int (0 : Int32))])
  refine Go.step (fun _ k => XS.istoreN X0.here hx rfl (hb hby d2_38) rfl (l' := #[.val (.int ci), .val (.int (0 : Int32)), .val (.int (0 : Int32)), .val (.int (0 : Int32)), .unset, .unset, .unset, .unset]) rfl k) ?_
  show Go _ _ _ _ _ _ _ s₁ (mkF m 39 #[.val (.int ci), .val (.int (0 : Int32)), .val (.int (0 : Int32)), .val (.int (0 : Int32)), .unset, .unset, .unset, .unset] [])
  refine Go.step (fun _ k => XS.iloadN X0.here hx rfl (hb hby d2_39) rfl k) ?_
  show Go _ _ _ _ _ _ _ s₁ (mkF m 40 #[.val (.int ci), .val (.int (0 : Int32)), .val (.int (0 : Int32)), .val (.int (0 : Int32)), .unset, .unset, .unset, .unset] [(.int ci)])
  refine Go.step (fun _ k => XS.sipush X0.here hx rfl (hb hby d2_40) k) ?_
  show Go _ _ _ _ _ _ _ s₁ (mkF m 43 #[.val (.int ci), .val (.int (0 : Int32)), .val (.int (0 : Int32)), .val (.int (0 : Int32)), .unset, .unset, .unset, .unset] [(.int (8235 : Int32)), (.int ci)])
  have hc43_85 : ¬ (ci = (8235 : Int32)) := hk8235
  refine Go.step (fun _ k => XS.icmpYes X0.here hx rfl (pc0 := 43) (pc' := 50) rfl (hb hby d2_43) rfl (feq hc43_85).2 (by decide) (by decide) k) ?_
  show Go _ _ _ _ _ _ _ s₁ (mkF m 50 #[.val (.int ci), .val (.int (0 : Int32)), .val (.int (0 : Int32)), .val (.int (0 : Int32)), .unset, .unset, .unset, .unset] [])
  refine Go.step (fun _ k => XS.iconst X0.here hx rfl (hb hby d2_50) k) ?_
  show Go _ _ _ _ _ _ _ s₁ (mkF m 51 #[.val (.int ci), .val (.int (0 : Int32)), .val (.int (0 : Int32)), .val (.int (0 : Int32)), .unset, .unset, .unset, .unset] [(.int (0 : Int32))])
  refine Go.step (fun _ k => XS.istore X0.here hx rfl (hb hby d2_51) rfl (l' := #[.val (.int ci), .val (.int (0 : Int32)), .val (.int (0 : Int32)), .val (.int (0 : Int32)), .val (.int (0 : Int32)), .unset, .unset, .unset]) rfl k) ?_
  show Go _ _ _ _ _ _ _ s₁ (mkF m 53 #[.val (.int ci), .val (.int (0 : Int32)), .val (.int (0 : Int32)), .val (.int (0 : Int32)), .val (.int (0 : Int32)), .unset, .unset, .unset] [])
  refine Go.step (fun _ k => XS.iloadN X0.here hx rfl (hb hby d2_53) rfl k) ?_
  show Go _ _ _ _ _ _ _ s₁ (mkF m 54 #[.val (.int ci), .val (.int (0 : Int32)), .val (.int (0 : Int32)), .val (.int (0 : Int32)), .val (.int (0 : Int32)), .unset, .unset, .unset] [(.int ci)])
  refine Go.step (fun _ k => XS.sipush X0.here hx rfl (hb hby d2_54) k) ?_
  show Go _ _ _ _ _ _ _ s₁ (mkF m 57 #[.val (.int ci), .val (.int (0 : Int32)), .val (.int (0 : Int32)), .val (.int (0 : Int32)), .val (.int (0 : Int32)), .unset, .unset, .unset] [(.int (8236 : Int32)), (.int ci)])
  have hc57_86 : ¬ (ci = (8236 : Int32)) := hk8236
  refine Go.step (fun _ k => XS.icmpYes X0.here hx rfl (pc0 := 57) (pc' := 64) rfl (hb hby d2_57) rfl (feq hc57_86).2 (by decide) (by decide) k) ?_
  show Go _ _ _ _ _ _ _ s₁ (mkF m 64 #[.val (.int ci), .val (.int (0 : Int32)), .val (.int (0 : Int32)), .val (.int (0 : Int32)), .val (.int (0 : Int32)), .unset, .unset, .unset] [])
  refine Go.step (fun _ k => XS.iconst X0.here hx rfl (hb hby d2_64) k) ?_
  show Go _ _ _ _ _ _ _ s₁ (mkF m 65 #[.val (.int ci), .val (.int (0 : Int32)), .val (.int (0 : Int32)), .val (.int (0 : Int32)), .val (.int (0 : Int32)), .unset, .unset, .unset] [(.int (0 : Int32))])
  refine Go.step (fun _ k => XS.istore X0.here hx rfl (hb hby d2_65) rfl (l' := #[.val (.int ci), .val (.int (0 : Int32)), .val (.int (0 : Int32)), .val (.int (0 : Int32)), .val (.int (0 : Int32)), .val (.int (0 : Int32)), .unset, .unset]) rfl k) ?_
  show Go _ _ _ _ _ _ _ s₁ (mkF m 67 #[.val (.int ci), .val (.int (0 : Int32)), .val (.int (0 : Int32)), .val (.int (0 : Int32)), .val (.int (0 : Int32)), .val (.int (0 : Int32)), .unset, .unset] [])
  refine Go.step (fun _ k => XS.iloadN X0.here hx rfl (hb hby d2_67) rfl k) ?_
  show Go _ _ _ _ _ _ _ s₁ (mkF m 68 #[.val (.int ci), .val (.int (0 : Int32)), .val (.int (0 : Int32)), .val (.int (0 : Int32)), .val (.int (0 : Int32)), .val (.int (0 : Int32)), .unset, .unset] [(.int ci)])
  refine Go.step (fun _ k => XS.sipush X0.here hx rfl (hb hby d2_68) k) ?_
  show Go _ _ _ _ _ _ _ s₁ (mkF m 71 #[.val (.int ci), .val (.int (0 : Int32)), .val (.int (0 : Int32)), .val (.int (0 : Int32)), .val (.int (0 : Int32)), .val (.int (0 : Int32)), .unset, .unset] [(.int (8237 : Int32)), (.int ci)])
  have hc71_87 : ¬ (ci = (8237 : Int32)) := hk8237
  refine Go.step (fun _ k => XS.icmpYes X0.here hx rfl (pc0 := 71) (pc' := 78) rfl (hb hby d2_71) rfl (feq hc71_87).2 (by decide) (by decide) k) ?_
  show Go _ _ _ _ _ _ _ s₁ (mkF m 78 #[.val (.int ci), .val (.int (0 : Int32)), .val (.int (0 : Int32)), .val (.int (0 : Int32)), .val (.int (0 : Int32)), .val (.int (0 : Int32)), .unset, .unset] [])
  refine Go.step (fun _ k => XS.iconst X0.here hx rfl (hb hby d2_78) k) ?_
  show Go _ _ _ _ _ _ _ s₁ (mkF m 79 #[.val (.int ci), .val (.int (0 : Int32)), .val (.int (0 : Int32)), .val (.int (0 : Int32)), .val (.int (0 : Int32)), .val (.int (0 : Int32)), .unset, .unset] [(.int (0 : Int32))])
  refine Go.step (fun _ k => XS.istore X0.here hx rfl (hb hby d2_79) rfl (l' := #[.val (.int ci), .val (.int (0 : Int32)), .val (.int (0 : Int32)), .val (.int (0 : Int32)), .val (.int (0 : Int32)), .val (.int (0 : Int32)), .val (.int (0 : Int32)), .unset]) rfl k) ?_
  show Go _ _ _ _ _ _ _ s₁ (mkF m 81 #[.val (.int ci), .val (.int (0 : Int32)), .val (.int (0 : Int32)), .val (.int (0 : Int32)), .val (.int (0 : Int32)), .val (.int (0 : Int32)), .val (.int (0 : Int32)), .unset] [])
  refine Go.step (fun _ k => XS.iloadN X0.here hx rfl (hb hby d2_81) rfl k) ?_
  show Go _ _ _ _ _ _ _ s₁ (mkF m 82 #[.val (.int ci), .val (.int (0 : Int32)), .val (.int (0 : Int32)), .val (.int (0 : Int32)), .val (.int (0 : Int32)), .val (.int (0 : Int32)), .val (.int (0 : Int32)), .unset] [(.int ci)])
  refine Go.step (fun _ k => XS.sipush X0.here hx rfl (hb hby d2_82) k) ?_
  show Go _ _ _ _ _ _ _ s₁ (mkF m 85 #[.val (.int ci), .val (.int (0 : Int32)), .val (.int (0 : Int32)), .val (.int (0 : Int32)), .val (.int (0 : Int32)), .val (.int (0 : Int32)), .val (.int (0 : Int32)), .unset] [(.int (8238 : Int32)), (.int ci)])
  have hc85_88 : ¬ (ci = (8238 : Int32)) := hk8238
  refine Go.step (fun _ k => XS.icmpYes X0.here hx rfl (pc0 := 85) (pc' := 92) rfl (hb hby d2_85) rfl (feq hc85_88).2 (by decide) (by decide) k) ?_
  show Go _ _ _ _ _ _ _ s₁ (mkF m 92 #[.val (.int ci), .val (.int (0 : Int32)), .val (.int (0 : Int32)), .val (.int (0 : Int32)), .val (.int (0 : Int32)), .val (.int (0 : Int32)), .val (.int (0 : Int32)), .unset] [])
  refine Go.step (fun _ k => XS.iconst X0.here hx rfl (hb hby d2_92) k) ?_
  show Go _ _ _ _ _ _ _ s₁ (mkF m 93 #[.val (.int ci), .val (.int (0 : Int32)), .val (.int (0 : Int32)), .val (.int (0 : Int32)), .val (.int (0 : Int32)), .val (.int (0 : Int32)), .val (.int (0 : Int32)), .unset] [(.int (0 : Int32))])
  refine Go.step (fun _ k => XS.istore X0.here hx rfl (hb hby d2_93) rfl (l' := #[.val (.int ci), .val (.int (0 : Int32)), .val (.int (0 : Int32)), .val (.int (0 : Int32)), .val (.int (0 : Int32)), .val (.int (0 : Int32)), .val (.int (0 : Int32)), .val (.int (0 : Int32))]) rfl k) ?_
  show Go _ _ _ _ _ _ _ s₁ (mkF m 95 #[.val (.int ci), .val (.int (0 : Int32)), .val (.int (0 : Int32)), .val (.int (0 : Int32)), .val (.int (0 : Int32)), .val (.int (0 : Int32)), .val (.int (0 : Int32)), .val (.int (0 : Int32))] [])
  refine Go.step (fun _ k => XS.iloadN X0.here hx rfl (hb hby d2_95) rfl k) ?_
  show Go _ _ _ _ _ _ _ s₁ (mkF m 96 #[.val (.int ci), .val (.int (0 : Int32)), .val (.int (0 : Int32)), .val (.int (0 : Int32)), .val (.int (0 : Int32)), .val (.int (0 : Int32)), .val (.int (0 : Int32)), .val (.int (0 : Int32))] [(.int (0 : Int32))])
  have hc96_89 : (0 : Int32) = (0 : Int32) := (by decide)
  refine Go.step (fun _ k => XS.ifNo X0.here hx rfl (hb hby d2_96) rfl ((if0 _ _).trans (teq hc96_89).2) k) ?_
  show Go _ _ _ _ _ _ _ s₁ (mkF m 99 #[.val (.int ci), .val (.int (0 : Int32)), .val (.int (0 : Int32)), .val (.int (0 : Int32)), .val (.int (0 : Int32)), .val (.int (0 : Int32)), .val (.int (0 : Int32)), .val (.int (0 : Int32))] [])
  refine Go.step (fun _ k => XS.iloadN X0.here hx rfl (hb hby d2_99) rfl k) ?_
  show Go _ _ _ _ _ _ _ s₁ (mkF m 100 #[.val (.int ci), .val (.int (0 : Int32)), .val (.int (0 : Int32)), .val (.int (0 : Int32)), .val (.int (0 : Int32)), .val (.int (0 : Int32)), .val (.int (0 : Int32)), .val (.int (0 : Int32))] [(.int (0 : Int32))])
  have hc100_90 : (0 : Int32) = (0 : Int32) := (by decide)
  refine Go.step (fun _ k => XS.ifNo X0.here hx rfl (hb hby d2_100) rfl ((if0 _ _).trans (teq hc100_90).2) k) ?_
  show Go _ _ _ _ _ _ _ s₁ (mkF m 103 #[.val (.int ci), .val (.int (0 : Int32)), .val (.int (0 : Int32)), .val (.int (0 : Int32)), .val (.int (0 : Int32)), .val (.int (0 : Int32)), .val (.int (0 : Int32)), .val (.int (0 : Int32))] [])
  refine Go.step (fun _ k => XS.iloadN X0.here hx rfl (hb hby d2_103) rfl k) ?_
  show Go _ _ _ _ _ _ _ s₁ (mkF m 104 #[.val (.int ci), .val (.int (0 : Int32)), .val (.int (0 : Int32)), .val (.int (0 : Int32)), .val (.int (0 : Int32)), .val (.int (0 : Int32)), .val (.int (0 : Int32)), .val (.int (0 : Int32))] [(.int (0 : Int32))])
  have hc104_91 : (0 : Int32) = (0 : Int32) := (by decide)
  refine Go.step (fun _ k => XS.ifNo X0.here hx rfl (hb hby d2_104) rfl ((if0 _ _).trans (teq hc104_91).2) k) ?_
  show Go _ _ _ _ _ _ _ s₁ (mkF m 107 #[.val (.int ci), .val (.int (0 : Int32)), .val (.int (0 : Int32)), .val (.int (0 : Int32)), .val (.int (0 : Int32)), .val (.int (0 : Int32)), .val (.int (0 : Int32)), .val (.int (0 : Int32))] [])
  refine Go.step (fun _ k => XS.iload X0.here hx rfl (hb hby d2_107) rfl k) ?_
  show Go _ _ _ _ _ _ _ s₁ (mkF m 109 #[.val (.int ci), .val (.int (0 : Int32)), .val (.int (0 : Int32)), .val (.int (0 : Int32)), .val (.int (0 : Int32)), .val (.int (0 : Int32)), .val (.int (0 : Int32)), .val (.int (0 : Int32))] [(.int (0 : Int32))])
  have hc109_92 : (0 : Int32) = (0 : Int32) := (by decide)
  refine Go.step (fun _ k => XS.ifNo X0.here hx rfl (hb hby d2_109) rfl ((if0 _ _).trans (teq hc109_92).2) k) ?_
  show Go _ _ _ _ _ _ _ s₁ (mkF m 112 #[.val (.int ci), .val (.int (0 : Int32)), .val (.int (0 : Int32)), .val (.int (0 : Int32)), .val (.int (0 : Int32)), .val (.int (0 : Int32)), .val (.int (0 : Int32)), .val (.int (0 : Int32))] [])
  refine Go.step (fun _ k => XS.iload X0.here hx rfl (hb hby d2_112) rfl k) ?_
  show Go _ _ _ _ _ _ _ s₁ (mkF m 114 #[.val (.int ci), .val (.int (0 : Int32)), .val (.int (0 : Int32)), .val (.int (0 : Int32)), .val (.int (0 : Int32)), .val (.int (0 : Int32)), .val (.int (0 : Int32)), .val (.int (0 : Int32))] [(.int (0 : Int32))])
  have hc114_93 : (0 : Int32) = (0 : Int32) := (by decide)
  refine Go.step (fun _ k => XS.ifNo X0.here hx rfl (hb hby d2_114) rfl ((if0 _ _).trans (teq hc114_93).2) k) ?_
  show Go _ _ _ _ _ _ _ s₁ (mkF m 117 #[.val (.int ci), .val (.int (0 : Int32)), .val (.int (0 : Int32)), .val (.int (0 : Int32)), .val (.int (0 : Int32)), .val (.int (0 : Int32)), .val (.int (0 : Int32)), .val (.int (0 : Int32))] [])
  refine Go.step (fun _ k => XS.iload X0.here hx rfl (hb hby d2_117) rfl k) ?_
  show Go _ _ _ _ _ _ _ s₁ (mkF m 119 #[.val (.int ci), .val (.int (0 : Int32)), .val (.int (0 : Int32)), .val (.int (0 : Int32)), .val (.int (0 : Int32)), .val (.int (0 : Int32)), .val (.int (0 : Int32)), .val (.int (0 : Int32))] [(.int (0 : Int32))])
  have hc119_94 : (0 : Int32) = (0 : Int32) := (by decide)
  refine Go.step (fun _ k => XS.ifNo X0.here hx rfl (hb hby d2_119) rfl ((if0 _ _).trans (teq hc119_94).2) k) ?_
  show Go _ _ _ _ _ _ _ s₁ (mkF m 122 #[.val (.int ci), .val (.int (0 : Int32)), .val (.int (0 : Int32)), .val (.int (0 : Int32)), .val (.int (0 : Int32)), .val (.int (0 : Int32)), .val (.int (0 : Int32)), .val (.int (0 : Int32))] [])
  refine Go.step (fun _ k => XS.iload X0.here hx rfl (hb hby d2_122) rfl k) ?_
  show Go _ _ _ _ _ _ _ s₁ (mkF m 124 #[.val (.int ci), .val (.int (0 : Int32)), .val (.int (0 : Int32)), .val (.int (0 : Int32)), .val (.int (0 : Int32)), .val (.int (0 : Int32)), .val (.int (0 : Int32)), .val (.int (0 : Int32))] [(.int (0 : Int32))])
  have hc124_95 : (0 : Int32) = (0 : Int32) := (by decide)
  refine Go.step (fun _ k => XS.ifYes X0.here hx rfl (pc0 := 124) (pc' := 131) rfl (hb hby d2_124) rfl ((if0 _ _).trans (teq hc124_95).1) (by decide) (by decide) k) ?_
  show Go _ _ _ _ _ _ _ s₁ (mkF m 131 #[.val (.int ci), .val (.int (0 : Int32)), .val (.int (0 : Int32)), .val (.int (0 : Int32)), .val (.int (0 : Int32)), .val (.int (0 : Int32)), .val (.int (0 : Int32)), .val (.int (0 : Int32))] [])
  refine Go.step (fun _ k => XS.iconst X0.here hx rfl (hb hby d2_131) k) ?_
  show Go _ _ _ _ _ _ _ s₁ (mkF m 132 #[.val (.int ci), .val (.int (0 : Int32)), .val (.int (0 : Int32)), .val (.int (0 : Int32)), .val (.int (0 : Int32)), .val (.int (0 : Int32)), .val (.int (0 : Int32)), .val (.int (0 : Int32))] [(.int (0 : Int32))])
  exact Go.retN X0 hx (t := .boolean) hret hlk (by simp) (hb hby d2_132) e0 (by decide) (by decide) ⟨(congrArg (fun z => some (Value.int z)) (own_bidi0 hk8206 hk8207 hk8234 hk8235 hk8236 hk8237 hk8238).symm), N0, rfl⟩
theorem pd__I_Z : parseMethodDescriptor "(I)Z" = some ⟨[.int], some .boolean⟩ := by decide +kernel
theorem ef_rm0 (m : MethodId) (ia : Int32) (ib : Int32) : entryFrame m #[(.int ia), (.int ib)] maxLocals = mkF m 0 #[.val (.int ia), .val (.int ib), .unset, .unset, .unset] [] := by first | (simp [entryFrame, mkF, argsToLocals, Value.category, maxLocals]; done) | rfl
def Q_rm0 (Z : State) (ia : Int32) (ib : Int32) (h0 : Heap) (n0 : Nat) (v : Option Value) (h : Heap) (L : List Loc) : Prop := (v = some (.int (1 : Int32))) ∧ (Fr n0 L) ∧ (True)
set_option maxRecDepth 65536 in
set_option maxHeartbeats 40000000 in
theorem rm0 (l : Launch) (Z : State) (a0 : Array Value) (hw : ∀ d ∈ tables_1, d.before a0 Z = true) (ws : List Jvm.Cond) (ia : Int32) (ib : Int32) (h0 : Heap) (n0 : Nat) (Z0 : n0 ≤ h0.size) :
    MetFree l x (head1 (Jvm.Cond.code x code maxLocals ret :: ws) room_1) (fun aA U => aA = #[(.int ia), (.int ib)] ∧ Z.Warmed39 U.vm ∧ U.heap = h0) (fun _ _ _ _ _ => True) (fun _ U o U' => ∃ v L, o = .returned v ∧ Q_rm0 Z ia ib h0 n0 v U'.heap L ∧ FrameEnd U o U' L room_1.cells room_1.slots) := by
  refine MetFree.of_bodySF (plainFor_of_name pn_com_example_eiri_eiri_IriCharactersIsBidiFormattingPinLaw) hisR ?_
  intro p e s m args below meth c s₁ Bd hml0 hP hK
  obtain ⟨rfl, hZ, hh⟩ := hP
  have hx := Bd.exec
  have hby := Bd.bytes
  have hml : c.maxLocals = 5 := hml0
  have hown : s.vm.findClass "com/example/eiri/eiri/IriCharactersIsBidiFormattingPinLaw" = some m.cls := findClass_of_methodNamed Bd.named
  have hnm := (name_of_methodNamed Bd.named Bd.method).1
  have hret := Bd.returns
  have hlk : meth.locks = false := BodyLoose.notSynchronized Bd
  have X0 : Stand p l e room_1 s m #[(.int ia), (.int ib)] below meth c s₁ [] 0 0 := Stand.of_body Bd
  have e0 : s₁.heap = h0 := by rw [← hh, Bd.state]; rfl
  have N0 := Fr.nil n0
  suffices hgo : Go p e below s room_1.cells room_1.slots (Q_rm0 Z ia ib h0 n0) s₁ (mkF m 0 #[.val (.int ia), .val (.int ib), .unset, .unset, .unset] []) from hgo.enter (ef_rm0 m ia ib)
  refine Go.step (fun _ k => XS.sipush X0.here hx rfl (hb hby at_0) k) ?_
  show Go _ _ _ _ _ _ _ s₁ (mkF m 3 #[.val (.int ia), .val (.int ib), .unset, .unset, .unset] [(.int (8192 : Int32))])
  refine Go.step (fun _ k => XS.iloadN X0.here hx rfl (hb hby at_3) rfl k) ?_
  show Go _ _ _ _ _ _ _ s₁ (mkF m 4 #[.val (.int ia), .val (.int ib), .unset, .unset, .unset] [(.int ib), (.int (8192 : Int32))])
  refine Go.step (fun _ k => XS.bipush X0.here hx rfl (hb hby at_4) k) ?_
  show Go _ _ _ _ _ _ _ s₁ (mkF m 6 #[.val (.int ia), .val (.int ib), .unset, .unset, .unset] [(.int (63 : Int32)), (.int ib), (.int (8192 : Int32))])
  refine Go.step (fun _ k => XS.iand X0.here hx rfl (hb hby at_6) rfl k) ?_
  show Go _ _ _ _ _ _ _ s₁ (mkF m 7 #[.val (.int ia), .val (.int ib), .unset, .unset, .unset] [(.int (ib &&& (63 : Int32))), (.int (8192 : Int32))])
  refine Go.step (fun _ k => XS.iadd X0.here hx rfl (hb hby at_7) rfl k) ?_
  show Go _ _ _ _ _ _ _ s₁ (mkF m 8 #[.val (.int ia), .val (.int ib), .unset, .unset, .unset] [(.int ((8192 : Int32) + (ib &&& (63 : Int32))))])
  refine Go.step (fun _ k => XS.istoreN X0.here hx rfl (hb hby at_8) rfl (l' := #[.val (.int ia), .val (.int ib), .val (.int ((8192 : Int32) + (ib &&& (63 : Int32)))), .unset, .unset]) rfl k) ?_
  show Go _ _ _ _ _ _ _ s₁ (mkF m 9 #[.val (.int ia), .val (.int ib), .val (.int ((8192 : Int32) + (ib &&& (63 : Int32)))), .unset, .unset] [])
  refine Go.step (fun _ k => XS.iloadN X0.here hx rfl (hb hby at_9) rfl k) ?_
  show Go _ _ _ _ _ _ _ s₁ (mkF m 10 #[.val (.int ia), .val (.int ib), .val (.int ((8192 : Int32) + (ib &&& (63 : Int32)))), .unset, .unset] [(.int ia)])
  obtain ⟨_, _, ⟨T96, L96, k96, n96⟩, -, X96, ⟨Lc96, hQ96, l96, y96, z96⟩, st96⟩ := Jvm.LawKit.callS X0 hx (y := (⟨"com/example/eiri/eiri/IriCharacters", "isBidiFormatting", "(I)Z"⟩ : MethodName)) hown (mvT hZ (hw _ (List.mem_of_getElem? (i := 0) rfl))) (mvT hZ (hw _ (List.mem_of_getElem? (i := 1) rfl))) (mvT hZ (hw _ (List.mem_of_getElem? (i := 2) rfl))) (mvT hZ (hw _ (List.mem_of_getElem? (i := 3) rfl))) (by decide) (backOf (W := 0) (rm1 l Z a0 hw [] ia h0 n0 Z0 ) hZ (hw _ (List.mem_of_getElem? (i := 3) rfl)) (hw _ (List.mem_of_getElem? (i := 2) rfl)) (by decide) (by decide)) (g := (mkF m 10 #[.val (.int ia), .val (.int ib), .val (.int ((8192 : Int32) + (ib &&& (63 : Int32)))), .unset, .unset] [(.int ia)])) rfl (by rw [hml]; rfl) (argsL := [(.int ia)]) (rest := []) (lenOf pd__I_Z rfl) rfl (by show 2 * 0 + _ ≤ _; exact Nat.le_of_eq rfl) (hb hby at_10) (fun _ _ => ⟨rfl, e0, (by decide : 0 + 0 ≤ _), (by decide : 0 + 0 ≤ _)⟩)
  dsimp only [Pt.U, Pt.locs, Pt.cells, Pt.slots] at X96 l96 y96 z96 st96 hQ96
  subst l96 y96 z96
  obtain ⟨h96, e96⟩ : ∃ h, T96.heap = h := ⟨_, rfl⟩
  rw [e96] at hQ96
  obtain ⟨rfl, Nq96, hs96⟩ := hQ96
  have N96 := Fr.app N0 Nq96
  rw [hs96] at e96
  refine Go.step st96 ?_
  show Go _ _ _ _ _ _ _ T96 (mkF m 13 #[.val (.int ia), .val (.int ib), .val (.int ((8192 : Int32) + (ib &&& (63 : Int32)))), .unset, .unset] [(.int (own_bidi ia))])
  refine Go.step (fun _ k => XS.iloadN X96.here hx rfl (hb hby at_13) rfl k) ?_
  show Go _ _ _ _ _ _ _ T96 (mkF m 14 #[.val (.int ia), .val (.int ib), .val (.int ((8192 : Int32) + (ib &&& (63 : Int32)))), .unset, .unset] [(.int ia), (.int (own_bidi ia))])
  obtain ⟨_, _, ⟨T97, L97, k97, n97⟩, -, X97, ⟨Lc97, hQ97, l97, y97, z97⟩, st97⟩ := Jvm.LawKit.callS X96 hx (y := (⟨"com/example/eiri/eiri/IriCharactersIsBidiFormattingPinLaw", "reference", "(I)Z"⟩ : MethodName)) hown (mvT hZ (hw _ (List.mem_of_getElem? (i := 4) rfl))) (mvT hZ (hw _ (List.mem_of_getElem? (i := 5) rfl))) (mvT hZ (hw _ (List.mem_of_getElem? (i := 6) rfl))) (mvT hZ (hw _ (List.mem_of_getElem? (i := 7) rfl))) (by decide) (backOf (W := 1) (rm2 l Z a0 hw [] ia h0 n0 Z0 ) hZ (hw _ (List.mem_of_getElem? (i := 7) rfl)) (hw _ (List.mem_of_getElem? (i := 6) rfl)) (by decide) (by decide)) (g := (mkF m 14 #[.val (.int ia), .val (.int ib), .val (.int ((8192 : Int32) + (ib &&& (63 : Int32)))), .unset, .unset] [(.int ia), (.int (own_bidi ia))])) rfl (by rw [hml]; rfl) (argsL := [(.int ia)]) (rest := [(.int (own_bidi ia))]) (lenOf pd__I_Z rfl) rfl (by show 2 * 0 + _ ≤ _; exact Nat.le_of_eq rfl) (hb hby at_14) (fun _ _ => ⟨rfl, e96, (by decide : 0 + 0 ≤ _), (by decide : 0 + 0 ≤ _)⟩)
  dsimp only [Pt.U, Pt.locs, Pt.cells, Pt.slots] at X97 l97 y97 z97 st97 hQ97
  subst l97 y97 z97
  obtain ⟨h97, e97⟩ : ∃ h, T97.heap = h := ⟨_, rfl⟩
  rw [e97] at hQ97
  obtain ⟨rfl, Nq97, hs97⟩ := hQ97
  have N97 := Fr.app N96 Nq97
  rw [hs97] at e97
  refine Go.step st97 ?_
  show Go _ _ _ _ _ _ _ T97 (mkF m 17 #[.val (.int ia), .val (.int ib), .val (.int ((8192 : Int32) + (ib &&& (63 : Int32)))), .unset, .unset] [(.int (own_bidi ia)), (.int (own_bidi ia))])
  have hc17_98 : (own_bidi ia) = (own_bidi ia) := rfl
  refine Go.step (fun _ k => XS.icmpNo X97.here hx rfl (hb hby at_17) rfl (teq hc17_98).2 k) ?_
  show Go _ _ _ _ _ _ _ T97 (mkF m 20 #[.val (.int ia), .val (.int ib), .val (.int ((8192 : Int32) + (ib &&& (63 : Int32)))), .unset, .unset] [])
  refine Go.step (fun _ k => XS.iconst X97.here hx rfl (hb hby at_20) k) ?_
  show Go _ _ _ _ _ _ _ T97 (mkF m 21 #[.val (.int ia), .val (.int ib), .val (.int ((8192 : Int32) + (ib &&& (63 : Int32)))), .unset, .unset] [(.int (1 : Int32))])
  refine Go.step (fun _ k => XS.goto X97.here hx rfl (pc0 := 21) (pc' := 25) rfl (hb hby at_21) (by decide) (by decide) k) ?_
  show Go _ _ _ _ _ _ _ T97 (mkF m 25 #[.val (.int ia), .val (.int ib), .val (.int ((8192 : Int32) + (ib &&& (63 : Int32)))), .unset, .unset] [(.int (1 : Int32))])
  refine Go.step (fun _ k => XS.istoreN X97.here hx rfl (hb hby at_25) rfl (l' := #[.val (.int ia), .val (.int ib), .val (.int ((8192 : Int32) + (ib &&& (63 : Int32)))), .val (.int (1 : Int32)), .unset]) rfl k) ?_
  show Go _ _ _ _ _ _ _ T97 (mkF m 26 #[.val (.int ia), .val (.int ib), .val (.int ((8192 : Int32) + (ib &&& (63 : Int32)))), .val (.int (1 : Int32)), .unset] [])
  refine Go.step (fun _ k => XS.iloadN X97.here hx rfl (hb hby at_26) rfl k) ?_
  show Go _ _ _ _ _ _ _ T97 (mkF m 27 #[.val (.int ia), .val (.int ib), .val (.int ((8192 : Int32) + (ib &&& (63 : Int32)))), .val (.int (1 : Int32)), .unset] [(.int ((8192 : Int32) + (ib &&& (63 : Int32))))])
  obtain ⟨_, _, ⟨T99, L99, k99, n99⟩, -, X99, ⟨Lc99, hQ99, l99, y99, z99⟩, st99⟩ := Jvm.LawKit.callS X97 hx (y := (⟨"com/example/eiri/eiri/IriCharacters", "isBidiFormatting", "(I)Z"⟩ : MethodName)) hown (mvT hZ (hw _ (List.mem_of_getElem? (i := 0) rfl))) (mvT hZ (hw _ (List.mem_of_getElem? (i := 1) rfl))) (mvT hZ (hw _ (List.mem_of_getElem? (i := 2) rfl))) (mvT hZ (hw _ (List.mem_of_getElem? (i := 3) rfl))) (by decide) (backOf (W := 0) (rm1 l Z a0 hw [] ((8192 : Int32) + (ib &&& (63 : Int32))) h0 n0 Z0 ) hZ (hw _ (List.mem_of_getElem? (i := 3) rfl)) (hw _ (List.mem_of_getElem? (i := 2) rfl)) (by decide) (by decide)) (g := (mkF m 27 #[.val (.int ia), .val (.int ib), .val (.int ((8192 : Int32) + (ib &&& (63 : Int32)))), .val (.int (1 : Int32)), .unset] [(.int ((8192 : Int32) + (ib &&& (63 : Int32))))])) rfl (by rw [hml]; rfl) (argsL := [(.int ((8192 : Int32) + (ib &&& (63 : Int32))))]) (rest := []) (lenOf pd__I_Z rfl) rfl (by show 2 * 0 + _ ≤ _; exact Nat.le_of_eq rfl) (hb hby at_27) (fun _ _ => ⟨rfl, e97, (by decide : 0 + 0 ≤ _), (by decide : 0 + 0 ≤ _)⟩)
  dsimp only [Pt.U, Pt.locs, Pt.cells, Pt.slots] at X99 l99 y99 z99 st99 hQ99
  subst l99 y99 z99
  obtain ⟨h99, e99⟩ : ∃ h, T99.heap = h := ⟨_, rfl⟩
  rw [e99] at hQ99
  obtain ⟨rfl, Nq99, hs99⟩ := hQ99
  have N99 := Fr.app N97 Nq99
  rw [hs99] at e99
  refine Go.step st99 ?_
  show Go _ _ _ _ _ _ _ T99 (mkF m 30 #[.val (.int ia), .val (.int ib), .val (.int ((8192 : Int32) + (ib &&& (63 : Int32)))), .val (.int (1 : Int32)), .unset] [(.int (own_bidi ((8192 : Int32) + (ib &&& (63 : Int32)))))])
  refine Go.step (fun _ k => XS.iloadN X99.here hx rfl (hb hby at_30) rfl k) ?_
  show Go _ _ _ _ _ _ _ T99 (mkF m 31 #[.val (.int ia), .val (.int ib), .val (.int ((8192 : Int32) + (ib &&& (63 : Int32)))), .val (.int (1 : Int32)), .unset] [(.int ((8192 : Int32) + (ib &&& (63 : Int32)))), (.int (own_bidi ((8192 : Int32) + (ib &&& (63 : Int32)))))])
  obtain ⟨_, _, ⟨T100, L100, k100, n100⟩, -, X100, ⟨Lc100, hQ100, l100, y100, z100⟩, st100⟩ := Jvm.LawKit.callS X99 hx (y := (⟨"com/example/eiri/eiri/IriCharactersIsBidiFormattingPinLaw", "reference", "(I)Z"⟩ : MethodName)) hown (mvT hZ (hw _ (List.mem_of_getElem? (i := 4) rfl))) (mvT hZ (hw _ (List.mem_of_getElem? (i := 5) rfl))) (mvT hZ (hw _ (List.mem_of_getElem? (i := 6) rfl))) (mvT hZ (hw _ (List.mem_of_getElem? (i := 7) rfl))) (by decide) (backOf (W := 1) (rm2 l Z a0 hw [] ((8192 : Int32) + (ib &&& (63 : Int32))) h0 n0 Z0 ) hZ (hw _ (List.mem_of_getElem? (i := 7) rfl)) (hw _ (List.mem_of_getElem? (i := 6) rfl)) (by decide) (by decide)) (g := (mkF m 31 #[.val (.int ia), .val (.int ib), .val (.int ((8192 : Int32) + (ib &&& (63 : Int32)))), .val (.int (1 : Int32)), .unset] [(.int ((8192 : Int32) + (ib &&& (63 : Int32)))), (.int (own_bidi ((8192 : Int32) + (ib &&& (63 : Int32)))))])) rfl (by rw [hml]; rfl) (argsL := [(.int ((8192 : Int32) + (ib &&& (63 : Int32))))]) (rest := [(.int (own_bidi ((8192 : Int32) + (ib &&& (63 : Int32)))))]) (lenOf pd__I_Z rfl) rfl (by show 2 * 0 + _ ≤ _; exact Nat.le_of_eq rfl) (hb hby at_31) (fun _ _ => ⟨rfl, e99, (by decide : 0 + 0 ≤ _), (by decide : 0 + 0 ≤ _)⟩)
  dsimp only [Pt.U, Pt.locs, Pt.cells, Pt.slots] at X100 l100 y100 z100 st100 hQ100
  subst l100 y100 z100
  obtain ⟨h100, e100⟩ : ∃ h, T100.heap = h := ⟨_, rfl⟩
  rw [e100] at hQ100
  obtain ⟨rfl, Nq100, hs100⟩ := hQ100
  have N100 := Fr.app N99 Nq100
  rw [hs100] at e100
  refine Go.step st100 ?_
  show Go _ _ _ _ _ _ _ T100 (mkF m 34 #[.val (.int ia), .val (.int ib), .val (.int ((8192 : Int32) + (ib &&& (63 : Int32)))), .val (.int (1 : Int32)), .unset] [(.int (own_bidi ((8192 : Int32) + (ib &&& (63 : Int32))))), (.int (own_bidi ((8192 : Int32) + (ib &&& (63 : Int32)))))])
  have hc34_101 : (own_bidi ((8192 : Int32) + (ib &&& (63 : Int32)))) = (own_bidi ((8192 : Int32) + (ib &&& (63 : Int32)))) := rfl
  refine Go.step (fun _ k => XS.icmpNo X100.here hx rfl (hb hby at_34) rfl (teq hc34_101).2 k) ?_
  show Go _ _ _ _ _ _ _ T100 (mkF m 37 #[.val (.int ia), .val (.int ib), .val (.int ((8192 : Int32) + (ib &&& (63 : Int32)))), .val (.int (1 : Int32)), .unset] [])
  refine Go.step (fun _ k => XS.iconst X100.here hx rfl (hb hby at_37) k) ?_
  show Go _ _ _ _ _ _ _ T100 (mkF m 38 #[.val (.int ia), .val (.int ib), .val (.int ((8192 : Int32) + (ib &&& (63 : Int32)))), .val (.int (1 : Int32)), .unset] [(.int (1 : Int32))])
  refine Go.step (fun _ k => XS.goto X100.here hx rfl (pc0 := 38) (pc' := 42) rfl (hb hby at_38) (by decide) (by decide) k) ?_
  show Go _ _ _ _ _ _ _ T100 (mkF m 42 #[.val (.int ia), .val (.int ib), .val (.int ((8192 : Int32) + (ib &&& (63 : Int32)))), .val (.int (1 : Int32)), .unset] [(.int (1 : Int32))])
  refine Go.step (fun _ k => XS.istore X100.here hx rfl (hb hby at_42) rfl (l' := #[.val (.int ia), .val (.int ib), .val (.int ((8192 : Int32) + (ib &&& (63 : Int32)))), .val (.int (1 : Int32)), .val (.int (1 : Int32))]) rfl k) ?_
  show Go _ _ _ _ _ _ _ T100 (mkF m 44 #[.val (.int ia), .val (.int ib), .val (.int ((8192 : Int32) + (ib &&& (63 : Int32)))), .val (.int (1 : Int32)), .val (.int (1 : Int32))] [])
  refine Go.step (fun _ k => XS.iloadN X100.here hx rfl (hb hby at_44) rfl k) ?_
  show Go _ _ _ _ _ _ _ T100 (mkF m 45 #[.val (.int ia), .val (.int ib), .val (.int ((8192 : Int32) + (ib &&& (63 : Int32)))), .val (.int (1 : Int32)), .val (.int (1 : Int32))] [(.int (1 : Int32))])
  have hc45_102 : ¬ ((1 : Int32) = (0 : Int32)) := (by decide)
  refine Go.step (fun _ k => XS.ifNo X100.here hx rfl (hb hby at_45) rfl ((if0 _ _).trans (feq hc45_102).1) k) ?_
  show Go _ _ _ _ _ _ _ T100 (mkF m 48 #[.val (.int ia), .val (.int ib), .val (.int ((8192 : Int32) + (ib &&& (63 : Int32)))), .val (.int (1 : Int32)), .val (.int (1 : Int32))] [])
  refine Go.step (fun _ k => XS.iload X100.here hx rfl (hb hby at_48) rfl k) ?_
  show Go _ _ _ _ _ _ _ T100 (mkF m 50 #[.val (.int ia), .val (.int ib), .val (.int ((8192 : Int32) + (ib &&& (63 : Int32)))), .val (.int (1 : Int32)), .val (.int (1 : Int32))] [(.int (1 : Int32))])
  have hc50_103 : ¬ ((1 : Int32) = (0 : Int32)) := (by decide)
  refine Go.step (fun _ k => XS.ifNo X100.here hx rfl (hb hby at_50) rfl ((if0 _ _).trans (feq hc50_103).1) k) ?_
  show Go _ _ _ _ _ _ _ T100 (mkF m 53 #[.val (.int ia), .val (.int ib), .val (.int ((8192 : Int32) + (ib &&& (63 : Int32)))), .val (.int (1 : Int32)), .val (.int (1 : Int32))] [])
  refine Go.step (fun _ k => XS.iconst X100.here hx rfl (hb hby at_53) k) ?_
  show Go _ _ _ _ _ _ _ T100 (mkF m 54 #[.val (.int ia), .val (.int ib), .val (.int ((8192 : Int32) + (ib &&& (63 : Int32)))), .val (.int (1 : Int32)), .val (.int (1 : Int32))] [(.int (1 : Int32))])
  refine Go.step (fun _ k => XS.goto X100.here hx rfl (pc0 := 54) (pc' := 58) rfl (hb hby at_54) (by decide) (by decide) k) ?_
  show Go _ _ _ _ _ _ _ T100 (mkF m 58 #[.val (.int ia), .val (.int ib), .val (.int ((8192 : Int32) + (ib &&& (63 : Int32)))), .val (.int (1 : Int32)), .val (.int (1 : Int32))] [(.int (1 : Int32))])
  exact Go.retN X100 hx (t := .boolean) hret hlk (by simp) (hb hby at_58) e100 (by decide) (by decide) ⟨rfl, N100, trivial⟩
set_option maxRecDepth 65536 in
set_option maxHeartbeats 40000000 in
theorem comes_1 {Post : Tables → Env → Array Value → State → Outcome → State → Prop} (hpost : ∀ tb e args s v u, (limb_1_1.after args s (.returned v) u = true ∧ limb_1_2.after args s (.returned v) u = true ∧ True) → FrameEnd s (.returned v) u (Jvm.fieldLocs frame_1_writes args s ++ Jvm.arrayLocs frame_1_arrays args s ++ Jvm.staticLocs frame_1_statics s) 0 0 → Post tb e args s (.returned v) u) :
    ArmFor flags0 classFile x code maxLocals ret World_1 tables_1 room_1 Calls_1 rest_1 Pre_1 Post := by
  intro l hfl _ _ p e ha hc hk s m args below hf hA hF happ hP
  obtain ⟨hcalls, hrest, hpre⟩ := hP
  obtain ⟨-, -, -, hnamed, -, -, -, hat⟩ := (Spec.applies_iff hf).mp happ
  obtain ⟨hg, hn⟩ := and_e (Cond.before_iff.mp (show (Jvm.Cond.and given_1 narrow_1).before args s = true from hpre))
  obtain ⟨gg1, gg2⟩ := and_e hg
  obtain ⟨gg3, gg4⟩ := and_e gg2
  obtain ⟨w0, w1, rfl⟩ : ∃ w0 w1 : Value, args = #[w0, w1] := by
    have hs : args.size = 2 := by simpa [Cond.value, given_1] using gg1
    obtain ⟨L⟩ := args
    match L, hs with
    | [w0, w1], _ => exact ⟨w0, w1, rfl⟩
  have hw := fun d (hd : d ∈ tables_1) => atoms_spec (ws := Jvm.Cond.code x code maxLocals ret :: tables_1) hat d (List.mem_cons_of_mem _ hd)
  have hfit : Fit s := fun {y c} hc i hi => by
    obtain ⟨ha, rfl⟩ := Array.getElem?_eq_some_iff.mp hc
    have q := List.all_eq_true.mp ((Array.all_eq_true_iff_forall_mem.mp hF) _ (Array.getElem_mem ha)) i (List.mem_range.mpr hi)
    simpa [Array.getElem?_eq_getElem hi] using q
  obtain ⟨ia, ei0⟩ := is_v gg3
  obtain rfl : w0 = (.int ia) := Option.some.inj ei0
  obtain ⟨ib, ei1⟩ := is_v gg4
  obtain rfl : w1 = (.int ib) := Option.some.inj ei1
  obtain ⟨n, o, h1, h2, h3, _, L, rfl, ⟨rfl, N, -⟩, hq⟩ := rm0 l s _ hw tables_1 ia ib s.heap s.heap.size (Nat.le_refl _)  p e ha hc hk s m _ below hf ((Spec.applies_iff_loose hf).mp happ).1 ⟨rfl, State.Warmed39.refl s, rfl⟩ trivial
  refine ⟨n, _, h1, h2, h3, hpost _ _ _ _ _ _ ⟨Cond.after_iff.mpr rfl, Cond.after_iff.mpr (eq_i res_at (Term.int_eval (1)) rfl), trivial⟩ ⟨hq.1, hq.2.1, (hq.2.2.sift fun y hy => Or.inr (N y hy)).mono (by decide) (by decide)⟩⟩
theorem main_1_1 : Claimed_1_1 := comes_1 fun _ _ _ _ _ _ h hF => ⟨h.1, hF⟩
theorem main_1_2 : Claimed_1_2 := comes_1 fun _ _ _ _ _ _ h hF => ⟨h.2.1, hF⟩
end Jvm.Pilot.@@N@@
namespace Jvm.Pilot.@@N@@
open Jvm Jvm.ClassFile Sem Op Lib Jvm.Free Jvm.Stand Jvm.Pilot.@@N@@.Jvm.D
/-! MADE BY PROGRAM (witnessworld.py) out of the Statement's table words and the real class files: 9 classes; the members and pool entries that the words name. The judged class is class 1, her method 2. -/
namespace start1
open Jvm.ClassFile
def u (s : String) : CpInfo := .utf8 (stringToUtf16 s)
/-- a pool by its gaps: so many unusable entries, then the entry; so many at the end -/
def gap : Nat → List CpInfo → List CpInfo
  | 0, r => r
  | n + 1, r => .unusable :: gap n r
def poolList (es : List (Nat × CpInfo)) (last : Nat) : List CpInfo := es.foldr (fun e r => gap e.1 (e.2 :: r)) (gap last [])
def pool (es : List (Nat × CpInfo)) (last : Nat) : Array CpInfo := ⟨poolList es last⟩
def fileOf (pool : Array CpInfo) (this : Nat) (attrs : Array Attribute := #[]) (ms : Array MethodInfo := #[]) (fl : Nat := 33) (sup : Nat := 0) (ifs : Array Nat := #[]) (fds : Array FieldInfo := #[]) : ClassFile where
  minorVersion := 0
  majorVersion := 65
  constantPool := pool
  accessFlags := fl
  thisClass := this
  superClass := sup
  interfaces := ifs
  fields := fds
  methods := ms
  attributes := attrs
def plain (name : String) (sup : Option ClassId) : Class where
  name := name
  kind := .ordinary
  loader := none
  accessFlags := 33
  super := sup
  interfaces := #[]
  cf := none
  fields := #[]
  methods := #[]
  instanceTypes := #[]
  staticTypes := #[]
  resolved := #[]
  callSites := []
  init := .initialized
  statics := none
  mirror := none

def pool0 : Array CpInfo := pool [(5, u "<init>"), (0, u "()V"), (1, .class_ 10), (1, u "java/lang/Object")] 113

def k0m0 : Method := { name := "<init>", desc := "()V", sig := { parameters := [], returnType := none }, accessFlags := 1, code := none }
/-- java/lang/Object -/
def k0 : Class := { plain "java/lang/Object" none with
  accessFlags := 33
  interfaces := #[]
  cf := some (fileOf pool0 8 #[] #[{ accessFlags := 1, nameIndex := 5, descriptorIndex := 6, attributes := #[] }] 33 0 #[] #[])
  fields := #[]
  methods := #[k0m0]
  instanceTypes := #[]
  staticTypes := #[]
  resolved := Array.replicate 124 none
  statics := none }

def pool1 : Array CpInfo := pool [(2, .class_ 4), (1, u "java/lang/Object"), (0, u "<init>"), (0, u "()V"), (0, .methodref 8 9), (0, .class_ 10), (0, .nameAndType 11 12), (0, u "com/example/eiri/eiri/IriCharacters"), (0, u "isBidiFormatting"), (0, u "(I)Z"), (0, .methodref 14 15), (0, .class_ 16), (0, .nameAndType 17 12), (0, u "com/example/eiri/eiri/IriCharactersIsBidiFormattingPinLaw"), (0, u "reference"), (3, u "law"), (0, u "(II)Z")] 2

def k1m0 : Method := { name := "<init>", desc := "()V", sig := { parameters := [], returnType := none }, accessFlags := 2, code := none }
def k1c1 : Code := { maxStack := 2, maxLocals := 8, code := method_2_code, exceptionTable := #[], attributes := #[] }
def k1m1 : Method := { name := "reference", desc := "(I)Z", sig := { parameters := [.int], returnType := some .boolean }, accessFlags := 10, code := some k1c1 }
def k1c2 : Code := { maxStack := 3, maxLocals := 5, code := code, exceptionTable := #[], attributes := #[] }
def k1m2 : Method := { name := "law", desc := "(II)Z", sig := { parameters := [.int, .int], returnType := some .boolean }, accessFlags := 9, code := some k1c2 }
/-- com/example/eiri/eiri/IriCharactersIsBidiFormattingPinLaw -/
def k1 : Class := { plain "com/example/eiri/eiri/IriCharactersIsBidiFormattingPinLaw" (some 0) with
  accessFlags := 49
  interfaces := #[]
  cf := some (fileOf pool1 14 #[] #[{ accessFlags := 2, nameIndex := 5, descriptorIndex := 6, attributes := #[] }, { accessFlags := 10, nameIndex := 17, descriptorIndex := 12, attributes := #[] }, { accessFlags := 9, nameIndex := 21, descriptorIndex := 22, attributes := #[] }] 49 2 #[] #[])
  fields := #[]
  methods := #[k1m0, k1m1, k1m2]
  instanceTypes := #[]
  staticTypes := #[]
  resolved := Array.replicate 25 none
  statics := none }

def pool2 : Array CpInfo := pool [(1, .class_ 2), (0, u "com/example/eiri/eiri/IriCharacters"), (1, .class_ 6), (1, u "java/lang/Object"), (0, u "<init>"), (0, u "()V"), (2, u "ASCII_KINDS"), (0, u "[I"), (2, u "UCSCHAR_RANGES"), (6, u "IPRIVATE_RANGES"), (79, u "ALPHA"), (0, u "I"), (2, u "DIGIT"), (1, u "HEXDIG"), (1, u "MARK"), (1, u "SCHEME_MARK"), (1, u "SUB_DELIM"), (1, u "COLON"), (1, u "AT"), (1, u "SLASH"), (1, u "QUESTION_MARK"), (1, u "PERCENT_ENCODED"), (1, u "UCSCHAR"), (1, u "IPRIVATE"), (1, u "SCHEME"), (1, u "UNRESERVED"), (1, u "IUNRESERVED"), (1, u "IREG_NAME"), (1, u "IUSERINFO"), (1, u "ISEGMENT_NZ_NC"), (1, u "IPATH"), (1, u "IFRAGMENT"), (1, u "IQUERY"), (1, u "PORT"), (0, u "IPVFUTURE"), (6, u "isBidiFormatting"), (0, u "(I)Z")] 3

def k2m0 : Method := { name := "<init>", desc := "()V", sig := { parameters := [], returnType := none }, accessFlags := 2, code := none }
def k2c1 : Code := { maxStack := 2, maxLocals := 1, code := prog_5_method_3_code, exceptionTable := #[], attributes := #[] }
def k2m1 : Method := { name := "isBidiFormatting", desc := "(I)Z", sig := { parameters := [.int], returnType := some .boolean }, accessFlags := 8, code := some k2c1 }
/-- com/example/eiri/eiri/IriCharacters -/
def k2 : Class := { plain "com/example/eiri/eiri/IriCharacters" (some 0) with
  accessFlags := 32
  interfaces := #[]
  cf := some (fileOf pool2 1 #[] #[{ accessFlags := 2, nameIndex := 7, descriptorIndex := 8, attributes := #[] }, { accessFlags := 8, nameIndex := 156, descriptorIndex := 157, attributes := #[] }] 32 4 #[] #[{ accessFlags := 24, nameIndex := 102, descriptorIndex := 103, attributes := #[] }, { accessFlags := 24, nameIndex := 106, descriptorIndex := 103, attributes := #[] }, { accessFlags := 24, nameIndex := 108, descriptorIndex := 103, attributes := #[] }, { accessFlags := 24, nameIndex := 110, descriptorIndex := 103, attributes := #[] }, { accessFlags := 24, nameIndex := 112, descriptorIndex := 103, attributes := #[] }, { accessFlags := 24, nameIndex := 114, descriptorIndex := 103, attributes := #[] }, { accessFlags := 24, nameIndex := 116, descriptorIndex := 103, attributes := #[] }, { accessFlags := 24, nameIndex := 118, descriptorIndex := 103, attributes := #[] }, { accessFlags := 24, nameIndex := 120, descriptorIndex := 103, attributes := #[] }, { accessFlags := 24, nameIndex := 122, descriptorIndex := 103, attributes := #[] }, { accessFlags := 24, nameIndex := 124, descriptorIndex := 103, attributes := #[] }, { accessFlags := 24, nameIndex := 126, descriptorIndex := 103, attributes := #[] }, { accessFlags := 24, nameIndex := 128, descriptorIndex := 103, attributes := #[] }, { accessFlags := 24, nameIndex := 130, descriptorIndex := 103, attributes := #[] }, { accessFlags := 24, nameIndex := 132, descriptorIndex := 103, attributes := #[] }, { accessFlags := 24, nameIndex := 134, descriptorIndex := 103, attributes := #[] }, { accessFlags := 24, nameIndex := 136, descriptorIndex := 103, attributes := #[] }, { accessFlags := 24, nameIndex := 138, descriptorIndex := 103, attributes := #[] }, { accessFlags := 24, nameIndex := 140, descriptorIndex := 103, attributes := #[] }, { accessFlags := 24, nameIndex := 142, descriptorIndex := 103, attributes := #[] }, { accessFlags := 24, nameIndex := 144, descriptorIndex := 103, attributes := #[] }, { accessFlags := 24, nameIndex := 146, descriptorIndex := 103, attributes := #[] }, { accessFlags := 24, nameIndex := 148, descriptorIndex := 103, attributes := #[] }, { accessFlags := 24, nameIndex := 149, descriptorIndex := 103, attributes := #[] }, { accessFlags := 26, nameIndex := 15, descriptorIndex := 12, attributes := #[] }, { accessFlags := 26, nameIndex := 22, descriptorIndex := 12, attributes := #[] }, { accessFlags := 26, nameIndex := 11, descriptorIndex := 12, attributes := #[] }])
  fields := #[{ name := "ALPHA", type := .int, accessFlags := 24, slot := 0, constantValue := 0 }, { name := "DIGIT", type := .int, accessFlags := 24, slot := 1, constantValue := 0 }, { name := "HEXDIG", type := .int, accessFlags := 24, slot := 2, constantValue := 0 }, { name := "MARK", type := .int, accessFlags := 24, slot := 3, constantValue := 0 }, { name := "SCHEME_MARK", type := .int, accessFlags := 24, slot := 4, constantValue := 0 }, { name := "SUB_DELIM", type := .int, accessFlags := 24, slot := 5, constantValue := 0 }, { name := "COLON", type := .int, accessFlags := 24, slot := 6, constantValue := 0 }, { name := "AT", type := .int, accessFlags := 24, slot := 7, constantValue := 0 }, { name := "SLASH", type := .int, accessFlags := 24, slot := 8, constantValue := 0 }, { name := "QUESTION_MARK", type := .int, accessFlags := 24, slot := 9, constantValue := 0 }, { name := "PERCENT_ENCODED", type := .int, accessFlags := 24, slot := 10, constantValue := 0 }, { name := "UCSCHAR", type := .int, accessFlags := 24, slot := 11, constantValue := 0 }, { name := "IPRIVATE", type := .int, accessFlags := 24, slot := 12, constantValue := 0 }, { name := "SCHEME", type := .int, accessFlags := 24, slot := 13, constantValue := 0 }, { name := "UNRESERVED", type := .int, accessFlags := 24, slot := 14, constantValue := 0 }, { name := "IUNRESERVED", type := .int, accessFlags := 24, slot := 15, constantValue := 0 }, { name := "IREG_NAME", type := .int, accessFlags := 24, slot := 16, constantValue := 0 }, { name := "IUSERINFO", type := .int, accessFlags := 24, slot := 17, constantValue := 0 }, { name := "ISEGMENT_NZ_NC", type := .int, accessFlags := 24, slot := 18, constantValue := 0 }, { name := "IPATH", type := .int, accessFlags := 24, slot := 19, constantValue := 0 }, { name := "IFRAGMENT", type := .int, accessFlags := 24, slot := 20, constantValue := 0 }, { name := "IQUERY", type := .int, accessFlags := 24, slot := 21, constantValue := 0 }, { name := "PORT", type := .int, accessFlags := 24, slot := 22, constantValue := 0 }, { name := "IPVFUTURE", type := .int, accessFlags := 24, slot := 23, constantValue := 0 }, { name := "UCSCHAR_RANGES", type := (.array .int), accessFlags := 26, slot := 24, constantValue := 0 }, { name := "IPRIVATE_RANGES", type := (.array .int), accessFlags := 26, slot := 25, constantValue := 0 }, { name := "ASCII_KINDS", type := (.array .int), accessFlags := 26, slot := 26, constantValue := 0 }]
  methods := #[k2m0, k2m1]
  instanceTypes := #[]
  staticTypes := #[.int, .int, .int, .int, .int, .int, .int, .int, .int, .int, .int, .int, .int, .int, .int, .int, .int, .int, .int, .int, .int, .int, .int, .int, (.array .int), (.array .int), (.array .int)]
  resolved := Array.replicate 161 none
  statics := none }

def pool3 : Array CpInfo := pool [(1, u "java/lang/Cloneable"), (0, .class_ 1), (0, u "java/lang/Object"), (0, .class_ 3)] 3

/-- java/lang/Cloneable -/
def k3 : Class := { plain "java/lang/Cloneable" (some 0) with
  accessFlags := 1537
  interfaces := #[]
  cf := some (fileOf pool3 2 #[] #[] 1537 4 #[] #[])
  fields := #[]
  methods := #[]
  instanceTypes := #[]
  staticTypes := #[]
  resolved := Array.replicate 8 none
  statics := none }

def pool4 : Array CpInfo := pool [(1, u "java/io/Serializable"), (0, .class_ 1), (0, u "java/lang/Object"), (0, .class_ 3)] 3

/-- java/io/Serializable -/
def k4 : Class := { plain "java/io/Serializable" (some 0) with
  accessFlags := 1537
  interfaces := #[]
  cf := some (fileOf pool4 2 #[] #[] 1537 4 #[] #[])
  fields := #[]
  methods := #[]
  instanceTypes := #[]
  staticTypes := #[]
  resolved := Array.replicate 8 none
  statics := none }

/-- the primitive byte -/
def k5 : Class := { plain "byte" none with kind := .primitive 'B', accessFlags := 0x411 }
/-- [B -/
def k6 : Class := { plain "[B" (some 0) with kind := .array 5 .byte, interfaces := #[3, 4], accessFlags := 1041 }

/-- the primitive int -/
def k7 : Class := { plain "int" none with kind := .primitive 'I', accessFlags := 0x411 }
/-- [I -/
def k8 : Class := { plain "[I" (some 0) with kind := .array 7 .int, interfaces := #[3, 4], accessFlags := 1041 }

def heap : Heap := #[]
def classes : Array Class := #[k0, k1, k2, k3, k4, k5, k6, k7, k8]
def interned : List (Array UInt16 × Addr) := []
def slotsUsed : Nat := 0
def theMethod : MethodId := ⟨1, 2⟩
def args0 : Array Value := #[.int 5, .int 7]
def aboutOver (below : List Frame) : State where
  vm := { classes := classes, interned := interned.toArray }
  heap := heap
  slotsUsed := slotsUsed
  threads := #[{ frames := .invoking theMethod args0 :: below }]
def below0 : List Frame := [.native { method := ⟨0, 0⟩, args := #[] }]
def about1 : State := aboutOver below0
def p0 : Program := .bare "" "" ""
def e0 : Env := launch0.env 0 0 0
theorem w_frames : about1.frames = Frame.invoking theMethod args0 :: below0 := rfl
set_option maxRecDepth 65536 in
theorem w_args : argsFit about1.vm theMethod args0 = true := by decide +kernel
set_option maxRecDepth 65536 in
theorem w_heap : heapFits about1 = true := by decide +kernel
set_option maxRecDepth 65536 in
theorem w_runnable : about1.curStatus? = some .runnable := by decide +kernel
set_option maxRecDepth 65536 in
theorem w_alone : about1.alone = true := by decide +kernel
set_option maxRecDepth 65536 in
theorem w_named : about1.methodNamed? x = some theMethod := by decide +kernel
set_option maxRecDepth 65536 in
theorem w_hears : about1.hears theMethod below0 = true := by decide +kernel
set_option maxRecDepth 65536 in
theorem w_ripe : about1.ripe theMethod args0 below0 = true := by decide +kernel
theorem w_running : about1.status = .running := rfl
set_option maxRecDepth 65536 in
theorem w_room : about1.hasRoom e0.platform room_1 = true :=
  launch0.hasRoom_least _ room_1 (by decide +kernel) (by decide +kernel) (by decide +kernel) (by decide +kernel) (by decide +kernel) (by decide +kernel)
theorem allAtoms_all (ts : List Jvm.Cond) (a : Array Jvm.Value) (st : Jvm.State) : (allAtoms ts).before a st = ts.all (fun c => c.before a st) := by
  induction ts with
  | nil => rfl
  | cons c t ih =>
    show (Jvm.Cond.and c (allAtoms t)).before a st = _
    rw [Jvm.Cond.before_and, ih, List.all_cons]
def words1 : List Jvm.Cond := Jvm.Cond.code x code maxLocals ret :: tables_1
/-- a 'code' word, met by the world's own term for the bytes: nothing is compared byte by byte -/
theorem code_word {y : MethodName} {bytes : ByteArray} {mx : Nat} {rt : Option FieldType} {a : Array Value} {s : State} {m : MethodId} {meth : Method} {c : Code} (h1 : s.methodNamed? y = some m) (h2 : s.vm.method? m = some meth) (h3 : meth.code = some c) (h4 : c.code = bytes)
    (h5 : (c.maxLocals == mx && c.exceptionTable.isEmpty && decide (c.maxStack ≤ mostOperands) && decide (meth.sig.returnType = rt) && !meth.locks && decide (parseMethodDescriptor y.desc = some meth.sig)) = true) : (Jvm.Cond.code y bytes mx rt).before a s = true := by
  simp only [Bool.and_eq_true, beq_iff_eq, Bool.not_eq_true', decide_eq_true_eq] at h5
  obtain ⟨⟨⟨⟨⟨g1, g2⟩, g3⟩, g4⟩, g5⟩, g6⟩ := h5
  simp [Cond.before, Cond.holds, Cond.value, h1, h2, h3, h4, g1, g2, g3, g4, g5, g6]
def isCode : Jvm.Cond → Bool
  | .code _ _ _ _ => true
  | _ => false
theorem all_split {L : List Jvm.Cond} {P : Jvm.Cond → Bool} (h1 : L.all (fun c => isCode c || P c) = true) (h2 : ∀ c ∈ L.filter isCode, P c = true) : L.all P = true := by
  refine List.all_eq_true.mpr fun c hc => ?_
  have h := List.all_eq_true.mp h1 c hc
  rcases Bool.eq_false_or_eq_true (isCode c) with hi | hi
  · exact h2 c (List.mem_filter.mpr ⟨hc, hi⟩)
  · simpa [hi] using h
set_option maxRecDepth 65536 in
theorem w_c0 : (Jvm.Cond.code x code maxLocals ret).before args0 about1 = true := code_word (m := ⟨1, 2⟩) (meth := k1m2) (c := k1c2) (by decide +kernel) rfl rfl rfl (by decide +kernel)
set_option maxRecDepth 65536 in
theorem w_c1 : (Jvm.Cond.code ({ cls := "com/example/eiri/eiri/IriCharacters", name := "isBidiFormatting", desc := "(I)Z" } : Jvm.MethodName) prog_5_method_3_code (1 : Nat) (Option.some Jvm.ClassFile.FieldType.boolean)).before args0 about1 = true := code_word (m := ⟨2, 1⟩) (meth := k2m1) (c := k2c1) (by decide +kernel) rfl rfl rfl (by decide +kernel)
set_option maxRecDepth 65536 in
theorem w_c2 : (Jvm.Cond.code ({ cls := "com/example/eiri/eiri/IriCharactersIsBidiFormattingPinLaw", name := "reference", desc := "(I)Z" } : Jvm.MethodName) method_2_code (8 : Nat) (Option.some Jvm.ClassFile.FieldType.boolean)).before args0 about1 = true := code_word (m := ⟨1, 1⟩) (meth := k1m1) (c := k1c1) (by decide +kernel) rfl rfl rfl (by decide +kernel)
def codes1 : List Jvm.Cond := [Jvm.Cond.code x code maxLocals ret, Jvm.Cond.code ({ cls := "com/example/eiri/eiri/IriCharacters", name := "isBidiFormatting", desc := "(I)Z" } : Jvm.MethodName) prog_5_method_3_code (1 : Nat) (Option.some Jvm.ClassFile.FieldType.boolean), Jvm.Cond.code ({ cls := "com/example/eiri/eiri/IriCharactersIsBidiFormattingPinLaw", name := "reference", desc := "(I)Z" } : Jvm.MethodName) method_2_code (8 : Nat) (Option.some Jvm.ClassFile.FieldType.boolean)]
set_option maxRecDepth 65536 in
theorem codes_eq : words1.filter isCode = codes1 := rfl
theorem w_codes : ∀ c ∈ words1.filter isCode, c.before args0 about1 = true := by
  rw [codes_eq]
  intro c hc
  simp only [codes1, List.mem_cons, List.not_mem_nil, or_false] at hc
  rcases hc with rfl | rfl | rfl
  · exact w_c0
  · exact w_c1
  · exact w_c2
set_option maxRecDepth 65536 in
theorem w_t1 : words1.all (fun c => isCode c || c.before args0 about1) = true := by decide +kernel
theorem w_tables : (allAtoms (Jvm.Cond.code x code maxLocals ret :: tables_1)).before args0 about1 = true := by
  rw [allAtoms_all]
  show words1.all (fun c => c.before args0 about1) = true
  refine all_split ?_ w_codes
  rw [w_t1]
set_option maxRecDepth 65536 in
theorem w_case : (Jvm.Cond.and given_1 narrow_1).before args0 about1 = true := by decide +kernel
theorem w_applies : (headSpec (Jvm.Cond.code x code maxLocals ret :: tables_1) room_1).applies x e0.platform about1 = true :=
  (Spec.applies_iff w_frames).mpr ⟨w_running, w_runnable, w_alone, w_named, w_hears, w_ripe, w_room, w_tables⟩
theorem atStart : AtStart classFile x code maxLocals ret World_1 tables_1 room_1 Calls_1 rest_1 Pre_1 launch0 p0 e0 about1 theMethod args0 below0 :=
  ⟨lists_1, trivial, launch0.admits_env _ _ _, launch0.least_env, fairChoices_fair.cas, fairChoices_fair.clock, w_frames, w_args, w_heap, w_applies, trivial, trivial, w_case⟩
end start1
theorem witness_1 : WitnessClaimed_1 := ⟨start1.p0, start1.e0, start1.about1, start1.theMethod, start1.args0, start1.below0, start1.atStart⟩
end Jvm.Pilot.@@N@@
