import JvmDerived
import JvmDerived.Pilot.@@N@@Statement
import JvmDerived.Pilot.@@N@@Code
set_option linter.unusedVariables false
set_option linter.unusedSimpArgs false
namespace Jvm.RoadKit
open Sem ClassFile Op Lib Jvm.Stand Jvm.Free Jvm.LawKit
section OwnGo
variable {p : Program} {l : Launch} {e : Env} {R : Room} {s : State} {m : MethodId} {args : Array Value} {below : List Frame} {meth : Method} {c : Code} {T T' : State} {locs : List Loc} {cells slots kc ks : Nat} {Q : Option Value → Heap → List Loc → Prop} {f f' : JFrame} {h : Heap}
/-- from the state T with the top frame f the body comes to its end, and what it leaves meets Q -/
def Go (p : Program) (e : Env) (below : List Frame) (s : State) (kc ks : Nat) (Q : Option Value → Heap → List Loc → Prop) (T : State) (f : JFrame) : Prop :=
  ∃ (s₂ : State) (o : Outcome), Steps p.tables e below (T.setTop f) s₂ ∧ s₂.status = .running ∧ Ended s₂ below o ∧ ∃ v L, o = .returned v ∧ Q v s₂.heap L ∧ FrameEnd s o s₂ L kc ks
theorem Go.step (h : ∀ target, Steps p.tables e below (T'.setTop f') target → Steps p.tables e below (T.setTop f) target) (k : Go p e below s kc ks Q T' f') : Go p e below s kc ks Q T f := by
  obtain ⟨s₂, o, h1, r⟩ := k
  exact ⟨s₂, o, h _ h1, r⟩
theorem Go.trans (h : Steps p.tables e below (T.setTop f) (T'.setTop f')) (k : Go p e below s kc ks Q T' f') : Go p e below s kc ks Q T f := by
  obtain ⟨s₂, o, h1, r⟩ := k
  exact ⟨s₂, o, h.trans h1, r⟩
theorem Go.cast (q : f = f') (k : Go p e below s kc ks Q T f') : Go p e below s kc ks Q T f := q ▸ k
theorem Go.enter {g : JFrame} {s₁ : State} (k : Go p e below s kc ks Q s₁ f) (q : g = f) :
    ∃ s₂ o, Steps p.tables e below (s₁.setTop g) s₂ ∧ s₂.status = .running ∧ Ended s₂ below o ∧ ∃ v L, o = .returned v ∧ Q v s₂.heap L ∧ FrameEnd s o s₂ L kc ks := by
  subst q; exact k
theorem Go.ret (X : Stand p l e R s m args below meth c T locs cells slots) (hx : p.tables.exec = Jvm.exec) {pc : Nat} {Ls : Array Slot} {w : Value} {t : FieldType} {i : Instr} {rest : List Value} (hret : meth.sig.returnType = some t) (hlk : meth.locks = false) (hn : narrow t w = w)
    (hi : (i = .ireturn ∧ (t = .int ∨ t = .boolean ∨ t = .byte ∨ t = .char ∨ t = .short) ∧ ∃ z, w = .int z) ∨ (i = .lreturn ∧ t = .long ∧ ∃ z, w = .long z) ∨ (i = .dreturn ∧ t = .double ∧ ∃ z, w = .double z) ∨ (i = .freturn ∧ t = .float ∧ ∃ z, w = .float z) ∨ (i = .areturn ∧ t.isReference = true ∧ w.isRef = true))
    (hd : decode c.code pc = .ok (i, 1)) (eT : T.heap = h) (hc : cells ≤ kc) (hs : slots ≤ ks) (hQ : Q (some w) h locs) : Go p e below s kc ks Q T (mkF m pc Ls (w :: rest)) := by
  obtain ⟨fs, hr, hrun, hended, hW, hsame⟩ := X.leave (v := some w) (fun q => by rw [hret] at q; cases q) hlk
  exact ⟨_, _, retOut X hx hret hn hi hd hr, hrun, hended, _, _, rfl, (by subst eT; exact hQ), ⟨_, rfl⟩, hW, hsame.mono hc hs⟩
theorem Go.retI (X : Stand p l e R s m args below meth c T locs cells slots) (hx : p.tables.exec = Jvm.exec) {pc : Nat} {Ls : Array Slot} {z : Int32} {rest : List Value} (hret : meth.sig.returnType = some .int) (hlk : meth.locks = false)
    (hd : decode c.code pc = .ok (.ireturn, 1)) (eT : T.heap = h) (hc : cells ≤ kc) (hs : slots ≤ ks) (hQ : Q (some (.int z)) h locs) : Go p e below s kc ks Q T (mkF m pc Ls (.int z :: rest)) :=
  Go.ret X hx hret hlk rfl (Or.inl ⟨rfl, Or.inl rfl, _, rfl⟩) hd eT hc hs hQ
theorem Go.retJ (X : Stand p l e R s m args below meth c T locs cells slots) (hx : p.tables.exec = Jvm.exec) {pc : Nat} {Ls : Array Slot} {z : Int64} {rest : List Value} (hret : meth.sig.returnType = some .long) (hlk : meth.locks = false)
    (hd : decode c.code pc = .ok (.lreturn, 1)) (eT : T.heap = h) (hc : cells ≤ kc) (hs : slots ≤ ks) (hQ : Q (some (.long z)) h locs) : Go p e below s kc ks Q T (mkF m pc Ls (.long z :: rest)) :=
  Go.ret X hx hret hlk rfl (Or.inr (Or.inl ⟨rfl, rfl, _, rfl⟩)) hd eT hc hs hQ
theorem Go.retA (X : Stand p l e R s m args below meth c T locs cells slots) (hx : p.tables.exec = Jvm.exec) {pc : Nat} {Ls : Array Slot} {w : Value} {t : FieldType} {rest : List Value} (hret : meth.sig.returnType = some t) (hlk : meth.locks = false) (ht : t.isReference = true) (hv : w.isRef = true)
    (hd : decode c.code pc = .ok (.areturn, 1)) (eT : T.heap = h) (hc : cells ≤ kc) (hs : slots ≤ ks) (hQ : Q (some w) h locs) : Go p e below s kc ks Q T (mkF m pc Ls (w :: rest)) :=
  Go.ret X hx hret hlk (by cases t <;> first | (cases ht; done) | (cases w <;> first | (cases hv; done) | rfl)) (Or.inr (Or.inr (Or.inr (Or.inr ⟨rfl, ht, hv⟩)))) hd eT hc hs hQ
theorem Go.retN (X : Stand p l e R s m args below meth c T locs cells slots) (hx : p.tables.exec = Jvm.exec) {pc : Nat} {Ls : Array Slot} {z : Int32} {t : FieldType} {rest : List Value} (hret : meth.sig.returnType = some t) (hlk : meth.locks = false) (ht : t = .boolean ∨ t = .byte ∨ t = .char ∨ t = .short)
    (hd : decode c.code pc = .ok (.ireturn, 1)) (eT : T.heap = h) (hc : cells ≤ kc) (hs : slots ≤ ks) (hQ : Q (some (.int (nar t z))) h locs) : Go p e below s kc ks Q T (mkF m pc Ls (.int z :: rest)) := by
  obtain ⟨fs, hr, hrun, hended, hW, hsame⟩ := X.leave (v := some (.int (nar t z))) (fun q => by rw [hret] at q; cases q) hlk
  exact ⟨_, _, Jvm.RoadKit.retN X hx hret ht hd hr, hrun, hended, _, _, rfl, (by subst eT; exact hQ), ⟨_, rfl⟩, hW, hsame.mono hc hs⟩
theorem Go.ret0 (X : Stand p l e R s m args below meth c T locs cells slots) (hx : p.tables.exec = Jvm.exec) {pc : Nat} {Ls : Array Slot} (hret : meth.sig.returnType = none) (hlk : meth.locks = false)
    (hd : decode c.code pc = .ok (.return_, 1)) (eT : T.heap = h) (hc : cells ≤ kc) (hs : slots ≤ ks) (hQ : Q none h locs) : Go p e below s kc ks Q T (mkF m pc Ls []) := by
  obtain ⟨fs, hr, hrun, hended, hW, hsame⟩ := X.leave (v := none) (fun _ => rfl) hlk
  exact ⟨_, _, X.returnOut hx hret hd hr, hrun, hended, _, _, rfl, (by subst eT; exact hQ), ⟨_, rfl⟩, hW, hsame.mono hc hs⟩
theorem own_selp {args' : Array Value} {y : MethodName} {n : Nat} (wi : (Cond.instantiable y.cls n).before args' s = true) (hpriv : s.PrivateAt y) (hinst : (Cond.instanceMethod y).before args' s = true) (hy : y.cls ≠ "java/lang/invoke/MethodHandle" ∧ y.cls ≠ "java/lang/invoke/VarHandle") : (Cond.selects y.cls y y).before args' s = true := by
  obtain ⟨c, k, h1, h2, -, h4, -⟩ := Cond.instantiable_spec wi
  exact selects_self_of_private h1 h2 (by simp only [Bool.or_eq_false_iff] at h4; exact h4.1) hpriv hinst hy
theorem own_mvMN {Z : State} {a0 args' : Array Value} {own host : String} {y : MethodName} {index : Nat} (hZ : Z.Warmed39 s.vm) (w : (Cond.methodLinkNest own index y host).before a0 Z = true) : (Cond.methodLinkNest own index y host).before args' s = true := (Cond.methodLinkNest_wide hZ w :)
theorem own_nar01 {z : Int32} (h : z = 0 ∨ z = 1) : nar .boolean z = z := by rcases h with rfl | rfl <;> decide
end OwnGo
end Jvm.RoadKit
namespace Jvm.Pilot.@@N@@
open Jvm Jvm.ClassFile Sem Op Lib Jvm.Free Jvm.Stand Jvm.LawKit Jvm.RoadKit Bundle Jvm.Pilot.@@N@@.Jvm.D
theorem own_tlt {a b : Int32} (h0 : ¬ a < 0) (h : a < b) : a.toNatClampNeg < b.toNatClampNeg := by
  rw [Int32.lt_iff_toInt_lt] at h0 h; have : (0 : Int32).toInt = 0 := rfl; simp only [Int32.toNatClampNeg]; omega
theorem own_tle {a b : Int32} (h : ¬ b < a) : a.toNatClampNeg ≤ b.toNatClampNeg := by
  rw [Int32.lt_iff_toInt_lt] at h; simp only [Int32.toNatClampNeg]; omega
theorem own_as (a : Int32) : a + 1 - 1 = a := by
  have := c_iadd a 1; have := c_isub (a + 1) 1; have : (1 : Int32).toInt = 1 := rfl; have := rng32 a; have := rng32 (a + 1); have := rng32 (a + 1 - 1)
  rw [← Int32.toInt_inj]; omega
theorem own_g {l : List Value} {k : Nat} {x d : Value} (h : k < l.length) : (l.set k x).getD k d = x := by simp [List.getD_eq_getElem?_getD, h]
theorem own_n {l : List Value} {j k : Nat} {x d : Value} (h : k ≠ j) : (l.set k x).getD j d = l.getD j d := by simp [List.getD_eq_getElem?_getD, List.getElem?_set_ne h]
theorem own_rep {n k : Nat} {d : Value} : (List.replicate n d).getD k d = d := by
  simp only [List.getD_eq_getElem?_getD, List.getElem?_replicate]; split <;> rfl
theorem d1_0 : decode prog_85_method_1_code 0 = .ok (.aload_n 0, 1) := by decide +kernel
theorem d1_1 : decode prog_85_method_1_code 1 = .ok (.invokespecial 1, 3) := by decide +kernel
theorem d1_4 : decode prog_85_method_1_code 4 = .ok (.aload_n 0, 1) := by decide +kernel
theorem d1_5 : decode prog_85_method_1_code 5 = .ok (.bipush 16, 2) := by decide +kernel
theorem d1_7 : decode prog_85_method_1_code 7 = .ok (.anewarray 9, 3) := by decide +kernel
theorem d1_10 : decode prog_85_method_1_code 10 = .ok (.putfield 11, 3) := by decide +kernel
theorem d1_13 : decode prog_85_method_1_code 13 = .ok (.aload_n 0, 1) := by decide +kernel
theorem d1_14 : decode prog_85_method_1_code 14 = .ok (.bipush 16, 2) := by decide +kernel
theorem d1_16 : decode prog_85_method_1_code 16 = .ok (.anewarray 15, 3) := by decide +kernel
theorem d1_19 : decode prog_85_method_1_code 19 = .ok (.putfield 17, 3) := by decide +kernel
theorem d1_22 : decode prog_85_method_1_code 22 = .ok (.aload_n 0, 1) := by decide +kernel
theorem d1_23 : decode prog_85_method_1_code 23 = .ok (.iload_n 1, 1) := by decide +kernel
theorem d1_24 : decode prog_85_method_1_code 24 = .ok (.putfield 21, 3) := by decide +kernel
theorem d1_27 : decode prog_85_method_1_code 27 = .ok (.return_, 1) := by decide +kernel
theorem pd___V : parseMethodDescriptor "()V" = some ⟨[], none⟩ := by decide +kernel
theorem pn_com_example_termvault_termvault_MarkArrays : plainName "com/example/termvault/termvault/MarkArrays" = true := by first | (simp [plainName, overriddenIn]; done) | decide +kernel
theorem ef_rmIn (m : MethodId) (ao : Addr) (sp : Int32) : entryFrame m #[(.ref ao), (.int sp)] 2 = mkF m 0 #[.val (.ref ao), .val (.int sp)] [] := by first | (simp [entryFrame, mkF, argsToLocals, Value.category]; done) | rfl
def Q_rmIn (Z : State) (ao : Addr) (sp : Int32) (h0 : Heap) (n0 : Nat) (v : Option Value) (h : Heap) (L : List Loc) : Prop := ∃ ac : Addr, ∃ kc : ClassId, ∃ ap : Addr, ∃ kp : ClassId, (v = none) ∧ (Fr n0 L) ∧ (Keep h0 h [ao]) ∧ (h0.size ≤ ac) ∧ (h0.size ≤ ap) ∧ (ac ≠ ap) ∧ (Exa Z h ao "com/example/termvault/termvault/MarkArrays") ∧ (Fld Z h ao "com/example/termvault/termvault/MarkArrays" "counts" "[[I" (.ref ac)) ∧ (Fld Z h ao "com/example/termvault/termvault/MarkArrays" "positions" "[[J" (.ref ap)) ∧ (Fld Z h ao "com/example/termvault/termvault/MarkArrays" "span" "I" (.int sp)) ∧ (Fld Z h ao "com/example/termvault/termvault/MarkArrays" "countsTaken" "I" (.int (0 : Int32))) ∧ (Fld Z h ao "com/example/termvault/termvault/MarkArrays" "positionsTaken" "I" (.int (0 : Int32))) ∧ (Arv Z h ac kc (.array .int) (16 : Int32) (List.replicate 16 Value.null) .null) ∧ (Arv Z h ap kp (.array .long) (16 : Int32) (List.replicate 16 Value.null) .null) ∧ (OvrA Z kc .int "[I") ∧ (OvrA Z kp .long "[J")
set_option maxRecDepth 65536 in
set_option maxHeartbeats 40000000 in
theorem rmIn (l : Launch) (Z : State) (a0 : Array Value) (hw : ∀ d ∈ tables_1, d.before a0 Z = true) (ws : List Jvm.Cond) (ao : Addr) (sp : Int32) (h0 : Heap) (n0 : Nat) (Z0 : n0 ≤ h0.size) (E0 : Exa Z h0 ao "com/example/termvault/termvault/MarkArrays") (Fc : Fld Z h0 ao "com/example/termvault/termvault/MarkArrays" "counts" "[[I" .null) (Fp : Fld Z h0 ao "com/example/termvault/termvault/MarkArrays" "positions" "[[J" .null) (Fs : Fld Z h0 ao "com/example/termvault/termvault/MarkArrays" "span" "I" (.int (0 : Int32))) (Ft : Fld Z h0 ao "com/example/termvault/termvault/MarkArrays" "countsTaken" "I" (.int (0 : Int32))) (Fu : Fld Z h0 ao "com/example/termvault/termvault/MarkArrays" "positionsTaken" "I" (.int (0 : Int32))) (g0 : n0 ≤ ao) :
    MetFree l (⟨"com/example/termvault/termvault/MarkArrays", "<init>", "(I)V"⟩ : MethodName) (head1 (Jvm.Cond.code (⟨"com/example/termvault/termvault/MarkArrays", "<init>", "(I)V"⟩ : MethodName) prog_85_method_1_code 2 none :: ws) ({ frames := 1, cells := 2, slots := 32, locals := 12 } : Room)) (fun aA U => aA = #[(.ref ao), (.int sp)] ∧ Z.Warmed39 U.vm ∧ U.heap = h0) (fun _ _ _ _ _ => True) (fun _ U o U' => ∃ v L, o = .returned v ∧ Q_rmIn Z ao sp h0 n0 v U'.heap L ∧ FrameEnd U o U' L ({ frames := 1, cells := 2, slots := 32, locals := 12 } : Room).cells ({ frames := 1, cells := 2, slots := 32, locals := 12 } : Room).slots) := by
  refine MetFree.of_bodySF (plainFor_of_name pn_com_example_termvault_termvault_MarkArrays) hisR ?_
  intro p e s m args below meth c s₁ Bd hml0 hP hK
  obtain ⟨rfl, hZ, hh⟩ := hP
  have hx := Bd.exec
  have hby := Bd.bytes
  have hml : c.maxLocals = 2 := hml0
  have hown : s.vm.findClass "com/example/termvault/termvault/MarkArrays" = some m.cls := findClass_of_methodNamed Bd.named
  have hnm := (name_of_methodNamed Bd.named Bd.method).1
  have hret := Bd.returns
  have hlk : meth.locks = false := BodyLoose.notSynchronized Bd
  have X0 : Stand p l e ({ frames := 1, cells := 2, slots := 32, locals := 12 } : Room) s m #[(.ref ao), (.int sp)] below meth c s₁ [] 0 0 := Stand.of_body Bd
  have e0 : s₁.heap = h0 := by rw [← hh, Bd.state]; rfl
  have N0 := Fr.nil n0
  suffices hgo : Go p e below s ({ frames := 1, cells := 2, slots := 32, locals := 12 } : Room).cells ({ frames := 1, cells := 2, slots := 32, locals := 12 } : Room).slots (Q_rmIn Z ao sp h0 n0) s₁ (mkF m 0 #[.val (.ref ao), .val (.int sp)] []) from hgo.enter (ef_rmIn m ao sp)
  refine Go.step (fun _ k => XS.aloadN X0.here hx rfl (hb hby d1_0) rfl rfl k) ?_
  show Go _ _ _ _ _ _ _ s₁ (mkF m 1 #[.val (.ref ao), .val (.int sp)] [(.ref ao)])
  obtain ⟨T1, X1, e1, st1⟩ := initO X0 hx hZ hown (hw _ (List.mem_of_getElem? (i := 6) rfl)) (hw _ (List.mem_of_getElem? (i := 7) rfl)) (hw _ (List.mem_of_getElem? (i := 8) rfl)) e0 (g := (mkF m 1 #[.val (.ref ao), .val (.int sp)] [(.ref ao)])) rfl (by rw [hml]; rfl) rfl (hb hby d1_1) (by decide) (W := 0) (by show 2 * 0 + _ ≤ _; exact Nat.le_of_eq rfl) (by decide)
  refine Go.step st1 ?_
  show Go _ _ _ _ _ _ _ T1 (mkF m 4 #[.val (.ref ao), .val (.int sp)] [])
  refine Go.step (fun _ k => XS.aloadN X1.here hx rfl (hb hby d1_4) rfl rfl k) ?_
  show Go _ _ _ _ _ _ _ T1 (mkF m 5 #[.val (.ref ao), .val (.int sp)] [(.ref ao)])
  refine Go.step (fun _ k => XS.bipush X1.here hx rfl (hb hby d1_5) k) ?_
  show Go _ _ _ _ _ _ _ T1 (mkF m 7 #[.val (.ref ao), .val (.int sp)] [(.int (16 : Int32)), (.ref ao)])
  obtain ⟨T2, h2, k2, X2, e2, E2, A2, Xa2, O2, st2⟩ := newRA X1 hx hZ hown (C := "[I") (ty := .int) (by decide) (hw _ (List.mem_of_getElem? (i := 9) rfl)) (hw _ (List.mem_of_getElem? (i := 10) rfl)) e1 (g := (mkF m 7 #[.val (.ref ao), .val (.int sp)] [(.int (16 : Int32)), (.ref ao)])) rfl (hb hby d1_7) rfl (by decide) (cap := 16) (by decide) (by decide) (by decide) (by decide) (ad := "[[I") (by decide)
  obtain ⟨b2, g2⟩ : ∃ z, z = h0.size := ⟨_, rfl⟩
  rw [← g2] at A2 st2
  refine Go.step st2 ?_
  have g_b2 : n0 ≤ b2 := Nat.le_trans Z0 (Nat.le_of_eq g2.symm)
  have sz_b2 : h0.size ≤ b2 := Nat.le_trans (Keep.refl h0 [ao]).1 (Nat.le_of_eq g2.symm)
  have ne_ao_b2 : ao ≠ b2 := Nat.ne_of_lt (Nat.lt_of_lt_of_le E0.lt (Nat.le_of_eq g2.symm))
  have Z2 : n0 ≤ h2.size := Nat.le_trans Z0 E2.1
  have KK2 : Keep h0 h2 [ao] := (Keep.refl h0 [ao]).ext E2
  have V2 : Arv Z h2 b2 k2 (.array .int) (16 : Int32) [] .null := Arv.new A2 (by decide)
  show Go _ _ _ _ _ _ _ T2 (mkF m 10 #[.val (.ref ao), .val (.int sp)] [(.ref b2), (.ref ao)])
  have f3 : Fld Z h2 ao "com/example/termvault/termvault/MarkArrays" "counts" "[[I" .null := (Fc.ext E2)
  have f4 : Exa Z h2 ao "com/example/termvault/termvault/MarkArrays" := (E0.ext E2)
  obtain ⟨T5, h5, X5, e5, W5, st5⟩ := putF X2 hx hZ hown (host := "") (Or.inl (hw _ (List.mem_of_getElem? (i := 11) rfl))) Via.refl e2 f3 f4 (Or.inr ⟨(hw _ (List.mem_of_getElem? (i := 12) rfl)), rfl, hnm⟩) (hw _ (List.mem_of_getElem? (i := 1) rfl)) (ty := (.array (.array .int))) (by decide) rfl rfl (g := (mkF m 10 #[.val (.ref ao), .val (.int sp)] [(.ref b2), (.ref ao)])) rfl rfl (hb hby d1_10)
  refine Go.step st5 ?_
  have Fw5 := f3.same W5
  have N5 := Fr.snoc X5 N0 g0
  have Z5 : n0 ≤ h5.size := Nat.le_trans Z2 (Keep.of_wr W5).1
  have KK5 : Keep h0 h5 [ao] := KK2.wr W5 (Or.inl (List.mem_of_getElem? (i := 0) rfl))
  show Go _ _ _ _ _ _ _ T5 (mkF m 13 #[.val (.ref ao), .val (.int sp)] [])
  refine Go.step (fun _ k => XS.aloadN X5.here hx rfl (hb hby d1_13) rfl rfl k) ?_
  show Go _ _ _ _ _ _ _ T5 (mkF m 14 #[.val (.ref ao), .val (.int sp)] [(.ref ao)])
  refine Go.step (fun _ k => XS.bipush X5.here hx rfl (hb hby d1_14) k) ?_
  show Go _ _ _ _ _ _ _ T5 (mkF m 16 #[.val (.ref ao), .val (.int sp)] [(.int (16 : Int32)), (.ref ao)])
  have f7 : Exa Z h5 ao "com/example/termvault/termvault/MarkArrays" := (f4.wr W5)
  have f8 : Arv Z h5 b2 k2 (.array .int) (16 : Int32) [] .null := (V2.other W5 (Ne.symm ne_ao_b2))
  obtain ⟨T6, h6, k6, X6, e6, E6, A6, Xa6, O6, st6⟩ := newRA X5 hx hZ hown (C := "[J") (ty := .long) (by decide) (hw _ (List.mem_of_getElem? (i := 13) rfl)) (hw _ (List.mem_of_getElem? (i := 14) rfl)) e5 (g := (mkF m 16 #[.val (.ref ao), .val (.int sp)] [(.int (16 : Int32)), (.ref ao)])) rfl (hb hby d1_16) rfl (by decide) (cap := 16) (by decide) (by decide) (by decide) (by decide) (ad := "[[J") (by decide)
  obtain ⟨b6, g6⟩ : ∃ z, z = h5.size := ⟨_, rfl⟩
  rw [← g6] at A6 st6
  refine Go.step st6 ?_
  have g_b6 : n0 ≤ b6 := Nat.le_trans Z5 (Nat.le_of_eq g6.symm)
  have sz_b6 : h0.size ≤ b6 := Nat.le_trans KK5.1 (Nat.le_of_eq g6.symm)
  have ne_ao_b6 : ao ≠ b6 := Nat.ne_of_lt (Nat.lt_of_lt_of_le f7.lt (Nat.le_of_eq g6.symm))
  have ne_b2_b6 : b2 ≠ b6 := Nat.ne_of_lt (Nat.lt_of_lt_of_le f8.lt (Nat.le_of_eq g6.symm))
  have Z6 : n0 ≤ h6.size := Nat.le_trans Z5 E6.1
  have KK6 : Keep h0 h6 [ao] := KK5.ext E6
  have V6 : Arv Z h6 b6 k6 (.array .long) (16 : Int32) [] .null := Arv.new A6 (by decide)
  show Go _ _ _ _ _ _ _ T6 (mkF m 19 #[.val (.ref ao), .val (.int sp)] [(.ref b6), (.ref ao)])
  have f9 : Fld Z h6 ao "com/example/termvault/termvault/MarkArrays" "positions" "[[J" .null := (((Fp.ext E2).other W5 (Or.inr (slot_ne (a0 := a0) (C := "com/example/termvault/termvault/MarkArrays") (Or.inr (hw _ (List.mem_of_getElem? (i := 16) rfl))) (Or.inr (hw _ (List.mem_of_getElem? (i := 12) rfl))) (by decide) (t := (.array (.array .long))) (t' := (.array (.array .int))) (by decide) (by decide)))).ext E6)
  have f10 : Exa Z h6 ao "com/example/termvault/termvault/MarkArrays" := (f7.ext E6)
  obtain ⟨T11, h11, X11, e11, W11, st11⟩ := putF X6 hx hZ hown (host := "") (Or.inl (hw _ (List.mem_of_getElem? (i := 15) rfl))) Via.refl e6 f9 f10 (Or.inr ⟨(hw _ (List.mem_of_getElem? (i := 16) rfl)), rfl, hnm⟩) (hw _ (List.mem_of_getElem? (i := 1) rfl)) (ty := (.array (.array .long))) (by decide) rfl rfl (g := (mkF m 19 #[.val (.ref ao), .val (.int sp)] [(.ref b6), (.ref ao)])) rfl rfl (hb hby d1_19)
  refine Go.step st11 ?_
  have Fw11 := f9.same W11
  have N11 := Fr.snoc X11 N5 g0
  have Z11 : n0 ≤ h11.size := Nat.le_trans Z6 (Keep.of_wr W11).1
  have KK11 : Keep h0 h11 [ao] := KK6.wr W11 (Or.inl (List.mem_of_getElem? (i := 0) rfl))
  show Go _ _ _ _ _ _ _ T11 (mkF m 22 #[.val (.ref ao), .val (.int sp)] [])
  refine Go.step (fun _ k => XS.aloadN X11.here hx rfl (hb hby d1_22) rfl rfl k) ?_
  show Go _ _ _ _ _ _ _ T11 (mkF m 23 #[.val (.ref ao), .val (.int sp)] [(.ref ao)])
  refine Go.step (fun _ k => XS.iloadN X11.here hx rfl (hb hby d1_23) rfl k) ?_
  show Go _ _ _ _ _ _ _ T11 (mkF m 24 #[.val (.ref ao), .val (.int sp)] [(.int sp), (.ref ao)])
  have f12 : Fld Z h11 ao "com/example/termvault/termvault/MarkArrays" "span" "I" (.int (0 : Int32)) := ((((Fs.ext E2).other W5 (Or.inr (slot_ne (a0 := a0) (C := "com/example/termvault/termvault/MarkArrays") (Or.inr (hw _ (List.mem_of_getElem? (i := 18) rfl))) (Or.inr (hw _ (List.mem_of_getElem? (i := 12) rfl))) (by decide) (t := .int) (t' := (.array (.array .int))) (by decide) (by decide)))).ext E6).other W11 (Or.inr (slot_ne (a0 := a0) (C := "com/example/termvault/termvault/MarkArrays") (Or.inr (hw _ (List.mem_of_getElem? (i := 18) rfl))) (Or.inr (hw _ (List.mem_of_getElem? (i := 16) rfl))) (by decide) (t := .int) (t' := (.array (.array .long))) (by decide) (by decide))))
  have f13 : Exa Z h11 ao "com/example/termvault/termvault/MarkArrays" := (f10.wr W11)
  obtain ⟨T14, h14, X14, e14, W14, st14⟩ := putF X11 hx hZ hown (host := "") (Or.inl (hw _ (List.mem_of_getElem? (i := 17) rfl))) Via.refl e11 f12 f13 (Or.inr ⟨(hw _ (List.mem_of_getElem? (i := 18) rfl)), rfl, hnm⟩) (hw _ (List.mem_of_getElem? (i := 1) rfl)) (ty := .int) (by decide) rfl rfl (g := (mkF m 24 #[.val (.ref ao), .val (.int sp)] [(.int sp), (.ref ao)])) rfl rfl (hb hby d1_24)
  refine Go.step st14 ?_
  have Fw14 := f12.same W14
  have N14 := Fr.snoc X14 N11 g0
  have Z14 : n0 ≤ h14.size := Nat.le_trans Z11 (Keep.of_wr W14).1
  have KK14 : Keep h0 h14 [ao] := KK11.wr W14 (Or.inl (List.mem_of_getElem? (i := 0) rfl))
  show Go _ _ _ _ _ _ _ T14 (mkF m 27 #[.val (.ref ao), .val (.int sp)] [])
  have f15 : Arv Z h14 b2 k2 (.array .int) (16 : Int32) [] .null := (((f8.ext E6).other W11 (Ne.symm ne_ao_b2)).other W14 (Ne.symm ne_ao_b2))
  have V16 : Arv Z h14 b2 k2 (.array .int) (16 : Int32) (List.replicate 16 .null) .null := (f15).pad (pad_rep [] .null 16)
  have f17 : Arv Z h14 b6 k6 (.array .long) (16 : Int32) [] .null := ((V6.other W11 (Ne.symm ne_ao_b6)).other W14 (Ne.symm ne_ao_b6))
  have V18 : Arv Z h14 b6 k6 (.array .long) (16 : Int32) (List.replicate 16 .null) .null := (f17).pad (pad_rep [] .null 16)
  have f19 : Exa Z h14 ao "com/example/termvault/termvault/MarkArrays" := (f13.wr W14)
  have f20 : Fld Z h14 ao "com/example/termvault/termvault/MarkArrays" "counts" "[[I" (.ref b2) := (((Fw5.ext E6).other W11 (Or.inr (slot_ne (a0 := a0) (C := "com/example/termvault/termvault/MarkArrays") (Or.inr (hw _ (List.mem_of_getElem? (i := 12) rfl))) (Or.inr (hw _ (List.mem_of_getElem? (i := 16) rfl))) (by decide) (t := (.array (.array .int))) (t' := (.array (.array .long))) (by decide) (by decide)))).other W14 (Or.inr (slot_ne (a0 := a0) (C := "com/example/termvault/termvault/MarkArrays") (Or.inr (hw _ (List.mem_of_getElem? (i := 12) rfl))) (Or.inr (hw _ (List.mem_of_getElem? (i := 18) rfl))) (by decide) (t := (.array (.array .int))) (t' := .int) (by decide) (by decide))))
  have f21 : Fld Z h14 ao "com/example/termvault/termvault/MarkArrays" "positions" "[[J" (.ref b6) := (Fw11.other W14 (Or.inr (slot_ne (a0 := a0) (C := "com/example/termvault/termvault/MarkArrays") (Or.inr (hw _ (List.mem_of_getElem? (i := 16) rfl))) (Or.inr (hw _ (List.mem_of_getElem? (i := 18) rfl))) (by decide) (t := (.array (.array .long))) (t' := .int) (by decide) (by decide))))
  have f22 : Fld Z h14 ao "com/example/termvault/termvault/MarkArrays" "countsTaken" "I" (.int (0 : Int32)) := (((((Ft.ext E2).other W5 (Or.inr (slot_ne (a0 := a0) (C := "com/example/termvault/termvault/MarkArrays") (Or.inl (hw _ (List.mem_of_getElem? (i := 25) rfl))) (Or.inr (hw _ (List.mem_of_getElem? (i := 12) rfl))) (by decide) (t := .int) (t' := (.array (.array .int))) (by decide) (by decide)))).ext E6).other W11 (Or.inr (slot_ne (a0 := a0) (C := "com/example/termvault/termvault/MarkArrays") (Or.inl (hw _ (List.mem_of_getElem? (i := 25) rfl))) (Or.inr (hw _ (List.mem_of_getElem? (i := 16) rfl))) (by decide) (t := .int) (t' := (.array (.array .long))) (by decide) (by decide)))).other W14 (Or.inr (slot_ne (a0 := a0) (C := "com/example/termvault/termvault/MarkArrays") (Or.inl (hw _ (List.mem_of_getElem? (i := 25) rfl))) (Or.inr (hw _ (List.mem_of_getElem? (i := 18) rfl))) (by decide) (t := .int) (t' := .int) (by decide) (by decide))))
  have f23 : Fld Z h14 ao "com/example/termvault/termvault/MarkArrays" "positionsTaken" "I" (.int (0 : Int32)) := (((((Fu.ext E2).other W5 (Or.inr (slot_ne (a0 := a0) (C := "com/example/termvault/termvault/MarkArrays") (Or.inl (hw _ (List.mem_of_getElem? (i := 34) rfl))) (Or.inr (hw _ (List.mem_of_getElem? (i := 12) rfl))) (by decide) (t := .int) (t' := (.array (.array .int))) (by decide) (by decide)))).ext E6).other W11 (Or.inr (slot_ne (a0 := a0) (C := "com/example/termvault/termvault/MarkArrays") (Or.inl (hw _ (List.mem_of_getElem? (i := 34) rfl))) (Or.inr (hw _ (List.mem_of_getElem? (i := 16) rfl))) (by decide) (t := .int) (t' := (.array (.array .long))) (by decide) (by decide)))).other W14 (Or.inr (slot_ne (a0 := a0) (C := "com/example/termvault/termvault/MarkArrays") (Or.inl (hw _ (List.mem_of_getElem? (i := 34) rfl))) (Or.inr (hw _ (List.mem_of_getElem? (i := 18) rfl))) (by decide) (t := .int) (t' := .int) (by decide) (by decide))))
  exact Go.ret0 X14 hx hret hlk (hb hby d1_27) e14 (by decide) (by decide) ⟨b2, k2, b6, k6, rfl, N14, KK14, sz_b2, sz_b6, ne_b2_b6, f19, f20, f21, Fw14, f22, f23, V16, V18, O2, O6⟩
theorem d3_0 : decode prog_85_method_3_code 0 = .ok (.aload_n 0, 1) := by decide +kernel
theorem d3_1 : decode prog_85_method_3_code 1 = .ok (.getfield 25, 3) := by decide +kernel
theorem d3_4 : decode prog_85_method_3_code 4 = .ok (.bipush 16, 2) := by decide +kernel
theorem d3_6 : decode prog_85_method_3_code 6 = .ok (.if_icmp .ne 10, 3) := by decide +kernel
theorem d3_9 : decode prog_85_method_3_code 9 = .ok (.aload_n 0, 1) := by decide +kernel
theorem d3_10 : decode prog_85_method_3_code 10 = .ok (.getfield 21, 3) := by decide +kernel
theorem d3_13 : decode prog_85_method_3_code 13 = .ok (.newarray .int, 2) := by decide +kernel
theorem d3_15 : decode prog_85_method_3_code 15 = .ok (.areturn, 1) := by decide +kernel
theorem d3_16 : decode prog_85_method_3_code 16 = .ok (.aload_n 0, 1) := by decide +kernel
theorem d3_17 : decode prog_85_method_3_code 17 = .ok (.getfield 11, 3) := by decide +kernel
theorem d3_20 : decode prog_85_method_3_code 20 = .ok (.aload_n 0, 1) := by decide +kernel
theorem d3_21 : decode prog_85_method_3_code 21 = .ok (.getfield 25, 3) := by decide +kernel
theorem d3_24 : decode prog_85_method_3_code 24 = .ok (.aaload, 1) := by decide +kernel
theorem d3_25 : decode prog_85_method_3_code 25 = .ok (.ifnonnull 18, 3) := by decide +kernel
theorem d3_28 : decode prog_85_method_3_code 28 = .ok (.aload_n 0, 1) := by decide +kernel
theorem d3_29 : decode prog_85_method_3_code 29 = .ok (.getfield 11, 3) := by decide +kernel
theorem d3_32 : decode prog_85_method_3_code 32 = .ok (.aload_n 0, 1) := by decide +kernel
theorem d3_33 : decode prog_85_method_3_code 33 = .ok (.getfield 25, 3) := by decide +kernel
theorem d3_36 : decode prog_85_method_3_code 36 = .ok (.aload_n 0, 1) := by decide +kernel
theorem d3_37 : decode prog_85_method_3_code 37 = .ok (.getfield 21, 3) := by decide +kernel
theorem d3_40 : decode prog_85_method_3_code 40 = .ok (.newarray .int, 2) := by decide +kernel
theorem d3_42 : decode prog_85_method_3_code 42 = .ok (.aastore, 1) := by decide +kernel
theorem d3_43 : decode prog_85_method_3_code 43 = .ok (.aload_n 0, 1) := by decide +kernel
theorem d3_44 : decode prog_85_method_3_code 44 = .ok (.dup, 1) := by decide +kernel
theorem d3_45 : decode prog_85_method_3_code 45 = .ok (.getfield 25, 3) := by decide +kernel
theorem d3_48 : decode prog_85_method_3_code 48 = .ok (.iconst 1, 1) := by decide +kernel
theorem d3_49 : decode prog_85_method_3_code 49 = .ok (.iadd, 1) := by decide +kernel
theorem d3_50 : decode prog_85_method_3_code 50 = .ok (.putfield 25, 3) := by decide +kernel
theorem d3_53 : decode prog_85_method_3_code 53 = .ok (.aload_n 0, 1) := by decide +kernel
theorem d3_54 : decode prog_85_method_3_code 54 = .ok (.getfield 11, 3) := by decide +kernel
theorem d3_57 : decode prog_85_method_3_code 57 = .ok (.aload_n 0, 1) := by decide +kernel
theorem d3_58 : decode prog_85_method_3_code 58 = .ok (.getfield 25, 3) := by decide +kernel
theorem d3_61 : decode prog_85_method_3_code 61 = .ok (.iconst 1, 1) := by decide +kernel
theorem d3_62 : decode prog_85_method_3_code 62 = .ok (.isub, 1) := by decide +kernel
theorem d3_63 : decode prog_85_method_3_code 63 = .ok (.aaload, 1) := by decide +kernel
theorem d3_64 : decode prog_85_method_3_code 64 = .ok (.areturn, 1) := by decide +kernel
theorem ef_rmCt (m : MethodId) (ao : Addr) : entryFrame m #[(.ref ao)] 1 = mkF m 0 #[.val (.ref ao)] [] := by first | (simp [entryFrame, mkF, argsToLocals, Value.category]; done) | rfl
def Q_rmCt (Z : State) (ao : Addr) (ac : Addr) (kc : ClassId) (lc : List Value) (tk : Int32) (sp : Int32) (uo : Int32) (aw : Addr) (h0 : Heap) (n0 : Nat) (v : Option Value) (h : Heap) (L : List Loc) : Prop := ∃ ar : Addr, ∃ kr : ClassId, (v = some (.ref ar)) ∧ (Fr n0 L) ∧ (Keep h0 h [ao, ac]) ∧ (h0.size ≤ ar) ∧ (Exa Z h ao "com/example/termvault/termvault/MarkArrays") ∧ (Fld Z h ao "com/example/termvault/termvault/MarkArrays" "counts" "[[I" (.ref ac)) ∧ (Fld Z h ao "com/example/termvault/termvault/MarkArrays" "countsTaken" "I" (.int (tk + (1 : Int32)))) ∧ (Fld Z h ao "com/example/termvault/termvault/MarkArrays" "span" "I" (.int sp)) ∧ (Fld Z h ao "com/example/termvault/termvault/MarkArrays" "positionsTaken" "I" (.int uo)) ∧ (Fld Z h ao "com/example/termvault/termvault/MarkArrays" "positions" "[[J" (.ref aw)) ∧ (Arv Z h ac kc (.array .int) (16 : Int32) (lc.set tk.toNatClampNeg (.ref ar)) .null) ∧ (Arv Z h ar kr .int sp [] (.int (0 : Int32))) ∧ (Exa Z h ar "[I")
set_option maxRecDepth 65536 in
set_option maxHeartbeats 40000000 in
theorem rmCt (l : Launch) (Z : State) (a0 : Array Value) (hw : ∀ d ∈ tables_1, d.before a0 Z = true) (ws : List Jvm.Cond) (ao : Addr) (ac : Addr) (kc : ClassId) (lc : List Value) (tk : Int32) (sp : Int32) (uo : Int32) (aw : Addr) (h0 : Heap) (n0 : Nat) (Z0 : n0 ≤ h0.size) (E0 : Exa Z h0 ao "com/example/termvault/termvault/MarkArrays") (Fc : Fld Z h0 ao "com/example/termvault/termvault/MarkArrays" "counts" "[[I" (.ref ac)) (Ft : Fld Z h0 ao "com/example/termvault/termvault/MarkArrays" "countsTaken" "I" (.int tk)) (Fs : Fld Z h0 ao "com/example/termvault/termvault/MarkArrays" "span" "I" (.int sp)) (Vc : Arv Z h0 ac kc (.array .int) (16 : Int32) lc .null) (Fo : Fld Z h0 ao "com/example/termvault/termvault/MarkArrays" "positionsTaken" "I" (.int uo)) (Fq : Fld Z h0 ao "com/example/termvault/termvault/MarkArrays" "positions" "[[J" (.ref aw)) (ov_ac : OvrA Z kc .int "[I") (g0 : n0 ≤ ao) (g1 : n0 ≤ ac) (ne0 : ao ≠ ac) (ht0 : ¬ (tk < (0 : Int32))) (ht1 : tk < (16 : Int32)) (hl : lc.length = (16 : Int32).toNatClampNeg) (hnull : lc.getD tk.toNatClampNeg .null = .null) (hs0 : ¬ (sp < (0 : Int32))) (hs1 : ¬ ((1023 : Int32) < sp)) :
    MetFree l (⟨"com/example/termvault/termvault/MarkArrays", "counts", "()[I"⟩ : MethodName) (head1 (Jvm.Cond.code (⟨"com/example/termvault/termvault/MarkArrays", "counts", "()[I"⟩ : MethodName) prog_85_method_3_code 1 (some (.array .int)) :: ws) ({ frames := 0, cells := 1, slots := 1023, locals := 0 } : Room)) (fun aA U => aA = #[(.ref ao)] ∧ Z.Warmed39 U.vm ∧ U.heap = h0) (fun _ _ _ _ _ => True) (fun _ U o U' => ∃ v L, o = .returned v ∧ Q_rmCt Z ao ac kc lc tk sp uo aw h0 n0 v U'.heap L ∧ FrameEnd U o U' L ({ frames := 0, cells := 1, slots := 1023, locals := 0 } : Room).cells ({ frames := 0, cells := 1, slots := 1023, locals := 0 } : Room).slots) := by
  refine MetFree.of_bodySF (plainFor_of_name pn_com_example_termvault_termvault_MarkArrays) hisR ?_
  intro p e s m args below meth c s₁ Bd hml0 hP hK
  obtain ⟨rfl, hZ, hh⟩ := hP
  have hx := Bd.exec
  have hby := Bd.bytes
  have hml : c.maxLocals = 1 := hml0
  have hown : s.vm.findClass "com/example/termvault/termvault/MarkArrays" = some m.cls := findClass_of_methodNamed Bd.named
  have hnm := (name_of_methodNamed Bd.named Bd.method).1
  have hret := Bd.returns
  have hlk : meth.locks = false := BodyLoose.notSynchronized Bd
  have X0 : Stand p l e ({ frames := 0, cells := 1, slots := 1023, locals := 0 } : Room) s m #[(.ref ao)] below meth c s₁ [] 0 0 := Stand.of_body Bd
  have e0 : s₁.heap = h0 := by rw [← hh, Bd.state]; rfl
  have N0 := Fr.nil n0
  suffices hgo : Go p e below s ({ frames := 0, cells := 1, slots := 1023, locals := 0 } : Room).cells ({ frames := 0, cells := 1, slots := 1023, locals := 0 } : Room).slots (Q_rmCt Z ao ac kc lc tk sp uo aw h0 n0) s₁ (mkF m 0 #[.val (.ref ao)] []) from hgo.enter (ef_rmCt m ao)
  refine Go.step (fun _ k => XS.aloadN X0.here hx rfl (hb hby d3_0) rfl rfl k) ?_
  show Go _ _ _ _ _ _ _ s₁ (mkF m 1 #[.val (.ref ao)] [(.ref ao)])
  obtain ⟨T24, X24, e24, st24⟩ := getF X0 hx hZ hown (host := "") (Or.inl (hw _ (List.mem_of_getElem? (i := 24) rfl))) Via.refl e0 Ft (g := (mkF m 1 #[.val (.ref ao)] [(.ref ao)])) rfl rfl (hb hby d3_1)
  refine Go.step st24 ?_
  show Go _ _ _ _ _ _ _ T24 (mkF m 4 #[.val (.ref ao)] [(.int tk)])
  refine Go.step (fun _ k => XS.bipush X24.here hx rfl (hb hby d3_4) k) ?_
  show Go _ _ _ _ _ _ _ T24 (mkF m 6 #[.val (.ref ao)] [(.int (16 : Int32)), (.int tk)])
  have hc6_25 : ¬ (tk = (16 : Int32)) := (by have := rng32 tk; have : (16 : Int32).toInt = 16 := rfl; simp only [Int32.lt_iff_toInt_lt, Int32.le_iff_toInt_le, ← Int32.toInt_inj, Int64.lt_iff_toInt_lt, Int64.le_iff_toInt_le, ← Int64.toInt_inj] at ht1 ⊢; omega)
  refine Go.step (fun _ k => XS.icmpYes X24.here hx rfl (pc0 := 6) (pc' := 16) rfl (hb hby d3_6) rfl (feq hc6_25).2 (by decide) (by decide) k) ?_
  show Go _ _ _ _ _ _ _ T24 (mkF m 16 #[.val (.ref ao)] [])
  refine Go.step (fun _ k => XS.aloadN X24.here hx rfl (hb hby d3_16) rfl rfl k) ?_
  show Go _ _ _ _ _ _ _ T24 (mkF m 17 #[.val (.ref ao)] [(.ref ao)])
  obtain ⟨T26, X26, e26, st26⟩ := getF X24 hx hZ hown (host := "") (Or.inl (hw _ (List.mem_of_getElem? (i := 11) rfl))) Via.refl e24 Fc (g := (mkF m 17 #[.val (.ref ao)] [(.ref ao)])) rfl rfl (hb hby d3_17)
  refine Go.step st26 ?_
  show Go _ _ _ _ _ _ _ T26 (mkF m 20 #[.val (.ref ao)] [(.ref ac)])
  refine Go.step (fun _ k => XS.aloadN X26.here hx rfl (hb hby d3_20) rfl rfl k) ?_
  show Go _ _ _ _ _ _ _ T26 (mkF m 21 #[.val (.ref ao)] [(.ref ao), (.ref ac)])
  obtain ⟨T27, X27, e27, st27⟩ := getF X26 hx hZ hown (host := "") (Or.inl (hw _ (List.mem_of_getElem? (i := 24) rfl))) Via.refl e26 Ft (g := (mkF m 21 #[.val (.ref ao)] [(.ref ao), (.ref ac)])) rfl rfl (hb hby d3_21)
  refine Go.step st27 ?_
  show Go _ _ _ _ _ _ _ T27 (mkF m 24 #[.val (.ref ao)] [(.int tk), (.ref ac)])
  obtain ⟨cl28, Ar28, q28, S28, M28, H28, G28⟩ := id (Vc)
  have hin28 : ¬ (tk < 0 ∨ cl28.slots.size ≤ (tk).toNatClampNeg) := inb_of S28 ⟨ht0, ht1⟩
  have hat28 : cl28.slots[(tk).toNatClampNeg]? = some .null := H28.at hin28 hnull
  refine Go.step (X27.aaload hx (j := tk) (v := .null) (by rw [e27]; exact Ar28.1) (State.isArrayOf_alike hZ.alike Ar28.2.1) rfl Ar28.2.2 hin28 hat28 (g := (mkF m 24 #[.val (.ref ao)] [(.int tk), (.ref ac)])) rfl rfl (hb hby d3_24)) ?_
  show Go _ _ _ _ _ _ _ T27 (mkF m 25 #[.val (.ref ao)] [.null])
  refine Go.step (fun _ k => XS.ifnonnullNo X27.here hx rfl (hb hby d3_25) rfl k) ?_
  show Go _ _ _ _ _ _ _ T27 (mkF m 28 #[.val (.ref ao)] [])
  refine Go.step (fun _ k => XS.aloadN X27.here hx rfl (hb hby d3_28) rfl rfl k) ?_
  show Go _ _ _ _ _ _ _ T27 (mkF m 29 #[.val (.ref ao)] [(.ref ao)])
  obtain ⟨T29, X29, e29, st29⟩ := getF X27 hx hZ hown (host := "") (Or.inl (hw _ (List.mem_of_getElem? (i := 11) rfl))) Via.refl e27 Fc (g := (mkF m 29 #[.val (.ref ao)] [(.ref ao)])) rfl rfl (hb hby d3_29)
  refine Go.step st29 ?_
  show Go _ _ _ _ _ _ _ T29 (mkF m 32 #[.val (.ref ao)] [(.ref ac)])
  refine Go.step (fun _ k => XS.aloadN X29.here hx rfl (hb hby d3_32) rfl rfl k) ?_
  show Go _ _ _ _ _ _ _ T29 (mkF m 33 #[.val (.ref ao)] [(.ref ao), (.ref ac)])
  obtain ⟨T30, X30, e30, st30⟩ := getF X29 hx hZ hown (host := "") (Or.inl (hw _ (List.mem_of_getElem? (i := 24) rfl))) Via.refl e29 Ft (g := (mkF m 33 #[.val (.ref ao)] [(.ref ao), (.ref ac)])) rfl rfl (hb hby d3_33)
  refine Go.step st30 ?_
  show Go _ _ _ _ _ _ _ T30 (mkF m 36 #[.val (.ref ao)] [(.int tk), (.ref ac)])
  refine Go.step (fun _ k => XS.aloadN X30.here hx rfl (hb hby d3_36) rfl rfl k) ?_
  show Go _ _ _ _ _ _ _ T30 (mkF m 37 #[.val (.ref ao)] [(.ref ao), (.int tk), (.ref ac)])
  obtain ⟨T31, X31, e31, st31⟩ := getF X30 hx hZ hown (host := "") (Or.inl (hw _ (List.mem_of_getElem? (i := 17) rfl))) Via.refl e30 Fs (g := (mkF m 37 #[.val (.ref ao)] [(.ref ao), (.int tk), (.ref ac)])) rfl rfl (hb hby d3_37)
  refine Go.step st31 ?_
  show Go _ _ _ _ _ _ _ T31 (mkF m 40 #[.val (.ref ao)] [(.int sp), (.int tk), (.ref ac)])
  obtain ⟨T32, h32, k32, X32, e32, E32, A32, Xa32, st32⟩ := newPE X31 hx hZ (hw _ (List.mem_of_getElem? (i := 26) rfl)) e31 (g := (mkF m 40 #[.val (.ref ao)] [(.int sp), (.int tk), (.ref ac)])) rfl (hb hby d3_40) rfl hs0 (cap := 1023) (Nat.le_trans (own_tle hs1) (by decide)) (by decide) (by decide) (by decide) (ad := "[I") rfl
  obtain ⟨b32, g32⟩ : ∃ z, z = h0.size := ⟨_, rfl⟩
  rw [← g32] at A32 Xa32 st32
  refine Go.step st32 ?_
  have g_b32 : n0 ≤ b32 := Nat.le_trans Z0 (Nat.le_of_eq g32.symm)
  have sz_b32 : h0.size ≤ b32 := Nat.le_trans (Keep.refl h0 [ao, ac]).1 (Nat.le_of_eq g32.symm)
  have ne_ac_b32 : ac ≠ b32 := Nat.ne_of_lt (Nat.lt_of_lt_of_le Vc.lt (Nat.le_of_eq g32.symm))
  have ne_ao_b32 : ao ≠ b32 := Nat.ne_of_lt (Nat.lt_of_lt_of_le E0.lt (Nat.le_of_eq g32.symm))
  have Z32 : n0 ≤ h32.size := Nat.le_trans Z0 E32.1
  have KK32 : Keep h0 h32 [ao, ac] := (Keep.refl h0 [ao, ac]).ext E32
  have V32 : Arv Z h32 b32 k32 .int sp [] (.int (0 : Int32)) := Arv.new A32 hs0
  show Go _ _ _ _ _ _ _ T32 (mkF m 42 #[.val (.ref ao)] [(.ref b32), (.int tk), (.ref ac)])
  have f33 : Arv Z h32 ac kc (.array .int) (16 : Int32) lc .null := (Vc.ext E32)
  obtain ⟨cl34, Ar34, q34, S34, M34, H34, G34⟩ := id (f33)
  have hin34 : ¬ (tk < 0 ∨ cl34.slots.size ≤ (tk).toNatClampNeg) := inb_of S34 ⟨ht0, ht1⟩
  obtain ⟨T34, h34, X34, e34, W34, st34⟩ := stR X32 hx hZ e32 Ar34 (j := tk) hin34 rfl (Sto.ofVA Ar34 q34 ov_ac (Ins.self Xa32)) (g := (mkF m 42 #[.val (.ref ao)] [(.ref b32), (.int tk), (.ref ac)])) rfl rfl (hb hby d3_42)
  refine Go.step st34 ?_
  have V34 : Arv Z h34 ac kc (.array .int) (16 : Int32) (lc.set tk.toNatClampNeg (.ref b32)) .null := Arv.set Ar34 q34 S34 M34 H34 G34 rfl W34 tk.toNatClampNeg rfl (by rw [hl]; exact own_tlt ht0 ht1)
  have N34 := Fr.snoc X34 N0 g1
  have Z34 : n0 ≤ h34.size := Nat.le_trans Z32 (Keep.of_wr W34).1
  have KK34 : Keep h0 h34 [ao, ac] := KK32.wr W34 (Or.inl (List.mem_of_getElem? (i := 1) rfl))
  show Go _ _ _ _ _ _ _ T34 (mkF m 43 #[.val (.ref ao)] [])
  refine Go.step (fun _ k => XS.aloadN X34.here hx rfl (hb hby d3_43) rfl rfl k) ?_
  show Go _ _ _ _ _ _ _ T34 (mkF m 44 #[.val (.ref ao)] [(.ref ao)])
  refine Go.step (fun _ k => XS.dup X34.here hx rfl (hb hby d3_44) rfl rfl k) ?_
  show Go _ _ _ _ _ _ _ T34 (mkF m 45 #[.val (.ref ao)] [(.ref ao), (.ref ao)])
  have f35 : Fld Z h34 ao "com/example/termvault/termvault/MarkArrays" "countsTaken" "I" (.int tk) := ((Ft.ext E32).other W34 (Or.inl ne0))
  obtain ⟨T36, X36, e36, st36⟩ := getF X34 hx hZ hown (host := "") (Or.inl (hw _ (List.mem_of_getElem? (i := 24) rfl))) Via.refl e34 f35 (g := (mkF m 45 #[.val (.ref ao)] [(.ref ao), (.ref ao)])) rfl rfl (hb hby d3_45)
  refine Go.step st36 ?_
  show Go _ _ _ _ _ _ _ T36 (mkF m 48 #[.val (.ref ao)] [(.int tk), (.ref ao)])
  refine Go.step (fun _ k => XS.iconst X36.here hx rfl (hb hby d3_48) k) ?_
  show Go _ _ _ _ _ _ _ T36 (mkF m 49 #[.val (.ref ao)] [(.int (1 : Int32)), (.int tk), (.ref ao)])
  refine Go.step (fun _ k => XS.iadd X36.here hx rfl (hb hby d3_49) rfl k) ?_
  show Go _ _ _ _ _ _ _ T36 (mkF m 50 #[.val (.ref ao)] [(.int (tk + (1 : Int32))), (.ref ao)])
  have f37 : Exa Z h34 ao "com/example/termvault/termvault/MarkArrays" := ((E0.ext E32).wr W34)
  obtain ⟨T38, h38, X38, e38, W38, st38⟩ := putF X36 hx hZ hown (host := "") (Or.inl (hw _ (List.mem_of_getElem? (i := 24) rfl))) Via.refl e36 f35 f37 (Or.inl (hw _ (List.mem_of_getElem? (i := 25) rfl))) (hw _ (List.mem_of_getElem? (i := 1) rfl)) (ty := .int) (by decide) rfl rfl (g := (mkF m 50 #[.val (.ref ao)] [(.int (tk + (1 : Int32))), (.ref ao)])) rfl rfl (hb hby d3_50)
  refine Go.step st38 ?_
  have Fw38 := f35.same W38
  have N38 := Fr.snoc X38 N34 g0
  have Z38 : n0 ≤ h38.size := Nat.le_trans Z34 (Keep.of_wr W38).1
  have KK38 : Keep h0 h38 [ao, ac] := KK34.wr W38 (Or.inl (List.mem_of_getElem? (i := 0) rfl))
  show Go _ _ _ _ _ _ _ T38 (mkF m 53 #[.val (.ref ao)] [])
  refine Go.step (fun _ k => XS.aloadN X38.here hx rfl (hb hby d3_53) rfl rfl k) ?_
  show Go _ _ _ _ _ _ _ T38 (mkF m 54 #[.val (.ref ao)] [(.ref ao)])
  have f39 : Fld Z h38 ao "com/example/termvault/termvault/MarkArrays" "counts" "[[I" (.ref ac) := (((Fc.ext E32).other W34 (Or.inl ne0)).other W38 (Or.inr (slot_ne (a0 := a0) (C := "com/example/termvault/termvault/MarkArrays") (Or.inr (hw _ (List.mem_of_getElem? (i := 12) rfl))) (Or.inl (hw _ (List.mem_of_getElem? (i := 25) rfl))) (by decide) (t := (.array (.array .int))) (t' := .int) (by decide) (by decide))))
  obtain ⟨T40, X40, e40, st40⟩ := getF X38 hx hZ hown (host := "") (Or.inl (hw _ (List.mem_of_getElem? (i := 11) rfl))) Via.refl e38 f39 (g := (mkF m 54 #[.val (.ref ao)] [(.ref ao)])) rfl rfl (hb hby d3_54)
  refine Go.step st40 ?_
  show Go _ _ _ _ _ _ _ T40 (mkF m 57 #[.val (.ref ao)] [(.ref ac)])
  refine Go.step (fun _ k => XS.aloadN X40.here hx rfl (hb hby d3_57) rfl rfl k) ?_
  show Go _ _ _ _ _ _ _ T40 (mkF m 58 #[.val (.ref ao)] [(.ref ao), (.ref ac)])
  obtain ⟨T41, X41, e41, st41⟩ := getF X40 hx hZ hown (host := "") (Or.inl (hw _ (List.mem_of_getElem? (i := 24) rfl))) Via.refl e40 Fw38 (g := (mkF m 58 #[.val (.ref ao)] [(.ref ao), (.ref ac)])) rfl rfl (hb hby d3_58)
  refine Go.step st41 ?_
  show Go _ _ _ _ _ _ _ T41 (mkF m 61 #[.val (.ref ao)] [(.int (tk + (1 : Int32))), (.ref ac)])
  refine Go.step (fun _ k => XS.iconst X41.here hx rfl (hb hby d3_61) k) ?_
  show Go _ _ _ _ _ _ _ T41 (mkF m 62 #[.val (.ref ao)] [(.int (1 : Int32)), (.int (tk + (1 : Int32))), (.ref ac)])
  refine Go.step (fun _ k => XS.isub X41.here hx rfl (hb hby d3_62) rfl k) ?_
  show Go _ _ _ _ _ _ _ T41 (mkF m 63 #[.val (.ref ao)] [(.int ((tk + (1 : Int32)) - (1 : Int32))), (.ref ac)])
  have f42 : Arv Z h38 ac kc (.array .int) (16 : Int32) (lc.set tk.toNatClampNeg (.ref b32)) .null := (V34.other W38 (Ne.symm ne0))
  obtain ⟨cl43, Ar43, q43, S43, M43, H43, G43⟩ := id (f42)
  have hin43 : ¬ (((tk + (1 : Int32)) - (1 : Int32)) < 0 ∨ cl43.slots.size ≤ (((tk + (1 : Int32)) - (1 : Int32))).toNatClampNeg) := inb_of S43 ⟨(by have := rng32 tk; have : (1 : Int32).toInt = 1 := rfl; have := rng32 (tk + (1 : Int32)); have := c_iadd tk (1 : Int32); have := rng32 ((tk + (1 : Int32)) - (1 : Int32)); have := c_isub (tk + (1 : Int32)) (1 : Int32); have : (0 : Int32).toInt = 0 := rfl; have : (16 : Int32).toInt = 16 := rfl; simp only [Int32.lt_iff_toInt_lt, Int32.le_iff_toInt_le, ← Int32.toInt_inj, Int64.lt_iff_toInt_lt, Int64.le_iff_toInt_le, ← Int64.toInt_inj] at ht0 ht1 ⊢; omega), (by have := rng32 tk; have : (1 : Int32).toInt = 1 := rfl; have := rng32 (tk + (1 : Int32)); have := c_iadd tk (1 : Int32); have := rng32 ((tk + (1 : Int32)) - (1 : Int32)); have := c_isub (tk + (1 : Int32)) (1 : Int32); have : (0 : Int32).toInt = 0 := rfl; have : (16 : Int32).toInt = 16 := rfl; simp only [Int32.lt_iff_toInt_lt, Int32.le_iff_toInt_le, ← Int32.toInt_inj, Int64.lt_iff_toInt_lt, Int64.le_iff_toInt_le, ← Int64.toInt_inj] at ht0 ht1 ⊢; omega)⟩
  have hat43 : cl43.slots[(((tk + (1 : Int32)) - (1 : Int32))).toNatClampNeg]? = some (.ref b32) := H43.at hin43 (by rw [own_as]; exact own_g (by rw [hl]; exact own_tlt ht0 ht1))
  refine Go.step (X41.aaload hx (j := ((tk + (1 : Int32)) - (1 : Int32))) (v := (.ref b32)) (by rw [e41]; exact Ar43.1) (State.isArrayOf_alike hZ.alike Ar43.2.1) rfl Ar43.2.2 hin43 hat43 (g := (mkF m 63 #[.val (.ref ao)] [(.int ((tk + (1 : Int32)) - (1 : Int32))), (.ref ac)])) rfl rfl (hb hby d3_63)) ?_
  show Go _ _ _ _ _ _ _ T41 (mkF m 64 #[.val (.ref ao)] [(.ref b32)])
  have f44 : Exa Z h38 ao "com/example/termvault/termvault/MarkArrays" := (f37.wr W38)
  have f45 : Fld Z h38 ao "com/example/termvault/termvault/MarkArrays" "span" "I" (.int sp) := (((Fs.ext E32).other W34 (Or.inl ne0)).other W38 (Or.inr (slot_ne (a0 := a0) (C := "com/example/termvault/termvault/MarkArrays") (Or.inr (hw _ (List.mem_of_getElem? (i := 18) rfl))) (Or.inl (hw _ (List.mem_of_getElem? (i := 25) rfl))) (by decide) (t := .int) (t' := .int) (by decide) (by decide))))
  have f46 : Fld Z h38 ao "com/example/termvault/termvault/MarkArrays" "positionsTaken" "I" (.int uo) := (((Fo.ext E32).other W34 (Or.inl ne0)).other W38 (Or.inr (slot_ne (a0 := a0) (C := "com/example/termvault/termvault/MarkArrays") (Or.inl (hw _ (List.mem_of_getElem? (i := 34) rfl))) (Or.inl (hw _ (List.mem_of_getElem? (i := 25) rfl))) (by decide) (t := .int) (t' := .int) (by decide) (by decide))))
  have f47 : Fld Z h38 ao "com/example/termvault/termvault/MarkArrays" "positions" "[[J" (.ref aw) := (((Fq.ext E32).other W34 (Or.inl ne0)).other W38 (Or.inr (slot_ne (a0 := a0) (C := "com/example/termvault/termvault/MarkArrays") (Or.inr (hw _ (List.mem_of_getElem? (i := 16) rfl))) (Or.inl (hw _ (List.mem_of_getElem? (i := 25) rfl))) (by decide) (t := (.array (.array .long))) (t' := .int) (by decide) (by decide))))
  have f48 : Arv Z h38 b32 k32 .int sp [] (.int (0 : Int32)) := ((V32.other W34 (Ne.symm ne_ac_b32)).other W38 (Ne.symm ne_ao_b32))
  have f49 : Exa Z h38 b32 "[I" := ((Xa32.wr W34).wr W38)
  exact Go.retA X41 hx hret hlk rfl rfl (hb hby d3_64) e41 (by decide) (by decide) ⟨b32, k32, rfl, N38, KK38, sz_b32, f44, f39, Fw38, f45, f46, f47, f42, f48, f49⟩
theorem ef_rmCa (m : MethodId) (ao : Addr) : entryFrame m #[(.ref ao)] 1 = mkF m 0 #[.val (.ref ao)] [] := by first | (simp [entryFrame, mkF, argsToLocals, Value.category]; done) | rfl
def Q_rmCa (Z : State) (ao : Addr) (ac : Addr) (kc : ClassId) (lc : List Value) (tk : Int32) (sp : Int32) (ax : Addr) (uo : Int32) (aw : Addr) (h0 : Heap) (n0 : Nat) (v : Option Value) (h : Heap) (L : List Loc) : Prop := (v = some (.ref ax)) ∧ (Fr n0 L) ∧ (Keep h0 h [ao]) ∧ (Exa Z h ao "com/example/termvault/termvault/MarkArrays") ∧ (Fld Z h ao "com/example/termvault/termvault/MarkArrays" "counts" "[[I" (.ref ac)) ∧ (Fld Z h ao "com/example/termvault/termvault/MarkArrays" "countsTaken" "I" (.int (tk + (1 : Int32)))) ∧ (Fld Z h ao "com/example/termvault/termvault/MarkArrays" "span" "I" (.int sp)) ∧ (Fld Z h ao "com/example/termvault/termvault/MarkArrays" "positionsTaken" "I" (.int uo)) ∧ (Fld Z h ao "com/example/termvault/termvault/MarkArrays" "positions" "[[J" (.ref aw))
set_option maxRecDepth 65536 in
set_option maxHeartbeats 40000000 in
theorem rmCa (l : Launch) (Z : State) (a0 : Array Value) (hw : ∀ d ∈ tables_1, d.before a0 Z = true) (ws : List Jvm.Cond) (ao : Addr) (ac : Addr) (kc : ClassId) (lc : List Value) (tk : Int32) (sp : Int32) (ax : Addr) (uo : Int32) (aw : Addr) (h0 : Heap) (n0 : Nat) (Z0 : n0 ≤ h0.size) (E0 : Exa Z h0 ao "com/example/termvault/termvault/MarkArrays") (Fc : Fld Z h0 ao "com/example/termvault/termvault/MarkArrays" "counts" "[[I" (.ref ac)) (Ft : Fld Z h0 ao "com/example/termvault/termvault/MarkArrays" "countsTaken" "I" (.int tk)) (Fs : Fld Z h0 ao "com/example/termvault/termvault/MarkArrays" "span" "I" (.int sp)) (Vc : Arv Z h0 ac kc (.array .int) (16 : Int32) lc .null) (Fo : Fld Z h0 ao "com/example/termvault/termvault/MarkArrays" "positionsTaken" "I" (.int uo)) (Fq : Fld Z h0 ao "com/example/termvault/termvault/MarkArrays" "positions" "[[J" (.ref aw)) (g0 : n0 ≤ ao) (ne0 : ao ≠ ac) (ht0 : ¬ (tk < (0 : Int32))) (ht1 : tk < (16 : Int32)) (hre : lc.getD tk.toNatClampNeg .null = .ref ax) :
    MetFree l (⟨"com/example/termvault/termvault/MarkArrays", "counts", "()[I"⟩ : MethodName) (head1 (Jvm.Cond.code (⟨"com/example/termvault/termvault/MarkArrays", "counts", "()[I"⟩ : MethodName) prog_85_method_3_code 1 (some (.array .int)) :: ws) ({ frames := 0, cells := 0, slots := 0, locals := 0 } : Room)) (fun aA U => aA = #[(.ref ao)] ∧ Z.Warmed39 U.vm ∧ U.heap = h0) (fun _ _ _ _ _ => True) (fun _ U o U' => ∃ v L, o = .returned v ∧ Q_rmCa Z ao ac kc lc tk sp ax uo aw h0 n0 v U'.heap L ∧ FrameEnd U o U' L ({ frames := 0, cells := 0, slots := 0, locals := 0 } : Room).cells ({ frames := 0, cells := 0, slots := 0, locals := 0 } : Room).slots) := by
  refine MetFree.of_bodySF (plainFor_of_name pn_com_example_termvault_termvault_MarkArrays) hisR ?_
  intro p e s m args below meth c s₁ Bd hml0 hP hK
  obtain ⟨rfl, hZ, hh⟩ := hP
  have hx := Bd.exec
  have hby := Bd.bytes
  have hml : c.maxLocals = 1 := hml0
  have hown : s.vm.findClass "com/example/termvault/termvault/MarkArrays" = some m.cls := findClass_of_methodNamed Bd.named
  have hnm := (name_of_methodNamed Bd.named Bd.method).1
  have hret := Bd.returns
  have hlk : meth.locks = false := BodyLoose.notSynchronized Bd
  have X0 : Stand p l e ({ frames := 0, cells := 0, slots := 0, locals := 0 } : Room) s m #[(.ref ao)] below meth c s₁ [] 0 0 := Stand.of_body Bd
  have e0 : s₁.heap = h0 := by rw [← hh, Bd.state]; rfl
  have N0 := Fr.nil n0
  suffices hgo : Go p e below s ({ frames := 0, cells := 0, slots := 0, locals := 0 } : Room).cells ({ frames := 0, cells := 0, slots := 0, locals := 0 } : Room).slots (Q_rmCa Z ao ac kc lc tk sp ax uo aw h0 n0) s₁ (mkF m 0 #[.val (.ref ao)] []) from hgo.enter (ef_rmCa m ao)
  refine Go.step (fun _ k => XS.aloadN X0.here hx rfl (hb hby d3_0) rfl rfl k) ?_
  show Go _ _ _ _ _ _ _ s₁ (mkF m 1 #[.val (.ref ao)] [(.ref ao)])
  obtain ⟨T50, X50, e50, st50⟩ := getF X0 hx hZ hown (host := "") (Or.inl (hw _ (List.mem_of_getElem? (i := 24) rfl))) Via.refl e0 Ft (g := (mkF m 1 #[.val (.ref ao)] [(.ref ao)])) rfl rfl (hb hby d3_1)
  refine Go.step st50 ?_
  show Go _ _ _ _ _ _ _ T50 (mkF m 4 #[.val (.ref ao)] [(.int tk)])
  refine Go.step (fun _ k => XS.bipush X50.here hx rfl (hb hby d3_4) k) ?_
  show Go _ _ _ _ _ _ _ T50 (mkF m 6 #[.val (.ref ao)] [(.int (16 : Int32)), (.int tk)])
  have hc6_51 : ¬ (tk = (16 : Int32)) := (by have := rng32 tk; have : (16 : Int32).toInt = 16 := rfl; simp only [Int32.lt_iff_toInt_lt, Int32.le_iff_toInt_le, ← Int32.toInt_inj, Int64.lt_iff_toInt_lt, Int64.le_iff_toInt_le, ← Int64.toInt_inj] at ht1 ⊢; omega)
  refine Go.step (fun _ k => XS.icmpYes X50.here hx rfl (pc0 := 6) (pc' := 16) rfl (hb hby d3_6) rfl (feq hc6_51).2 (by decide) (by decide) k) ?_
  show Go _ _ _ _ _ _ _ T50 (mkF m 16 #[.val (.ref ao)] [])
  refine Go.step (fun _ k => XS.aloadN X50.here hx rfl (hb hby d3_16) rfl rfl k) ?_
  show Go _ _ _ _ _ _ _ T50 (mkF m 17 #[.val (.ref ao)] [(.ref ao)])
  obtain ⟨T52, X52, e52, st52⟩ := getF X50 hx hZ hown (host := "") (Or.inl (hw _ (List.mem_of_getElem? (i := 11) rfl))) Via.refl e50 Fc (g := (mkF m 17 #[.val (.ref ao)] [(.ref ao)])) rfl rfl (hb hby d3_17)
  refine Go.step st52 ?_
  show Go _ _ _ _ _ _ _ T52 (mkF m 20 #[.val (.ref ao)] [(.ref ac)])
  refine Go.step (fun _ k => XS.aloadN X52.here hx rfl (hb hby d3_20) rfl rfl k) ?_
  show Go _ _ _ _ _ _ _ T52 (mkF m 21 #[.val (.ref ao)] [(.ref ao), (.ref ac)])
  obtain ⟨T53, X53, e53, st53⟩ := getF X52 hx hZ hown (host := "") (Or.inl (hw _ (List.mem_of_getElem? (i := 24) rfl))) Via.refl e52 Ft (g := (mkF m 21 #[.val (.ref ao)] [(.ref ao), (.ref ac)])) rfl rfl (hb hby d3_21)
  refine Go.step st53 ?_
  show Go _ _ _ _ _ _ _ T53 (mkF m 24 #[.val (.ref ao)] [(.int tk), (.ref ac)])
  obtain ⟨cl54, Ar54, q54, S54, M54, H54, G54⟩ := id (Vc)
  have hin54 : ¬ (tk < 0 ∨ cl54.slots.size ≤ (tk).toNatClampNeg) := inb_of S54 ⟨ht0, ht1⟩
  have hat54 : cl54.slots[(tk).toNatClampNeg]? = some (.ref ax) := H54.at hin54 hre
  refine Go.step (X53.aaload hx (j := tk) (v := (.ref ax)) (by rw [e53]; exact Ar54.1) (State.isArrayOf_alike hZ.alike Ar54.2.1) rfl Ar54.2.2 hin54 hat54 (g := (mkF m 24 #[.val (.ref ao)] [(.int tk), (.ref ac)])) rfl rfl (hb hby d3_24)) ?_
  show Go _ _ _ _ _ _ _ T53 (mkF m 25 #[.val (.ref ao)] [(.ref ax)])
  refine Go.step (fun _ k => XS.ifnonnullYes X53.here hx rfl (pc0 := 25) (pc' := 43) rfl (hb hby d3_25) rfl (by decide) (by decide) k) ?_
  show Go _ _ _ _ _ _ _ T53 (mkF m 43 #[.val (.ref ao)] [])
  refine Go.step (fun _ k => XS.aloadN X53.here hx rfl (hb hby d3_43) rfl rfl k) ?_
  show Go _ _ _ _ _ _ _ T53 (mkF m 44 #[.val (.ref ao)] [(.ref ao)])
  refine Go.step (fun _ k => XS.dup X53.here hx rfl (hb hby d3_44) rfl rfl k) ?_
  show Go _ _ _ _ _ _ _ T53 (mkF m 45 #[.val (.ref ao)] [(.ref ao), (.ref ao)])
  obtain ⟨T55, X55, e55, st55⟩ := getF X53 hx hZ hown (host := "") (Or.inl (hw _ (List.mem_of_getElem? (i := 24) rfl))) Via.refl e53 Ft (g := (mkF m 45 #[.val (.ref ao)] [(.ref ao), (.ref ao)])) rfl rfl (hb hby d3_45)
  refine Go.step st55 ?_
  show Go _ _ _ _ _ _ _ T55 (mkF m 48 #[.val (.ref ao)] [(.int tk), (.ref ao)])
  refine Go.step (fun _ k => XS.iconst X55.here hx rfl (hb hby d3_48) k) ?_
  show Go _ _ _ _ _ _ _ T55 (mkF m 49 #[.val (.ref ao)] [(.int (1 : Int32)), (.int tk), (.ref ao)])
  refine Go.step (fun _ k => XS.iadd X55.here hx rfl (hb hby d3_49) rfl k) ?_
  show Go _ _ _ _ _ _ _ T55 (mkF m 50 #[.val (.ref ao)] [(.int (tk + (1 : Int32))), (.ref ao)])
  obtain ⟨T56, h56, X56, e56, W56, st56⟩ := putF X55 hx hZ hown (host := "") (Or.inl (hw _ (List.mem_of_getElem? (i := 24) rfl))) Via.refl e55 Ft E0 (Or.inl (hw _ (List.mem_of_getElem? (i := 25) rfl))) (hw _ (List.mem_of_getElem? (i := 1) rfl)) (ty := .int) (by decide) rfl rfl (g := (mkF m 50 #[.val (.ref ao)] [(.int (tk + (1 : Int32))), (.ref ao)])) rfl rfl (hb hby d3_50)
  refine Go.step st56 ?_
  have Fw56 := Ft.same W56
  have N56 := Fr.snoc X56 N0 g0
  have Z56 : n0 ≤ h56.size := Nat.le_trans Z0 (Keep.of_wr W56).1
  have KK56 : Keep h0 h56 [ao] := (Keep.refl h0 [ao]).wr W56 (Or.inl (List.mem_of_getElem? (i := 0) rfl))
  show Go _ _ _ _ _ _ _ T56 (mkF m 53 #[.val (.ref ao)] [])
  refine Go.step (fun _ k => XS.aloadN X56.here hx rfl (hb hby d3_53) rfl rfl k) ?_
  show Go _ _ _ _ _ _ _ T56 (mkF m 54 #[.val (.ref ao)] [(.ref ao)])
  have f57 : Fld Z h56 ao "com/example/termvault/termvault/MarkArrays" "counts" "[[I" (.ref ac) := (Fc.other W56 (Or.inr (slot_ne (a0 := a0) (C := "com/example/termvault/termvault/MarkArrays") (Or.inr (hw _ (List.mem_of_getElem? (i := 12) rfl))) (Or.inl (hw _ (List.mem_of_getElem? (i := 25) rfl))) (by decide) (t := (.array (.array .int))) (t' := .int) (by decide) (by decide))))
  obtain ⟨T58, X58, e58, st58⟩ := getF X56 hx hZ hown (host := "") (Or.inl (hw _ (List.mem_of_getElem? (i := 11) rfl))) Via.refl e56 f57 (g := (mkF m 54 #[.val (.ref ao)] [(.ref ao)])) rfl rfl (hb hby d3_54)
  refine Go.step st58 ?_
  show Go _ _ _ _ _ _ _ T58 (mkF m 57 #[.val (.ref ao)] [(.ref ac)])
  refine Go.step (fun _ k => XS.aloadN X58.here hx rfl (hb hby d3_57) rfl rfl k) ?_
  show Go _ _ _ _ _ _ _ T58 (mkF m 58 #[.val (.ref ao)] [(.ref ao), (.ref ac)])
  obtain ⟨T59, X59, e59, st59⟩ := getF X58 hx hZ hown (host := "") (Or.inl (hw _ (List.mem_of_getElem? (i := 24) rfl))) Via.refl e58 Fw56 (g := (mkF m 58 #[.val (.ref ao)] [(.ref ao), (.ref ac)])) rfl rfl (hb hby d3_58)
  refine Go.step st59 ?_
  show Go _ _ _ _ _ _ _ T59 (mkF m 61 #[.val (.ref ao)] [(.int (tk + (1 : Int32))), (.ref ac)])
  refine Go.step (fun _ k => XS.iconst X59.here hx rfl (hb hby d3_61) k) ?_
  show Go _ _ _ _ _ _ _ T59 (mkF m 62 #[.val (.ref ao)] [(.int (1 : Int32)), (.int (tk + (1 : Int32))), (.ref ac)])
  refine Go.step (fun _ k => XS.isub X59.here hx rfl (hb hby d3_62) rfl k) ?_
  show Go _ _ _ _ _ _ _ T59 (mkF m 63 #[.val (.ref ao)] [(.int ((tk + (1 : Int32)) - (1 : Int32))), (.ref ac)])
  have f60 : Arv Z h56 ac kc (.array .int) (16 : Int32) lc .null := (Vc.other W56 (Ne.symm ne0))
  obtain ⟨cl61, Ar61, q61, S61, M61, H61, G61⟩ := id (f60)
  have hin61 : ¬ (((tk + (1 : Int32)) - (1 : Int32)) < 0 ∨ cl61.slots.size ≤ (((tk + (1 : Int32)) - (1 : Int32))).toNatClampNeg) := inb_of S61 ⟨(by have := rng32 tk; have : (1 : Int32).toInt = 1 := rfl; have := rng32 (tk + (1 : Int32)); have := c_iadd tk (1 : Int32); have := rng32 ((tk + (1 : Int32)) - (1 : Int32)); have := c_isub (tk + (1 : Int32)) (1 : Int32); have : (0 : Int32).toInt = 0 := rfl; have : (16 : Int32).toInt = 16 := rfl; simp only [Int32.lt_iff_toInt_lt, Int32.le_iff_toInt_le, ← Int32.toInt_inj, Int64.lt_iff_toInt_lt, Int64.le_iff_toInt_le, ← Int64.toInt_inj] at ht0 ht1 ⊢; omega), (by have := rng32 tk; have : (1 : Int32).toInt = 1 := rfl; have := rng32 (tk + (1 : Int32)); have := c_iadd tk (1 : Int32); have := rng32 ((tk + (1 : Int32)) - (1 : Int32)); have := c_isub (tk + (1 : Int32)) (1 : Int32); have : (0 : Int32).toInt = 0 := rfl; have : (16 : Int32).toInt = 16 := rfl; simp only [Int32.lt_iff_toInt_lt, Int32.le_iff_toInt_le, ← Int32.toInt_inj, Int64.lt_iff_toInt_lt, Int64.le_iff_toInt_le, ← Int64.toInt_inj] at ht0 ht1 ⊢; omega)⟩
  have hat61 : cl61.slots[(((tk + (1 : Int32)) - (1 : Int32))).toNatClampNeg]? = some (.ref ax) := H61.at hin61 (by rw [own_as]; exact hre)
  refine Go.step (X59.aaload hx (j := ((tk + (1 : Int32)) - (1 : Int32))) (v := (.ref ax)) (by rw [e59]; exact Ar61.1) (State.isArrayOf_alike hZ.alike Ar61.2.1) rfl Ar61.2.2 hin61 hat61 (g := (mkF m 63 #[.val (.ref ao)] [(.int ((tk + (1 : Int32)) - (1 : Int32))), (.ref ac)])) rfl rfl (hb hby d3_63)) ?_
  show Go _ _ _ _ _ _ _ T59 (mkF m 64 #[.val (.ref ao)] [(.ref ax)])
  have f62 : Exa Z h56 ao "com/example/termvault/termvault/MarkArrays" := (E0.wr W56)
  have f63 : Fld Z h56 ao "com/example/termvault/termvault/MarkArrays" "span" "I" (.int sp) := (Fs.other W56 (Or.inr (slot_ne (a0 := a0) (C := "com/example/termvault/termvault/MarkArrays") (Or.inr (hw _ (List.mem_of_getElem? (i := 18) rfl))) (Or.inl (hw _ (List.mem_of_getElem? (i := 25) rfl))) (by decide) (t := .int) (t' := .int) (by decide) (by decide))))
  have f64 : Fld Z h56 ao "com/example/termvault/termvault/MarkArrays" "positionsTaken" "I" (.int uo) := (Fo.other W56 (Or.inr (slot_ne (a0 := a0) (C := "com/example/termvault/termvault/MarkArrays") (Or.inl (hw _ (List.mem_of_getElem? (i := 34) rfl))) (Or.inl (hw _ (List.mem_of_getElem? (i := 25) rfl))) (by decide) (t := .int) (t' := .int) (by decide) (by decide))))
  have f65 : Fld Z h56 ao "com/example/termvault/termvault/MarkArrays" "positions" "[[J" (.ref aw) := (Fq.other W56 (Or.inr (slot_ne (a0 := a0) (C := "com/example/termvault/termvault/MarkArrays") (Or.inr (hw _ (List.mem_of_getElem? (i := 16) rfl))) (Or.inl (hw _ (List.mem_of_getElem? (i := 25) rfl))) (by decide) (t := (.array (.array .long))) (t' := .int) (by decide) (by decide))))
  exact Go.retA X59 hx hret hlk rfl rfl (hb hby d3_64) e59 (by decide) (by decide) ⟨rfl, N56, KK56, f62, f57, Fw56, f63, f64, f65⟩
theorem d4_0 : decode prog_85_method_4_code 0 = .ok (.aload_n 0, 1) := by decide +kernel
theorem d4_1 : decode prog_85_method_4_code 1 = .ok (.getfield 28, 3) := by decide +kernel
theorem d4_4 : decode prog_85_method_4_code 4 = .ok (.bipush 16, 2) := by decide +kernel
theorem d4_6 : decode prog_85_method_4_code 6 = .ok (.if_icmp .ne 10, 3) := by decide +kernel
theorem d4_9 : decode prog_85_method_4_code 9 = .ok (.aload_n 0, 1) := by decide +kernel
theorem d4_10 : decode prog_85_method_4_code 10 = .ok (.getfield 21, 3) := by decide +kernel
theorem d4_13 : decode prog_85_method_4_code 13 = .ok (.newarray .long, 2) := by decide +kernel
theorem d4_15 : decode prog_85_method_4_code 15 = .ok (.areturn, 1) := by decide +kernel
theorem d4_16 : decode prog_85_method_4_code 16 = .ok (.aload_n 0, 1) := by decide +kernel
theorem d4_17 : decode prog_85_method_4_code 17 = .ok (.getfield 17, 3) := by decide +kernel
theorem d4_20 : decode prog_85_method_4_code 20 = .ok (.aload_n 0, 1) := by decide +kernel
theorem d4_21 : decode prog_85_method_4_code 21 = .ok (.getfield 28, 3) := by decide +kernel
theorem d4_24 : decode prog_85_method_4_code 24 = .ok (.aaload, 1) := by decide +kernel
theorem d4_25 : decode prog_85_method_4_code 25 = .ok (.ifnonnull 18, 3) := by decide +kernel
theorem d4_28 : decode prog_85_method_4_code 28 = .ok (.aload_n 0, 1) := by decide +kernel
theorem d4_29 : decode prog_85_method_4_code 29 = .ok (.getfield 17, 3) := by decide +kernel
theorem d4_32 : decode prog_85_method_4_code 32 = .ok (.aload_n 0, 1) := by decide +kernel
theorem d4_33 : decode prog_85_method_4_code 33 = .ok (.getfield 28, 3) := by decide +kernel
theorem d4_36 : decode prog_85_method_4_code 36 = .ok (.aload_n 0, 1) := by decide +kernel
theorem d4_37 : decode prog_85_method_4_code 37 = .ok (.getfield 21, 3) := by decide +kernel
theorem d4_40 : decode prog_85_method_4_code 40 = .ok (.newarray .long, 2) := by decide +kernel
theorem d4_42 : decode prog_85_method_4_code 42 = .ok (.aastore, 1) := by decide +kernel
theorem d4_43 : decode prog_85_method_4_code 43 = .ok (.aload_n 0, 1) := by decide +kernel
theorem d4_44 : decode prog_85_method_4_code 44 = .ok (.dup, 1) := by decide +kernel
theorem d4_45 : decode prog_85_method_4_code 45 = .ok (.getfield 28, 3) := by decide +kernel
theorem d4_48 : decode prog_85_method_4_code 48 = .ok (.iconst 1, 1) := by decide +kernel
theorem d4_49 : decode prog_85_method_4_code 49 = .ok (.iadd, 1) := by decide +kernel
theorem d4_50 : decode prog_85_method_4_code 50 = .ok (.putfield 28, 3) := by decide +kernel
theorem d4_53 : decode prog_85_method_4_code 53 = .ok (.aload_n 0, 1) := by decide +kernel
theorem d4_54 : decode prog_85_method_4_code 54 = .ok (.getfield 17, 3) := by decide +kernel
theorem d4_57 : decode prog_85_method_4_code 57 = .ok (.aload_n 0, 1) := by decide +kernel
theorem d4_58 : decode prog_85_method_4_code 58 = .ok (.getfield 28, 3) := by decide +kernel
theorem d4_61 : decode prog_85_method_4_code 61 = .ok (.iconst 1, 1) := by decide +kernel
theorem d4_62 : decode prog_85_method_4_code 62 = .ok (.isub, 1) := by decide +kernel
theorem d4_63 : decode prog_85_method_4_code 63 = .ok (.aaload, 1) := by decide +kernel
theorem d4_64 : decode prog_85_method_4_code 64 = .ok (.areturn, 1) := by decide +kernel
theorem ef_rmPt (m : MethodId) (ao : Addr) : entryFrame m #[(.ref ao)] 1 = mkF m 0 #[.val (.ref ao)] [] := by first | (simp [entryFrame, mkF, argsToLocals, Value.category]; done) | rfl
def Q_rmPt (Z : State) (ao : Addr) (ac : Addr) (kc : ClassId) (lc : List Value) (tk : Int32) (sp : Int32) (uo : Int32) (aw : Addr) (h0 : Heap) (n0 : Nat) (v : Option Value) (h : Heap) (L : List Loc) : Prop := ∃ ar : Addr, ∃ kr : ClassId, (v = some (.ref ar)) ∧ (Fr n0 L) ∧ (Keep h0 h [ao, ac]) ∧ (h0.size ≤ ar) ∧ (Exa Z h ao "com/example/termvault/termvault/MarkArrays") ∧ (Fld Z h ao "com/example/termvault/termvault/MarkArrays" "positions" "[[J" (.ref ac)) ∧ (Fld Z h ao "com/example/termvault/termvault/MarkArrays" "positionsTaken" "I" (.int (tk + (1 : Int32)))) ∧ (Fld Z h ao "com/example/termvault/termvault/MarkArrays" "span" "I" (.int sp)) ∧ (Fld Z h ao "com/example/termvault/termvault/MarkArrays" "countsTaken" "I" (.int uo)) ∧ (Fld Z h ao "com/example/termvault/termvault/MarkArrays" "counts" "[[I" (.ref aw)) ∧ (Arv Z h ac kc (.array .long) (16 : Int32) (lc.set tk.toNatClampNeg (.ref ar)) .null) ∧ (Arv Z h ar kr .long sp [] (.long (0 : Int64))) ∧ (Exa Z h ar "[J")
set_option maxRecDepth 65536 in
set_option maxHeartbeats 40000000 in
theorem rmPt (l : Launch) (Z : State) (a0 : Array Value) (hw : ∀ d ∈ tables_1, d.before a0 Z = true) (ws : List Jvm.Cond) (ao : Addr) (ac : Addr) (kc : ClassId) (lc : List Value) (tk : Int32) (sp : Int32) (uo : Int32) (aw : Addr) (h0 : Heap) (n0 : Nat) (Z0 : n0 ≤ h0.size) (E0 : Exa Z h0 ao "com/example/termvault/termvault/MarkArrays") (Fc : Fld Z h0 ao "com/example/termvault/termvault/MarkArrays" "positions" "[[J" (.ref ac)) (Ft : Fld Z h0 ao "com/example/termvault/termvault/MarkArrays" "positionsTaken" "I" (.int tk)) (Fs : Fld Z h0 ao "com/example/termvault/termvault/MarkArrays" "span" "I" (.int sp)) (Vc : Arv Z h0 ac kc (.array .long) (16 : Int32) lc .null) (Fo : Fld Z h0 ao "com/example/termvault/termvault/MarkArrays" "countsTaken" "I" (.int uo)) (Fq : Fld Z h0 ao "com/example/termvault/termvault/MarkArrays" "counts" "[[I" (.ref aw)) (ov_ac : OvrA Z kc .long "[J") (g0 : n0 ≤ ao) (g1 : n0 ≤ ac) (ne0 : ao ≠ ac) (ht0 : ¬ (tk < (0 : Int32))) (ht1 : tk < (16 : Int32)) (hl : lc.length = (16 : Int32).toNatClampNeg) (hnull : lc.getD tk.toNatClampNeg .null = .null) (hs0 : ¬ (sp < (0 : Int32))) (hs1 : ¬ ((1023 : Int32) < sp)) :
    MetFree l (⟨"com/example/termvault/termvault/MarkArrays", "positions", "()[J"⟩ : MethodName) (head1 (Jvm.Cond.code (⟨"com/example/termvault/termvault/MarkArrays", "positions", "()[J"⟩ : MethodName) prog_85_method_4_code 1 (some (.array .long)) :: ws) ({ frames := 0, cells := 1, slots := 1023, locals := 0 } : Room)) (fun aA U => aA = #[(.ref ao)] ∧ Z.Warmed39 U.vm ∧ U.heap = h0) (fun _ _ _ _ _ => True) (fun _ U o U' => ∃ v L, o = .returned v ∧ Q_rmPt Z ao ac kc lc tk sp uo aw h0 n0 v U'.heap L ∧ FrameEnd U o U' L ({ frames := 0, cells := 1, slots := 1023, locals := 0 } : Room).cells ({ frames := 0, cells := 1, slots := 1023, locals := 0 } : Room).slots) := by
  refine MetFree.of_bodySF (plainFor_of_name pn_com_example_termvault_termvault_MarkArrays) hisR ?_
  intro p e s m args below meth c s₁ Bd hml0 hP hK
  obtain ⟨rfl, hZ, hh⟩ := hP
  have hx := Bd.exec
  have hby := Bd.bytes
  have hml : c.maxLocals = 1 := hml0
  have hown : s.vm.findClass "com/example/termvault/termvault/MarkArrays" = some m.cls := findClass_of_methodNamed Bd.named
  have hnm := (name_of_methodNamed Bd.named Bd.method).1
  have hret := Bd.returns
  have hlk : meth.locks = false := BodyLoose.notSynchronized Bd
  have X0 : Stand p l e ({ frames := 0, cells := 1, slots := 1023, locals := 0 } : Room) s m #[(.ref ao)] below meth c s₁ [] 0 0 := Stand.of_body Bd
  have e0 : s₁.heap = h0 := by rw [← hh, Bd.state]; rfl
  have N0 := Fr.nil n0
  suffices hgo : Go p e below s ({ frames := 0, cells := 1, slots := 1023, locals := 0 } : Room).cells ({ frames := 0, cells := 1, slots := 1023, locals := 0 } : Room).slots (Q_rmPt Z ao ac kc lc tk sp uo aw h0 n0) s₁ (mkF m 0 #[.val (.ref ao)] []) from hgo.enter (ef_rmPt m ao)
  refine Go.step (fun _ k => XS.aloadN X0.here hx rfl (hb hby d4_0) rfl rfl k) ?_
  show Go _ _ _ _ _ _ _ s₁ (mkF m 1 #[.val (.ref ao)] [(.ref ao)])
  obtain ⟨T66, X66, e66, st66⟩ := getF X0 hx hZ hown (host := "") (Or.inl (hw _ (List.mem_of_getElem? (i := 33) rfl))) Via.refl e0 Ft (g := (mkF m 1 #[.val (.ref ao)] [(.ref ao)])) rfl rfl (hb hby d4_1)
  refine Go.step st66 ?_
  show Go _ _ _ _ _ _ _ T66 (mkF m 4 #[.val (.ref ao)] [(.int tk)])
  refine Go.step (fun _ k => XS.bipush X66.here hx rfl (hb hby d4_4) k) ?_
  show Go _ _ _ _ _ _ _ T66 (mkF m 6 #[.val (.ref ao)] [(.int (16 : Int32)), (.int tk)])
  have hc6_67 : ¬ (tk = (16 : Int32)) := (by have := rng32 tk; have : (16 : Int32).toInt = 16 := rfl; simp only [Int32.lt_iff_toInt_lt, Int32.le_iff_toInt_le, ← Int32.toInt_inj, Int64.lt_iff_toInt_lt, Int64.le_iff_toInt_le, ← Int64.toInt_inj] at ht1 ⊢; omega)
  refine Go.step (fun _ k => XS.icmpYes X66.here hx rfl (pc0 := 6) (pc' := 16) rfl (hb hby d4_6) rfl (feq hc6_67).2 (by decide) (by decide) k) ?_
  show Go _ _ _ _ _ _ _ T66 (mkF m 16 #[.val (.ref ao)] [])
  refine Go.step (fun _ k => XS.aloadN X66.here hx rfl (hb hby d4_16) rfl rfl k) ?_
  show Go _ _ _ _ _ _ _ T66 (mkF m 17 #[.val (.ref ao)] [(.ref ao)])
  obtain ⟨T68, X68, e68, st68⟩ := getF X66 hx hZ hown (host := "") (Or.inl (hw _ (List.mem_of_getElem? (i := 15) rfl))) Via.refl e66 Fc (g := (mkF m 17 #[.val (.ref ao)] [(.ref ao)])) rfl rfl (hb hby d4_17)
  refine Go.step st68 ?_
  show Go _ _ _ _ _ _ _ T68 (mkF m 20 #[.val (.ref ao)] [(.ref ac)])
  refine Go.step (fun _ k => XS.aloadN X68.here hx rfl (hb hby d4_20) rfl rfl k) ?_
  show Go _ _ _ _ _ _ _ T68 (mkF m 21 #[.val (.ref ao)] [(.ref ao), (.ref ac)])
  obtain ⟨T69, X69, e69, st69⟩ := getF X68 hx hZ hown (host := "") (Or.inl (hw _ (List.mem_of_getElem? (i := 33) rfl))) Via.refl e68 Ft (g := (mkF m 21 #[.val (.ref ao)] [(.ref ao), (.ref ac)])) rfl rfl (hb hby d4_21)
  refine Go.step st69 ?_
  show Go _ _ _ _ _ _ _ T69 (mkF m 24 #[.val (.ref ao)] [(.int tk), (.ref ac)])
  obtain ⟨cl70, Ar70, q70, S70, M70, H70, G70⟩ := id (Vc)
  have hin70 : ¬ (tk < 0 ∨ cl70.slots.size ≤ (tk).toNatClampNeg) := inb_of S70 ⟨ht0, ht1⟩
  have hat70 : cl70.slots[(tk).toNatClampNeg]? = some .null := H70.at hin70 hnull
  refine Go.step (X69.aaload hx (j := tk) (v := .null) (by rw [e69]; exact Ar70.1) (State.isArrayOf_alike hZ.alike Ar70.2.1) rfl Ar70.2.2 hin70 hat70 (g := (mkF m 24 #[.val (.ref ao)] [(.int tk), (.ref ac)])) rfl rfl (hb hby d4_24)) ?_
  show Go _ _ _ _ _ _ _ T69 (mkF m 25 #[.val (.ref ao)] [.null])
  refine Go.step (fun _ k => XS.ifnonnullNo X69.here hx rfl (hb hby d4_25) rfl k) ?_
  show Go _ _ _ _ _ _ _ T69 (mkF m 28 #[.val (.ref ao)] [])
  refine Go.step (fun _ k => XS.aloadN X69.here hx rfl (hb hby d4_28) rfl rfl k) ?_
  show Go _ _ _ _ _ _ _ T69 (mkF m 29 #[.val (.ref ao)] [(.ref ao)])
  obtain ⟨T71, X71, e71, st71⟩ := getF X69 hx hZ hown (host := "") (Or.inl (hw _ (List.mem_of_getElem? (i := 15) rfl))) Via.refl e69 Fc (g := (mkF m 29 #[.val (.ref ao)] [(.ref ao)])) rfl rfl (hb hby d4_29)
  refine Go.step st71 ?_
  show Go _ _ _ _ _ _ _ T71 (mkF m 32 #[.val (.ref ao)] [(.ref ac)])
  refine Go.step (fun _ k => XS.aloadN X71.here hx rfl (hb hby d4_32) rfl rfl k) ?_
  show Go _ _ _ _ _ _ _ T71 (mkF m 33 #[.val (.ref ao)] [(.ref ao), (.ref ac)])
  obtain ⟨T72, X72, e72, st72⟩ := getF X71 hx hZ hown (host := "") (Or.inl (hw _ (List.mem_of_getElem? (i := 33) rfl))) Via.refl e71 Ft (g := (mkF m 33 #[.val (.ref ao)] [(.ref ao), (.ref ac)])) rfl rfl (hb hby d4_33)
  refine Go.step st72 ?_
  show Go _ _ _ _ _ _ _ T72 (mkF m 36 #[.val (.ref ao)] [(.int tk), (.ref ac)])
  refine Go.step (fun _ k => XS.aloadN X72.here hx rfl (hb hby d4_36) rfl rfl k) ?_
  show Go _ _ _ _ _ _ _ T72 (mkF m 37 #[.val (.ref ao)] [(.ref ao), (.int tk), (.ref ac)])
  obtain ⟨T73, X73, e73, st73⟩ := getF X72 hx hZ hown (host := "") (Or.inl (hw _ (List.mem_of_getElem? (i := 17) rfl))) Via.refl e72 Fs (g := (mkF m 37 #[.val (.ref ao)] [(.ref ao), (.int tk), (.ref ac)])) rfl rfl (hb hby d4_37)
  refine Go.step st73 ?_
  show Go _ _ _ _ _ _ _ T73 (mkF m 40 #[.val (.ref ao)] [(.int sp), (.int tk), (.ref ac)])
  obtain ⟨T74, h74, k74, X74, e74, E74, A74, Xa74, st74⟩ := newPE X73 hx hZ (hw _ (List.mem_of_getElem? (i := 35) rfl)) e73 (g := (mkF m 40 #[.val (.ref ao)] [(.int sp), (.int tk), (.ref ac)])) rfl (hb hby d4_40) rfl hs0 (cap := 1023) (Nat.le_trans (own_tle hs1) (by decide)) (by decide) (by decide) (by decide) (ad := "[J") rfl
  obtain ⟨b74, g74⟩ : ∃ z, z = h0.size := ⟨_, rfl⟩
  rw [← g74] at A74 Xa74 st74
  refine Go.step st74 ?_
  have g_b74 : n0 ≤ b74 := Nat.le_trans Z0 (Nat.le_of_eq g74.symm)
  have sz_b74 : h0.size ≤ b74 := Nat.le_trans (Keep.refl h0 [ao, ac]).1 (Nat.le_of_eq g74.symm)
  have ne_ac_b74 : ac ≠ b74 := Nat.ne_of_lt (Nat.lt_of_lt_of_le Vc.lt (Nat.le_of_eq g74.symm))
  have ne_ao_b74 : ao ≠ b74 := Nat.ne_of_lt (Nat.lt_of_lt_of_le E0.lt (Nat.le_of_eq g74.symm))
  have Z74 : n0 ≤ h74.size := Nat.le_trans Z0 E74.1
  have KK74 : Keep h0 h74 [ao, ac] := (Keep.refl h0 [ao, ac]).ext E74
  have V74 : Arv Z h74 b74 k74 .long sp [] (.long (0 : Int64)) := Arv.new A74 hs0
  show Go _ _ _ _ _ _ _ T74 (mkF m 42 #[.val (.ref ao)] [(.ref b74), (.int tk), (.ref ac)])
  have f75 : Arv Z h74 ac kc (.array .long) (16 : Int32) lc .null := (Vc.ext E74)
  obtain ⟨cl76, Ar76, q76, S76, M76, H76, G76⟩ := id (f75)
  have hin76 : ¬ (tk < 0 ∨ cl76.slots.size ≤ (tk).toNatClampNeg) := inb_of S76 ⟨ht0, ht1⟩
  obtain ⟨T76, h76, X76, e76, W76, st76⟩ := stR X74 hx hZ e74 Ar76 (j := tk) hin76 rfl (Sto.ofVA Ar76 q76 ov_ac (Ins.self Xa74)) (g := (mkF m 42 #[.val (.ref ao)] [(.ref b74), (.int tk), (.ref ac)])) rfl rfl (hb hby d4_42)
  refine Go.step st76 ?_
  have V76 : Arv Z h76 ac kc (.array .long) (16 : Int32) (lc.set tk.toNatClampNeg (.ref b74)) .null := Arv.set Ar76 q76 S76 M76 H76 G76 rfl W76 tk.toNatClampNeg rfl (by rw [hl]; exact own_tlt ht0 ht1)
  have N76 := Fr.snoc X76 N0 g1
  have Z76 : n0 ≤ h76.size := Nat.le_trans Z74 (Keep.of_wr W76).1
  have KK76 : Keep h0 h76 [ao, ac] := KK74.wr W76 (Or.inl (List.mem_of_getElem? (i := 1) rfl))
  show Go _ _ _ _ _ _ _ T76 (mkF m 43 #[.val (.ref ao)] [])
  refine Go.step (fun _ k => XS.aloadN X76.here hx rfl (hb hby d4_43) rfl rfl k) ?_
  show Go _ _ _ _ _ _ _ T76 (mkF m 44 #[.val (.ref ao)] [(.ref ao)])
  refine Go.step (fun _ k => XS.dup X76.here hx rfl (hb hby d4_44) rfl rfl k) ?_
  show Go _ _ _ _ _ _ _ T76 (mkF m 45 #[.val (.ref ao)] [(.ref ao), (.ref ao)])
  have f77 : Fld Z h76 ao "com/example/termvault/termvault/MarkArrays" "positionsTaken" "I" (.int tk) := ((Ft.ext E74).other W76 (Or.inl ne0))
  obtain ⟨T78, X78, e78, st78⟩ := getF X76 hx hZ hown (host := "") (Or.inl (hw _ (List.mem_of_getElem? (i := 33) rfl))) Via.refl e76 f77 (g := (mkF m 45 #[.val (.ref ao)] [(.ref ao), (.ref ao)])) rfl rfl (hb hby d4_45)
  refine Go.step st78 ?_
  show Go _ _ _ _ _ _ _ T78 (mkF m 48 #[.val (.ref ao)] [(.int tk), (.ref ao)])
  refine Go.step (fun _ k => XS.iconst X78.here hx rfl (hb hby d4_48) k) ?_
  show Go _ _ _ _ _ _ _ T78 (mkF m 49 #[.val (.ref ao)] [(.int (1 : Int32)), (.int tk), (.ref ao)])
  refine Go.step (fun _ k => XS.iadd X78.here hx rfl (hb hby d4_49) rfl k) ?_
  show Go _ _ _ _ _ _ _ T78 (mkF m 50 #[.val (.ref ao)] [(.int (tk + (1 : Int32))), (.ref ao)])
  have f79 : Exa Z h76 ao "com/example/termvault/termvault/MarkArrays" := ((E0.ext E74).wr W76)
  obtain ⟨T80, h80, X80, e80, W80, st80⟩ := putF X78 hx hZ hown (host := "") (Or.inl (hw _ (List.mem_of_getElem? (i := 33) rfl))) Via.refl e78 f77 f79 (Or.inl (hw _ (List.mem_of_getElem? (i := 34) rfl))) (hw _ (List.mem_of_getElem? (i := 1) rfl)) (ty := .int) (by decide) rfl rfl (g := (mkF m 50 #[.val (.ref ao)] [(.int (tk + (1 : Int32))), (.ref ao)])) rfl rfl (hb hby d4_50)
  refine Go.step st80 ?_
  have Fw80 := f77.same W80
  have N80 := Fr.snoc X80 N76 g0
  have Z80 : n0 ≤ h80.size := Nat.le_trans Z76 (Keep.of_wr W80).1
  have KK80 : Keep h0 h80 [ao, ac] := KK76.wr W80 (Or.inl (List.mem_of_getElem? (i := 0) rfl))
  show Go _ _ _ _ _ _ _ T80 (mkF m 53 #[.val (.ref ao)] [])
  refine Go.step (fun _ k => XS.aloadN X80.here hx rfl (hb hby d4_53) rfl rfl k) ?_
  show Go _ _ _ _ _ _ _ T80 (mkF m 54 #[.val (.ref ao)] [(.ref ao)])
  have f81 : Fld Z h80 ao "com/example/termvault/termvault/MarkArrays" "positions" "[[J" (.ref ac) := (((Fc.ext E74).other W76 (Or.inl ne0)).other W80 (Or.inr (slot_ne (a0 := a0) (C := "com/example/termvault/termvault/MarkArrays") (Or.inr (hw _ (List.mem_of_getElem? (i := 16) rfl))) (Or.inl (hw _ (List.mem_of_getElem? (i := 34) rfl))) (by decide) (t := (.array (.array .long))) (t' := .int) (by decide) (by decide))))
  obtain ⟨T82, X82, e82, st82⟩ := getF X80 hx hZ hown (host := "") (Or.inl (hw _ (List.mem_of_getElem? (i := 15) rfl))) Via.refl e80 f81 (g := (mkF m 54 #[.val (.ref ao)] [(.ref ao)])) rfl rfl (hb hby d4_54)
  refine Go.step st82 ?_
  show Go _ _ _ _ _ _ _ T82 (mkF m 57 #[.val (.ref ao)] [(.ref ac)])
  refine Go.step (fun _ k => XS.aloadN X82.here hx rfl (hb hby d4_57) rfl rfl k) ?_
  show Go _ _ _ _ _ _ _ T82 (mkF m 58 #[.val (.ref ao)] [(.ref ao), (.ref ac)])
  obtain ⟨T83, X83, e83, st83⟩ := getF X82 hx hZ hown (host := "") (Or.inl (hw _ (List.mem_of_getElem? (i := 33) rfl))) Via.refl e82 Fw80 (g := (mkF m 58 #[.val (.ref ao)] [(.ref ao), (.ref ac)])) rfl rfl (hb hby d4_58)
  refine Go.step st83 ?_
  show Go _ _ _ _ _ _ _ T83 (mkF m 61 #[.val (.ref ao)] [(.int (tk + (1 : Int32))), (.ref ac)])
  refine Go.step (fun _ k => XS.iconst X83.here hx rfl (hb hby d4_61) k) ?_
  show Go _ _ _ _ _ _ _ T83 (mkF m 62 #[.val (.ref ao)] [(.int (1 : Int32)), (.int (tk + (1 : Int32))), (.ref ac)])
  refine Go.step (fun _ k => XS.isub X83.here hx rfl (hb hby d4_62) rfl k) ?_
  show Go _ _ _ _ _ _ _ T83 (mkF m 63 #[.val (.ref ao)] [(.int ((tk + (1 : Int32)) - (1 : Int32))), (.ref ac)])
  have f84 : Arv Z h80 ac kc (.array .long) (16 : Int32) (lc.set tk.toNatClampNeg (.ref b74)) .null := (V76.other W80 (Ne.symm ne0))
  obtain ⟨cl85, Ar85, q85, S85, M85, H85, G85⟩ := id (f84)
  have hin85 : ¬ (((tk + (1 : Int32)) - (1 : Int32)) < 0 ∨ cl85.slots.size ≤ (((tk + (1 : Int32)) - (1 : Int32))).toNatClampNeg) := inb_of S85 ⟨(by have := rng32 tk; have : (1 : Int32).toInt = 1 := rfl; have := rng32 (tk + (1 : Int32)); have := c_iadd tk (1 : Int32); have := rng32 ((tk + (1 : Int32)) - (1 : Int32)); have := c_isub (tk + (1 : Int32)) (1 : Int32); have : (0 : Int32).toInt = 0 := rfl; have : (16 : Int32).toInt = 16 := rfl; simp only [Int32.lt_iff_toInt_lt, Int32.le_iff_toInt_le, ← Int32.toInt_inj, Int64.lt_iff_toInt_lt, Int64.le_iff_toInt_le, ← Int64.toInt_inj] at ht0 ht1 ⊢; omega), (by have := rng32 tk; have : (1 : Int32).toInt = 1 := rfl; have := rng32 (tk + (1 : Int32)); have := c_iadd tk (1 : Int32); have := rng32 ((tk + (1 : Int32)) - (1 : Int32)); have := c_isub (tk + (1 : Int32)) (1 : Int32); have : (0 : Int32).toInt = 0 := rfl; have : (16 : Int32).toInt = 16 := rfl; simp only [Int32.lt_iff_toInt_lt, Int32.le_iff_toInt_le, ← Int32.toInt_inj, Int64.lt_iff_toInt_lt, Int64.le_iff_toInt_le, ← Int64.toInt_inj] at ht0 ht1 ⊢; omega)⟩
  have hat85 : cl85.slots[(((tk + (1 : Int32)) - (1 : Int32))).toNatClampNeg]? = some (.ref b74) := H85.at hin85 (by rw [own_as]; exact own_g (by rw [hl]; exact own_tlt ht0 ht1))
  refine Go.step (X83.aaload hx (j := ((tk + (1 : Int32)) - (1 : Int32))) (v := (.ref b74)) (by rw [e83]; exact Ar85.1) (State.isArrayOf_alike hZ.alike Ar85.2.1) rfl Ar85.2.2 hin85 hat85 (g := (mkF m 63 #[.val (.ref ao)] [(.int ((tk + (1 : Int32)) - (1 : Int32))), (.ref ac)])) rfl rfl (hb hby d4_63)) ?_
  show Go _ _ _ _ _ _ _ T83 (mkF m 64 #[.val (.ref ao)] [(.ref b74)])
  have f86 : Exa Z h80 ao "com/example/termvault/termvault/MarkArrays" := (f79.wr W80)
  have f87 : Fld Z h80 ao "com/example/termvault/termvault/MarkArrays" "span" "I" (.int sp) := (((Fs.ext E74).other W76 (Or.inl ne0)).other W80 (Or.inr (slot_ne (a0 := a0) (C := "com/example/termvault/termvault/MarkArrays") (Or.inr (hw _ (List.mem_of_getElem? (i := 18) rfl))) (Or.inl (hw _ (List.mem_of_getElem? (i := 34) rfl))) (by decide) (t := .int) (t' := .int) (by decide) (by decide))))
  have f88 : Fld Z h80 ao "com/example/termvault/termvault/MarkArrays" "countsTaken" "I" (.int uo) := (((Fo.ext E74).other W76 (Or.inl ne0)).other W80 (Or.inr (slot_ne (a0 := a0) (C := "com/example/termvault/termvault/MarkArrays") (Or.inl (hw _ (List.mem_of_getElem? (i := 25) rfl))) (Or.inl (hw _ (List.mem_of_getElem? (i := 34) rfl))) (by decide) (t := .int) (t' := .int) (by decide) (by decide))))
  have f89 : Fld Z h80 ao "com/example/termvault/termvault/MarkArrays" "counts" "[[I" (.ref aw) := (((Fq.ext E74).other W76 (Or.inl ne0)).other W80 (Or.inr (slot_ne (a0 := a0) (C := "com/example/termvault/termvault/MarkArrays") (Or.inr (hw _ (List.mem_of_getElem? (i := 12) rfl))) (Or.inl (hw _ (List.mem_of_getElem? (i := 34) rfl))) (by decide) (t := (.array (.array .int))) (t' := .int) (by decide) (by decide))))
  have f90 : Arv Z h80 b74 k74 .long sp [] (.long (0 : Int64)) := ((V74.other W76 (Ne.symm ne_ac_b74)).other W80 (Ne.symm ne_ao_b74))
  have f91 : Exa Z h80 b74 "[J" := ((Xa74.wr W76).wr W80)
  exact Go.retA X83 hx hret hlk rfl rfl (hb hby d4_64) e83 (by decide) (by decide) ⟨b74, k74, rfl, N80, KK80, sz_b74, f86, f81, Fw80, f87, f88, f89, f84, f90, f91⟩
theorem d6_0 : decode prog_85_method_5_code 0 = .ok (.aload_n 0, 1) := by decide +kernel
theorem d6_1 : decode prog_85_method_5_code 1 = .ok (.iconst 0, 1) := by decide +kernel
theorem d6_2 : decode prog_85_method_5_code 2 = .ok (.putfield 25, 3) := by decide +kernel
theorem d6_5 : decode prog_85_method_5_code 5 = .ok (.aload_n 0, 1) := by decide +kernel
theorem d6_6 : decode prog_85_method_5_code 6 = .ok (.iconst 0, 1) := by decide +kernel
theorem d6_7 : decode prog_85_method_5_code 7 = .ok (.putfield 28, 3) := by decide +kernel
theorem d6_10 : decode prog_85_method_5_code 10 = .ok (.return_, 1) := by decide +kernel
theorem ef_rmRe (m : MethodId) (ao : Addr) : entryFrame m #[(.ref ao)] 1 = mkF m 0 #[.val (.ref ao)] [] := by first | (simp [entryFrame, mkF, argsToLocals, Value.category]; done) | rfl
def Q_rmRe (Z : State) (ao : Addr) (tc : Int32) (tp : Int32) (sp : Int32) (ac : Addr) (ap : Addr) (h0 : Heap) (n0 : Nat) (v : Option Value) (h : Heap) (L : List Loc) : Prop := (v = none) ∧ (Fr n0 L) ∧ (Keep h0 h [ao]) ∧ (Exa Z h ao "com/example/termvault/termvault/MarkArrays") ∧ (Fld Z h ao "com/example/termvault/termvault/MarkArrays" "countsTaken" "I" (.int (0 : Int32))) ∧ (Fld Z h ao "com/example/termvault/termvault/MarkArrays" "positionsTaken" "I" (.int (0 : Int32))) ∧ (Fld Z h ao "com/example/termvault/termvault/MarkArrays" "span" "I" (.int sp)) ∧ (Fld Z h ao "com/example/termvault/termvault/MarkArrays" "counts" "[[I" (.ref ac)) ∧ (Fld Z h ao "com/example/termvault/termvault/MarkArrays" "positions" "[[J" (.ref ap))
set_option maxRecDepth 65536 in
set_option maxHeartbeats 40000000 in
theorem rmRe (l : Launch) (Z : State) (a0 : Array Value) (hw : ∀ d ∈ tables_1, d.before a0 Z = true) (ws : List Jvm.Cond) (ao : Addr) (tc : Int32) (tp : Int32) (sp : Int32) (ac : Addr) (ap : Addr) (h0 : Heap) (n0 : Nat) (Z0 : n0 ≤ h0.size) (E0 : Exa Z h0 ao "com/example/termvault/termvault/MarkArrays") (Ft : Fld Z h0 ao "com/example/termvault/termvault/MarkArrays" "countsTaken" "I" (.int tc)) (Fu : Fld Z h0 ao "com/example/termvault/termvault/MarkArrays" "positionsTaken" "I" (.int tp)) (Fs : Fld Z h0 ao "com/example/termvault/termvault/MarkArrays" "span" "I" (.int sp)) (Fc : Fld Z h0 ao "com/example/termvault/termvault/MarkArrays" "counts" "[[I" (.ref ac)) (Fp : Fld Z h0 ao "com/example/termvault/termvault/MarkArrays" "positions" "[[J" (.ref ap)) (g0 : n0 ≤ ao) :
    MetFree l (⟨"com/example/termvault/termvault/MarkArrays", "restart", "()V"⟩ : MethodName) (head1 (Jvm.Cond.code (⟨"com/example/termvault/termvault/MarkArrays", "restart", "()V"⟩ : MethodName) prog_85_method_5_code 1 none :: ws) ({ frames := 0, cells := 0, slots := 0, locals := 0 } : Room)) (fun aA U => aA = #[(.ref ao)] ∧ Z.Warmed39 U.vm ∧ U.heap = h0) (fun _ _ _ _ _ => True) (fun _ U o U' => ∃ v L, o = .returned v ∧ Q_rmRe Z ao tc tp sp ac ap h0 n0 v U'.heap L ∧ FrameEnd U o U' L ({ frames := 0, cells := 0, slots := 0, locals := 0 } : Room).cells ({ frames := 0, cells := 0, slots := 0, locals := 0 } : Room).slots) := by
  refine MetFree.of_bodySF (plainFor_of_name pn_com_example_termvault_termvault_MarkArrays) hisR ?_
  intro p e s m args below meth c s₁ Bd hml0 hP hK
  obtain ⟨rfl, hZ, hh⟩ := hP
  have hx := Bd.exec
  have hby := Bd.bytes
  have hml : c.maxLocals = 1 := hml0
  have hown : s.vm.findClass "com/example/termvault/termvault/MarkArrays" = some m.cls := findClass_of_methodNamed Bd.named
  have hnm := (name_of_methodNamed Bd.named Bd.method).1
  have hret := Bd.returns
  have hlk : meth.locks = false := BodyLoose.notSynchronized Bd
  have X0 : Stand p l e ({ frames := 0, cells := 0, slots := 0, locals := 0 } : Room) s m #[(.ref ao)] below meth c s₁ [] 0 0 := Stand.of_body Bd
  have e0 : s₁.heap = h0 := by rw [← hh, Bd.state]; rfl
  have N0 := Fr.nil n0
  suffices hgo : Go p e below s ({ frames := 0, cells := 0, slots := 0, locals := 0 } : Room).cells ({ frames := 0, cells := 0, slots := 0, locals := 0 } : Room).slots (Q_rmRe Z ao tc tp sp ac ap h0 n0) s₁ (mkF m 0 #[.val (.ref ao)] []) from hgo.enter (ef_rmRe m ao)
  refine Go.step (fun _ k => XS.aloadN X0.here hx rfl (hb hby d6_0) rfl rfl k) ?_
  show Go _ _ _ _ _ _ _ s₁ (mkF m 1 #[.val (.ref ao)] [(.ref ao)])
  refine Go.step (fun _ k => XS.iconst X0.here hx rfl (hb hby d6_1) k) ?_
  show Go _ _ _ _ _ _ _ s₁ (mkF m 2 #[.val (.ref ao)] [(.int (0 : Int32)), (.ref ao)])
  obtain ⟨T92, h92, X92, e92, W92, st92⟩ := putF X0 hx hZ hown (host := "") (Or.inl (hw _ (List.mem_of_getElem? (i := 24) rfl))) Via.refl e0 Ft E0 (Or.inl (hw _ (List.mem_of_getElem? (i := 25) rfl))) (hw _ (List.mem_of_getElem? (i := 1) rfl)) (ty := .int) (by decide) rfl rfl (g := (mkF m 2 #[.val (.ref ao)] [(.int (0 : Int32)), (.ref ao)])) rfl rfl (hb hby d6_2)
  refine Go.step st92 ?_
  have Fw92 := Ft.same W92
  have N92 := Fr.snoc X92 N0 g0
  have Z92 : n0 ≤ h92.size := Nat.le_trans Z0 (Keep.of_wr W92).1
  have KK92 : Keep h0 h92 [ao] := (Keep.refl h0 [ao]).wr W92 (Or.inl (List.mem_of_getElem? (i := 0) rfl))
  show Go _ _ _ _ _ _ _ T92 (mkF m 5 #[.val (.ref ao)] [])
  refine Go.step (fun _ k => XS.aloadN X92.here hx rfl (hb hby d6_5) rfl rfl k) ?_
  show Go _ _ _ _ _ _ _ T92 (mkF m 6 #[.val (.ref ao)] [(.ref ao)])
  refine Go.step (fun _ k => XS.iconst X92.here hx rfl (hb hby d6_6) k) ?_
  show Go _ _ _ _ _ _ _ T92 (mkF m 7 #[.val (.ref ao)] [(.int (0 : Int32)), (.ref ao)])
  have f93 : Fld Z h92 ao "com/example/termvault/termvault/MarkArrays" "positionsTaken" "I" (.int tp) := (Fu.other W92 (Or.inr (slot_ne (a0 := a0) (C := "com/example/termvault/termvault/MarkArrays") (Or.inl (hw _ (List.mem_of_getElem? (i := 34) rfl))) (Or.inl (hw _ (List.mem_of_getElem? (i := 25) rfl))) (by decide) (t := .int) (t' := .int) (by decide) (by decide))))
  have f94 : Exa Z h92 ao "com/example/termvault/termvault/MarkArrays" := (E0.wr W92)
  obtain ⟨T95, h95, X95, e95, W95, st95⟩ := putF X92 hx hZ hown (host := "") (Or.inl (hw _ (List.mem_of_getElem? (i := 33) rfl))) Via.refl e92 f93 f94 (Or.inl (hw _ (List.mem_of_getElem? (i := 34) rfl))) (hw _ (List.mem_of_getElem? (i := 1) rfl)) (ty := .int) (by decide) rfl rfl (g := (mkF m 7 #[.val (.ref ao)] [(.int (0 : Int32)), (.ref ao)])) rfl rfl (hb hby d6_7)
  refine Go.step st95 ?_
  have Fw95 := f93.same W95
  have N95 := Fr.snoc X95 N92 g0
  have Z95 : n0 ≤ h95.size := Nat.le_trans Z92 (Keep.of_wr W95).1
  have KK95 : Keep h0 h95 [ao] := KK92.wr W95 (Or.inl (List.mem_of_getElem? (i := 0) rfl))
  show Go _ _ _ _ _ _ _ T95 (mkF m 10 #[.val (.ref ao)] [])
  have f96 : Exa Z h95 ao "com/example/termvault/termvault/MarkArrays" := (f94.wr W95)
  have f97 : Fld Z h95 ao "com/example/termvault/termvault/MarkArrays" "countsTaken" "I" (.int (0 : Int32)) := (Fw92.other W95 (Or.inr (slot_ne (a0 := a0) (C := "com/example/termvault/termvault/MarkArrays") (Or.inl (hw _ (List.mem_of_getElem? (i := 25) rfl))) (Or.inl (hw _ (List.mem_of_getElem? (i := 34) rfl))) (by decide) (t := .int) (t' := .int) (by decide) (by decide))))
  have f98 : Fld Z h95 ao "com/example/termvault/termvault/MarkArrays" "span" "I" (.int sp) := ((Fs.other W92 (Or.inr (slot_ne (a0 := a0) (C := "com/example/termvault/termvault/MarkArrays") (Or.inr (hw _ (List.mem_of_getElem? (i := 18) rfl))) (Or.inl (hw _ (List.mem_of_getElem? (i := 25) rfl))) (by decide) (t := .int) (t' := .int) (by decide) (by decide)))).other W95 (Or.inr (slot_ne (a0 := a0) (C := "com/example/termvault/termvault/MarkArrays") (Or.inr (hw _ (List.mem_of_getElem? (i := 18) rfl))) (Or.inl (hw _ (List.mem_of_getElem? (i := 34) rfl))) (by decide) (t := .int) (t' := .int) (by decide) (by decide))))
  have f99 : Fld Z h95 ao "com/example/termvault/termvault/MarkArrays" "counts" "[[I" (.ref ac) := ((Fc.other W92 (Or.inr (slot_ne (a0 := a0) (C := "com/example/termvault/termvault/MarkArrays") (Or.inr (hw _ (List.mem_of_getElem? (i := 12) rfl))) (Or.inl (hw _ (List.mem_of_getElem? (i := 25) rfl))) (by decide) (t := (.array (.array .int))) (t' := .int) (by decide) (by decide)))).other W95 (Or.inr (slot_ne (a0 := a0) (C := "com/example/termvault/termvault/MarkArrays") (Or.inr (hw _ (List.mem_of_getElem? (i := 12) rfl))) (Or.inl (hw _ (List.mem_of_getElem? (i := 34) rfl))) (by decide) (t := (.array (.array .int))) (t' := .int) (by decide) (by decide))))
  have f100 : Fld Z h95 ao "com/example/termvault/termvault/MarkArrays" "positions" "[[J" (.ref ap) := ((Fp.other W92 (Or.inr (slot_ne (a0 := a0) (C := "com/example/termvault/termvault/MarkArrays") (Or.inr (hw _ (List.mem_of_getElem? (i := 16) rfl))) (Or.inl (hw _ (List.mem_of_getElem? (i := 25) rfl))) (by decide) (t := (.array (.array .long))) (t' := .int) (by decide) (by decide)))).other W95 (Or.inr (slot_ne (a0 := a0) (C := "com/example/termvault/termvault/MarkArrays") (Or.inr (hw _ (List.mem_of_getElem? (i := 16) rfl))) (Or.inl (hw _ (List.mem_of_getElem? (i := 34) rfl))) (by decide) (t := (.array (.array .long))) (t' := .int) (by decide) (by decide))))
  exact Go.ret0 X95 hx hret hlk (hb hby d6_10) e95 (by decide) (by decide) ⟨rfl, N95, KK95, f96, f97, Fw95, f98, f99, f100⟩
theorem d5_0 : decode prog_85_method_2_code 0 = .ok (.aload_n 0, 1) := by decide +kernel
theorem d5_1 : decode prog_85_method_2_code 1 = .ok (.getfield 21, 3) := by decide +kernel
theorem d5_4 : decode prog_85_method_2_code 4 = .ok (.ireturn, 1) := by decide +kernel
theorem ef_rmSp (m : MethodId) (ao : Addr) : entryFrame m #[(.ref ao)] 1 = mkF m 0 #[.val (.ref ao)] [] := by first | (simp [entryFrame, mkF, argsToLocals, Value.category]; done) | rfl
def Q_rmSp (Z : State) (ao : Addr) (sp : Int32) (h0 : Heap) (n0 : Nat) (v : Option Value) (h : Heap) (L : List Loc) : Prop := (v = some (.int sp)) ∧ (Fr n0 L) ∧ (h = h0)
set_option maxRecDepth 65536 in
set_option maxHeartbeats 40000000 in
theorem rmSp (l : Launch) (Z : State) (a0 : Array Value) (hw : ∀ d ∈ tables_1, d.before a0 Z = true) (ws : List Jvm.Cond) (ao : Addr) (sp : Int32) (h0 : Heap) (n0 : Nat) (Z0 : n0 ≤ h0.size) (E0 : Exa Z h0 ao "com/example/termvault/termvault/MarkArrays") (Fs : Fld Z h0 ao "com/example/termvault/termvault/MarkArrays" "span" "I" (.int sp)) :
    MetFree l (⟨"com/example/termvault/termvault/MarkArrays", "span", "()I"⟩ : MethodName) (head1 (Jvm.Cond.code (⟨"com/example/termvault/termvault/MarkArrays", "span", "()I"⟩ : MethodName) prog_85_method_2_code 1 (some .int) :: ws) ({ frames := 0, cells := 0, slots := 0, locals := 0 } : Room)) (fun aA U => aA = #[(.ref ao)] ∧ Z.Warmed39 U.vm ∧ U.heap = h0) (fun _ _ _ _ _ => True) (fun _ U o U' => ∃ v L, o = .returned v ∧ Q_rmSp Z ao sp h0 n0 v U'.heap L ∧ FrameEnd U o U' L ({ frames := 0, cells := 0, slots := 0, locals := 0 } : Room).cells ({ frames := 0, cells := 0, slots := 0, locals := 0 } : Room).slots) := by
  refine MetFree.of_bodySF (plainFor_of_name pn_com_example_termvault_termvault_MarkArrays) hisR ?_
  intro p e s m args below meth c s₁ Bd hml0 hP hK
  obtain ⟨rfl, hZ, hh⟩ := hP
  have hx := Bd.exec
  have hby := Bd.bytes
  have hml : c.maxLocals = 1 := hml0
  have hown : s.vm.findClass "com/example/termvault/termvault/MarkArrays" = some m.cls := findClass_of_methodNamed Bd.named
  have hnm := (name_of_methodNamed Bd.named Bd.method).1
  have hret := Bd.returns
  have hlk : meth.locks = false := BodyLoose.notSynchronized Bd
  have X0 : Stand p l e ({ frames := 0, cells := 0, slots := 0, locals := 0 } : Room) s m #[(.ref ao)] below meth c s₁ [] 0 0 := Stand.of_body Bd
  have e0 : s₁.heap = h0 := by rw [← hh, Bd.state]; rfl
  have N0 := Fr.nil n0
  suffices hgo : Go p e below s ({ frames := 0, cells := 0, slots := 0, locals := 0 } : Room).cells ({ frames := 0, cells := 0, slots := 0, locals := 0 } : Room).slots (Q_rmSp Z ao sp h0 n0) s₁ (mkF m 0 #[.val (.ref ao)] []) from hgo.enter (ef_rmSp m ao)
  refine Go.step (fun _ k => XS.aloadN X0.here hx rfl (hb hby d5_0) rfl rfl k) ?_
  show Go _ _ _ _ _ _ _ s₁ (mkF m 1 #[.val (.ref ao)] [(.ref ao)])
  obtain ⟨T101, X101, e101, st101⟩ := getF X0 hx hZ hown (host := "") (Or.inl (hw _ (List.mem_of_getElem? (i := 17) rfl))) Via.refl e0 Fs (g := (mkF m 1 #[.val (.ref ao)] [(.ref ao)])) rfl rfl (hb hby d5_1)
  refine Go.step st101 ?_
  show Go _ _ _ _ _ _ _ T101 (mkF m 4 #[.val (.ref ao)] [(.int sp)])
  exact Go.retI X101 hx hret hlk (hb hby d5_4) e101 (by decide) (by decide) ⟨rfl, N0, rfl⟩
theorem own_st9 {z0 z1 z2 z3 z4 z5 z6 z7 z8 : Value} {s9 : Slot} {v : Addr} (h : One s9) : storeLocals #[.val z0, .val z1, .val z2, .val z3, .val z4, .val z5, .val z6, .val z7, .val z8, s9, .unset, .unset, .unset] 9 (.ref v) = some #[.val z0, .val z1, .val z2, .val z3, .val z4, .val z5, .val z6, .val z7, .val z8, .val (.ref v), .unset, .unset, .unset] := by
  rcases h with rfl | ⟨w, rfl, hw⟩
  · rfl
  · cases w <;> first | rfl | (simp [Value.category] at hw)
theorem pd__I_V : parseMethodDescriptor "(I)V" = some ⟨[.int], none⟩ := by decide +kernel
theorem pd____I : parseMethodDescriptor "()[I" = some ⟨[], some (.array .int)⟩ := by decide +kernel
theorem pd____J : parseMethodDescriptor "()[J" = some ⟨[], some (.array .long)⟩ := by decide +kernel
theorem pd___I : parseMethodDescriptor "()I" = some ⟨[], some .int⟩ := by decide +kernel
theorem pn_com_example_termvault_termvault_MarkArraysCountsPinLaw : plainName "com/example/termvault/termvault/MarkArraysCountsPinLaw" = true := by first | (simp [plainName, overriddenIn]; done) | decide +kernel
theorem ef_rm0 (m : MethodId) (is_ : Int32) (ii : Int32) (iv : Int32) (ig : Int32) : entryFrame m #[(.int is_), (.int ii), (.int iv), (.int ig)] maxLocals = mkF m 0 #[.val (.int is_), .val (.int ii), .val (.int iv), .val (.int ig), .unset, .unset, .unset, .unset, .unset, .unset, .unset, .unset, .unset] [] := by first | (simp [entryFrame, mkF, argsToLocals, Value.category, maxLocals]; done) | rfl
def Q_rm0 (Z : State) (is_ : Int32) (ii : Int32) (iv : Int32) (ig : Int32) (h0 : Heap) (n0 : Nat) (v : Option Value) (h : Heap) (L : List Loc) : Prop := (v = some (.int (1 : Int32))) ∧ (Fr n0 L) ∧ (True)
set_option maxRecDepth 65536 in
set_option maxHeartbeats 40000000 in
theorem rm0 (l : Launch) (Z : State) (a0 : Array Value) (hw : ∀ d ∈ tables_1, d.before a0 Z = true) (ws : List Jvm.Cond) (is_ : Int32) (ii : Int32) (iv : Int32) (ig : Int32) (h0 : Heap) (n0 : Nat) (Z0 : n0 ≤ h0.size) :
    MetFree l x (head1 (Jvm.Cond.code x code maxLocals ret :: ws) room_1) (fun aA U => aA = #[(.int is_), (.int ii), (.int iv), (.int ig)] ∧ Z.Warmed39 U.vm ∧ U.heap = h0) (fun _ _ _ _ _ => True) (fun _ U o U' => ∃ v L, o = .returned v ∧ Q_rm0 Z is_ ii iv ig h0 n0 v U'.heap L ∧ FrameEnd U o U' L room_1.cells room_1.slots) := by
  refine MetFree.of_bodySF (plainFor_of_name pn_com_example_termvault_termvault_MarkArraysCountsPinLaw) hisR ?_
  intro p e s m args below meth c s₁ Bd hml0 hP hK
  obtain ⟨rfl, hZ, hh⟩ := hP
  have hx := Bd.exec
  have hby := Bd.bytes
  have hml : c.maxLocals = 13 := hml0
  have hown : s.vm.findClass "com/example/termvault/termvault/MarkArraysCountsPinLaw" = some m.cls := findClass_of_methodNamed Bd.named
  have hnm := (name_of_methodNamed Bd.named Bd.method).1
  have hret := Bd.returns
  have hlk : meth.locks = false := BodyLoose.notSynchronized Bd
  have X0 : Stand p l e room_1 s m #[(.int is_), (.int ii), (.int iv), (.int ig)] below meth c s₁ [] 0 0 := Stand.of_body Bd
  have e0 : s₁.heap = h0 := by rw [← hh, Bd.state]; rfl
  have N0 := Fr.nil n0
  suffices hgo : Go p e below s room_1.cells room_1.slots (Q_rm0 Z is_ ii iv ig h0 n0) s₁ (mkF m 0 #[.val (.int is_), .val (.int ii), .val (.int iv), .val (.int ig), .unset, .unset, .unset, .unset, .unset, .unset, .unset, .unset, .unset] []) from hgo.enter (ef_rm0 m is_ ii iv ig)
  refine Go.step (fun _ k => XS.iloadN X0.here hx rfl (hb hby at_0) rfl k) ?_
  show Go _ _ _ _ _ _ _ s₁ (mkF m 1 #[.val (.int is_), .val (.int ii), .val (.int iv), .val (.int ig), .unset, .unset, .unset, .unset, .unset, .unset, .unset, .unset, .unset] [(.int is_)])
  refine Go.step (fun _ k => XS.sipush X0.here hx rfl (hb hby at_1) k) ?_
  show Go _ _ _ _ _ _ _ s₁ (mkF m 4 #[.val (.int is_), .val (.int ii), .val (.int iv), .val (.int ig), .unset, .unset, .unset, .unset, .unset, .unset, .unset, .unset, .unset] [(.int (1023 : Int32)), (.int is_)])
  refine Go.step (fun _ k => XS.iand X0.here hx rfl (hb hby at_4) rfl k) ?_
  show Go _ _ _ _ _ _ _ s₁ (mkF m 5 #[.val (.int is_), .val (.int ii), .val (.int iv), .val (.int ig), .unset, .unset, .unset, .unset, .unset, .unset, .unset, .unset, .unset] [(.int (is_ &&& (1023 : Int32)))])
  refine Go.step (fun _ k => XS.istore X0.here hx rfl (hb hby at_5) rfl (l' := #[.val (.int is_), .val (.int ii), .val (.int iv), .val (.int ig), .val (.int (is_ &&& (1023 : Int32))), .unset, .unset, .unset, .unset, .unset, .unset, .unset, .unset]) rfl k) ?_
  show Go _ _ _ _ _ _ _ s₁ (mkF m 7 #[.val (.int is_), .val (.int ii), .val (.int iv), .val (.int ig), .val (.int (is_ &&& (1023 : Int32))), .unset, .unset, .unset, .unset, .unset, .unset, .unset, .unset] [])
  have b0 : 0 ≤ (is_ &&& (1023 : Int32)).toInt ∧ (is_ &&& (1023 : Int32)).toInt < 1024 := (by have := rng32 is_; have : (1023 : Int32).toInt = 1023 := rfl; have := rng32 (is_ &&& (1023 : Int32)); have := c_mask is_ (1023 : Int32) 10 (by decide) (by decide); omega)
  generalize (is_ &&& (1023 : Int32)) = sp at b0 ⊢
  show Go _ _ _ _ _ _ _ s₁ (mkF m 7 #[.val (.int is_), .val (.int ii), .val (.int iv), .val (.int ig), .val (.int sp), .unset, .unset, .unset, .unset, .unset, .unset, .unset, .unset] [])
  have hs0 : ¬ (sp < (0 : Int32)) := (by have := rng32 sp; have : (0 : Int32).toInt = 0 := rfl; simp only [Int32.lt_iff_toInt_lt, Int32.le_iff_toInt_le, ← Int32.toInt_inj, Int64.lt_iff_toInt_lt, Int64.le_iff_toInt_le, ← Int64.toInt_inj]; omega)
  have hs1 : ¬ ((1023 : Int32) < sp) := (by have := rng32 sp; have : (1023 : Int32).toInt = 1023 := rfl; simp only [Int32.lt_iff_toInt_lt, Int32.le_iff_toInt_le, ← Int32.toInt_inj, Int64.lt_iff_toInt_lt, Int64.le_iff_toInt_le, ← Int64.toInt_inj]; omega)
  have J33 : ∀ (TJ33 : State) (hJ33 : Heap) (LJ33 : List Loc) (f5 : Int32) (f6 : Int32), (Stand p l e room_1 s m #[(.int is_), (.int ii), (.int iv), (.int ig)] below meth c TJ33 LJ33 0 0) → (TJ33.heap = hJ33) → (Fr n0 LJ33) → (n0 ≤ hJ33.size) → Go p e below s room_1.cells room_1.slots (Q_rm0 Z is_ ii iv ig h0 n0) TJ33 (mkF m 33 #[.val (.int is_), .val (.int ii), .val (.int iv), .val (.int ig), .val (.int sp), .val (.int f5), .val (.int f6), .unset, .unset, .unset, .unset, .unset, .unset] []) := by
    intro TJ33 hJ33 LJ33 f5 f6 XJ33 eJ33 NJ33 ZJ33  
    obtain ⟨T102, h102, X102, e102, E102, A102, D102, -, st102⟩ := newO XJ33 hx hZ hown (hw _ (List.mem_of_getElem? (i := 0) rfl)) (hw _ (List.mem_of_getElem? (i := 1) rfl)) (hw _ (List.mem_of_getElem? (i := 2) rfl)) eJ33 (g := (mkF m 33 #[.val (.int is_), .val (.int ii), .val (.int iv), .val (.int ig), .val (.int sp), .val (.int f5), .val (.int f6), .unset, .unset, .unset, .unset, .unset, .unset] [])) rfl (hb hby at_33) (by decide) (by decide)
    obtain ⟨b102, g102⟩ : ∃ z, z = hJ33.size := ⟨_, rfl⟩
    rw [← g102] at A102 D102 st102
    refine Go.step st102 ?_
    have g_b102 : n0 ≤ b102 := Nat.le_trans ZJ33 (Nat.le_of_eq g102.symm)
    have Z102 : n0 ≤ h102.size := Nat.le_trans ZJ33 E102.1
    have Fcounts_102 : Fld Z h102 b102 "com/example/termvault/termvault/MarkArrays" "counts" "[[I" .null := D102 (Or.inr (hw _ (List.mem_of_getElem? (i := 12) rfl))) (ty := (.array (.array .int))) (by decide)
    have Fpositions_102 : Fld Z h102 b102 "com/example/termvault/termvault/MarkArrays" "positions" "[[J" .null := D102 (Or.inr (hw _ (List.mem_of_getElem? (i := 16) rfl))) (ty := (.array (.array .long))) (by decide)
    have Fspan_102 : Fld Z h102 b102 "com/example/termvault/termvault/MarkArrays" "span" "I" (.int (0 : Int32)) := D102 (Or.inr (hw _ (List.mem_of_getElem? (i := 18) rfl))) (ty := .int) (by decide)
    have FcountsTaken_102 : Fld Z h102 b102 "com/example/termvault/termvault/MarkArrays" "countsTaken" "I" (.int (0 : Int32)) := D102 (Or.inl (hw _ (List.mem_of_getElem? (i := 25) rfl))) (ty := .int) (by decide)
    have FpositionsTaken_102 : Fld Z h102 b102 "com/example/termvault/termvault/MarkArrays" "positionsTaken" "I" (.int (0 : Int32)) := D102 (Or.inl (hw _ (List.mem_of_getElem? (i := 34) rfl))) (ty := .int) (by decide)
    show Go _ _ _ _ _ _ _ T102 (mkF m 36 #[.val (.int is_), .val (.int ii), .val (.int iv), .val (.int ig), .val (.int sp), .val (.int f5), .val (.int f6), .unset, .unset, .unset, .unset, .unset, .unset] [(.ref b102)])
    refine Go.step (fun _ k => XS.dup X102.here hx rfl (hb hby at_36) rfl rfl k) ?_
    show Go _ _ _ _ _ _ _ T102 (mkF m 37 #[.val (.int is_), .val (.int ii), .val (.int iv), .val (.int ig), .val (.int sp), .val (.int f5), .val (.int f6), .unset, .unset, .unset, .unset, .unset, .unset] [(.ref b102), (.ref b102)])
    refine Go.step (fun _ k => XS.iload X102.here hx rfl (hb hby at_37) rfl k) ?_
    show Go _ _ _ _ _ _ _ T102 (mkF m 39 #[.val (.int is_), .val (.int ii), .val (.int iv), .val (.int ig), .val (.int sp), .val (.int f5), .val (.int f6), .unset, .unset, .unset, .unset, .unset, .unset] [(.int sp), (.ref b102), (.ref b102)])
    obtain ⟨_, _, ⟨T103, L103, k103, n103⟩, -, X103, ⟨Lc103, hQ103, l103, y103, z103⟩, st103⟩ := X102.specialBack hx (y := (⟨"com/example/termvault/termvault/MarkArrays", "<init>", "(I)V"⟩ : MethodName)) rfl hown (mvT hZ (hw _ (List.mem_of_getElem? (i := 3) rfl))) (mvT hZ (hw _ (List.mem_of_getElem? (i := 4) rfl))) (mvT hZ (hw _ (List.mem_of_getElem? (i := 5) rfl))) (by decide) (backOf (W := 1) (rmIn l Z a0 hw [] b102 sp h102 n0 Z102 A102 Fcounts_102 Fpositions_102 Fspan_102 FcountsTaken_102 FpositionsTaken_102 g_b102) hZ (hw _ (List.mem_of_getElem? (i := 5) rfl)) (hw _ (List.mem_of_getElem? (i := 2) rfl)) (by decide) (by decide)) (g := (mkF m 39 #[.val (.int is_), .val (.int ii), .val (.int iv), .val (.int ig), .val (.int sp), .val (.int f5), .val (.int f6), .unset, .unset, .unset, .unset, .unset, .unset] [(.int sp), (.ref b102), (.ref b102)])) rfl (by rw [hml]; rfl) (Steps.refl _) (a := b102) (argsL := [(.int sp)]) (rest := [(.ref b102)]) (lenOf pd__I_V rfl) rfl (by show 2 * 0 + _ ≤ _; exact Nat.le_of_eq rfl) (hb hby at_39) (fun _ _ => ⟨rfl, e102, (by decide : 1 + 2 ≤ _), (by decide : 5 + 32 ≤ _)⟩)
    dsimp only [Pt.U, Pt.locs, Pt.cells, Pt.slots] at X103 l103 y103 z103 st103 hQ103
    subst l103 y103 z103
    obtain ⟨h103, e103⟩ : ∃ h, T103.heap = h := ⟨_, rfl⟩
    rw [e103] at hQ103
    obtain ⟨ac_103, kc_103, ap_103, kp_103, rfl, Nq103, Kq103, sa_103, sb_103, ne_103, E1_103, Fc1_103, Fp1_103, Fs1_103, Ft1_103, Fu1_103, Vc_103, Vp_103, oc_103, op_103⟩ := hQ103
    have N103 := Fr.app NJ33 Nq103
    have Z103 : n0 ≤ h103.size := Nat.le_trans Z102 Kq103.1
    have g_ac_103 : n0 ≤ ac_103 := Nat.le_trans Z102 sa_103
    have ne_b102_ac_103 : b102 ≠ ac_103 := Nat.ne_of_lt (Nat.lt_of_lt_of_le A102.lt sa_103)
    have g_ap_103 : n0 ≤ ap_103 := Nat.le_trans Z102 sb_103
    have ne_b102_ap_103 : b102 ≠ ap_103 := Nat.ne_of_lt (Nat.lt_of_lt_of_le A102.lt sb_103)
    refine Go.trans st103 ?_
    show Go _ _ _ _ _ _ _ T103 (mkF m 42 #[.val (.int is_), .val (.int ii), .val (.int iv), .val (.int ig), .val (.int sp), .val (.int f5), .val (.int f6), .unset, .unset, .unset, .unset, .unset, .unset] [(.ref b102)])
    refine Go.step (fun _ k => XS.astore X103.here hx rfl (hb hby at_42) rfl rfl (l' := #[.val (.int is_), .val (.int ii), .val (.int iv), .val (.int ig), .val (.int sp), .val (.int f5), .val (.int f6), .val (.ref b102), .unset, .unset, .unset, .unset, .unset]) rfl k) ?_
    show Go _ _ _ _ _ _ _ T103 (mkF m 44 #[.val (.int is_), .val (.int ii), .val (.int iv), .val (.int ig), .val (.int sp), .val (.int f5), .val (.int f6), .val (.ref b102), .unset, .unset, .unset, .unset, .unset] [])
    refine Go.step (fun _ k => XS.aload X103.here hx rfl (hb hby at_44) rfl rfl k) ?_
    show Go _ _ _ _ _ _ _ T103 (mkF m 46 #[.val (.int is_), .val (.int ii), .val (.int iv), .val (.int ig), .val (.int sp), .val (.int f5), .val (.int f6), .val (.ref b102), .unset, .unset, .unset, .unset, .unset] [(.ref b102)])
    obtain ⟨cq104, kq104, q104a, q104b, q104c⟩ := isOf hZ e103 E1_103
    obtain ⟨_, _, ⟨T104, L104, k104, n104⟩, -, X104, ⟨Lc104, hQ104, l104, y104, z104⟩, st104⟩ := X103.virtualBack hx (y := (⟨"com/example/termvault/termvault/MarkArrays", "counts", "()[I"⟩ : MethodName)) (z := (⟨"com/example/termvault/termvault/MarkArrays", "counts", "()[I"⟩ : MethodName)) hown (mvT hZ (hw _ (List.mem_of_getElem? (i := 19) rfl))) (mvT hZ (hw _ (List.mem_of_getElem? (i := 20) rfl))) (notFace_of_selects (args := #[]) (mvT hZ (hw _ (List.mem_of_getElem? (i := 22) rfl)))) (mvT hZ (hw _ (List.mem_of_getElem? (i := 22) rfl))) (mvT hZ (hw _ (List.mem_of_getElem? (i := 21) rfl))) (by decide) (backOf (W := 0) (rmCt l Z a0 hw [] b102 ac_103 kc_103 (List.replicate 16 Value.null) (0 : Int32) sp (0 : Int32) ap_103 h103 n0 Z103 E1_103 Fc1_103 Ft1_103 Fs1_103 Vc_103 Fu1_103 Fp1_103 oc_103 g_b102 g_ac_103 ne_b102_ac_103 (by decide) (by decide) (by simp only [List.length_set, List.length_replicate]; rfl) own_rep hs0 hs1) hZ (hw _ (List.mem_of_getElem? (i := 23) rfl)) (hw _ (List.mem_of_getElem? (i := 2) rfl)) (by decide) (by decide)) q104a q104c (g := (mkF m 46 #[.val (.int is_), .val (.int ii), .val (.int iv), .val (.int ig), .val (.int sp), .val (.int f5), .val (.int f6), .val (.ref b102), .unset, .unset, .unset, .unset, .unset] [(.ref b102)])) rfl (by rw [hml]; rfl) (Steps.refl _) (argsL := []) (rest := []) (lenOf pd____I rfl) rfl (by show 2 * 0 + _ ≤ _; exact Nat.le_of_eq rfl) (hb hby at_46) (fun _ _ => ⟨rfl, e103, (by decide : 3 + 1 ≤ _), (by decide : 37 + 1023 ≤ _)⟩)
    dsimp only [Pt.U, Pt.locs, Pt.cells, Pt.slots] at X104 l104 y104 z104 st104 hQ104
    subst l104 y104 z104
    obtain ⟨h104, e104⟩ : ∃ h, T104.heap = h := ⟨_, rfl⟩
    rw [e104] at hQ104
    obtain ⟨ar_104, kr_104, rfl, Nq104, Kq104, sa_104, E1_104, Fc1_104, Ft1_104, Fs1_104, Fo1_104, Fq1_104, Vc1_104, Vr_104, Er_104⟩ := hQ104
    have N104 := Fr.app N103 Nq104
    have Z104 : n0 ≤ h104.size := Nat.le_trans Z103 Kq104.1
    have g_ar_104 : n0 ≤ ar_104 := Nat.le_trans Z103 sa_104
    have ne_ac_103_ar_104 : ac_103 ≠ ar_104 := Nat.ne_of_lt (Nat.lt_of_lt_of_le Vc_103.lt sa_104)
    have ne_ap_103_ar_104 : ap_103 ≠ ar_104 := Nat.ne_of_lt (Nat.lt_of_lt_of_le Vp_103.lt sa_104)
    have ne_b102_ar_104 : b102 ≠ ar_104 := Nat.ne_of_lt (Nat.lt_of_lt_of_le E1_103.lt sa_104)
    have Ft1_104 : Fld Z h104 b102 "com/example/termvault/termvault/MarkArrays" "countsTaken" "I" (.int (1 : Int32)) := Ft1_104
    have Fo1_104 : Fld Z h104 b102 "com/example/termvault/termvault/MarkArrays" "positionsTaken" "I" (.int (0 : Int32)) := Fo1_104
    refine Go.trans st104 ?_
    show Go _ _ _ _ _ _ _ T104 (mkF m 49 #[.val (.int is_), .val (.int ii), .val (.int iv), .val (.int ig), .val (.int sp), .val (.int f5), .val (.int f6), .val (.ref b102), .unset, .unset, .unset, .unset, .unset] [(.ref ar_104)])
    refine Go.step (fun _ k => XS.astore X104.here hx rfl (hb hby at_49) rfl rfl (l' := #[.val (.int is_), .val (.int ii), .val (.int iv), .val (.int ig), .val (.int sp), .val (.int f5), .val (.int f6), .val (.ref b102), .val (.ref ar_104), .unset, .unset, .unset, .unset]) rfl k) ?_
    show Go _ _ _ _ _ _ _ T104 (mkF m 51 #[.val (.int is_), .val (.int ii), .val (.int iv), .val (.int ig), .val (.int sp), .val (.int f5), .val (.int f6), .val (.ref b102), .val (.ref ar_104), .unset, .unset, .unset, .unset] [])
    have J : ∀ (TJ : State) (hJ : Heap) (LJ : List Loc) (tq : Int32) (s9 : Slot), (Stand p l e room_1 s m #[(.int is_), (.int ii), (.int iv), (.int ig)] below meth c TJ LJ 5 2083) → (TJ.heap = hJ) → (Fr n0 LJ) → (n0 ≤ hJ.size) → (Exa Z hJ b102 "com/example/termvault/termvault/MarkArrays") → (Fld Z hJ b102 "com/example/termvault/termvault/MarkArrays" "counts" "[[I" (.ref ac_103)) → (Fld Z hJ b102 "com/example/termvault/termvault/MarkArrays" "positions" "[[J" (.ref ap_103)) → (Fld Z hJ b102 "com/example/termvault/termvault/MarkArrays" "span" "I" (.int sp)) → (Fld Z hJ b102 "com/example/termvault/termvault/MarkArrays" "countsTaken" "I" (.int (1 : Int32))) → (Fld Z hJ b102 "com/example/termvault/termvault/MarkArrays" "positionsTaken" "I" (.int tq)) → (Arv Z hJ ac_103 kc_103 (.array .int) (16 : Int32) ((List.replicate 16 Value.null).set (0 : Int32).toNatClampNeg (.ref ar_104)) .null) → (Arv Z hJ ar_104 kr_104 .int sp [] (.int (0 : Int32))) → (One s9) → Go p e below s room_1.cells room_1.slots (Q_rm0 Z is_ ii iv ig h0 n0) TJ (mkF m 78 #[.val (.int is_), .val (.int ii), .val (.int iv), .val (.int ig), .val (.int sp), .val (.int f5), .val (.int f6), .val (.ref b102), .val (.ref ar_104), s9, .unset, .unset, .unset] []) := by
      intro TJ hJ LJ tq s9 XJ eJ NJ ZJ Ej F1 F2 F3 F4 F5 V1 V2 h9
      refine Go.step (fun _ k => XS.aload XJ.here hx rfl (hb hby at_78) rfl rfl k) ?_
      show Go _ _ _ _ _ _ _ TJ (mkF m 80 #[.val (.int is_), .val (.int ii), .val (.int iv), .val (.int ig), .val (.int sp), .val (.int f5), .val (.int f6), .val (.ref b102), .val (.ref ar_104), s9, .unset, .unset, .unset] [(.ref b102)])
      obtain ⟨cq105, kq105, q105a, q105b, q105c⟩ := isOf hZ eJ Ej
      obtain ⟨_, _, ⟨T105, L105, k105, n105⟩, -, X105, ⟨Lc105, hQ105, l105, y105, z105⟩, st105⟩ := XJ.virtualBack hx (y := (⟨"com/example/termvault/termvault/MarkArrays", "counts", "()[I"⟩ : MethodName)) (z := (⟨"com/example/termvault/termvault/MarkArrays", "counts", "()[I"⟩ : MethodName)) hown (mvT hZ (hw _ (List.mem_of_getElem? (i := 19) rfl))) (mvT hZ (hw _ (List.mem_of_getElem? (i := 20) rfl))) (notFace_of_selects (args := #[]) (mvT hZ (hw _ (List.mem_of_getElem? (i := 22) rfl)))) (mvT hZ (hw _ (List.mem_of_getElem? (i := 22) rfl))) (mvT hZ (hw _ (List.mem_of_getElem? (i := 21) rfl))) (by decide) (backOf (W := 0) (rmCt l Z a0 hw [] b102 ac_103 kc_103 ((List.replicate 16 Value.null).set (0 : Int32).toNatClampNeg (.ref ar_104)) (1 : Int32) sp tq ap_103 hJ n0 ZJ Ej F1 F4 F3 V1 F5 F2 oc_103 g_b102 g_ac_103 ne_b102_ac_103 (by decide) (by decide) (by simp only [List.length_set, List.length_replicate]; rfl) ((own_n (by decide)).trans own_rep) hs0 hs1) hZ (hw _ (List.mem_of_getElem? (i := 23) rfl)) (hw _ (List.mem_of_getElem? (i := 2) rfl)) (by decide) (by decide)) q105a q105c (g := (mkF m 80 #[.val (.int is_), .val (.int ii), .val (.int iv), .val (.int ig), .val (.int sp), .val (.int f5), .val (.int f6), .val (.ref b102), .val (.ref ar_104), s9, .unset, .unset, .unset] [(.ref b102)])) rfl (by rw [hml]; rfl) (Steps.refl _) (argsL := []) (rest := []) (lenOf pd____I rfl) rfl (by show 2 * 0 + _ ≤ _; exact Nat.le_of_eq rfl) (hb hby at_80) (fun _ _ => ⟨rfl, eJ, (by decide : 5 + 1 ≤ _), (by decide : 2083 + 1023 ≤ _)⟩)
      dsimp only [Pt.U, Pt.locs, Pt.cells, Pt.slots] at X105 l105 y105 z105 st105 hQ105
      subst l105 y105 z105
      obtain ⟨h105, e105⟩ : ∃ h, T105.heap = h := ⟨_, rfl⟩
      rw [e105] at hQ105
      obtain ⟨ar_105, kr_105, rfl, Nq105, Kq105, sa_105, E1_105, Fc1_105, Ft1_105, Fs1_105, Fo1_105, Fq1_105, Vc1_105, Vr_105, Er_105⟩ := hQ105
      have N105 := Fr.app NJ Nq105
      have Z105 : n0 ≤ h105.size := Nat.le_trans ZJ Kq105.1
      have g_ar_105 : n0 ≤ ar_105 := Nat.le_trans ZJ sa_105
      have ne_ac_103_ar_105 : ac_103 ≠ ar_105 := Nat.ne_of_lt (Nat.lt_of_lt_of_le V1.lt sa_105)
      have ne_ar_104_ar_105 : ar_104 ≠ ar_105 := Nat.ne_of_lt (Nat.lt_of_lt_of_le V2.lt sa_105)
      have ne_b102_ar_105 : b102 ≠ ar_105 := Nat.ne_of_lt (Nat.lt_of_lt_of_le Ej.lt sa_105)
      have Ft1_105 : Fld Z h105 b102 "com/example/termvault/termvault/MarkArrays" "countsTaken" "I" (.int (2 : Int32)) := Ft1_105
      refine Go.trans st105 ?_
      show Go _ _ _ _ _ _ _ T105 (mkF m 83 #[.val (.int is_), .val (.int ii), .val (.int iv), .val (.int ig), .val (.int sp), .val (.int f5), .val (.int f6), .val (.ref b102), .val (.ref ar_104), s9, .unset, .unset, .unset] [(.ref ar_105)])
      refine Go.step (fun _ k => XS.astore X105.here hx rfl (hb hby at_83) rfl rfl (l' := #[.val (.int is_), .val (.int ii), .val (.int iv), .val (.int ig), .val (.int sp), .val (.int f5), .val (.int f6), .val (.ref b102), .val (.ref ar_104), .val (.ref ar_105), .unset, .unset, .unset]) (own_st9 h9) k) ?_
      show Go _ _ _ _ _ _ _ T105 (mkF m 85 #[.val (.int is_), .val (.int ii), .val (.int iv), .val (.int ig), .val (.int sp), .val (.int f5), .val (.int f6), .val (.ref b102), .val (.ref ar_104), .val (.ref ar_105), .unset, .unset, .unset] [])
      refine Go.step (fun _ k => XS.aload X105.here hx rfl (hb hby at_85) rfl rfl k) ?_
      show Go _ _ _ _ _ _ _ T105 (mkF m 87 #[.val (.int is_), .val (.int ii), .val (.int iv), .val (.int ig), .val (.int sp), .val (.int f5), .val (.int f6), .val (.ref b102), .val (.ref ar_104), .val (.ref ar_105), .unset, .unset, .unset] [(.ref ar_104)])
      refine Go.step (fun _ k => XS.ifnullNo X105.here hx rfl (hb hby at_87) rfl k) ?_
      show Go _ _ _ _ _ _ _ T105 (mkF m 90 #[.val (.int is_), .val (.int ii), .val (.int iv), .val (.int ig), .val (.int sp), .val (.int f5), .val (.int f6), .val (.ref b102), .val (.ref ar_104), .val (.ref ar_105), .unset, .unset, .unset] [])
      refine Go.step (fun _ k => XS.aload X105.here hx rfl (hb hby at_90) rfl rfl k) ?_
      show Go _ _ _ _ _ _ _ T105 (mkF m 92 #[.val (.int is_), .val (.int ii), .val (.int iv), .val (.int ig), .val (.int sp), .val (.int f5), .val (.int f6), .val (.ref b102), .val (.ref ar_104), .val (.ref ar_105), .unset, .unset, .unset] [(.ref ar_105)])
      refine Go.step (fun _ k => XS.ifnonnullYes X105.here hx rfl (pc0 := 92) (pc' := 97) rfl (hb hby at_92) rfl (by decide) (by decide) k) ?_
      show Go _ _ _ _ _ _ _ T105 (mkF m 97 #[.val (.int is_), .val (.int ii), .val (.int iv), .val (.int ig), .val (.int sp), .val (.int f5), .val (.int f6), .val (.ref b102), .val (.ref ar_104), .val (.ref ar_105), .unset, .unset, .unset] [])
      refine Go.step (fun _ k => XS.aload X105.here hx rfl (hb hby at_97) rfl rfl k) ?_
      show Go _ _ _ _ _ _ _ T105 (mkF m 99 #[.val (.int is_), .val (.int ii), .val (.int iv), .val (.int ig), .val (.int sp), .val (.int f5), .val (.int f6), .val (.ref b102), .val (.ref ar_104), .val (.ref ar_105), .unset, .unset, .unset] [(.ref ar_104)])
      have f106 : Arv Z h105 ar_104 kr_104 .int sp [] (.int (0 : Int32)) := (V2.keep Kq105 (ninS (Ne.symm ne_b102_ar_104) (ninS (Ne.symm ne_ac_103_ar_104) nin0)))
      obtain ⟨cl107, Ar107, -, S107, M107, -, -⟩ := id (f106)
      have al107 := X105.arraylength hx (by rw [e105]; exact Ar107.1) (State.isArrayOf_alike hZ.alike Ar107.2.1) (g := (mkF m 99 #[.val (.int is_), .val (.int ii), .val (.int iv), .val (.int ig), .val (.int sp), .val (.int f5), .val (.int f6), .val (.ref b102), .val (.ref ar_104), .val (.ref ar_105), .unset, .unset, .unset] [(.ref ar_104)])) rfl rfl (hb hby at_99)
      rw [len_of S107 M107] at al107
      refine Go.step al107 ?_
      show Go _ _ _ _ _ _ _ T105 (mkF m 100 #[.val (.int is_), .val (.int ii), .val (.int iv), .val (.int ig), .val (.int sp), .val (.int f5), .val (.int f6), .val (.ref b102), .val (.ref ar_104), .val (.ref ar_105), .unset, .unset, .unset] [(.int sp)])
      refine Go.step (fun _ k => XS.iload X105.here hx rfl (hb hby at_100) rfl k) ?_
      show Go _ _ _ _ _ _ _ T105 (mkF m 102 #[.val (.int is_), .val (.int ii), .val (.int iv), .val (.int ig), .val (.int sp), .val (.int f5), .val (.int f6), .val (.ref b102), .val (.ref ar_104), .val (.ref ar_105), .unset, .unset, .unset] [(.int sp), (.int sp)])
      have hc102_108 : sp = sp := rfl
      refine Go.step (fun _ k => XS.icmpNo X105.here hx rfl (hb hby at_102) rfl (teq hc102_108).2 k) ?_
      show Go _ _ _ _ _ _ _ T105 (mkF m 105 #[.val (.int is_), .val (.int ii), .val (.int iv), .val (.int ig), .val (.int sp), .val (.int f5), .val (.int f6), .val (.ref b102), .val (.ref ar_104), .val (.ref ar_105), .unset, .unset, .unset] [])
      refine Go.step (fun _ k => XS.aload X105.here hx rfl (hb hby at_105) rfl rfl k) ?_
      show Go _ _ _ _ _ _ _ T105 (mkF m 107 #[.val (.int is_), .val (.int ii), .val (.int iv), .val (.int ig), .val (.int sp), .val (.int f5), .val (.int f6), .val (.ref b102), .val (.ref ar_104), .val (.ref ar_105), .unset, .unset, .unset] [(.ref ar_105)])
      obtain ⟨cl109, Ar109, -, S109, M109, -, -⟩ := id (Vr_105)
      have al109 := X105.arraylength hx (by rw [e105]; exact Ar109.1) (State.isArrayOf_alike hZ.alike Ar109.2.1) (g := (mkF m 107 #[.val (.int is_), .val (.int ii), .val (.int iv), .val (.int ig), .val (.int sp), .val (.int f5), .val (.int f6), .val (.ref b102), .val (.ref ar_104), .val (.ref ar_105), .unset, .unset, .unset] [(.ref ar_105)])) rfl rfl (hb hby at_107)
      rw [len_of S109 M109] at al109
      refine Go.step al109 ?_
      show Go _ _ _ _ _ _ _ T105 (mkF m 108 #[.val (.int is_), .val (.int ii), .val (.int iv), .val (.int ig), .val (.int sp), .val (.int f5), .val (.int f6), .val (.ref b102), .val (.ref ar_104), .val (.ref ar_105), .unset, .unset, .unset] [(.int sp)])
      refine Go.step (fun _ k => XS.iload X105.here hx rfl (hb hby at_108) rfl k) ?_
      show Go _ _ _ _ _ _ _ T105 (mkF m 110 #[.val (.int is_), .val (.int ii), .val (.int iv), .val (.int ig), .val (.int sp), .val (.int f5), .val (.int f6), .val (.ref b102), .val (.ref ar_104), .val (.ref ar_105), .unset, .unset, .unset] [(.int sp), (.int sp)])
      have hc110_110 : sp = sp := rfl
      refine Go.step (fun _ k => XS.icmpNo X105.here hx rfl (hb hby at_110) rfl (teq hc110_110).2 k) ?_
      show Go _ _ _ _ _ _ _ T105 (mkF m 113 #[.val (.int is_), .val (.int ii), .val (.int iv), .val (.int ig), .val (.int sp), .val (.int f5), .val (.int f6), .val (.ref b102), .val (.ref ar_104), .val (.ref ar_105), .unset, .unset, .unset] [])
      refine Go.step (fun _ k => XS.aload X105.here hx rfl (hb hby at_113) rfl rfl k) ?_
      show Go _ _ _ _ _ _ _ T105 (mkF m 115 #[.val (.int is_), .val (.int ii), .val (.int iv), .val (.int ig), .val (.int sp), .val (.int f5), .val (.int f6), .val (.ref b102), .val (.ref ar_104), .val (.ref ar_105), .unset, .unset, .unset] [(.ref ar_104)])
      refine Go.step (fun _ k => XS.aload X105.here hx rfl (hb hby at_115) rfl rfl k) ?_
      show Go _ _ _ _ _ _ _ T105 (mkF m 117 #[.val (.int is_), .val (.int ii), .val (.int iv), .val (.int ig), .val (.int sp), .val (.int f5), .val (.int f6), .val (.ref b102), .val (.ref ar_104), .val (.ref ar_105), .unset, .unset, .unset] [(.ref ar_105), (.ref ar_104)])
      refine Go.step (fun _ k => Jvm.RoadKit.acmp (g := (mkF m 117 #[.val (.int is_), .val (.int ii), .val (.int iv), .val (.int ig), .val (.int sp), .val (.int f5), .val (.int f6), .val (.ref b102), .val (.ref ar_104), .val (.ref ar_105), .unset, .unset, .unset] [(.ref ar_105), (.ref ar_104)])) X105 hx rfl rfl rfl (pc0 := 117) (pc' := 120) (same := false) rfl (hb hby at_117) rfl (decide_eq_false fun q => ne_ar_104_ar_105 (Value.ref.inj q)) (by decide) (by decide) k) ?_
      show Go _ _ _ _ _ _ _ T105 (mkF m 120 #[.val (.int is_), .val (.int ii), .val (.int iv), .val (.int ig), .val (.int sp), .val (.int f5), .val (.int f6), .val (.ref b102), .val (.ref ar_104), .val (.ref ar_105), .unset, .unset, .unset] [])
      refine Go.step (fun _ k => XS.aload X105.here hx rfl (hb hby at_120) rfl rfl k) ?_
      show Go _ _ _ _ _ _ _ T105 (mkF m 122 #[.val (.int is_), .val (.int ii), .val (.int iv), .val (.int ig), .val (.int sp), .val (.int f5), .val (.int f6), .val (.ref b102), .val (.ref ar_104), .val (.ref ar_105), .unset, .unset, .unset] [(.ref b102)])
      obtain ⟨cq111, kq111, q111a, q111b, q111c⟩ := isOf hZ e105 E1_105
      obtain ⟨_, _, ⟨T111, L111, k111, n111⟩, -, X111, ⟨Lc111, hQ111, l111, y111, z111⟩, st111⟩ := X105.virtualBack hx (y := (⟨"com/example/termvault/termvault/MarkArrays", "span", "()I"⟩ : MethodName)) (z := (⟨"com/example/termvault/termvault/MarkArrays", "span", "()I"⟩ : MethodName)) hown (mvT hZ (hw _ (List.mem_of_getElem? (i := 37) rfl))) (mvT hZ (hw _ (List.mem_of_getElem? (i := 38) rfl))) (notFace_of_selects (args := #[]) (mvT hZ (hw _ (List.mem_of_getElem? (i := 40) rfl)))) (mvT hZ (hw _ (List.mem_of_getElem? (i := 40) rfl))) (mvT hZ (hw _ (List.mem_of_getElem? (i := 39) rfl))) (by decide) (backOf (W := 0) (rmSp l Z a0 hw [] b102 sp h105 n0 Z105 E1_105 Fs1_105) hZ (hw _ (List.mem_of_getElem? (i := 41) rfl)) (hw _ (List.mem_of_getElem? (i := 2) rfl)) (by decide) (by decide)) q111a q111c (g := (mkF m 122 #[.val (.int is_), .val (.int ii), .val (.int iv), .val (.int ig), .val (.int sp), .val (.int f5), .val (.int f6), .val (.ref b102), .val (.ref ar_104), .val (.ref ar_105), .unset, .unset, .unset] [(.ref b102)])) rfl (by rw [hml]; rfl) (Steps.refl _) (argsL := []) (rest := []) (lenOf pd___I rfl) rfl (by show 2 * 0 + _ ≤ _; exact Nat.le_of_eq rfl) (hb hby at_122) (fun _ _ => ⟨rfl, e105, (by decide : 6 + 0 ≤ _), (by decide : 3106 + 0 ≤ _)⟩)
      dsimp only [Pt.U, Pt.locs, Pt.cells, Pt.slots] at X111 l111 y111 z111 st111 hQ111
      subst l111 y111 z111
      obtain ⟨h111, e111⟩ : ∃ h, T111.heap = h := ⟨_, rfl⟩
      rw [e111] at hQ111
      obtain ⟨rfl, Nq111, hs111⟩ := hQ111
      have N111 := Fr.app N105 Nq111
      rw [hs111] at e111
      refine Go.trans st111 ?_
      show Go _ _ _ _ _ _ _ T111 (mkF m 125 #[.val (.int is_), .val (.int ii), .val (.int iv), .val (.int ig), .val (.int sp), .val (.int f5), .val (.int f6), .val (.ref b102), .val (.ref ar_104), .val (.ref ar_105), .unset, .unset, .unset] [(.int sp)])
      refine Go.step (fun _ k => XS.iload X111.here hx rfl (hb hby at_125) rfl k) ?_
      show Go _ _ _ _ _ _ _ T111 (mkF m 127 #[.val (.int is_), .val (.int ii), .val (.int iv), .val (.int ig), .val (.int sp), .val (.int f5), .val (.int f6), .val (.ref b102), .val (.ref ar_104), .val (.ref ar_105), .unset, .unset, .unset] [(.int sp), (.int sp)])
      have hc127_112 : sp = sp := rfl
      refine Go.step (fun _ k => XS.icmpYes X111.here hx rfl (pc0 := 127) (pc' := 132) rfl (hb hby at_127) rfl (teq hc127_112).1 (by decide) (by decide) k) ?_
      show Go _ _ _ _ _ _ _ T111 (mkF m 132 #[.val (.int is_), .val (.int ii), .val (.int iv), .val (.int ig), .val (.int sp), .val (.int f5), .val (.int f6), .val (.ref b102), .val (.ref ar_104), .val (.ref ar_105), .unset, .unset, .unset] [])
      refine Go.step (fun _ k => XS.iload X111.here hx rfl (hb hby at_132) rfl k) ?_
      show Go _ _ _ _ _ _ _ T111 (mkF m 134 #[.val (.int is_), .val (.int ii), .val (.int iv), .val (.int ig), .val (.int sp), .val (.int f5), .val (.int f6), .val (.ref b102), .val (.ref ar_104), .val (.ref ar_105), .unset, .unset, .unset] [(.int sp)])
      by_cases hc134_113 : sp = (0 : Int32)
      · refine Go.step (fun _ k => XS.ifNo X111.here hx rfl (hb hby at_134) rfl ((if0 _ _).trans (teq hc134_113).2) k) ?_
        show Go _ _ _ _ _ _ _ T111 (mkF m 137 #[.val (.int is_), .val (.int ii), .val (.int iv), .val (.int ig), .val (.int sp), .val (.int f5), .val (.int f6), .val (.ref b102), .val (.ref ar_104), .val (.ref ar_105), .unset, .unset, .unset] [])
        refine Go.step (fun _ k => XS.iconst X111.here hx rfl (hb hby at_137) k) ?_
        show Go _ _ _ _ _ _ _ T111 (mkF m 138 #[.val (.int is_), .val (.int ii), .val (.int iv), .val (.int ig), .val (.int sp), .val (.int f5), .val (.int f6), .val (.ref b102), .val (.ref ar_104), .val (.ref ar_105), .unset, .unset, .unset] [(.int (0 : Int32))])
        refine Go.step (fun _ k => XS.goto X111.here hx rfl (pc0 := 138) (pc' := 148) rfl (hb hby at_138) (by decide) (by decide) k) ?_
        show Go _ _ _ _ _ _ _ T111 (mkF m 148 #[.val (.int is_), .val (.int ii), .val (.int iv), .val (.int ig), .val (.int sp), .val (.int f5), .val (.int f6), .val (.ref b102), .val (.ref ar_104), .val (.ref ar_105), .unset, .unset, .unset] [(.int (0 : Int32))])
        refine Go.step (fun _ k => XS.istore X111.here hx rfl (hb hby at_148) rfl (l' := #[.val (.int is_), .val (.int ii), .val (.int iv), .val (.int ig), .val (.int sp), .val (.int f5), .val (.int f6), .val (.ref b102), .val (.ref ar_104), .val (.ref ar_105), .val (.int (0 : Int32)), .unset, .unset]) rfl k) ?_
        show Go _ _ _ _ _ _ _ T111 (mkF m 150 #[.val (.int is_), .val (.int ii), .val (.int iv), .val (.int ig), .val (.int sp), .val (.int f5), .val (.int f6), .val (.ref b102), .val (.ref ar_104), .val (.ref ar_105), .val (.int (0 : Int32)), .unset, .unset] [])
        refine Go.step (fun _ k => XS.iload X111.here hx rfl (hb hby at_150) rfl k) ?_
        show Go _ _ _ _ _ _ _ T111 (mkF m 152 #[.val (.int is_), .val (.int ii), .val (.int iv), .val (.int ig), .val (.int sp), .val (.int f5), .val (.int f6), .val (.ref b102), .val (.ref ar_104), .val (.ref ar_105), .val (.int (0 : Int32)), .unset, .unset] [(.int sp)])
        have hc152_114 : ¬ ((0 : Int32) < sp) := (by have := rng32 sp; have : (0 : Int32).toInt = 0 := rfl; have q0 := hc134_113; simp only [Int32.lt_iff_toInt_lt, Int32.le_iff_toInt_le, ← Int32.toInt_inj, Int64.lt_iff_toInt_lt, Int64.le_iff_toInt_le, ← Int64.toInt_inj] at q0 ⊢; omega)
        refine Go.step (fun _ k => XS.ifYes X111.here hx rfl (pc0 := 152) (pc' := 187) rfl (hb hby at_152) rfl ((if0 _ _).trans (flt hc152_114).2.2.2) (by decide) (by decide) k) ?_
        show Go _ _ _ _ _ _ _ T111 (mkF m 187 #[.val (.int is_), .val (.int ii), .val (.int iv), .val (.int ig), .val (.int sp), .val (.int f5), .val (.int f6), .val (.ref b102), .val (.ref ar_104), .val (.ref ar_105), .val (.int (0 : Int32)), .unset, .unset] [])
        refine Go.step (fun _ k => XS.iload X111.here hx rfl (hb hby at_187) rfl k) ?_
        show Go _ _ _ _ _ _ _ T111 (mkF m 189 #[.val (.int is_), .val (.int ii), .val (.int iv), .val (.int ig), .val (.int sp), .val (.int f5), .val (.int f6), .val (.ref b102), .val (.ref ar_104), .val (.ref ar_105), .val (.int (0 : Int32)), .unset, .unset] [(.int f6)])
        by_cases hc189_115 : f6 = (0 : Int32)
        · refine Go.step (fun _ k => XS.ifYes X111.here hx rfl (pc0 := 189) (pc' := 197) rfl (hb hby at_189) rfl ((if0 _ _).trans (teq hc189_115).1) (by decide) (by decide) k) ?_
          show Go _ _ _ _ _ _ _ T111 (mkF m 197 #[.val (.int is_), .val (.int ii), .val (.int iv), .val (.int ig), .val (.int sp), .val (.int f5), .val (.int f6), .val (.ref b102), .val (.ref ar_104), .val (.ref ar_105), .val (.int (0 : Int32)), .unset, .unset] [])
          refine Go.step (fun _ k => XS.aload X111.here hx rfl (hb hby at_197) rfl rfl k) ?_
          show Go _ _ _ _ _ _ _ T111 (mkF m 199 #[.val (.int is_), .val (.int ii), .val (.int iv), .val (.int ig), .val (.int sp), .val (.int f5), .val (.int f6), .val (.ref b102), .val (.ref ar_104), .val (.ref ar_105), .val (.int (0 : Int32)), .unset, .unset] [(.ref b102)])
          obtain ⟨cq116, kq116, q116a, q116b, q116c⟩ := isOf hZ e111 E1_105
          obtain ⟨_, _, ⟨T116, L116, k116, n116⟩, -, X116, ⟨Lc116, hQ116, l116, y116, z116⟩, st116⟩ := X111.virtualBack hx (y := (⟨"com/example/termvault/termvault/MarkArrays", "counts", "()[I"⟩ : MethodName)) (z := (⟨"com/example/termvault/termvault/MarkArrays", "counts", "()[I"⟩ : MethodName)) hown (mvT hZ (hw _ (List.mem_of_getElem? (i := 19) rfl))) (mvT hZ (hw _ (List.mem_of_getElem? (i := 20) rfl))) (notFace_of_selects (args := #[]) (mvT hZ (hw _ (List.mem_of_getElem? (i := 22) rfl)))) (mvT hZ (hw _ (List.mem_of_getElem? (i := 22) rfl))) (mvT hZ (hw _ (List.mem_of_getElem? (i := 21) rfl))) (by decide) (backOf (W := 0) (rmCt l Z a0 hw [] b102 ac_103 kc_103 (((List.replicate 16 Value.null).set (0 : Int32).toNatClampNeg (.ref ar_104)).set (1 : Int32).toNatClampNeg (.ref ar_105)) (2 : Int32) sp tq ap_103 h105 n0 Z105 E1_105 Fc1_105 Ft1_105 Fs1_105 Vc1_105 Fo1_105 Fq1_105 oc_103 g_b102 g_ac_103 ne_b102_ac_103 (by decide) (by decide) (by simp only [List.length_set, List.length_replicate]; rfl) ((own_n (by decide)).trans ((own_n (by decide)).trans own_rep)) hs0 hs1) hZ (hw _ (List.mem_of_getElem? (i := 23) rfl)) (hw _ (List.mem_of_getElem? (i := 2) rfl)) (by decide) (by decide)) q116a q116c (g := (mkF m 199 #[.val (.int is_), .val (.int ii), .val (.int iv), .val (.int ig), .val (.int sp), .val (.int f5), .val (.int f6), .val (.ref b102), .val (.ref ar_104), .val (.ref ar_105), .val (.int (0 : Int32)), .unset, .unset] [(.ref b102)])) rfl (by rw [hml]; rfl) (Steps.refl _) (argsL := []) (rest := []) (lenOf pd____I rfl) rfl (by show 2 * 0 + _ ≤ _; exact Nat.le_of_eq rfl) (hb hby at_199) (fun _ _ => ⟨rfl, e111, (by decide : 6 + 1 ≤ _), (by decide : 3106 + 1023 ≤ _)⟩)
          dsimp only [Pt.U, Pt.locs, Pt.cells, Pt.slots] at X116 l116 y116 z116 st116 hQ116
          subst l116 y116 z116
          obtain ⟨h116, e116⟩ : ∃ h, T116.heap = h := ⟨_, rfl⟩
          rw [e116] at hQ116
          obtain ⟨ar_116, kr_116, rfl, Nq116, Kq116, sa_116, E1_116, Fc1_116, Ft1_116, Fs1_116, Fo1_116, Fq1_116, Vc1_116, Vr_116, Er_116⟩ := hQ116
          have N116 := Fr.app N111 Nq116
          have Z116 : n0 ≤ h116.size := Nat.le_trans Z105 Kq116.1
          have g_ar_116 : n0 ≤ ar_116 := Nat.le_trans Z105 sa_116
          have ne_ac_103_ar_116 : ac_103 ≠ ar_116 := Nat.ne_of_lt (Nat.lt_of_lt_of_le Vc1_105.lt sa_116)
          have ne_ar_104_ar_116 : ar_104 ≠ ar_116 := Nat.ne_of_lt (Nat.lt_of_lt_of_le f106.lt sa_116)
          have ne_ar_105_ar_116 : ar_105 ≠ ar_116 := Nat.ne_of_lt (Nat.lt_of_lt_of_le Er_105.lt sa_116)
          have ne_b102_ar_116 : b102 ≠ ar_116 := Nat.ne_of_lt (Nat.lt_of_lt_of_le E1_105.lt sa_116)
          have Ft1_116 : Fld Z h116 b102 "com/example/termvault/termvault/MarkArrays" "countsTaken" "I" (.int (3 : Int32)) := Ft1_116
          refine Go.trans st116 ?_
          show Go _ _ _ _ _ _ _ T116 (mkF m 202 #[.val (.int is_), .val (.int ii), .val (.int iv), .val (.int ig), .val (.int sp), .val (.int f5), .val (.int f6), .val (.ref b102), .val (.ref ar_104), .val (.ref ar_105), .val (.int (0 : Int32)), .unset, .unset] [(.ref ar_116)])
          refine Go.step (fun _ k => XS.astore X116.here hx rfl (hb hby at_202) rfl rfl (l' := #[.val (.int is_), .val (.int ii), .val (.int iv), .val (.int ig), .val (.int sp), .val (.int f5), .val (.int f6), .val (.ref b102), .val (.ref ar_104), .val (.ref ar_105), .val (.int (0 : Int32)), .val (.ref ar_116), .unset]) rfl k) ?_
          show Go _ _ _ _ _ _ _ T116 (mkF m 204 #[.val (.int is_), .val (.int ii), .val (.int iv), .val (.int ig), .val (.int sp), .val (.int f5), .val (.int f6), .val (.ref b102), .val (.ref ar_104), .val (.ref ar_105), .val (.int (0 : Int32)), .val (.ref ar_116), .unset] [])
          refine Go.step (fun _ k => XS.aload X116.here hx rfl (hb hby at_204) rfl rfl k) ?_
          show Go _ _ _ _ _ _ _ T116 (mkF m 206 #[.val (.int is_), .val (.int ii), .val (.int iv), .val (.int ig), .val (.int sp), .val (.int f5), .val (.int f6), .val (.ref b102), .val (.ref ar_104), .val (.ref ar_105), .val (.int (0 : Int32)), .val (.ref ar_116), .unset] [(.ref b102)])
          obtain ⟨cq117, kq117, q117a, q117b, q117c⟩ := isOf hZ e116 E1_116
          obtain ⟨_, _, ⟨T117, L117, k117, n117⟩, -, X117, ⟨Lc117, hQ117, l117, y117, z117⟩, st117⟩ := X116.virtualBack hx (y := (⟨"com/example/termvault/termvault/MarkArrays", "counts", "()[I"⟩ : MethodName)) (z := (⟨"com/example/termvault/termvault/MarkArrays", "counts", "()[I"⟩ : MethodName)) hown (mvT hZ (hw _ (List.mem_of_getElem? (i := 19) rfl))) (mvT hZ (hw _ (List.mem_of_getElem? (i := 20) rfl))) (notFace_of_selects (args := #[]) (mvT hZ (hw _ (List.mem_of_getElem? (i := 22) rfl)))) (mvT hZ (hw _ (List.mem_of_getElem? (i := 22) rfl))) (mvT hZ (hw _ (List.mem_of_getElem? (i := 21) rfl))) (by decide) (backOf (W := 0) (rmCt l Z a0 hw [] b102 ac_103 kc_103 ((((List.replicate 16 Value.null).set (0 : Int32).toNatClampNeg (.ref ar_104)).set (1 : Int32).toNatClampNeg (.ref ar_105)).set (2 : Int32).toNatClampNeg (.ref ar_116)) (3 : Int32) sp tq ap_103 h116 n0 Z116 E1_116 Fc1_116 Ft1_116 Fs1_116 Vc1_116 Fo1_116 Fq1_116 oc_103 g_b102 g_ac_103 ne_b102_ac_103 (by decide) (by decide) (by simp only [List.length_set, List.length_replicate]; rfl) ((own_n (by decide)).trans ((own_n (by decide)).trans ((own_n (by decide)).trans own_rep))) hs0 hs1) hZ (hw _ (List.mem_of_getElem? (i := 23) rfl)) (hw _ (List.mem_of_getElem? (i := 2) rfl)) (by decide) (by decide)) q117a q117c (g := (mkF m 206 #[.val (.int is_), .val (.int ii), .val (.int iv), .val (.int ig), .val (.int sp), .val (.int f5), .val (.int f6), .val (.ref b102), .val (.ref ar_104), .val (.ref ar_105), .val (.int (0 : Int32)), .val (.ref ar_116), .unset] [(.ref b102)])) rfl (by rw [hml]; rfl) (Steps.refl _) (argsL := []) (rest := []) (lenOf pd____I rfl) rfl (by show 2 * 0 + _ ≤ _; exact Nat.le_of_eq rfl) (hb hby at_206) (fun _ _ => ⟨rfl, e116, (by decide : 7 + 1 ≤ _), (by decide : 4129 + 1023 ≤ _)⟩)
          dsimp only [Pt.U, Pt.locs, Pt.cells, Pt.slots] at X117 l117 y117 z117 st117 hQ117
          subst l117 y117 z117
          obtain ⟨h117, e117⟩ : ∃ h, T117.heap = h := ⟨_, rfl⟩
          rw [e117] at hQ117
          have f118 : Arv Z h116 ar_104 kr_104 .int sp [] (.int (0 : Int32)) := (f106.keep Kq116 (ninS (Ne.symm ne_b102_ar_104) (ninS (Ne.symm ne_ac_103_ar_104) nin0)))
          have f119 : Exa Z h116 ar_105 "[I" := (Er_105.keep Kq116)
          obtain ⟨ar_117, kr_117, rfl, Nq117, Kq117, sa_117, E1_117, Fc1_117, Ft1_117, Fs1_117, Fo1_117, Fq1_117, Vc1_117, Vr_117, Er_117⟩ := hQ117
          have N117 := Fr.app N116 Nq117
          have Z117 : n0 ≤ h117.size := Nat.le_trans Z116 Kq117.1
          have g_ar_117 : n0 ≤ ar_117 := Nat.le_trans Z116 sa_117
          have ne_ac_103_ar_117 : ac_103 ≠ ar_117 := Nat.ne_of_lt (Nat.lt_of_lt_of_le Vc1_116.lt sa_117)
          have ne_ar_104_ar_117 : ar_104 ≠ ar_117 := Nat.ne_of_lt (Nat.lt_of_lt_of_le f118.lt sa_117)
          have ne_ar_105_ar_117 : ar_105 ≠ ar_117 := Nat.ne_of_lt (Nat.lt_of_lt_of_le f119.lt sa_117)
          have ne_ar_116_ar_117 : ar_116 ≠ ar_117 := Nat.ne_of_lt (Nat.lt_of_lt_of_le Er_116.lt sa_117)
          have ne_b102_ar_117 : b102 ≠ ar_117 := Nat.ne_of_lt (Nat.lt_of_lt_of_le E1_116.lt sa_117)
          have Ft1_117 : Fld Z h117 b102 "com/example/termvault/termvault/MarkArrays" "countsTaken" "I" (.int (4 : Int32)) := Ft1_117
          refine Go.trans st117 ?_
          show Go _ _ _ _ _ _ _ T117 (mkF m 209 #[.val (.int is_), .val (.int ii), .val (.int iv), .val (.int ig), .val (.int sp), .val (.int f5), .val (.int f6), .val (.ref b102), .val (.ref ar_104), .val (.ref ar_105), .val (.int (0 : Int32)), .val (.ref ar_116), .unset] [(.ref ar_117)])
          refine Go.step (fun _ k => XS.astore X117.here hx rfl (hb hby at_209) rfl rfl (l' := #[.val (.int is_), .val (.int ii), .val (.int iv), .val (.int ig), .val (.int sp), .val (.int f5), .val (.int f6), .val (.ref b102), .val (.ref ar_104), .val (.ref ar_105), .val (.int (0 : Int32)), .val (.ref ar_116), .val (.ref ar_117)]) rfl k) ?_
          show Go _ _ _ _ _ _ _ T117 (mkF m 211 #[.val (.int is_), .val (.int ii), .val (.int iv), .val (.int ig), .val (.int sp), .val (.int f5), .val (.int f6), .val (.ref b102), .val (.ref ar_104), .val (.ref ar_105), .val (.int (0 : Int32)), .val (.ref ar_116), .val (.ref ar_117)] [])
          refine Go.step (fun _ k => XS.aload X117.here hx rfl (hb hby at_211) rfl rfl k) ?_
          show Go _ _ _ _ _ _ _ T117 (mkF m 213 #[.val (.int is_), .val (.int ii), .val (.int iv), .val (.int ig), .val (.int sp), .val (.int f5), .val (.int f6), .val (.ref b102), .val (.ref ar_104), .val (.ref ar_105), .val (.int (0 : Int32)), .val (.ref ar_116), .val (.ref ar_117)] [(.ref ar_116)])
          refine Go.step (fun _ k => XS.ifnullNo X117.here hx rfl (hb hby at_213) rfl k) ?_
          show Go _ _ _ _ _ _ _ T117 (mkF m 216 #[.val (.int is_), .val (.int ii), .val (.int iv), .val (.int ig), .val (.int sp), .val (.int f5), .val (.int f6), .val (.ref b102), .val (.ref ar_104), .val (.ref ar_105), .val (.int (0 : Int32)), .val (.ref ar_116), .val (.ref ar_117)] [])
          refine Go.step (fun _ k => XS.aload X117.here hx rfl (hb hby at_216) rfl rfl k) ?_
          show Go _ _ _ _ _ _ _ T117 (mkF m 218 #[.val (.int is_), .val (.int ii), .val (.int iv), .val (.int ig), .val (.int sp), .val (.int f5), .val (.int f6), .val (.ref b102), .val (.ref ar_104), .val (.ref ar_105), .val (.int (0 : Int32)), .val (.ref ar_116), .val (.ref ar_117)] [(.ref ar_117)])
          refine Go.step (fun _ k => XS.ifnonnullYes X117.here hx rfl (pc0 := 218) (pc' := 223) rfl (hb hby at_218) rfl (by decide) (by decide) k) ?_
          show Go _ _ _ _ _ _ _ T117 (mkF m 223 #[.val (.int is_), .val (.int ii), .val (.int iv), .val (.int ig), .val (.int sp), .val (.int f5), .val (.int f6), .val (.ref b102), .val (.ref ar_104), .val (.ref ar_105), .val (.int (0 : Int32)), .val (.ref ar_116), .val (.ref ar_117)] [])
          refine Go.step (fun _ k => XS.aload X117.here hx rfl (hb hby at_223) rfl rfl k) ?_
          show Go _ _ _ _ _ _ _ T117 (mkF m 225 #[.val (.int is_), .val (.int ii), .val (.int iv), .val (.int ig), .val (.int sp), .val (.int f5), .val (.int f6), .val (.ref b102), .val (.ref ar_104), .val (.ref ar_105), .val (.int (0 : Int32)), .val (.ref ar_116), .val (.ref ar_117)] [(.ref ar_116)])
          have f120 : Arv Z h117 ar_116 kr_116 .int sp [] (.int (0 : Int32)) := (Vr_116.keep Kq117 (ninS (Ne.symm ne_b102_ar_116) (ninS (Ne.symm ne_ac_103_ar_116) nin0)))
          obtain ⟨cl121, Ar121, -, S121, M121, -, -⟩ := id (f120)
          have al121 := X117.arraylength hx (by rw [e117]; exact Ar121.1) (State.isArrayOf_alike hZ.alike Ar121.2.1) (g := (mkF m 225 #[.val (.int is_), .val (.int ii), .val (.int iv), .val (.int ig), .val (.int sp), .val (.int f5), .val (.int f6), .val (.ref b102), .val (.ref ar_104), .val (.ref ar_105), .val (.int (0 : Int32)), .val (.ref ar_116), .val (.ref ar_117)] [(.ref ar_116)])) rfl rfl (hb hby at_225)
          rw [len_of S121 M121] at al121
          refine Go.step al121 ?_
          show Go _ _ _ _ _ _ _ T117 (mkF m 226 #[.val (.int is_), .val (.int ii), .val (.int iv), .val (.int ig), .val (.int sp), .val (.int f5), .val (.int f6), .val (.ref b102), .val (.ref ar_104), .val (.ref ar_105), .val (.int (0 : Int32)), .val (.ref ar_116), .val (.ref ar_117)] [(.int sp)])
          refine Go.step (fun _ k => XS.iload X117.here hx rfl (hb hby at_226) rfl k) ?_
          show Go _ _ _ _ _ _ _ T117 (mkF m 228 #[.val (.int is_), .val (.int ii), .val (.int iv), .val (.int ig), .val (.int sp), .val (.int f5), .val (.int f6), .val (.ref b102), .val (.ref ar_104), .val (.ref ar_105), .val (.int (0 : Int32)), .val (.ref ar_116), .val (.ref ar_117)] [(.int sp), (.int sp)])
          have hc228_122 : sp = sp := rfl
          refine Go.step (fun _ k => XS.icmpNo X117.here hx rfl (hb hby at_228) rfl (teq hc228_122).2 k) ?_
          show Go _ _ _ _ _ _ _ T117 (mkF m 231 #[.val (.int is_), .val (.int ii), .val (.int iv), .val (.int ig), .val (.int sp), .val (.int f5), .val (.int f6), .val (.ref b102), .val (.ref ar_104), .val (.ref ar_105), .val (.int (0 : Int32)), .val (.ref ar_116), .val (.ref ar_117)] [])
          refine Go.step (fun _ k => XS.aload X117.here hx rfl (hb hby at_231) rfl rfl k) ?_
          show Go _ _ _ _ _ _ _ T117 (mkF m 233 #[.val (.int is_), .val (.int ii), .val (.int iv), .val (.int ig), .val (.int sp), .val (.int f5), .val (.int f6), .val (.ref b102), .val (.ref ar_104), .val (.ref ar_105), .val (.int (0 : Int32)), .val (.ref ar_116), .val (.ref ar_117)] [(.ref ar_117)])
          obtain ⟨cl123, Ar123, -, S123, M123, -, -⟩ := id (Vr_117)
          have al123 := X117.arraylength hx (by rw [e117]; exact Ar123.1) (State.isArrayOf_alike hZ.alike Ar123.2.1) (g := (mkF m 233 #[.val (.int is_), .val (.int ii), .val (.int iv), .val (.int ig), .val (.int sp), .val (.int f5), .val (.int f6), .val (.ref b102), .val (.ref ar_104), .val (.ref ar_105), .val (.int (0 : Int32)), .val (.ref ar_116), .val (.ref ar_117)] [(.ref ar_117)])) rfl rfl (hb hby at_233)
          rw [len_of S123 M123] at al123
          refine Go.step al123 ?_
          show Go _ _ _ _ _ _ _ T117 (mkF m 234 #[.val (.int is_), .val (.int ii), .val (.int iv), .val (.int ig), .val (.int sp), .val (.int f5), .val (.int f6), .val (.ref b102), .val (.ref ar_104), .val (.ref ar_105), .val (.int (0 : Int32)), .val (.ref ar_116), .val (.ref ar_117)] [(.int sp)])
          refine Go.step (fun _ k => XS.iload X117.here hx rfl (hb hby at_234) rfl k) ?_
          show Go _ _ _ _ _ _ _ T117 (mkF m 236 #[.val (.int is_), .val (.int ii), .val (.int iv), .val (.int ig), .val (.int sp), .val (.int f5), .val (.int f6), .val (.ref b102), .val (.ref ar_104), .val (.ref ar_105), .val (.int (0 : Int32)), .val (.ref ar_116), .val (.ref ar_117)] [(.int sp), (.int sp)])
          have hc236_124 : sp = sp := rfl
          refine Go.step (fun _ k => XS.icmpNo X117.here hx rfl (hb hby at_236) rfl (teq hc236_124).2 k) ?_
          show Go _ _ _ _ _ _ _ T117 (mkF m 239 #[.val (.int is_), .val (.int ii), .val (.int iv), .val (.int ig), .val (.int sp), .val (.int f5), .val (.int f6), .val (.ref b102), .val (.ref ar_104), .val (.ref ar_105), .val (.int (0 : Int32)), .val (.ref ar_116), .val (.ref ar_117)] [])
          refine Go.step (fun _ k => XS.aload X117.here hx rfl (hb hby at_239) rfl rfl k) ?_
          show Go _ _ _ _ _ _ _ T117 (mkF m 241 #[.val (.int is_), .val (.int ii), .val (.int iv), .val (.int ig), .val (.int sp), .val (.int f5), .val (.int f6), .val (.ref b102), .val (.ref ar_104), .val (.ref ar_105), .val (.int (0 : Int32)), .val (.ref ar_116), .val (.ref ar_117)] [(.ref ar_116)])
          refine Go.step (fun _ k => XS.aload X117.here hx rfl (hb hby at_241) rfl rfl k) ?_
          show Go _ _ _ _ _ _ _ T117 (mkF m 243 #[.val (.int is_), .val (.int ii), .val (.int iv), .val (.int ig), .val (.int sp), .val (.int f5), .val (.int f6), .val (.ref b102), .val (.ref ar_104), .val (.ref ar_105), .val (.int (0 : Int32)), .val (.ref ar_116), .val (.ref ar_117)] [(.ref ar_117), (.ref ar_116)])
          refine Go.step (fun _ k => Jvm.RoadKit.acmp (g := (mkF m 243 #[.val (.int is_), .val (.int ii), .val (.int iv), .val (.int ig), .val (.int sp), .val (.int f5), .val (.int f6), .val (.ref b102), .val (.ref ar_104), .val (.ref ar_105), .val (.int (0 : Int32)), .val (.ref ar_116), .val (.ref ar_117)] [(.ref ar_117), (.ref ar_116)])) X117 hx rfl rfl rfl (pc0 := 243) (pc' := 248) (same := false) rfl (hb hby at_243) rfl (decide_eq_false fun q => ne_ar_116_ar_117 (Value.ref.inj q)) (by decide) (by decide) k) ?_
          show Go _ _ _ _ _ _ _ T117 (mkF m 248 #[.val (.int is_), .val (.int ii), .val (.int iv), .val (.int ig), .val (.int sp), .val (.int f5), .val (.int f6), .val (.ref b102), .val (.ref ar_104), .val (.ref ar_105), .val (.int (0 : Int32)), .val (.ref ar_116), .val (.ref ar_117)] [])
          refine Go.step (fun _ k => XS.iload X117.here hx rfl (hb hby at_248) rfl k) ?_
          show Go _ _ _ _ _ _ _ T117 (mkF m 250 #[.val (.int is_), .val (.int ii), .val (.int iv), .val (.int ig), .val (.int sp), .val (.int f5), .val (.int f6), .val (.ref b102), .val (.ref ar_104), .val (.ref ar_105), .val (.int (0 : Int32)), .val (.ref ar_116), .val (.ref ar_117)] [(.int f6)])
          have hc250_125 : f6 = (0 : Int32) := hc189_115
          refine Go.step (fun _ k => XS.ifYes X117.here hx rfl (pc0 := 250) (pc' := 296) rfl (hb hby at_250) rfl ((if0 _ _).trans (teq hc250_125).1) (by decide) (by decide) k) ?_
          show Go _ _ _ _ _ _ _ T117 (mkF m 296 #[.val (.int is_), .val (.int ii), .val (.int iv), .val (.int ig), .val (.int sp), .val (.int f5), .val (.int f6), .val (.ref b102), .val (.ref ar_104), .val (.ref ar_105), .val (.int (0 : Int32)), .val (.ref ar_116), .val (.ref ar_117)] [])
          refine Go.step (fun _ k => XS.aload X117.here hx rfl (hb hby at_296) rfl rfl k) ?_
          show Go _ _ _ _ _ _ _ T117 (mkF m 298 #[.val (.int is_), .val (.int ii), .val (.int iv), .val (.int ig), .val (.int sp), .val (.int f5), .val (.int f6), .val (.ref b102), .val (.ref ar_104), .val (.ref ar_105), .val (.int (0 : Int32)), .val (.ref ar_116), .val (.ref ar_117)] [(.ref ar_116)])
          refine Go.step (fun _ k => XS.aload X117.here hx rfl (hb hby at_298) rfl rfl k) ?_
          show Go _ _ _ _ _ _ _ T117 (mkF m 300 #[.val (.int is_), .val (.int ii), .val (.int iv), .val (.int ig), .val (.int sp), .val (.int f5), .val (.int f6), .val (.ref b102), .val (.ref ar_104), .val (.ref ar_105), .val (.int (0 : Int32)), .val (.ref ar_116), .val (.ref ar_117)] [(.ref ar_104), (.ref ar_116)])
          refine Go.step (fun _ k => Jvm.RoadKit.acmp (g := (mkF m 300 #[.val (.int is_), .val (.int ii), .val (.int iv), .val (.int ig), .val (.int sp), .val (.int f5), .val (.int f6), .val (.ref b102), .val (.ref ar_104), .val (.ref ar_105), .val (.int (0 : Int32)), .val (.ref ar_116), .val (.ref ar_117)] [(.ref ar_104), (.ref ar_116)])) X117 hx rfl rfl rfl (pc0 := 300) (pc' := 303) (same := false) rfl (hb hby at_300) rfl (decide_eq_false fun q => (Ne.symm ne_ar_104_ar_116) (Value.ref.inj q)) (by decide) (by decide) k) ?_
          show Go _ _ _ _ _ _ _ T117 (mkF m 303 #[.val (.int is_), .val (.int ii), .val (.int iv), .val (.int ig), .val (.int sp), .val (.int f5), .val (.int f6), .val (.ref b102), .val (.ref ar_104), .val (.ref ar_105), .val (.int (0 : Int32)), .val (.ref ar_116), .val (.ref ar_117)] [])
          refine Go.step (fun _ k => XS.aload X117.here hx rfl (hb hby at_303) rfl rfl k) ?_
          show Go _ _ _ _ _ _ _ T117 (mkF m 305 #[.val (.int is_), .val (.int ii), .val (.int iv), .val (.int ig), .val (.int sp), .val (.int f5), .val (.int f6), .val (.ref b102), .val (.ref ar_104), .val (.ref ar_105), .val (.int (0 : Int32)), .val (.ref ar_116), .val (.ref ar_117)] [(.ref ar_116)])
          refine Go.step (fun _ k => XS.aload X117.here hx rfl (hb hby at_305) rfl rfl k) ?_
          show Go _ _ _ _ _ _ _ T117 (mkF m 307 #[.val (.int is_), .val (.int ii), .val (.int iv), .val (.int ig), .val (.int sp), .val (.int f5), .val (.int f6), .val (.ref b102), .val (.ref ar_104), .val (.ref ar_105), .val (.int (0 : Int32)), .val (.ref ar_116), .val (.ref ar_117)] [(.ref ar_105), (.ref ar_116)])
          refine Go.step (fun _ k => Jvm.RoadKit.acmp (g := (mkF m 307 #[.val (.int is_), .val (.int ii), .val (.int iv), .val (.int ig), .val (.int sp), .val (.int f5), .val (.int f6), .val (.ref b102), .val (.ref ar_104), .val (.ref ar_105), .val (.int (0 : Int32)), .val (.ref ar_116), .val (.ref ar_117)] [(.ref ar_105), (.ref ar_116)])) X117 hx rfl rfl rfl (pc0 := 307) (pc' := 310) (same := false) rfl (hb hby at_307) rfl (decide_eq_false fun q => (Ne.symm ne_ar_105_ar_116) (Value.ref.inj q)) (by decide) (by decide) k) ?_
          show Go _ _ _ _ _ _ _ T117 (mkF m 310 #[.val (.int is_), .val (.int ii), .val (.int iv), .val (.int ig), .val (.int sp), .val (.int f5), .val (.int f6), .val (.ref b102), .val (.ref ar_104), .val (.ref ar_105), .val (.int (0 : Int32)), .val (.ref ar_116), .val (.ref ar_117)] [])
          refine Go.step (fun _ k => XS.aload X117.here hx rfl (hb hby at_310) rfl rfl k) ?_
          show Go _ _ _ _ _ _ _ T117 (mkF m 312 #[.val (.int is_), .val (.int ii), .val (.int iv), .val (.int ig), .val (.int sp), .val (.int f5), .val (.int f6), .val (.ref b102), .val (.ref ar_104), .val (.ref ar_105), .val (.int (0 : Int32)), .val (.ref ar_116), .val (.ref ar_117)] [(.ref ar_117)])
          refine Go.step (fun _ k => XS.aload X117.here hx rfl (hb hby at_312) rfl rfl k) ?_
          show Go _ _ _ _ _ _ _ T117 (mkF m 314 #[.val (.int is_), .val (.int ii), .val (.int iv), .val (.int ig), .val (.int sp), .val (.int f5), .val (.int f6), .val (.ref b102), .val (.ref ar_104), .val (.ref ar_105), .val (.int (0 : Int32)), .val (.ref ar_116), .val (.ref ar_117)] [(.ref ar_104), (.ref ar_117)])
          refine Go.step (fun _ k => Jvm.RoadKit.acmp (g := (mkF m 314 #[.val (.int is_), .val (.int ii), .val (.int iv), .val (.int ig), .val (.int sp), .val (.int f5), .val (.int f6), .val (.ref b102), .val (.ref ar_104), .val (.ref ar_105), .val (.int (0 : Int32)), .val (.ref ar_116), .val (.ref ar_117)] [(.ref ar_104), (.ref ar_117)])) X117 hx rfl rfl rfl (pc0 := 314) (pc' := 317) (same := false) rfl (hb hby at_314) rfl (decide_eq_false fun q => (Ne.symm ne_ar_104_ar_117) (Value.ref.inj q)) (by decide) (by decide) k) ?_
          show Go _ _ _ _ _ _ _ T117 (mkF m 317 #[.val (.int is_), .val (.int ii), .val (.int iv), .val (.int ig), .val (.int sp), .val (.int f5), .val (.int f6), .val (.ref b102), .val (.ref ar_104), .val (.ref ar_105), .val (.int (0 : Int32)), .val (.ref ar_116), .val (.ref ar_117)] [])
          refine Go.step (fun _ k => XS.aload X117.here hx rfl (hb hby at_317) rfl rfl k) ?_
          show Go _ _ _ _ _ _ _ T117 (mkF m 319 #[.val (.int is_), .val (.int ii), .val (.int iv), .val (.int ig), .val (.int sp), .val (.int f5), .val (.int f6), .val (.ref b102), .val (.ref ar_104), .val (.ref ar_105), .val (.int (0 : Int32)), .val (.ref ar_116), .val (.ref ar_117)] [(.ref ar_117)])
          refine Go.step (fun _ k => XS.aload X117.here hx rfl (hb hby at_319) rfl rfl k) ?_
          show Go _ _ _ _ _ _ _ T117 (mkF m 321 #[.val (.int is_), .val (.int ii), .val (.int iv), .val (.int ig), .val (.int sp), .val (.int f5), .val (.int f6), .val (.ref b102), .val (.ref ar_104), .val (.ref ar_105), .val (.int (0 : Int32)), .val (.ref ar_116), .val (.ref ar_117)] [(.ref ar_105), (.ref ar_117)])
          refine Go.step (fun _ k => Jvm.RoadKit.acmp (g := (mkF m 321 #[.val (.int is_), .val (.int ii), .val (.int iv), .val (.int ig), .val (.int sp), .val (.int f5), .val (.int f6), .val (.ref b102), .val (.ref ar_104), .val (.ref ar_105), .val (.int (0 : Int32)), .val (.ref ar_116), .val (.ref ar_117)] [(.ref ar_105), (.ref ar_117)])) X117 hx rfl rfl rfl (pc0 := 321) (pc' := 326) (same := false) rfl (hb hby at_321) rfl (decide_eq_false fun q => (Ne.symm ne_ar_105_ar_117) (Value.ref.inj q)) (by decide) (by decide) k) ?_
          show Go _ _ _ _ _ _ _ T117 (mkF m 326 #[.val (.int is_), .val (.int ii), .val (.int iv), .val (.int ig), .val (.int sp), .val (.int f5), .val (.int f6), .val (.ref b102), .val (.ref ar_104), .val (.ref ar_105), .val (.int (0 : Int32)), .val (.ref ar_116), .val (.ref ar_117)] [])
          refine Go.step (fun _ k => XS.iload X117.here hx rfl (hb hby at_326) rfl k) ?_
          show Go _ _ _ _ _ _ _ T117 (mkF m 328 #[.val (.int is_), .val (.int ii), .val (.int iv), .val (.int ig), .val (.int sp), .val (.int f5), .val (.int f6), .val (.ref b102), .val (.ref ar_104), .val (.ref ar_105), .val (.int (0 : Int32)), .val (.ref ar_116), .val (.ref ar_117)] [(.int sp)])
          have hc328_126 : ¬ ((0 : Int32) < sp) := (by have := rng32 sp; have : (0 : Int32).toInt = 0 := rfl; have q0 := hc134_113; simp only [Int32.lt_iff_toInt_lt, Int32.le_iff_toInt_le, ← Int32.toInt_inj, Int64.lt_iff_toInt_lt, Int64.le_iff_toInt_le, ← Int64.toInt_inj] at q0 ⊢; omega)
          refine Go.step (fun _ k => XS.ifYes X117.here hx rfl (pc0 := 328) (pc' := 349) rfl (hb hby at_328) rfl ((if0 _ _).trans (flt hc328_126).2.2.2) (by decide) (by decide) k) ?_
          show Go _ _ _ _ _ _ _ T117 (mkF m 349 #[.val (.int is_), .val (.int ii), .val (.int iv), .val (.int ig), .val (.int sp), .val (.int f5), .val (.int f6), .val (.ref b102), .val (.ref ar_104), .val (.ref ar_105), .val (.int (0 : Int32)), .val (.ref ar_116), .val (.ref ar_117)] [])
          refine Go.step (fun _ k => XS.iconst X117.here hx rfl (hb hby at_349) k) ?_
          show Go _ _ _ _ _ _ _ T117 (mkF m 350 #[.val (.int is_), .val (.int ii), .val (.int iv), .val (.int ig), .val (.int sp), .val (.int f5), .val (.int f6), .val (.ref b102), .val (.ref ar_104), .val (.ref ar_105), .val (.int (0 : Int32)), .val (.ref ar_116), .val (.ref ar_117)] [(.int (1 : Int32))])
          exact Go.retN X117 hx (t := .boolean) hret hlk (by simp) (hb hby at_350) e117 (by decide) (by decide) ⟨rfl, N117, trivial⟩
        · refine Go.step (fun _ k => XS.ifNo X111.here hx rfl (hb hby at_189) rfl ((if0 _ _).trans (feq hc189_115).1) k) ?_
          show Go _ _ _ _ _ _ _ T111 (mkF m 192 #[.val (.int is_), .val (.int ii), .val (.int iv), .val (.int ig), .val (.int sp), .val (.int f5), .val (.int f6), .val (.ref b102), .val (.ref ar_104), .val (.ref ar_105), .val (.int (0 : Int32)), .unset, .unset] [])
          refine Go.step (fun _ k => XS.aload X111.here hx rfl (hb hby at_192) rfl rfl k) ?_
          show Go _ _ _ _ _ _ _ T111 (mkF m 194 #[.val (.int is_), .val (.int ii), .val (.int iv), .val (.int ig), .val (.int sp), .val (.int f5), .val (.int f6), .val (.ref b102), .val (.ref ar_104), .val (.ref ar_105), .val (.int (0 : Int32)), .unset, .unset] [(.ref b102)])
          obtain ⟨cq127, kq127, q127a, q127b, q127c⟩ := isOf hZ e111 E1_105
          obtain ⟨_, _, ⟨T127, L127, k127, n127⟩, -, X127, ⟨Lc127, hQ127, l127, y127, z127⟩, st127⟩ := X111.virtualBack hx (y := (⟨"com/example/termvault/termvault/MarkArrays", "restart", "()V"⟩ : MethodName)) (z := (⟨"com/example/termvault/termvault/MarkArrays", "restart", "()V"⟩ : MethodName)) hown (mvT hZ (hw _ (List.mem_of_getElem? (i := 43) rfl))) (mvT hZ (hw _ (List.mem_of_getElem? (i := 44) rfl))) (notFace_of_selects (args := #[]) (mvT hZ (hw _ (List.mem_of_getElem? (i := 46) rfl)))) (mvT hZ (hw _ (List.mem_of_getElem? (i := 46) rfl))) (mvT hZ (hw _ (List.mem_of_getElem? (i := 45) rfl))) (by decide) (backOf (W := 0) (rmRe l Z a0 hw [] b102 (2 : Int32) tq sp ac_103 ap_103 h105 n0 Z105 E1_105 Ft1_105 Fo1_105 Fs1_105 Fc1_105 Fq1_105 g_b102) hZ (hw _ (List.mem_of_getElem? (i := 47) rfl)) (hw _ (List.mem_of_getElem? (i := 2) rfl)) (by decide) (by decide)) q127a q127c (g := (mkF m 194 #[.val (.int is_), .val (.int ii), .val (.int iv), .val (.int ig), .val (.int sp), .val (.int f5), .val (.int f6), .val (.ref b102), .val (.ref ar_104), .val (.ref ar_105), .val (.int (0 : Int32)), .unset, .unset] [(.ref b102)])) rfl (by rw [hml]; rfl) (Steps.refl _) (argsL := []) (rest := []) (lenOf pd___V rfl) rfl (by show 2 * 0 + _ ≤ _; exact Nat.le_of_eq rfl) (hb hby at_194) (fun _ _ => ⟨rfl, e111, (by decide : 6 + 0 ≤ _), (by decide : 3106 + 0 ≤ _)⟩)
          dsimp only [Pt.U, Pt.locs, Pt.cells, Pt.slots] at X127 l127 y127 z127 st127 hQ127
          subst l127 y127 z127
          obtain ⟨h127, e127⟩ : ∃ h, T127.heap = h := ⟨_, rfl⟩
          rw [e127] at hQ127
          obtain ⟨rfl, Nq127, Kq127, E1_127, Ft1_127, Fu1_127, Fs1_127, Fc1_127, Fp1_127⟩ := hQ127
          have N127 := Fr.app N111 Nq127
          have Z127 : n0 ≤ h127.size := Nat.le_trans Z105 Kq127.1
          refine Go.trans st127 ?_
          show Go _ _ _ _ _ _ _ T127 (mkF m 197 #[.val (.int is_), .val (.int ii), .val (.int iv), .val (.int ig), .val (.int sp), .val (.int f5), .val (.int f6), .val (.ref b102), .val (.ref ar_104), .val (.ref ar_105), .val (.int (0 : Int32)), .unset, .unset] [])
          refine Go.step (fun _ k => XS.aload X127.here hx rfl (hb hby at_197) rfl rfl k) ?_
          show Go _ _ _ _ _ _ _ T127 (mkF m 199 #[.val (.int is_), .val (.int ii), .val (.int iv), .val (.int ig), .val (.int sp), .val (.int f5), .val (.int f6), .val (.ref b102), .val (.ref ar_104), .val (.ref ar_105), .val (.int (0 : Int32)), .unset, .unset] [(.ref b102)])
          have f129 : Arv Z h127 ac_103 kc_103 (.array .int) (16 : Int32) (((List.replicate 16 Value.null).set (0 : Int32).toNatClampNeg (.ref ar_104)).set (1 : Int32).toNatClampNeg (.ref ar_105)) .null := (Vc1_105.keep Kq127 (ninS (Ne.symm ne_b102_ac_103) nin0))
          obtain ⟨cq128, kq128, q128a, q128b, q128c⟩ := isOf hZ e127 E1_127
          obtain ⟨_, _, ⟨T128, L128, k128, n128⟩, -, X128, ⟨Lc128, hQ128, l128, y128, z128⟩, st128⟩ := X127.virtualBack hx (y := (⟨"com/example/termvault/termvault/MarkArrays", "counts", "()[I"⟩ : MethodName)) (z := (⟨"com/example/termvault/termvault/MarkArrays", "counts", "()[I"⟩ : MethodName)) hown (mvT hZ (hw _ (List.mem_of_getElem? (i := 19) rfl))) (mvT hZ (hw _ (List.mem_of_getElem? (i := 20) rfl))) (notFace_of_selects (args := #[]) (mvT hZ (hw _ (List.mem_of_getElem? (i := 22) rfl)))) (mvT hZ (hw _ (List.mem_of_getElem? (i := 22) rfl))) (mvT hZ (hw _ (List.mem_of_getElem? (i := 21) rfl))) (by decide) (backOf (W := 0) (rmCa l Z a0 hw [] b102 ac_103 kc_103 (((List.replicate 16 Value.null).set (0 : Int32).toNatClampNeg (.ref ar_104)).set (1 : Int32).toNatClampNeg (.ref ar_105)) (0 : Int32) sp ar_104 (0 : Int32) ap_103 h127 n0 Z127 E1_127 Fc1_127 Ft1_127 Fs1_127 f129 Fu1_127 Fp1_127 g_b102 ne_b102_ac_103 (by decide) (by decide) ((own_n (by decide)).trans (own_g (by simp [List.length_set])))) hZ (hw _ (List.mem_of_getElem? (i := 23) rfl)) (hw _ (List.mem_of_getElem? (i := 2) rfl)) (by decide) (by decide)) q128a q128c (g := (mkF m 199 #[.val (.int is_), .val (.int ii), .val (.int iv), .val (.int ig), .val (.int sp), .val (.int f5), .val (.int f6), .val (.ref b102), .val (.ref ar_104), .val (.ref ar_105), .val (.int (0 : Int32)), .unset, .unset] [(.ref b102)])) rfl (by rw [hml]; rfl) (Steps.refl _) (argsL := []) (rest := []) (lenOf pd____I rfl) rfl (by show 2 * 0 + _ ≤ _; exact Nat.le_of_eq rfl) (hb hby at_199) (fun _ _ => ⟨rfl, e127, (by decide : 6 + 0 ≤ _), (by decide : 3106 + 0 ≤ _)⟩)
          dsimp only [Pt.U, Pt.locs, Pt.cells, Pt.slots] at X128 l128 y128 z128 st128 hQ128
          subst l128 y128 z128
          obtain ⟨h128, e128⟩ : ∃ h, T128.heap = h := ⟨_, rfl⟩
          rw [e128] at hQ128
          obtain ⟨rfl, Nq128, Kq128, E1_128, Fc1_128, Ft1_128, Fs1_128, Fo1_128, Fq1_128⟩ := hQ128
          have N128 := Fr.app N127 Nq128
          have Z128 : n0 ≤ h128.size := Nat.le_trans Z127 Kq128.1
          have Ft1_128 : Fld Z h128 b102 "com/example/termvault/termvault/MarkArrays" "countsTaken" "I" (.int (1 : Int32)) := Ft1_128
          have Fo1_128 : Fld Z h128 b102 "com/example/termvault/termvault/MarkArrays" "positionsTaken" "I" (.int (0 : Int32)) := Fo1_128
          refine Go.trans st128 ?_
          show Go _ _ _ _ _ _ _ T128 (mkF m 202 #[.val (.int is_), .val (.int ii), .val (.int iv), .val (.int ig), .val (.int sp), .val (.int f5), .val (.int f6), .val (.ref b102), .val (.ref ar_104), .val (.ref ar_105), .val (.int (0 : Int32)), .unset, .unset] [(.ref ar_104)])
          refine Go.step (fun _ k => XS.astore X128.here hx rfl (hb hby at_202) rfl rfl (l' := #[.val (.int is_), .val (.int ii), .val (.int iv), .val (.int ig), .val (.int sp), .val (.int f5), .val (.int f6), .val (.ref b102), .val (.ref ar_104), .val (.ref ar_105), .val (.int (0 : Int32)), .val (.ref ar_104), .unset]) rfl k) ?_
          show Go _ _ _ _ _ _ _ T128 (mkF m 204 #[.val (.int is_), .val (.int ii), .val (.int iv), .val (.int ig), .val (.int sp), .val (.int f5), .val (.int f6), .val (.ref b102), .val (.ref ar_104), .val (.ref ar_105), .val (.int (0 : Int32)), .val (.ref ar_104), .unset] [])
          refine Go.step (fun _ k => XS.aload X128.here hx rfl (hb hby at_204) rfl rfl k) ?_
          show Go _ _ _ _ _ _ _ T128 (mkF m 206 #[.val (.int is_), .val (.int ii), .val (.int iv), .val (.int ig), .val (.int sp), .val (.int f5), .val (.int f6), .val (.ref b102), .val (.ref ar_104), .val (.ref ar_105), .val (.int (0 : Int32)), .val (.ref ar_104), .unset] [(.ref b102)])
          have f131 : Arv Z h128 ac_103 kc_103 (.array .int) (16 : Int32) (((List.replicate 16 Value.null).set (0 : Int32).toNatClampNeg (.ref ar_104)).set (1 : Int32).toNatClampNeg (.ref ar_105)) .null := (f129.keep Kq128 (ninS (Ne.symm ne_b102_ac_103) nin0))
          obtain ⟨cq130, kq130, q130a, q130b, q130c⟩ := isOf hZ e128 E1_128
          obtain ⟨_, _, ⟨T130, L130, k130, n130⟩, -, X130, ⟨Lc130, hQ130, l130, y130, z130⟩, st130⟩ := X128.virtualBack hx (y := (⟨"com/example/termvault/termvault/MarkArrays", "counts", "()[I"⟩ : MethodName)) (z := (⟨"com/example/termvault/termvault/MarkArrays", "counts", "()[I"⟩ : MethodName)) hown (mvT hZ (hw _ (List.mem_of_getElem? (i := 19) rfl))) (mvT hZ (hw _ (List.mem_of_getElem? (i := 20) rfl))) (notFace_of_selects (args := #[]) (mvT hZ (hw _ (List.mem_of_getElem? (i := 22) rfl)))) (mvT hZ (hw _ (List.mem_of_getElem? (i := 22) rfl))) (mvT hZ (hw _ (List.mem_of_getElem? (i := 21) rfl))) (by decide) (backOf (W := 0) (rmCa l Z a0 hw [] b102 ac_103 kc_103 (((List.replicate 16 Value.null).set (0 : Int32).toNatClampNeg (.ref ar_104)).set (1 : Int32).toNatClampNeg (.ref ar_105)) (1 : Int32) sp ar_105 (0 : Int32) ap_103 h128 n0 Z128 E1_128 Fc1_128 Ft1_128 Fs1_128 f131 Fo1_128 Fq1_128 g_b102 ne_b102_ac_103 (by decide) (by decide) (own_g (by simp [List.length_set]))) hZ (hw _ (List.mem_of_getElem? (i := 23) rfl)) (hw _ (List.mem_of_getElem? (i := 2) rfl)) (by decide) (by decide)) q130a q130c (g := (mkF m 206 #[.val (.int is_), .val (.int ii), .val (.int iv), .val (.int ig), .val (.int sp), .val (.int f5), .val (.int f6), .val (.ref b102), .val (.ref ar_104), .val (.ref ar_105), .val (.int (0 : Int32)), .val (.ref ar_104), .unset] [(.ref b102)])) rfl (by rw [hml]; rfl) (Steps.refl _) (argsL := []) (rest := []) (lenOf pd____I rfl) rfl (by show 2 * 0 + _ ≤ _; exact Nat.le_of_eq rfl) (hb hby at_206) (fun _ _ => ⟨rfl, e128, (by decide : 6 + 0 ≤ _), (by decide : 3106 + 0 ≤ _)⟩)
          dsimp only [Pt.U, Pt.locs, Pt.cells, Pt.slots] at X130 l130 y130 z130 st130 hQ130
          subst l130 y130 z130
          obtain ⟨h130, e130⟩ : ∃ h, T130.heap = h := ⟨_, rfl⟩
          rw [e130] at hQ130
          obtain ⟨rfl, Nq130, Kq130, E1_130, Fc1_130, Ft1_130, Fs1_130, Fo1_130, Fq1_130⟩ := hQ130
          have N130 := Fr.app N128 Nq130
          have Z130 : n0 ≤ h130.size := Nat.le_trans Z128 Kq130.1
          have Ft1_130 : Fld Z h130 b102 "com/example/termvault/termvault/MarkArrays" "countsTaken" "I" (.int (2 : Int32)) := Ft1_130
          have Fo1_130 : Fld Z h130 b102 "com/example/termvault/termvault/MarkArrays" "positionsTaken" "I" (.int (0 : Int32)) := Fo1_130
          refine Go.trans st130 ?_
          show Go _ _ _ _ _ _ _ T130 (mkF m 209 #[.val (.int is_), .val (.int ii), .val (.int iv), .val (.int ig), .val (.int sp), .val (.int f5), .val (.int f6), .val (.ref b102), .val (.ref ar_104), .val (.ref ar_105), .val (.int (0 : Int32)), .val (.ref ar_104), .unset] [(.ref ar_105)])
          refine Go.step (fun _ k => XS.astore X130.here hx rfl (hb hby at_209) rfl rfl (l' := #[.val (.int is_), .val (.int ii), .val (.int iv), .val (.int ig), .val (.int sp), .val (.int f5), .val (.int f6), .val (.ref b102), .val (.ref ar_104), .val (.ref ar_105), .val (.int (0 : Int32)), .val (.ref ar_104), .val (.ref ar_105)]) rfl k) ?_
          show Go _ _ _ _ _ _ _ T130 (mkF m 211 #[.val (.int is_), .val (.int ii), .val (.int iv), .val (.int ig), .val (.int sp), .val (.int f5), .val (.int f6), .val (.ref b102), .val (.ref ar_104), .val (.ref ar_105), .val (.int (0 : Int32)), .val (.ref ar_104), .val (.ref ar_105)] [])
          refine Go.step (fun _ k => XS.aload X130.here hx rfl (hb hby at_211) rfl rfl k) ?_
          show Go _ _ _ _ _ _ _ T130 (mkF m 213 #[.val (.int is_), .val (.int ii), .val (.int iv), .val (.int ig), .val (.int sp), .val (.int f5), .val (.int f6), .val (.ref b102), .val (.ref ar_104), .val (.ref ar_105), .val (.int (0 : Int32)), .val (.ref ar_104), .val (.ref ar_105)] [(.ref ar_104)])
          refine Go.step (fun _ k => XS.ifnullNo X130.here hx rfl (hb hby at_213) rfl k) ?_
          show Go _ _ _ _ _ _ _ T130 (mkF m 216 #[.val (.int is_), .val (.int ii), .val (.int iv), .val (.int ig), .val (.int sp), .val (.int f5), .val (.int f6), .val (.ref b102), .val (.ref ar_104), .val (.ref ar_105), .val (.int (0 : Int32)), .val (.ref ar_104), .val (.ref ar_105)] [])
          refine Go.step (fun _ k => XS.aload X130.here hx rfl (hb hby at_216) rfl rfl k) ?_
          show Go _ _ _ _ _ _ _ T130 (mkF m 218 #[.val (.int is_), .val (.int ii), .val (.int iv), .val (.int ig), .val (.int sp), .val (.int f5), .val (.int f6), .val (.ref b102), .val (.ref ar_104), .val (.ref ar_105), .val (.int (0 : Int32)), .val (.ref ar_104), .val (.ref ar_105)] [(.ref ar_105)])
          refine Go.step (fun _ k => XS.ifnonnullYes X130.here hx rfl (pc0 := 218) (pc' := 223) rfl (hb hby at_218) rfl (by decide) (by decide) k) ?_
          show Go _ _ _ _ _ _ _ T130 (mkF m 223 #[.val (.int is_), .val (.int ii), .val (.int iv), .val (.int ig), .val (.int sp), .val (.int f5), .val (.int f6), .val (.ref b102), .val (.ref ar_104), .val (.ref ar_105), .val (.int (0 : Int32)), .val (.ref ar_104), .val (.ref ar_105)] [])
          refine Go.step (fun _ k => XS.aload X130.here hx rfl (hb hby at_223) rfl rfl k) ?_
          show Go _ _ _ _ _ _ _ T130 (mkF m 225 #[.val (.int is_), .val (.int ii), .val (.int iv), .val (.int ig), .val (.int sp), .val (.int f5), .val (.int f6), .val (.ref b102), .val (.ref ar_104), .val (.ref ar_105), .val (.int (0 : Int32)), .val (.ref ar_104), .val (.ref ar_105)] [(.ref ar_104)])
          have f132 : Arv Z h130 ar_104 kr_104 .int sp [] (.int (0 : Int32)) := (((f106.keep Kq127 (ninS (Ne.symm ne_b102_ar_104) nin0)).keep Kq128 (ninS (Ne.symm ne_b102_ar_104) nin0)).keep Kq130 (ninS (Ne.symm ne_b102_ar_104) nin0))
          obtain ⟨cl133, Ar133, -, S133, M133, -, -⟩ := id (f132)
          have al133 := X130.arraylength hx (by rw [e130]; exact Ar133.1) (State.isArrayOf_alike hZ.alike Ar133.2.1) (g := (mkF m 225 #[.val (.int is_), .val (.int ii), .val (.int iv), .val (.int ig), .val (.int sp), .val (.int f5), .val (.int f6), .val (.ref b102), .val (.ref ar_104), .val (.ref ar_105), .val (.int (0 : Int32)), .val (.ref ar_104), .val (.ref ar_105)] [(.ref ar_104)])) rfl rfl (hb hby at_225)
          rw [len_of S133 M133] at al133
          refine Go.step al133 ?_
          show Go _ _ _ _ _ _ _ T130 (mkF m 226 #[.val (.int is_), .val (.int ii), .val (.int iv), .val (.int ig), .val (.int sp), .val (.int f5), .val (.int f6), .val (.ref b102), .val (.ref ar_104), .val (.ref ar_105), .val (.int (0 : Int32)), .val (.ref ar_104), .val (.ref ar_105)] [(.int sp)])
          refine Go.step (fun _ k => XS.iload X130.here hx rfl (hb hby at_226) rfl k) ?_
          show Go _ _ _ _ _ _ _ T130 (mkF m 228 #[.val (.int is_), .val (.int ii), .val (.int iv), .val (.int ig), .val (.int sp), .val (.int f5), .val (.int f6), .val (.ref b102), .val (.ref ar_104), .val (.ref ar_105), .val (.int (0 : Int32)), .val (.ref ar_104), .val (.ref ar_105)] [(.int sp), (.int sp)])
          have hc228_134 : sp = sp := rfl
          refine Go.step (fun _ k => XS.icmpNo X130.here hx rfl (hb hby at_228) rfl (teq hc228_134).2 k) ?_
          show Go _ _ _ _ _ _ _ T130 (mkF m 231 #[.val (.int is_), .val (.int ii), .val (.int iv), .val (.int ig), .val (.int sp), .val (.int f5), .val (.int f6), .val (.ref b102), .val (.ref ar_104), .val (.ref ar_105), .val (.int (0 : Int32)), .val (.ref ar_104), .val (.ref ar_105)] [])
          refine Go.step (fun _ k => XS.aload X130.here hx rfl (hb hby at_231) rfl rfl k) ?_
          show Go _ _ _ _ _ _ _ T130 (mkF m 233 #[.val (.int is_), .val (.int ii), .val (.int iv), .val (.int ig), .val (.int sp), .val (.int f5), .val (.int f6), .val (.ref b102), .val (.ref ar_104), .val (.ref ar_105), .val (.int (0 : Int32)), .val (.ref ar_104), .val (.ref ar_105)] [(.ref ar_105)])
          have f135 : Arv Z h130 ar_105 kr_105 .int sp [] (.int (0 : Int32)) := (((Vr_105.keep Kq127 (ninS (Ne.symm ne_b102_ar_105) nin0)).keep Kq128 (ninS (Ne.symm ne_b102_ar_105) nin0)).keep Kq130 (ninS (Ne.symm ne_b102_ar_105) nin0))
          obtain ⟨cl136, Ar136, -, S136, M136, -, -⟩ := id (f135)
          have al136 := X130.arraylength hx (by rw [e130]; exact Ar136.1) (State.isArrayOf_alike hZ.alike Ar136.2.1) (g := (mkF m 233 #[.val (.int is_), .val (.int ii), .val (.int iv), .val (.int ig), .val (.int sp), .val (.int f5), .val (.int f6), .val (.ref b102), .val (.ref ar_104), .val (.ref ar_105), .val (.int (0 : Int32)), .val (.ref ar_104), .val (.ref ar_105)] [(.ref ar_105)])) rfl rfl (hb hby at_233)
          rw [len_of S136 M136] at al136
          refine Go.step al136 ?_
          show Go _ _ _ _ _ _ _ T130 (mkF m 234 #[.val (.int is_), .val (.int ii), .val (.int iv), .val (.int ig), .val (.int sp), .val (.int f5), .val (.int f6), .val (.ref b102), .val (.ref ar_104), .val (.ref ar_105), .val (.int (0 : Int32)), .val (.ref ar_104), .val (.ref ar_105)] [(.int sp)])
          refine Go.step (fun _ k => XS.iload X130.here hx rfl (hb hby at_234) rfl k) ?_
          show Go _ _ _ _ _ _ _ T130 (mkF m 236 #[.val (.int is_), .val (.int ii), .val (.int iv), .val (.int ig), .val (.int sp), .val (.int f5), .val (.int f6), .val (.ref b102), .val (.ref ar_104), .val (.ref ar_105), .val (.int (0 : Int32)), .val (.ref ar_104), .val (.ref ar_105)] [(.int sp), (.int sp)])
          have hc236_137 : sp = sp := rfl
          refine Go.step (fun _ k => XS.icmpNo X130.here hx rfl (hb hby at_236) rfl (teq hc236_137).2 k) ?_
          show Go _ _ _ _ _ _ _ T130 (mkF m 239 #[.val (.int is_), .val (.int ii), .val (.int iv), .val (.int ig), .val (.int sp), .val (.int f5), .val (.int f6), .val (.ref b102), .val (.ref ar_104), .val (.ref ar_105), .val (.int (0 : Int32)), .val (.ref ar_104), .val (.ref ar_105)] [])
          refine Go.step (fun _ k => XS.aload X130.here hx rfl (hb hby at_239) rfl rfl k) ?_
          show Go _ _ _ _ _ _ _ T130 (mkF m 241 #[.val (.int is_), .val (.int ii), .val (.int iv), .val (.int ig), .val (.int sp), .val (.int f5), .val (.int f6), .val (.ref b102), .val (.ref ar_104), .val (.ref ar_105), .val (.int (0 : Int32)), .val (.ref ar_104), .val (.ref ar_105)] [(.ref ar_104)])
          refine Go.step (fun _ k => XS.aload X130.here hx rfl (hb hby at_241) rfl rfl k) ?_
          show Go _ _ _ _ _ _ _ T130 (mkF m 243 #[.val (.int is_), .val (.int ii), .val (.int iv), .val (.int ig), .val (.int sp), .val (.int f5), .val (.int f6), .val (.ref b102), .val (.ref ar_104), .val (.ref ar_105), .val (.int (0 : Int32)), .val (.ref ar_104), .val (.ref ar_105)] [(.ref ar_105), (.ref ar_104)])
          refine Go.step (fun _ k => Jvm.RoadKit.acmp (g := (mkF m 243 #[.val (.int is_), .val (.int ii), .val (.int iv), .val (.int ig), .val (.int sp), .val (.int f5), .val (.int f6), .val (.ref b102), .val (.ref ar_104), .val (.ref ar_105), .val (.int (0 : Int32)), .val (.ref ar_104), .val (.ref ar_105)] [(.ref ar_105), (.ref ar_104)])) X130 hx rfl rfl rfl (pc0 := 243) (pc' := 248) (same := false) rfl (hb hby at_243) rfl (decide_eq_false fun q => ne_ar_104_ar_105 (Value.ref.inj q)) (by decide) (by decide) k) ?_
          show Go _ _ _ _ _ _ _ T130 (mkF m 248 #[.val (.int is_), .val (.int ii), .val (.int iv), .val (.int ig), .val (.int sp), .val (.int f5), .val (.int f6), .val (.ref b102), .val (.ref ar_104), .val (.ref ar_105), .val (.int (0 : Int32)), .val (.ref ar_104), .val (.ref ar_105)] [])
          refine Go.step (fun _ k => XS.iload X130.here hx rfl (hb hby at_248) rfl k) ?_
          show Go _ _ _ _ _ _ _ T130 (mkF m 250 #[.val (.int is_), .val (.int ii), .val (.int iv), .val (.int ig), .val (.int sp), .val (.int f5), .val (.int f6), .val (.ref b102), .val (.ref ar_104), .val (.ref ar_105), .val (.int (0 : Int32)), .val (.ref ar_104), .val (.ref ar_105)] [(.int f6)])
          have hc250_138 : ¬ (f6 = (0 : Int32)) := hc189_115
          refine Go.step (fun _ k => XS.ifNo X130.here hx rfl (hb hby at_250) rfl ((if0 _ _).trans (feq hc250_138).1) k) ?_
          show Go _ _ _ _ _ _ _ T130 (mkF m 253 #[.val (.int is_), .val (.int ii), .val (.int iv), .val (.int ig), .val (.int sp), .val (.int f5), .val (.int f6), .val (.ref b102), .val (.ref ar_104), .val (.ref ar_105), .val (.int (0 : Int32)), .val (.ref ar_104), .val (.ref ar_105)] [])
          refine Go.step (fun _ k => XS.aload X130.here hx rfl (hb hby at_253) rfl rfl k) ?_
          show Go _ _ _ _ _ _ _ T130 (mkF m 255 #[.val (.int is_), .val (.int ii), .val (.int iv), .val (.int ig), .val (.int sp), .val (.int f5), .val (.int f6), .val (.ref b102), .val (.ref ar_104), .val (.ref ar_105), .val (.int (0 : Int32)), .val (.ref ar_104), .val (.ref ar_105)] [(.ref ar_104)])
          refine Go.step (fun _ k => XS.aload X130.here hx rfl (hb hby at_255) rfl rfl k) ?_
          show Go _ _ _ _ _ _ _ T130 (mkF m 257 #[.val (.int is_), .val (.int ii), .val (.int iv), .val (.int ig), .val (.int sp), .val (.int f5), .val (.int f6), .val (.ref b102), .val (.ref ar_104), .val (.ref ar_105), .val (.int (0 : Int32)), .val (.ref ar_104), .val (.ref ar_105)] [(.ref ar_104), (.ref ar_104)])
          refine Go.step (fun _ k => Jvm.RoadKit.acmp (g := (mkF m 257 #[.val (.int is_), .val (.int ii), .val (.int iv), .val (.int ig), .val (.int sp), .val (.int f5), .val (.int f6), .val (.ref b102), .val (.ref ar_104), .val (.ref ar_105), .val (.int (0 : Int32)), .val (.ref ar_104), .val (.ref ar_105)] [(.ref ar_104), (.ref ar_104)])) X130 hx rfl rfl rfl (pc0 := 257) (pc' := 260) (same := true) rfl (hb hby at_257) rfl (decide_eq_true rfl) (by decide) (by decide) k) ?_
          show Go _ _ _ _ _ _ _ T130 (mkF m 260 #[.val (.int is_), .val (.int ii), .val (.int iv), .val (.int ig), .val (.int sp), .val (.int f5), .val (.int f6), .val (.ref b102), .val (.ref ar_104), .val (.ref ar_105), .val (.int (0 : Int32)), .val (.ref ar_104), .val (.ref ar_105)] [])
          refine Go.step (fun _ k => XS.aload X130.here hx rfl (hb hby at_260) rfl rfl k) ?_
          show Go _ _ _ _ _ _ _ T130 (mkF m 262 #[.val (.int is_), .val (.int ii), .val (.int iv), .val (.int ig), .val (.int sp), .val (.int f5), .val (.int f6), .val (.ref b102), .val (.ref ar_104), .val (.ref ar_105), .val (.int (0 : Int32)), .val (.ref ar_104), .val (.ref ar_105)] [(.ref ar_105)])
          refine Go.step (fun _ k => XS.aload X130.here hx rfl (hb hby at_262) rfl rfl k) ?_
          show Go _ _ _ _ _ _ _ T130 (mkF m 264 #[.val (.int is_), .val (.int ii), .val (.int iv), .val (.int ig), .val (.int sp), .val (.int f5), .val (.int f6), .val (.ref b102), .val (.ref ar_104), .val (.ref ar_105), .val (.int (0 : Int32)), .val (.ref ar_104), .val (.ref ar_105)] [(.ref ar_105), (.ref ar_105)])
          refine Go.step (fun _ k => Jvm.RoadKit.acmp (g := (mkF m 264 #[.val (.int is_), .val (.int ii), .val (.int iv), .val (.int ig), .val (.int sp), .val (.int f5), .val (.int f6), .val (.ref b102), .val (.ref ar_104), .val (.ref ar_105), .val (.int (0 : Int32)), .val (.ref ar_104), .val (.ref ar_105)] [(.ref ar_105), (.ref ar_105)])) X130 hx rfl rfl rfl (pc0 := 264) (pc' := 269) (same := true) rfl (hb hby at_264) rfl (decide_eq_true rfl) (by decide) (by decide) k) ?_
          show Go _ _ _ _ _ _ _ T130 (mkF m 269 #[.val (.int is_), .val (.int ii), .val (.int iv), .val (.int ig), .val (.int sp), .val (.int f5), .val (.int f6), .val (.ref b102), .val (.ref ar_104), .val (.ref ar_105), .val (.int (0 : Int32)), .val (.ref ar_104), .val (.ref ar_105)] [])
          refine Go.step (fun _ k => XS.iload X130.here hx rfl (hb hby at_269) rfl k) ?_
          show Go _ _ _ _ _ _ _ T130 (mkF m 271 #[.val (.int is_), .val (.int ii), .val (.int iv), .val (.int ig), .val (.int sp), .val (.int f5), .val (.int f6), .val (.ref b102), .val (.ref ar_104), .val (.ref ar_105), .val (.int (0 : Int32)), .val (.ref ar_104), .val (.ref ar_105)] [(.int sp)])
          have hc271_139 : ¬ ((0 : Int32) < sp) := (by have := rng32 sp; have : (0 : Int32).toInt = 0 := rfl; have q0 := hc134_113; simp only [Int32.lt_iff_toInt_lt, Int32.le_iff_toInt_le, ← Int32.toInt_inj, Int64.lt_iff_toInt_lt, Int64.le_iff_toInt_le, ← Int64.toInt_inj] at q0 ⊢; omega)
          refine Go.step (fun _ k => XS.ifYes X130.here hx rfl (pc0 := 271) (pc' := 349) rfl (hb hby at_271) rfl ((if0 _ _).trans (flt hc271_139).2.2.2) (by decide) (by decide) k) ?_
          show Go _ _ _ _ _ _ _ T130 (mkF m 349 #[.val (.int is_), .val (.int ii), .val (.int iv), .val (.int ig), .val (.int sp), .val (.int f5), .val (.int f6), .val (.ref b102), .val (.ref ar_104), .val (.ref ar_105), .val (.int (0 : Int32)), .val (.ref ar_104), .val (.ref ar_105)] [])
          refine Go.step (fun _ k => XS.iconst X130.here hx rfl (hb hby at_349) k) ?_
          show Go _ _ _ _ _ _ _ T130 (mkF m 350 #[.val (.int is_), .val (.int ii), .val (.int iv), .val (.int ig), .val (.int sp), .val (.int f5), .val (.int f6), .val (.ref b102), .val (.ref ar_104), .val (.ref ar_105), .val (.int (0 : Int32)), .val (.ref ar_104), .val (.ref ar_105)] [(.int (1 : Int32))])
          exact Go.retN X130 hx (t := .boolean) hret hlk (by simp) (hb hby at_350) e130 (by decide) (by decide) ⟨rfl, N130, trivial⟩
      · refine Go.step (fun _ k => XS.ifYes X111.here hx rfl (pc0 := 134) (pc' := 141) rfl (hb hby at_134) rfl ((if0 _ _).trans (feq hc134_113).2) (by decide) (by decide) k) ?_
        show Go _ _ _ _ _ _ _ T111 (mkF m 141 #[.val (.int is_), .val (.int ii), .val (.int iv), .val (.int ig), .val (.int sp), .val (.int f5), .val (.int f6), .val (.ref b102), .val (.ref ar_104), .val (.ref ar_105), .unset, .unset, .unset] [])
        have nz134 : sp ≠ 0 := hc134_113
        refine Go.step (fun _ k => XS.iloadN X111.here hx rfl (hb hby at_141) rfl k) ?_
        show Go _ _ _ _ _ _ _ T111 (mkF m 142 #[.val (.int is_), .val (.int ii), .val (.int iv), .val (.int ig), .val (.int sp), .val (.int f5), .val (.int f6), .val (.ref b102), .val (.ref ar_104), .val (.ref ar_105), .unset, .unset, .unset] [(.int ii)])
        refine Go.step (X111.ldcInt hx hown (mvT hZ (hw _ (List.mem_of_getElem? (i := 42) rfl))) (g := (mkF m 142 #[.val (.int is_), .val (.int ii), .val (.int iv), .val (.int ig), .val (.int sp), .val (.int f5), .val (.int f6), .val (.ref b102), .val (.ref ar_104), .val (.ref ar_105), .unset, .unset, .unset] [(.int ii)])) rfl (hb hby at_142)) ?_
        show Go _ _ _ _ _ _ _ T111 (mkF m 144 #[.val (.int is_), .val (.int ii), .val (.int iv), .val (.int ig), .val (.int sp), .val (.int f5), .val (.int f6), .val (.ref b102), .val (.ref ar_104), .val (.ref ar_105), .unset, .unset, .unset] [(.int (2147483647 : Int32)), (.int ii)])
        refine Go.step (fun _ k => XS.iand X111.here hx rfl (hb hby at_144) rfl k) ?_
        show Go _ _ _ _ _ _ _ T111 (mkF m 145 #[.val (.int is_), .val (.int ii), .val (.int iv), .val (.int ig), .val (.int sp), .val (.int f5), .val (.int f6), .val (.ref b102), .val (.ref ar_104), .val (.ref ar_105), .unset, .unset, .unset] [(.int (ii &&& (2147483647 : Int32)))])
        refine Go.step (fun _ k => XS.iload X111.here hx rfl (hb hby at_145) rfl k) ?_
        show Go _ _ _ _ _ _ _ T111 (mkF m 147 #[.val (.int is_), .val (.int ii), .val (.int iv), .val (.int ig), .val (.int sp), .val (.int f5), .val (.int f6), .val (.ref b102), .val (.ref ar_104), .val (.ref ar_105), .unset, .unset, .unset] [(.int sp), (.int (ii &&& (2147483647 : Int32)))])
        refine Go.step (fun _ k => iremM X111 hx rfl (hb hby at_147) rfl nz134 k) ?_
        show Go _ _ _ _ _ _ _ T111 (mkF m 148 #[.val (.int is_), .val (.int ii), .val (.int iv), .val (.int ig), .val (.int sp), .val (.int f5), .val (.int f6), .val (.ref b102), .val (.ref ar_104), .val (.ref ar_105), .unset, .unset, .unset] [(.int ((ii &&& (2147483647 : Int32)) % sp))])
        refine Go.step (fun _ k => XS.istore X111.here hx rfl (hb hby at_148) rfl (l' := #[.val (.int is_), .val (.int ii), .val (.int iv), .val (.int ig), .val (.int sp), .val (.int f5), .val (.int f6), .val (.ref b102), .val (.ref ar_104), .val (.ref ar_105), .val (.int ((ii &&& (2147483647 : Int32)) % sp)), .unset, .unset]) rfl k) ?_
        show Go _ _ _ _ _ _ _ T111 (mkF m 150 #[.val (.int is_), .val (.int ii), .val (.int iv), .val (.int ig), .val (.int sp), .val (.int f5), .val (.int f6), .val (.ref b102), .val (.ref ar_104), .val (.ref ar_105), .val (.int ((ii &&& (2147483647 : Int32)) % sp)), .unset, .unset] [])
        have b1 : 0 ≤ ((ii &&& (2147483647 : Int32)) % sp).toInt ∧ ((ii &&& (2147483647 : Int32)) % sp).toInt < sp.toInt := (by have := rng32 ii; have : (2147483647 : Int32).toInt = 2147483647 := rfl; have := rng32 (ii &&& (2147483647 : Int32)); have := c_mask ii (2147483647 : Int32) 31 (by decide) (by decide); have := rng32 sp; have := rng32 ((ii &&& (2147483647 : Int32)) % sp); have := c_iremV (ii &&& (2147483647 : Int32)) sp; have : (0 : Int32).toInt = 0 := rfl; have q0 := nz134; simp only [ne_eq, Int32.lt_iff_toInt_lt, Int32.le_iff_toInt_le, ← Int32.toInt_inj, Int64.lt_iff_toInt_lt, Int64.le_iff_toInt_le, ← Int64.toInt_inj] at q0; omega)
        generalize ((ii &&& (2147483647 : Int32)) % sp) = ix at b1 ⊢
        show Go _ _ _ _ _ _ _ T111 (mkF m 150 #[.val (.int is_), .val (.int ii), .val (.int iv), .val (.int ig), .val (.int sp), .val (.int f5), .val (.int f6), .val (.ref b102), .val (.ref ar_104), .val (.ref ar_105), .val (.int ix), .unset, .unset] [])
        have ix0 : ¬ (ix < (0 : Int32)) := (by have := rng32 ix; have : (0 : Int32).toInt = 0 := rfl; simp only [Int32.lt_iff_toInt_lt, Int32.le_iff_toInt_le, ← Int32.toInt_inj, Int64.lt_iff_toInt_lt, Int64.le_iff_toInt_le, ← Int64.toInt_inj]; omega)
        have ix1 : ix < sp := (by have := rng32 ix; have := rng32 sp; simp only [Int32.lt_iff_toInt_lt, Int32.le_iff_toInt_le, ← Int32.toInt_inj, Int64.lt_iff_toInt_lt, Int64.le_iff_toInt_le, ← Int64.toInt_inj]; omega)
        refine Go.step (fun _ k => XS.iload X111.here hx rfl (hb hby at_150) rfl k) ?_
        show Go _ _ _ _ _ _ _ T111 (mkF m 152 #[.val (.int is_), .val (.int ii), .val (.int iv), .val (.int ig), .val (.int sp), .val (.int f5), .val (.int f6), .val (.ref b102), .val (.ref ar_104), .val (.ref ar_105), .val (.int ix), .unset, .unset] [(.int sp)])
        have hc152_140 : (0 : Int32) < sp := (by have := rng32 sp; have : (0 : Int32).toInt = 0 := rfl; have q0 := hc134_113; simp only [Int32.lt_iff_toInt_lt, Int32.le_iff_toInt_le, ← Int32.toInt_inj, Int64.lt_iff_toInt_lt, Int64.le_iff_toInt_le, ← Int64.toInt_inj] at q0 ⊢; omega)
        refine Go.step (fun _ k => XS.ifNo X111.here hx rfl (hb hby at_152) rfl ((if0 _ _).trans (tlt hc152_140).2.2.2) k) ?_
        show Go _ _ _ _ _ _ _ T111 (mkF m 155 #[.val (.int is_), .val (.int ii), .val (.int iv), .val (.int ig), .val (.int sp), .val (.int f5), .val (.int f6), .val (.ref b102), .val (.ref ar_104), .val (.ref ar_105), .val (.int ix), .unset, .unset] [])
        refine Go.step (fun _ k => XS.aload X111.here hx rfl (hb hby at_155) rfl rfl k) ?_
        show Go _ _ _ _ _ _ _ T111 (mkF m 157 #[.val (.int is_), .val (.int ii), .val (.int iv), .val (.int ig), .val (.int sp), .val (.int f5), .val (.int f6), .val (.ref b102), .val (.ref ar_104), .val (.ref ar_105), .val (.int ix), .unset, .unset] [(.ref ar_104)])
        refine Go.step (fun _ k => XS.iload X111.here hx rfl (hb hby at_157) rfl k) ?_
        show Go _ _ _ _ _ _ _ T111 (mkF m 159 #[.val (.int is_), .val (.int ii), .val (.int iv), .val (.int ig), .val (.int sp), .val (.int f5), .val (.int f6), .val (.ref b102), .val (.ref ar_104), .val (.ref ar_105), .val (.int ix), .unset, .unset] [(.int ix), (.ref ar_104)])
        obtain ⟨cl141, Ar141, q141, S141, M141, H141, G141⟩ := id (f106)
        have hin141 : ¬ (ix < 0 ∨ cl141.slots.size ≤ (ix).toNatClampNeg) := inb_of S141 ⟨ix0, ix1⟩
        have hat141 : cl141.slots[(ix).toNatClampNeg]? = some (.int (0 : Int32)) := H141.at hin141 rfl
        refine Go.step (X111.iaload hx (j := ix) (v := (.int (0 : Int32))) (by rw [e111]; exact Ar141.1) (State.isArrayOf_alike hZ.alike Ar141.2.1) Ar141.2.2 hin141 hat141 (g := (mkF m 159 #[.val (.int is_), .val (.int ii), .val (.int iv), .val (.int ig), .val (.int sp), .val (.int f5), .val (.int f6), .val (.ref b102), .val (.ref ar_104), .val (.ref ar_105), .val (.int ix), .unset, .unset] [(.int ix), (.ref ar_104)])) rfl rfl (hb hby at_159)) ?_
        show Go _ _ _ _ _ _ _ T111 (mkF m 160 #[.val (.int is_), .val (.int ii), .val (.int iv), .val (.int ig), .val (.int sp), .val (.int f5), .val (.int f6), .val (.ref b102), .val (.ref ar_104), .val (.ref ar_105), .val (.int ix), .unset, .unset] [(.int (0 : Int32))])
        have hc160_142 : (0 : Int32) = (0 : Int32) := (by decide)
        refine Go.step (fun _ k => XS.ifNo X111.here hx rfl (hb hby at_160) rfl ((if0 _ _).trans (teq hc160_142).2) k) ?_
        show Go _ _ _ _ _ _ _ T111 (mkF m 163 #[.val (.int is_), .val (.int ii), .val (.int iv), .val (.int ig), .val (.int sp), .val (.int f5), .val (.int f6), .val (.ref b102), .val (.ref ar_104), .val (.ref ar_105), .val (.int ix), .unset, .unset] [])
        refine Go.step (fun _ k => XS.aload X111.here hx rfl (hb hby at_163) rfl rfl k) ?_
        show Go _ _ _ _ _ _ _ T111 (mkF m 165 #[.val (.int is_), .val (.int ii), .val (.int iv), .val (.int ig), .val (.int sp), .val (.int f5), .val (.int f6), .val (.ref b102), .val (.ref ar_104), .val (.ref ar_105), .val (.int ix), .unset, .unset] [(.ref ar_105)])
        refine Go.step (fun _ k => XS.iload X111.here hx rfl (hb hby at_165) rfl k) ?_
        show Go _ _ _ _ _ _ _ T111 (mkF m 167 #[.val (.int is_), .val (.int ii), .val (.int iv), .val (.int ig), .val (.int sp), .val (.int f5), .val (.int f6), .val (.ref b102), .val (.ref ar_104), .val (.ref ar_105), .val (.int ix), .unset, .unset] [(.int ix), (.ref ar_105)])
        obtain ⟨cl143, Ar143, q143, S143, M143, H143, G143⟩ := id (Vr_105)
        have hin143 : ¬ (ix < 0 ∨ cl143.slots.size ≤ (ix).toNatClampNeg) := inb_of S143 ⟨ix0, ix1⟩
        have hat143 : cl143.slots[(ix).toNatClampNeg]? = some (.int (0 : Int32)) := H143.at hin143 rfl
        refine Go.step (X111.iaload hx (j := ix) (v := (.int (0 : Int32))) (by rw [e111]; exact Ar143.1) (State.isArrayOf_alike hZ.alike Ar143.2.1) Ar143.2.2 hin143 hat143 (g := (mkF m 167 #[.val (.int is_), .val (.int ii), .val (.int iv), .val (.int ig), .val (.int sp), .val (.int f5), .val (.int f6), .val (.ref b102), .val (.ref ar_104), .val (.ref ar_105), .val (.int ix), .unset, .unset] [(.int ix), (.ref ar_105)])) rfl rfl (hb hby at_167)) ?_
        show Go _ _ _ _ _ _ _ T111 (mkF m 168 #[.val (.int is_), .val (.int ii), .val (.int iv), .val (.int ig), .val (.int sp), .val (.int f5), .val (.int f6), .val (.ref b102), .val (.ref ar_104), .val (.ref ar_105), .val (.int ix), .unset, .unset] [(.int (0 : Int32))])
        have hc168_144 : (0 : Int32) = (0 : Int32) := (by decide)
        refine Go.step (fun _ k => XS.ifYes X111.here hx rfl (pc0 := 168) (pc' := 173) rfl (hb hby at_168) rfl ((if0 _ _).trans (teq hc168_144).1) (by decide) (by decide) k) ?_
        show Go _ _ _ _ _ _ _ T111 (mkF m 173 #[.val (.int is_), .val (.int ii), .val (.int iv), .val (.int ig), .val (.int sp), .val (.int f5), .val (.int f6), .val (.ref b102), .val (.ref ar_104), .val (.ref ar_105), .val (.int ix), .unset, .unset] [])
        have V145 : Arv Z h105 ar_104 kr_104 .int sp (List.replicate sp.toNatClampNeg (.int (0 : Int32))) (.int (0 : Int32)) := (f106).pad (pad_rep [] (.int (0 : Int32)) sp.toNatClampNeg)
        have V146 : Arv Z h105 ar_105 kr_105 .int sp (List.replicate sp.toNatClampNeg (.int (0 : Int32))) (.int (0 : Int32)) := (Vr_105).pad (pad_rep [] (.int (0 : Int32)) sp.toNatClampNeg)
        refine Go.step (fun _ k => XS.aload X111.here hx rfl (hb hby at_173) rfl rfl k) ?_
        show Go _ _ _ _ _ _ _ T111 (mkF m 175 #[.val (.int is_), .val (.int ii), .val (.int iv), .val (.int ig), .val (.int sp), .val (.int f5), .val (.int f6), .val (.ref b102), .val (.ref ar_104), .val (.ref ar_105), .val (.int ix), .unset, .unset] [(.ref ar_104)])
        refine Go.step (fun _ k => XS.iload X111.here hx rfl (hb hby at_175) rfl k) ?_
        show Go _ _ _ _ _ _ _ T111 (mkF m 177 #[.val (.int is_), .val (.int ii), .val (.int iv), .val (.int ig), .val (.int sp), .val (.int f5), .val (.int f6), .val (.ref b102), .val (.ref ar_104), .val (.ref ar_105), .val (.int ix), .unset, .unset] [(.int ix), (.ref ar_104)])
        refine Go.step (fun _ k => XS.iloadN X111.here hx rfl (hb hby at_177) rfl k) ?_
        show Go _ _ _ _ _ _ _ T111 (mkF m 178 #[.val (.int is_), .val (.int ii), .val (.int iv), .val (.int ig), .val (.int sp), .val (.int f5), .val (.int f6), .val (.ref b102), .val (.ref ar_104), .val (.ref ar_105), .val (.int ix), .unset, .unset] [(.int iv), (.int ix), (.ref ar_104)])
        obtain ⟨cl147, Ar147, q147, S147, M147, H147, G147⟩ := id (V145)
        have hin147 : ¬ (ix < 0 ∨ cl147.slots.size ≤ (ix).toNatClampNeg) := inb_of S147 ⟨ix0, ix1⟩
        obtain ⟨T147, h147, X147, e147, W147, st147⟩ := stI X111 hx hZ e111 Ar147 (j := ix) hin147 (g := (mkF m 178 #[.val (.int is_), .val (.int ii), .val (.int iv), .val (.int ig), .val (.int sp), .val (.int f5), .val (.int f6), .val (.ref b102), .val (.ref ar_104), .val (.ref ar_105), .val (.int ix), .unset, .unset] [(.int iv), (.int ix), (.ref ar_104)])) rfl rfl (hb hby at_178)
        refine Go.step st147 ?_
        have V147 : Arv Z h147 ar_104 kr_104 .int sp ((List.replicate sp.toNatClampNeg (.int (0 : Int32))).set ix.toNatClampNeg (.int iv)) (.int (0 : Int32)) := Arv.set Ar147 q147 S147 M147 H147 G147 rfl W147 ix.toNatClampNeg rfl (by rw [List.length_replicate]; exact own_tlt ix0 ix1)
        have N147 := Fr.snoc X147 N111 g_ar_104
        have Z147 : n0 ≤ h147.size := Nat.le_trans Z105 (Keep.of_wr W147).1
        show Go _ _ _ _ _ _ _ T147 (mkF m 179 #[.val (.int is_), .val (.int ii), .val (.int iv), .val (.int ig), .val (.int sp), .val (.int f5), .val (.int f6), .val (.ref b102), .val (.ref ar_104), .val (.ref ar_105), .val (.int ix), .unset, .unset] [])
        refine Go.step (fun _ k => XS.aload X147.here hx rfl (hb hby at_179) rfl rfl k) ?_
        show Go _ _ _ _ _ _ _ T147 (mkF m 181 #[.val (.int is_), .val (.int ii), .val (.int iv), .val (.int ig), .val (.int sp), .val (.int f5), .val (.int f6), .val (.ref b102), .val (.ref ar_104), .val (.ref ar_105), .val (.int ix), .unset, .unset] [(.ref ar_105)])
        refine Go.step (fun _ k => XS.iload X147.here hx rfl (hb hby at_181) rfl k) ?_
        show Go _ _ _ _ _ _ _ T147 (mkF m 183 #[.val (.int is_), .val (.int ii), .val (.int iv), .val (.int ig), .val (.int sp), .val (.int f5), .val (.int f6), .val (.ref b102), .val (.ref ar_104), .val (.ref ar_105), .val (.int ix), .unset, .unset] [(.int ix), (.ref ar_105)])
        refine Go.step (fun _ k => XS.iloadN X147.here hx rfl (hb hby at_183) rfl k) ?_
        show Go _ _ _ _ _ _ _ T147 (mkF m 184 #[.val (.int is_), .val (.int ii), .val (.int iv), .val (.int ig), .val (.int sp), .val (.int f5), .val (.int f6), .val (.ref b102), .val (.ref ar_104), .val (.ref ar_105), .val (.int ix), .unset, .unset] [(.int iv), (.int ix), (.ref ar_105)])
        refine Go.step (fun _ k => XS.iconst X147.here hx rfl (hb hby at_184) k) ?_
        show Go _ _ _ _ _ _ _ T147 (mkF m 185 #[.val (.int is_), .val (.int ii), .val (.int iv), .val (.int ig), .val (.int sp), .val (.int f5), .val (.int f6), .val (.ref b102), .val (.ref ar_104), .val (.ref ar_105), .val (.int ix), .unset, .unset] [(.int (-1 : Int32)), (.int iv), (.int ix), (.ref ar_105)])
        refine Go.step (fun _ k => XS.ixor X147.here hx rfl (hb hby at_185) rfl k) ?_
        show Go _ _ _ _ _ _ _ T147 (mkF m 186 #[.val (.int is_), .val (.int ii), .val (.int iv), .val (.int ig), .val (.int sp), .val (.int f5), .val (.int f6), .val (.ref b102), .val (.ref ar_104), .val (.ref ar_105), .val (.int ix), .unset, .unset] [(.int (iv ^^^ (-1 : Int32))), (.int ix), (.ref ar_105)])
        have f148 : Arv Z h147 ar_105 kr_105 .int sp (List.replicate sp.toNatClampNeg (.int (0 : Int32))) (.int (0 : Int32)) := (V146.other W147 (Ne.symm ne_ar_104_ar_105))
        obtain ⟨cl149, Ar149, q149, S149, M149, H149, G149⟩ := id (f148)
        have hin149 : ¬ (ix < 0 ∨ cl149.slots.size ≤ (ix).toNatClampNeg) := inb_of S149 ⟨ix0, ix1⟩
        obtain ⟨T149, h149, X149, e149, W149, st149⟩ := stI X147 hx hZ e147 Ar149 (j := ix) hin149 (g := (mkF m 186 #[.val (.int is_), .val (.int ii), .val (.int iv), .val (.int ig), .val (.int sp), .val (.int f5), .val (.int f6), .val (.ref b102), .val (.ref ar_104), .val (.ref ar_105), .val (.int ix), .unset, .unset] [(.int (iv ^^^ (-1 : Int32))), (.int ix), (.ref ar_105)])) rfl rfl (hb hby at_186)
        refine Go.step st149 ?_
        have V149 : Arv Z h149 ar_105 kr_105 .int sp ((List.replicate sp.toNatClampNeg (.int (0 : Int32))).set ix.toNatClampNeg (.int (iv ^^^ (-1 : Int32)))) (.int (0 : Int32)) := Arv.set Ar149 q149 S149 M149 H149 G149 rfl W149 ix.toNatClampNeg rfl (by rw [List.length_replicate]; exact own_tlt ix0 ix1)
        have N149 := Fr.snoc X149 N147 g_ar_105
        have Z149 : n0 ≤ h149.size := Nat.le_trans Z147 (Keep.of_wr W149).1
        show Go _ _ _ _ _ _ _ T149 (mkF m 187 #[.val (.int is_), .val (.int ii), .val (.int iv), .val (.int ig), .val (.int sp), .val (.int f5), .val (.int f6), .val (.ref b102), .val (.ref ar_104), .val (.ref ar_105), .val (.int ix), .unset, .unset] [])
        refine Go.step (fun _ k => XS.iload X149.here hx rfl (hb hby at_187) rfl k) ?_
        show Go _ _ _ _ _ _ _ T149 (mkF m 189 #[.val (.int is_), .val (.int ii), .val (.int iv), .val (.int ig), .val (.int sp), .val (.int f5), .val (.int f6), .val (.ref b102), .val (.ref ar_104), .val (.ref ar_105), .val (.int ix), .unset, .unset] [(.int f6)])
        by_cases hc189_150 : f6 = (0 : Int32)
        · refine Go.step (fun _ k => XS.ifYes X149.here hx rfl (pc0 := 189) (pc' := 197) rfl (hb hby at_189) rfl ((if0 _ _).trans (teq hc189_150).1) (by decide) (by decide) k) ?_
          show Go _ _ _ _ _ _ _ T149 (mkF m 197 #[.val (.int is_), .val (.int ii), .val (.int iv), .val (.int ig), .val (.int sp), .val (.int f5), .val (.int f6), .val (.ref b102), .val (.ref ar_104), .val (.ref ar_105), .val (.int ix), .unset, .unset] [])
          refine Go.step (fun _ k => XS.aload X149.here hx rfl (hb hby at_197) rfl rfl k) ?_
          show Go _ _ _ _ _ _ _ T149 (mkF m 199 #[.val (.int is_), .val (.int ii), .val (.int iv), .val (.int ig), .val (.int sp), .val (.int f5), .val (.int f6), .val (.ref b102), .val (.ref ar_104), .val (.ref ar_105), .val (.int ix), .unset, .unset] [(.ref b102)])
          have f152 : Exa Z h149 b102 "com/example/termvault/termvault/MarkArrays" := ((E1_105.wr W147).wr W149)
          have f153 : Fld Z h149 b102 "com/example/termvault/termvault/MarkArrays" "counts" "[[I" (.ref ac_103) := ((Fc1_105.other W147 (Or.inl ne_b102_ar_104)).other W149 (Or.inl ne_b102_ar_105))
          have f154 : Fld Z h149 b102 "com/example/termvault/termvault/MarkArrays" "countsTaken" "I" (.int (2 : Int32)) := ((Ft1_105.other W147 (Or.inl ne_b102_ar_104)).other W149 (Or.inl ne_b102_ar_105))
          have f155 : Fld Z h149 b102 "com/example/termvault/termvault/MarkArrays" "span" "I" (.int sp) := ((Fs1_105.other W147 (Or.inl ne_b102_ar_104)).other W149 (Or.inl ne_b102_ar_105))
          have f156 : Arv Z h149 ac_103 kc_103 (.array .int) (16 : Int32) (((List.replicate 16 Value.null).set (0 : Int32).toNatClampNeg (.ref ar_104)).set (1 : Int32).toNatClampNeg (.ref ar_105)) .null := ((Vc1_105.other W147 ne_ac_103_ar_104).other W149 ne_ac_103_ar_105)
          have f157 : Fld Z h149 b102 "com/example/termvault/termvault/MarkArrays" "positionsTaken" "I" (.int tq) := ((Fo1_105.other W147 (Or.inl ne_b102_ar_104)).other W149 (Or.inl ne_b102_ar_105))
          have f158 : Fld Z h149 b102 "com/example/termvault/termvault/MarkArrays" "positions" "[[J" (.ref ap_103) := ((Fq1_105.other W147 (Or.inl ne_b102_ar_104)).other W149 (Or.inl ne_b102_ar_105))
          obtain ⟨cq151, kq151, q151a, q151b, q151c⟩ := isOf hZ e149 f152
          obtain ⟨_, _, ⟨T151, L151, k151, n151⟩, -, X151, ⟨Lc151, hQ151, l151, y151, z151⟩, st151⟩ := X149.virtualBack hx (y := (⟨"com/example/termvault/termvault/MarkArrays", "counts", "()[I"⟩ : MethodName)) (z := (⟨"com/example/termvault/termvault/MarkArrays", "counts", "()[I"⟩ : MethodName)) hown (mvT hZ (hw _ (List.mem_of_getElem? (i := 19) rfl))) (mvT hZ (hw _ (List.mem_of_getElem? (i := 20) rfl))) (notFace_of_selects (args := #[]) (mvT hZ (hw _ (List.mem_of_getElem? (i := 22) rfl)))) (mvT hZ (hw _ (List.mem_of_getElem? (i := 22) rfl))) (mvT hZ (hw _ (List.mem_of_getElem? (i := 21) rfl))) (by decide) (backOf (W := 0) (rmCt l Z a0 hw [] b102 ac_103 kc_103 (((List.replicate 16 Value.null).set (0 : Int32).toNatClampNeg (.ref ar_104)).set (1 : Int32).toNatClampNeg (.ref ar_105)) (2 : Int32) sp tq ap_103 h149 n0 Z149 f152 f153 f154 f155 f156 f157 f158 oc_103 g_b102 g_ac_103 ne_b102_ac_103 (by decide) (by decide) (by simp only [List.length_set, List.length_replicate]; rfl) ((own_n (by decide)).trans ((own_n (by decide)).trans own_rep)) hs0 hs1) hZ (hw _ (List.mem_of_getElem? (i := 23) rfl)) (hw _ (List.mem_of_getElem? (i := 2) rfl)) (by decide) (by decide)) q151a q151c (g := (mkF m 199 #[.val (.int is_), .val (.int ii), .val (.int iv), .val (.int ig), .val (.int sp), .val (.int f5), .val (.int f6), .val (.ref b102), .val (.ref ar_104), .val (.ref ar_105), .val (.int ix), .unset, .unset] [(.ref b102)])) rfl (by rw [hml]; rfl) (Steps.refl _) (argsL := []) (rest := []) (lenOf pd____I rfl) rfl (by show 2 * 0 + _ ≤ _; exact Nat.le_of_eq rfl) (hb hby at_199) (fun _ _ => ⟨rfl, e149, (by decide : 6 + 1 ≤ _), (by decide : 3106 + 1023 ≤ _)⟩)
          dsimp only [Pt.U, Pt.locs, Pt.cells, Pt.slots] at X151 l151 y151 z151 st151 hQ151
          subst l151 y151 z151
          obtain ⟨h151, e151⟩ : ∃ h, T151.heap = h := ⟨_, rfl⟩
          rw [e151] at hQ151
          have f159 : Arv Z h149 ar_104 kr_104 .int sp ((List.replicate sp.toNatClampNeg (.int (0 : Int32))).set ix.toNatClampNeg (.int iv)) (.int (0 : Int32)) := (V147.other W149 ne_ar_104_ar_105)
          have f160 : Exa Z h149 ar_105 "[I" := ((Er_105.wr W147).wr W149)
          obtain ⟨ar_151, kr_151, rfl, Nq151, Kq151, sa_151, E1_151, Fc1_151, Ft1_151, Fs1_151, Fo1_151, Fq1_151, Vc1_151, Vr_151, Er_151⟩ := hQ151
          have N151 := Fr.app N149 Nq151
          have Z151 : n0 ≤ h151.size := Nat.le_trans Z149 Kq151.1
          have g_ar_151 : n0 ≤ ar_151 := Nat.le_trans Z149 sa_151
          have ne_ac_103_ar_151 : ac_103 ≠ ar_151 := Nat.ne_of_lt (Nat.lt_of_lt_of_le f156.lt sa_151)
          have ne_ar_104_ar_151 : ar_104 ≠ ar_151 := Nat.ne_of_lt (Nat.lt_of_lt_of_le f159.lt sa_151)
          have ne_ar_105_ar_151 : ar_105 ≠ ar_151 := Nat.ne_of_lt (Nat.lt_of_lt_of_le f160.lt sa_151)
          have ne_b102_ar_151 : b102 ≠ ar_151 := Nat.ne_of_lt (Nat.lt_of_lt_of_le f152.lt sa_151)
          have Ft1_151 : Fld Z h151 b102 "com/example/termvault/termvault/MarkArrays" "countsTaken" "I" (.int (3 : Int32)) := Ft1_151
          refine Go.trans st151 ?_
          show Go _ _ _ _ _ _ _ T151 (mkF m 202 #[.val (.int is_), .val (.int ii), .val (.int iv), .val (.int ig), .val (.int sp), .val (.int f5), .val (.int f6), .val (.ref b102), .val (.ref ar_104), .val (.ref ar_105), .val (.int ix), .unset, .unset] [(.ref ar_151)])
          refine Go.step (fun _ k => XS.astore X151.here hx rfl (hb hby at_202) rfl rfl (l' := #[.val (.int is_), .val (.int ii), .val (.int iv), .val (.int ig), .val (.int sp), .val (.int f5), .val (.int f6), .val (.ref b102), .val (.ref ar_104), .val (.ref ar_105), .val (.int ix), .val (.ref ar_151), .unset]) rfl k) ?_
          show Go _ _ _ _ _ _ _ T151 (mkF m 204 #[.val (.int is_), .val (.int ii), .val (.int iv), .val (.int ig), .val (.int sp), .val (.int f5), .val (.int f6), .val (.ref b102), .val (.ref ar_104), .val (.ref ar_105), .val (.int ix), .val (.ref ar_151), .unset] [])
          refine Go.step (fun _ k => XS.aload X151.here hx rfl (hb hby at_204) rfl rfl k) ?_
          show Go _ _ _ _ _ _ _ T151 (mkF m 206 #[.val (.int is_), .val (.int ii), .val (.int iv), .val (.int ig), .val (.int sp), .val (.int f5), .val (.int f6), .val (.ref b102), .val (.ref ar_104), .val (.ref ar_105), .val (.int ix), .val (.ref ar_151), .unset] [(.ref b102)])
          obtain ⟨cq161, kq161, q161a, q161b, q161c⟩ := isOf hZ e151 E1_151
          obtain ⟨_, _, ⟨T161, L161, k161, n161⟩, -, X161, ⟨Lc161, hQ161, l161, y161, z161⟩, st161⟩ := X151.virtualBack hx (y := (⟨"com/example/termvault/termvault/MarkArrays", "counts", "()[I"⟩ : MethodName)) (z := (⟨"com/example/termvault/termvault/MarkArrays", "counts", "()[I"⟩ : MethodName)) hown (mvT hZ (hw _ (List.mem_of_getElem? (i := 19) rfl))) (mvT hZ (hw _ (List.mem_of_getElem? (i := 20) rfl))) (notFace_of_selects (args := #[]) (mvT hZ (hw _ (List.mem_of_getElem? (i := 22) rfl)))) (mvT hZ (hw _ (List.mem_of_getElem? (i := 22) rfl))) (mvT hZ (hw _ (List.mem_of_getElem? (i := 21) rfl))) (by decide) (backOf (W := 0) (rmCt l Z a0 hw [] b102 ac_103 kc_103 ((((List.replicate 16 Value.null).set (0 : Int32).toNatClampNeg (.ref ar_104)).set (1 : Int32).toNatClampNeg (.ref ar_105)).set (2 : Int32).toNatClampNeg (.ref ar_151)) (3 : Int32) sp tq ap_103 h151 n0 Z151 E1_151 Fc1_151 Ft1_151 Fs1_151 Vc1_151 Fo1_151 Fq1_151 oc_103 g_b102 g_ac_103 ne_b102_ac_103 (by decide) (by decide) (by simp only [List.length_set, List.length_replicate]; rfl) ((own_n (by decide)).trans ((own_n (by decide)).trans ((own_n (by decide)).trans own_rep))) hs0 hs1) hZ (hw _ (List.mem_of_getElem? (i := 23) rfl)) (hw _ (List.mem_of_getElem? (i := 2) rfl)) (by decide) (by decide)) q161a q161c (g := (mkF m 206 #[.val (.int is_), .val (.int ii), .val (.int iv), .val (.int ig), .val (.int sp), .val (.int f5), .val (.int f6), .val (.ref b102), .val (.ref ar_104), .val (.ref ar_105), .val (.int ix), .val (.ref ar_151), .unset] [(.ref b102)])) rfl (by rw [hml]; rfl) (Steps.refl _) (argsL := []) (rest := []) (lenOf pd____I rfl) rfl (by show 2 * 0 + _ ≤ _; exact Nat.le_of_eq rfl) (hb hby at_206) (fun _ _ => ⟨rfl, e151, (by decide : 7 + 1 ≤ _), (by decide : 4129 + 1023 ≤ _)⟩)
          dsimp only [Pt.U, Pt.locs, Pt.cells, Pt.slots] at X161 l161 y161 z161 st161 hQ161
          subst l161 y161 z161
          obtain ⟨h161, e161⟩ : ∃ h, T161.heap = h := ⟨_, rfl⟩
          rw [e161] at hQ161
          have f162 : Arv Z h151 ar_104 kr_104 .int sp ((List.replicate sp.toNatClampNeg (.int (0 : Int32))).set ix.toNatClampNeg (.int iv)) (.int (0 : Int32)) := (f159.keep Kq151 (ninS (Ne.symm ne_b102_ar_104) (ninS (Ne.symm ne_ac_103_ar_104) nin0)))
          have f163 : Exa Z h151 ar_105 "[I" := (f160.keep Kq151)
          obtain ⟨ar_161, kr_161, rfl, Nq161, Kq161, sa_161, E1_161, Fc1_161, Ft1_161, Fs1_161, Fo1_161, Fq1_161, Vc1_161, Vr_161, Er_161⟩ := hQ161
          have N161 := Fr.app N151 Nq161
          have Z161 : n0 ≤ h161.size := Nat.le_trans Z151 Kq161.1
          have g_ar_161 : n0 ≤ ar_161 := Nat.le_trans Z151 sa_161
          have ne_ac_103_ar_161 : ac_103 ≠ ar_161 := Nat.ne_of_lt (Nat.lt_of_lt_of_le Vc1_151.lt sa_161)
          have ne_ar_104_ar_161 : ar_104 ≠ ar_161 := Nat.ne_of_lt (Nat.lt_of_lt_of_le f162.lt sa_161)
          have ne_ar_105_ar_161 : ar_105 ≠ ar_161 := Nat.ne_of_lt (Nat.lt_of_lt_of_le f163.lt sa_161)
          have ne_ar_151_ar_161 : ar_151 ≠ ar_161 := Nat.ne_of_lt (Nat.lt_of_lt_of_le Er_151.lt sa_161)
          have ne_b102_ar_161 : b102 ≠ ar_161 := Nat.ne_of_lt (Nat.lt_of_lt_of_le E1_151.lt sa_161)
          have Ft1_161 : Fld Z h161 b102 "com/example/termvault/termvault/MarkArrays" "countsTaken" "I" (.int (4 : Int32)) := Ft1_161
          refine Go.trans st161 ?_
          show Go _ _ _ _ _ _ _ T161 (mkF m 209 #[.val (.int is_), .val (.int ii), .val (.int iv), .val (.int ig), .val (.int sp), .val (.int f5), .val (.int f6), .val (.ref b102), .val (.ref ar_104), .val (.ref ar_105), .val (.int ix), .val (.ref ar_151), .unset] [(.ref ar_161)])
          refine Go.step (fun _ k => XS.astore X161.here hx rfl (hb hby at_209) rfl rfl (l' := #[.val (.int is_), .val (.int ii), .val (.int iv), .val (.int ig), .val (.int sp), .val (.int f5), .val (.int f6), .val (.ref b102), .val (.ref ar_104), .val (.ref ar_105), .val (.int ix), .val (.ref ar_151), .val (.ref ar_161)]) rfl k) ?_
          show Go _ _ _ _ _ _ _ T161 (mkF m 211 #[.val (.int is_), .val (.int ii), .val (.int iv), .val (.int ig), .val (.int sp), .val (.int f5), .val (.int f6), .val (.ref b102), .val (.ref ar_104), .val (.ref ar_105), .val (.int ix), .val (.ref ar_151), .val (.ref ar_161)] [])
          refine Go.step (fun _ k => XS.aload X161.here hx rfl (hb hby at_211) rfl rfl k) ?_
          show Go _ _ _ _ _ _ _ T161 (mkF m 213 #[.val (.int is_), .val (.int ii), .val (.int iv), .val (.int ig), .val (.int sp), .val (.int f5), .val (.int f6), .val (.ref b102), .val (.ref ar_104), .val (.ref ar_105), .val (.int ix), .val (.ref ar_151), .val (.ref ar_161)] [(.ref ar_151)])
          refine Go.step (fun _ k => XS.ifnullNo X161.here hx rfl (hb hby at_213) rfl k) ?_
          show Go _ _ _ _ _ _ _ T161 (mkF m 216 #[.val (.int is_), .val (.int ii), .val (.int iv), .val (.int ig), .val (.int sp), .val (.int f5), .val (.int f6), .val (.ref b102), .val (.ref ar_104), .val (.ref ar_105), .val (.int ix), .val (.ref ar_151), .val (.ref ar_161)] [])
          refine Go.step (fun _ k => XS.aload X161.here hx rfl (hb hby at_216) rfl rfl k) ?_
          show Go _ _ _ _ _ _ _ T161 (mkF m 218 #[.val (.int is_), .val (.int ii), .val (.int iv), .val (.int ig), .val (.int sp), .val (.int f5), .val (.int f6), .val (.ref b102), .val (.ref ar_104), .val (.ref ar_105), .val (.int ix), .val (.ref ar_151), .val (.ref ar_161)] [(.ref ar_161)])
          refine Go.step (fun _ k => XS.ifnonnullYes X161.here hx rfl (pc0 := 218) (pc' := 223) rfl (hb hby at_218) rfl (by decide) (by decide) k) ?_
          show Go _ _ _ _ _ _ _ T161 (mkF m 223 #[.val (.int is_), .val (.int ii), .val (.int iv), .val (.int ig), .val (.int sp), .val (.int f5), .val (.int f6), .val (.ref b102), .val (.ref ar_104), .val (.ref ar_105), .val (.int ix), .val (.ref ar_151), .val (.ref ar_161)] [])
          refine Go.step (fun _ k => XS.aload X161.here hx rfl (hb hby at_223) rfl rfl k) ?_
          show Go _ _ _ _ _ _ _ T161 (mkF m 225 #[.val (.int is_), .val (.int ii), .val (.int iv), .val (.int ig), .val (.int sp), .val (.int f5), .val (.int f6), .val (.ref b102), .val (.ref ar_104), .val (.ref ar_105), .val (.int ix), .val (.ref ar_151), .val (.ref ar_161)] [(.ref ar_151)])
          have f164 : Arv Z h161 ar_151 kr_151 .int sp [] (.int (0 : Int32)) := (Vr_151.keep Kq161 (ninS (Ne.symm ne_b102_ar_151) (ninS (Ne.symm ne_ac_103_ar_151) nin0)))
          obtain ⟨cl165, Ar165, -, S165, M165, -, -⟩ := id (f164)
          have al165 := X161.arraylength hx (by rw [e161]; exact Ar165.1) (State.isArrayOf_alike hZ.alike Ar165.2.1) (g := (mkF m 225 #[.val (.int is_), .val (.int ii), .val (.int iv), .val (.int ig), .val (.int sp), .val (.int f5), .val (.int f6), .val (.ref b102), .val (.ref ar_104), .val (.ref ar_105), .val (.int ix), .val (.ref ar_151), .val (.ref ar_161)] [(.ref ar_151)])) rfl rfl (hb hby at_225)
          rw [len_of S165 M165] at al165
          refine Go.step al165 ?_
          show Go _ _ _ _ _ _ _ T161 (mkF m 226 #[.val (.int is_), .val (.int ii), .val (.int iv), .val (.int ig), .val (.int sp), .val (.int f5), .val (.int f6), .val (.ref b102), .val (.ref ar_104), .val (.ref ar_105), .val (.int ix), .val (.ref ar_151), .val (.ref ar_161)] [(.int sp)])
          refine Go.step (fun _ k => XS.iload X161.here hx rfl (hb hby at_226) rfl k) ?_
          show Go _ _ _ _ _ _ _ T161 (mkF m 228 #[.val (.int is_), .val (.int ii), .val (.int iv), .val (.int ig), .val (.int sp), .val (.int f5), .val (.int f6), .val (.ref b102), .val (.ref ar_104), .val (.ref ar_105), .val (.int ix), .val (.ref ar_151), .val (.ref ar_161)] [(.int sp), (.int sp)])
          have hc228_166 : sp = sp := rfl
          refine Go.step (fun _ k => XS.icmpNo X161.here hx rfl (hb hby at_228) rfl (teq hc228_166).2 k) ?_
          show Go _ _ _ _ _ _ _ T161 (mkF m 231 #[.val (.int is_), .val (.int ii), .val (.int iv), .val (.int ig), .val (.int sp), .val (.int f5), .val (.int f6), .val (.ref b102), .val (.ref ar_104), .val (.ref ar_105), .val (.int ix), .val (.ref ar_151), .val (.ref ar_161)] [])
          refine Go.step (fun _ k => XS.aload X161.here hx rfl (hb hby at_231) rfl rfl k) ?_
          show Go _ _ _ _ _ _ _ T161 (mkF m 233 #[.val (.int is_), .val (.int ii), .val (.int iv), .val (.int ig), .val (.int sp), .val (.int f5), .val (.int f6), .val (.ref b102), .val (.ref ar_104), .val (.ref ar_105), .val (.int ix), .val (.ref ar_151), .val (.ref ar_161)] [(.ref ar_161)])
          obtain ⟨cl167, Ar167, -, S167, M167, -, -⟩ := id (Vr_161)
          have al167 := X161.arraylength hx (by rw [e161]; exact Ar167.1) (State.isArrayOf_alike hZ.alike Ar167.2.1) (g := (mkF m 233 #[.val (.int is_), .val (.int ii), .val (.int iv), .val (.int ig), .val (.int sp), .val (.int f5), .val (.int f6), .val (.ref b102), .val (.ref ar_104), .val (.ref ar_105), .val (.int ix), .val (.ref ar_151), .val (.ref ar_161)] [(.ref ar_161)])) rfl rfl (hb hby at_233)
          rw [len_of S167 M167] at al167
          refine Go.step al167 ?_
          show Go _ _ _ _ _ _ _ T161 (mkF m 234 #[.val (.int is_), .val (.int ii), .val (.int iv), .val (.int ig), .val (.int sp), .val (.int f5), .val (.int f6), .val (.ref b102), .val (.ref ar_104), .val (.ref ar_105), .val (.int ix), .val (.ref ar_151), .val (.ref ar_161)] [(.int sp)])
          refine Go.step (fun _ k => XS.iload X161.here hx rfl (hb hby at_234) rfl k) ?_
          show Go _ _ _ _ _ _ _ T161 (mkF m 236 #[.val (.int is_), .val (.int ii), .val (.int iv), .val (.int ig), .val (.int sp), .val (.int f5), .val (.int f6), .val (.ref b102), .val (.ref ar_104), .val (.ref ar_105), .val (.int ix), .val (.ref ar_151), .val (.ref ar_161)] [(.int sp), (.int sp)])
          have hc236_168 : sp = sp := rfl
          refine Go.step (fun _ k => XS.icmpNo X161.here hx rfl (hb hby at_236) rfl (teq hc236_168).2 k) ?_
          show Go _ _ _ _ _ _ _ T161 (mkF m 239 #[.val (.int is_), .val (.int ii), .val (.int iv), .val (.int ig), .val (.int sp), .val (.int f5), .val (.int f6), .val (.ref b102), .val (.ref ar_104), .val (.ref ar_105), .val (.int ix), .val (.ref ar_151), .val (.ref ar_161)] [])
          refine Go.step (fun _ k => XS.aload X161.here hx rfl (hb hby at_239) rfl rfl k) ?_
          show Go _ _ _ _ _ _ _ T161 (mkF m 241 #[.val (.int is_), .val (.int ii), .val (.int iv), .val (.int ig), .val (.int sp), .val (.int f5), .val (.int f6), .val (.ref b102), .val (.ref ar_104), .val (.ref ar_105), .val (.int ix), .val (.ref ar_151), .val (.ref ar_161)] [(.ref ar_151)])
          refine Go.step (fun _ k => XS.aload X161.here hx rfl (hb hby at_241) rfl rfl k) ?_
          show Go _ _ _ _ _ _ _ T161 (mkF m 243 #[.val (.int is_), .val (.int ii), .val (.int iv), .val (.int ig), .val (.int sp), .val (.int f5), .val (.int f6), .val (.ref b102), .val (.ref ar_104), .val (.ref ar_105), .val (.int ix), .val (.ref ar_151), .val (.ref ar_161)] [(.ref ar_161), (.ref ar_151)])
          refine Go.step (fun _ k => Jvm.RoadKit.acmp (g := (mkF m 243 #[.val (.int is_), .val (.int ii), .val (.int iv), .val (.int ig), .val (.int sp), .val (.int f5), .val (.int f6), .val (.ref b102), .val (.ref ar_104), .val (.ref ar_105), .val (.int ix), .val (.ref ar_151), .val (.ref ar_161)] [(.ref ar_161), (.ref ar_151)])) X161 hx rfl rfl rfl (pc0 := 243) (pc' := 248) (same := false) rfl (hb hby at_243) rfl (decide_eq_false fun q => ne_ar_151_ar_161 (Value.ref.inj q)) (by decide) (by decide) k) ?_
          show Go _ _ _ _ _ _ _ T161 (mkF m 248 #[.val (.int is_), .val (.int ii), .val (.int iv), .val (.int ig), .val (.int sp), .val (.int f5), .val (.int f6), .val (.ref b102), .val (.ref ar_104), .val (.ref ar_105), .val (.int ix), .val (.ref ar_151), .val (.ref ar_161)] [])
          refine Go.step (fun _ k => XS.iload X161.here hx rfl (hb hby at_248) rfl k) ?_
          show Go _ _ _ _ _ _ _ T161 (mkF m 250 #[.val (.int is_), .val (.int ii), .val (.int iv), .val (.int ig), .val (.int sp), .val (.int f5), .val (.int f6), .val (.ref b102), .val (.ref ar_104), .val (.ref ar_105), .val (.int ix), .val (.ref ar_151), .val (.ref ar_161)] [(.int f6)])
          have hc250_169 : f6 = (0 : Int32) := hc189_150
          refine Go.step (fun _ k => XS.ifYes X161.here hx rfl (pc0 := 250) (pc' := 296) rfl (hb hby at_250) rfl ((if0 _ _).trans (teq hc250_169).1) (by decide) (by decide) k) ?_
          show Go _ _ _ _ _ _ _ T161 (mkF m 296 #[.val (.int is_), .val (.int ii), .val (.int iv), .val (.int ig), .val (.int sp), .val (.int f5), .val (.int f6), .val (.ref b102), .val (.ref ar_104), .val (.ref ar_105), .val (.int ix), .val (.ref ar_151), .val (.ref ar_161)] [])
          refine Go.step (fun _ k => XS.aload X161.here hx rfl (hb hby at_296) rfl rfl k) ?_
          show Go _ _ _ _ _ _ _ T161 (mkF m 298 #[.val (.int is_), .val (.int ii), .val (.int iv), .val (.int ig), .val (.int sp), .val (.int f5), .val (.int f6), .val (.ref b102), .val (.ref ar_104), .val (.ref ar_105), .val (.int ix), .val (.ref ar_151), .val (.ref ar_161)] [(.ref ar_151)])
          refine Go.step (fun _ k => XS.aload X161.here hx rfl (hb hby at_298) rfl rfl k) ?_
          show Go _ _ _ _ _ _ _ T161 (mkF m 300 #[.val (.int is_), .val (.int ii), .val (.int iv), .val (.int ig), .val (.int sp), .val (.int f5), .val (.int f6), .val (.ref b102), .val (.ref ar_104), .val (.ref ar_105), .val (.int ix), .val (.ref ar_151), .val (.ref ar_161)] [(.ref ar_104), (.ref ar_151)])
          refine Go.step (fun _ k => Jvm.RoadKit.acmp (g := (mkF m 300 #[.val (.int is_), .val (.int ii), .val (.int iv), .val (.int ig), .val (.int sp), .val (.int f5), .val (.int f6), .val (.ref b102), .val (.ref ar_104), .val (.ref ar_105), .val (.int ix), .val (.ref ar_151), .val (.ref ar_161)] [(.ref ar_104), (.ref ar_151)])) X161 hx rfl rfl rfl (pc0 := 300) (pc' := 303) (same := false) rfl (hb hby at_300) rfl (decide_eq_false fun q => (Ne.symm ne_ar_104_ar_151) (Value.ref.inj q)) (by decide) (by decide) k) ?_
          show Go _ _ _ _ _ _ _ T161 (mkF m 303 #[.val (.int is_), .val (.int ii), .val (.int iv), .val (.int ig), .val (.int sp), .val (.int f5), .val (.int f6), .val (.ref b102), .val (.ref ar_104), .val (.ref ar_105), .val (.int ix), .val (.ref ar_151), .val (.ref ar_161)] [])
          refine Go.step (fun _ k => XS.aload X161.here hx rfl (hb hby at_303) rfl rfl k) ?_
          show Go _ _ _ _ _ _ _ T161 (mkF m 305 #[.val (.int is_), .val (.int ii), .val (.int iv), .val (.int ig), .val (.int sp), .val (.int f5), .val (.int f6), .val (.ref b102), .val (.ref ar_104), .val (.ref ar_105), .val (.int ix), .val (.ref ar_151), .val (.ref ar_161)] [(.ref ar_151)])
          refine Go.step (fun _ k => XS.aload X161.here hx rfl (hb hby at_305) rfl rfl k) ?_
          show Go _ _ _ _ _ _ _ T161 (mkF m 307 #[.val (.int is_), .val (.int ii), .val (.int iv), .val (.int ig), .val (.int sp), .val (.int f5), .val (.int f6), .val (.ref b102), .val (.ref ar_104), .val (.ref ar_105), .val (.int ix), .val (.ref ar_151), .val (.ref ar_161)] [(.ref ar_105), (.ref ar_151)])
          refine Go.step (fun _ k => Jvm.RoadKit.acmp (g := (mkF m 307 #[.val (.int is_), .val (.int ii), .val (.int iv), .val (.int ig), .val (.int sp), .val (.int f5), .val (.int f6), .val (.ref b102), .val (.ref ar_104), .val (.ref ar_105), .val (.int ix), .val (.ref ar_151), .val (.ref ar_161)] [(.ref ar_105), (.ref ar_151)])) X161 hx rfl rfl rfl (pc0 := 307) (pc' := 310) (same := false) rfl (hb hby at_307) rfl (decide_eq_false fun q => (Ne.symm ne_ar_105_ar_151) (Value.ref.inj q)) (by decide) (by decide) k) ?_
          show Go _ _ _ _ _ _ _ T161 (mkF m 310 #[.val (.int is_), .val (.int ii), .val (.int iv), .val (.int ig), .val (.int sp), .val (.int f5), .val (.int f6), .val (.ref b102), .val (.ref ar_104), .val (.ref ar_105), .val (.int ix), .val (.ref ar_151), .val (.ref ar_161)] [])
          refine Go.step (fun _ k => XS.aload X161.here hx rfl (hb hby at_310) rfl rfl k) ?_
          show Go _ _ _ _ _ _ _ T161 (mkF m 312 #[.val (.int is_), .val (.int ii), .val (.int iv), .val (.int ig), .val (.int sp), .val (.int f5), .val (.int f6), .val (.ref b102), .val (.ref ar_104), .val (.ref ar_105), .val (.int ix), .val (.ref ar_151), .val (.ref ar_161)] [(.ref ar_161)])
          refine Go.step (fun _ k => XS.aload X161.here hx rfl (hb hby at_312) rfl rfl k) ?_
          show Go _ _ _ _ _ _ _ T161 (mkF m 314 #[.val (.int is_), .val (.int ii), .val (.int iv), .val (.int ig), .val (.int sp), .val (.int f5), .val (.int f6), .val (.ref b102), .val (.ref ar_104), .val (.ref ar_105), .val (.int ix), .val (.ref ar_151), .val (.ref ar_161)] [(.ref ar_104), (.ref ar_161)])
          refine Go.step (fun _ k => Jvm.RoadKit.acmp (g := (mkF m 314 #[.val (.int is_), .val (.int ii), .val (.int iv), .val (.int ig), .val (.int sp), .val (.int f5), .val (.int f6), .val (.ref b102), .val (.ref ar_104), .val (.ref ar_105), .val (.int ix), .val (.ref ar_151), .val (.ref ar_161)] [(.ref ar_104), (.ref ar_161)])) X161 hx rfl rfl rfl (pc0 := 314) (pc' := 317) (same := false) rfl (hb hby at_314) rfl (decide_eq_false fun q => (Ne.symm ne_ar_104_ar_161) (Value.ref.inj q)) (by decide) (by decide) k) ?_
          show Go _ _ _ _ _ _ _ T161 (mkF m 317 #[.val (.int is_), .val (.int ii), .val (.int iv), .val (.int ig), .val (.int sp), .val (.int f5), .val (.int f6), .val (.ref b102), .val (.ref ar_104), .val (.ref ar_105), .val (.int ix), .val (.ref ar_151), .val (.ref ar_161)] [])
          refine Go.step (fun _ k => XS.aload X161.here hx rfl (hb hby at_317) rfl rfl k) ?_
          show Go _ _ _ _ _ _ _ T161 (mkF m 319 #[.val (.int is_), .val (.int ii), .val (.int iv), .val (.int ig), .val (.int sp), .val (.int f5), .val (.int f6), .val (.ref b102), .val (.ref ar_104), .val (.ref ar_105), .val (.int ix), .val (.ref ar_151), .val (.ref ar_161)] [(.ref ar_161)])
          refine Go.step (fun _ k => XS.aload X161.here hx rfl (hb hby at_319) rfl rfl k) ?_
          show Go _ _ _ _ _ _ _ T161 (mkF m 321 #[.val (.int is_), .val (.int ii), .val (.int iv), .val (.int ig), .val (.int sp), .val (.int f5), .val (.int f6), .val (.ref b102), .val (.ref ar_104), .val (.ref ar_105), .val (.int ix), .val (.ref ar_151), .val (.ref ar_161)] [(.ref ar_105), (.ref ar_161)])
          refine Go.step (fun _ k => Jvm.RoadKit.acmp (g := (mkF m 321 #[.val (.int is_), .val (.int ii), .val (.int iv), .val (.int ig), .val (.int sp), .val (.int f5), .val (.int f6), .val (.ref b102), .val (.ref ar_104), .val (.ref ar_105), .val (.int ix), .val (.ref ar_151), .val (.ref ar_161)] [(.ref ar_105), (.ref ar_161)])) X161 hx rfl rfl rfl (pc0 := 321) (pc' := 326) (same := false) rfl (hb hby at_321) rfl (decide_eq_false fun q => (Ne.symm ne_ar_105_ar_161) (Value.ref.inj q)) (by decide) (by decide) k) ?_
          show Go _ _ _ _ _ _ _ T161 (mkF m 326 #[.val (.int is_), .val (.int ii), .val (.int iv), .val (.int ig), .val (.int sp), .val (.int f5), .val (.int f6), .val (.ref b102), .val (.ref ar_104), .val (.ref ar_105), .val (.int ix), .val (.ref ar_151), .val (.ref ar_161)] [])
          refine Go.step (fun _ k => XS.iload X161.here hx rfl (hb hby at_326) rfl k) ?_
          show Go _ _ _ _ _ _ _ T161 (mkF m 328 #[.val (.int is_), .val (.int ii), .val (.int iv), .val (.int ig), .val (.int sp), .val (.int f5), .val (.int f6), .val (.ref b102), .val (.ref ar_104), .val (.ref ar_105), .val (.int ix), .val (.ref ar_151), .val (.ref ar_161)] [(.int sp)])
          have hc328_170 : (0 : Int32) < sp := (by have := rng32 sp; have : (0 : Int32).toInt = 0 := rfl; have q0 := hc134_113; simp only [Int32.lt_iff_toInt_lt, Int32.le_iff_toInt_le, ← Int32.toInt_inj, Int64.lt_iff_toInt_lt, Int64.le_iff_toInt_le, ← Int64.toInt_inj] at q0 ⊢; omega)
          refine Go.step (fun _ k => XS.ifNo X161.here hx rfl (hb hby at_328) rfl ((if0 _ _).trans (tlt hc328_170).2.2.2) k) ?_
          show Go _ _ _ _ _ _ _ T161 (mkF m 331 #[.val (.int is_), .val (.int ii), .val (.int iv), .val (.int ig), .val (.int sp), .val (.int f5), .val (.int f6), .val (.ref b102), .val (.ref ar_104), .val (.ref ar_105), .val (.int ix), .val (.ref ar_151), .val (.ref ar_161)] [])
          refine Go.step (fun _ k => XS.aload X161.here hx rfl (hb hby at_331) rfl rfl k) ?_
          show Go _ _ _ _ _ _ _ T161 (mkF m 333 #[.val (.int is_), .val (.int ii), .val (.int iv), .val (.int ig), .val (.int sp), .val (.int f5), .val (.int f6), .val (.ref b102), .val (.ref ar_104), .val (.ref ar_105), .val (.int ix), .val (.ref ar_151), .val (.ref ar_161)] [(.ref ar_151)])
          refine Go.step (fun _ k => XS.iload X161.here hx rfl (hb hby at_333) rfl k) ?_
          show Go _ _ _ _ _ _ _ T161 (mkF m 335 #[.val (.int is_), .val (.int ii), .val (.int iv), .val (.int ig), .val (.int sp), .val (.int f5), .val (.int f6), .val (.ref b102), .val (.ref ar_104), .val (.ref ar_105), .val (.int ix), .val (.ref ar_151), .val (.ref ar_161)] [(.int ix), (.ref ar_151)])
          obtain ⟨cl171, Ar171, q171, S171, M171, H171, G171⟩ := id (f164)
          have hin171 : ¬ (ix < 0 ∨ cl171.slots.size ≤ (ix).toNatClampNeg) := inb_of S171 ⟨ix0, ix1⟩
          have hat171 : cl171.slots[(ix).toNatClampNeg]? = some (.int (0 : Int32)) := H171.at hin171 rfl
          refine Go.step (X161.iaload hx (j := ix) (v := (.int (0 : Int32))) (by rw [e161]; exact Ar171.1) (State.isArrayOf_alike hZ.alike Ar171.2.1) Ar171.2.2 hin171 hat171 (g := (mkF m 335 #[.val (.int is_), .val (.int ii), .val (.int iv), .val (.int ig), .val (.int sp), .val (.int f5), .val (.int f6), .val (.ref b102), .val (.ref ar_104), .val (.ref ar_105), .val (.int ix), .val (.ref ar_151), .val (.ref ar_161)] [(.int ix), (.ref ar_151)])) rfl rfl (hb hby at_335)) ?_
          show Go _ _ _ _ _ _ _ T161 (mkF m 336 #[.val (.int is_), .val (.int ii), .val (.int iv), .val (.int ig), .val (.int sp), .val (.int f5), .val (.int f6), .val (.ref b102), .val (.ref ar_104), .val (.ref ar_105), .val (.int ix), .val (.ref ar_151), .val (.ref ar_161)] [(.int (0 : Int32))])
          have hc336_172 : (0 : Int32) = (0 : Int32) := (by decide)
          refine Go.step (fun _ k => XS.ifNo X161.here hx rfl (hb hby at_336) rfl ((if0 _ _).trans (teq hc336_172).2) k) ?_
          show Go _ _ _ _ _ _ _ T161 (mkF m 339 #[.val (.int is_), .val (.int ii), .val (.int iv), .val (.int ig), .val (.int sp), .val (.int f5), .val (.int f6), .val (.ref b102), .val (.ref ar_104), .val (.ref ar_105), .val (.int ix), .val (.ref ar_151), .val (.ref ar_161)] [])
          refine Go.step (fun _ k => XS.aload X161.here hx rfl (hb hby at_339) rfl rfl k) ?_
          show Go _ _ _ _ _ _ _ T161 (mkF m 341 #[.val (.int is_), .val (.int ii), .val (.int iv), .val (.int ig), .val (.int sp), .val (.int f5), .val (.int f6), .val (.ref b102), .val (.ref ar_104), .val (.ref ar_105), .val (.int ix), .val (.ref ar_151), .val (.ref ar_161)] [(.ref ar_161)])
          refine Go.step (fun _ k => XS.iload X161.here hx rfl (hb hby at_341) rfl k) ?_
          show Go _ _ _ _ _ _ _ T161 (mkF m 343 #[.val (.int is_), .val (.int ii), .val (.int iv), .val (.int ig), .val (.int sp), .val (.int f5), .val (.int f6), .val (.ref b102), .val (.ref ar_104), .val (.ref ar_105), .val (.int ix), .val (.ref ar_151), .val (.ref ar_161)] [(.int ix), (.ref ar_161)])
          obtain ⟨cl173, Ar173, q173, S173, M173, H173, G173⟩ := id (Vr_161)
          have hin173 : ¬ (ix < 0 ∨ cl173.slots.size ≤ (ix).toNatClampNeg) := inb_of S173 ⟨ix0, ix1⟩
          have hat173 : cl173.slots[(ix).toNatClampNeg]? = some (.int (0 : Int32)) := H173.at hin173 rfl
          refine Go.step (X161.iaload hx (j := ix) (v := (.int (0 : Int32))) (by rw [e161]; exact Ar173.1) (State.isArrayOf_alike hZ.alike Ar173.2.1) Ar173.2.2 hin173 hat173 (g := (mkF m 343 #[.val (.int is_), .val (.int ii), .val (.int iv), .val (.int ig), .val (.int sp), .val (.int f5), .val (.int f6), .val (.ref b102), .val (.ref ar_104), .val (.ref ar_105), .val (.int ix), .val (.ref ar_151), .val (.ref ar_161)] [(.int ix), (.ref ar_161)])) rfl rfl (hb hby at_343)) ?_
          show Go _ _ _ _ _ _ _ T161 (mkF m 344 #[.val (.int is_), .val (.int ii), .val (.int iv), .val (.int ig), .val (.int sp), .val (.int f5), .val (.int f6), .val (.ref b102), .val (.ref ar_104), .val (.ref ar_105), .val (.int ix), .val (.ref ar_151), .val (.ref ar_161)] [(.int (0 : Int32))])
          have hc344_174 : (0 : Int32) = (0 : Int32) := (by decide)
          refine Go.step (fun _ k => XS.ifYes X161.here hx rfl (pc0 := 344) (pc' := 349) rfl (hb hby at_344) rfl ((if0 _ _).trans (teq hc344_174).1) (by decide) (by decide) k) ?_
          show Go _ _ _ _ _ _ _ T161 (mkF m 349 #[.val (.int is_), .val (.int ii), .val (.int iv), .val (.int ig), .val (.int sp), .val (.int f5), .val (.int f6), .val (.ref b102), .val (.ref ar_104), .val (.ref ar_105), .val (.int ix), .val (.ref ar_151), .val (.ref ar_161)] [])
          refine Go.step (fun _ k => XS.iconst X161.here hx rfl (hb hby at_349) k) ?_
          show Go _ _ _ _ _ _ _ T161 (mkF m 350 #[.val (.int is_), .val (.int ii), .val (.int iv), .val (.int ig), .val (.int sp), .val (.int f5), .val (.int f6), .val (.ref b102), .val (.ref ar_104), .val (.ref ar_105), .val (.int ix), .val (.ref ar_151), .val (.ref ar_161)] [(.int (1 : Int32))])
          exact Go.retN X161 hx (t := .boolean) hret hlk (by simp) (hb hby at_350) e161 (by decide) (by decide) ⟨rfl, N161, trivial⟩
        · refine Go.step (fun _ k => XS.ifNo X149.here hx rfl (hb hby at_189) rfl ((if0 _ _).trans (feq hc189_150).1) k) ?_
          show Go _ _ _ _ _ _ _ T149 (mkF m 192 #[.val (.int is_), .val (.int ii), .val (.int iv), .val (.int ig), .val (.int sp), .val (.int f5), .val (.int f6), .val (.ref b102), .val (.ref ar_104), .val (.ref ar_105), .val (.int ix), .unset, .unset] [])
          refine Go.step (fun _ k => XS.aload X149.here hx rfl (hb hby at_192) rfl rfl k) ?_
          show Go _ _ _ _ _ _ _ T149 (mkF m 194 #[.val (.int is_), .val (.int ii), .val (.int iv), .val (.int ig), .val (.int sp), .val (.int f5), .val (.int f6), .val (.ref b102), .val (.ref ar_104), .val (.ref ar_105), .val (.int ix), .unset, .unset] [(.ref b102)])
          have f176 : Exa Z h149 b102 "com/example/termvault/termvault/MarkArrays" := ((E1_105.wr W147).wr W149)
          have f177 : Fld Z h149 b102 "com/example/termvault/termvault/MarkArrays" "countsTaken" "I" (.int (2 : Int32)) := ((Ft1_105.other W147 (Or.inl ne_b102_ar_104)).other W149 (Or.inl ne_b102_ar_105))
          have f178 : Fld Z h149 b102 "com/example/termvault/termvault/MarkArrays" "positionsTaken" "I" (.int tq) := ((Fo1_105.other W147 (Or.inl ne_b102_ar_104)).other W149 (Or.inl ne_b102_ar_105))
          have f179 : Fld Z h149 b102 "com/example/termvault/termvault/MarkArrays" "span" "I" (.int sp) := ((Fs1_105.other W147 (Or.inl ne_b102_ar_104)).other W149 (Or.inl ne_b102_ar_105))
          have f180 : Fld Z h149 b102 "com/example/termvault/termvault/MarkArrays" "counts" "[[I" (.ref ac_103) := ((Fc1_105.other W147 (Or.inl ne_b102_ar_104)).other W149 (Or.inl ne_b102_ar_105))
          have f181 : Fld Z h149 b102 "com/example/termvault/termvault/MarkArrays" "positions" "[[J" (.ref ap_103) := ((Fq1_105.other W147 (Or.inl ne_b102_ar_104)).other W149 (Or.inl ne_b102_ar_105))
          obtain ⟨cq175, kq175, q175a, q175b, q175c⟩ := isOf hZ e149 f176
          obtain ⟨_, _, ⟨T175, L175, k175, n175⟩, -, X175, ⟨Lc175, hQ175, l175, y175, z175⟩, st175⟩ := X149.virtualBack hx (y := (⟨"com/example/termvault/termvault/MarkArrays", "restart", "()V"⟩ : MethodName)) (z := (⟨"com/example/termvault/termvault/MarkArrays", "restart", "()V"⟩ : MethodName)) hown (mvT hZ (hw _ (List.mem_of_getElem? (i := 43) rfl))) (mvT hZ (hw _ (List.mem_of_getElem? (i := 44) rfl))) (notFace_of_selects (args := #[]) (mvT hZ (hw _ (List.mem_of_getElem? (i := 46) rfl)))) (mvT hZ (hw _ (List.mem_of_getElem? (i := 46) rfl))) (mvT hZ (hw _ (List.mem_of_getElem? (i := 45) rfl))) (by decide) (backOf (W := 0) (rmRe l Z a0 hw [] b102 (2 : Int32) tq sp ac_103 ap_103 h149 n0 Z149 f176 f177 f178 f179 f180 f181 g_b102) hZ (hw _ (List.mem_of_getElem? (i := 47) rfl)) (hw _ (List.mem_of_getElem? (i := 2) rfl)) (by decide) (by decide)) q175a q175c (g := (mkF m 194 #[.val (.int is_), .val (.int ii), .val (.int iv), .val (.int ig), .val (.int sp), .val (.int f5), .val (.int f6), .val (.ref b102), .val (.ref ar_104), .val (.ref ar_105), .val (.int ix), .unset, .unset] [(.ref b102)])) rfl (by rw [hml]; rfl) (Steps.refl _) (argsL := []) (rest := []) (lenOf pd___V rfl) rfl (by show 2 * 0 + _ ≤ _; exact Nat.le_of_eq rfl) (hb hby at_194) (fun _ _ => ⟨rfl, e149, (by decide : 6 + 0 ≤ _), (by decide : 3106 + 0 ≤ _)⟩)
          dsimp only [Pt.U, Pt.locs, Pt.cells, Pt.slots] at X175 l175 y175 z175 st175 hQ175
          subst l175 y175 z175
          obtain ⟨h175, e175⟩ : ∃ h, T175.heap = h := ⟨_, rfl⟩
          rw [e175] at hQ175
          obtain ⟨rfl, Nq175, Kq175, E1_175, Ft1_175, Fu1_175, Fs1_175, Fc1_175, Fp1_175⟩ := hQ175
          have N175 := Fr.app N149 Nq175
          have Z175 : n0 ≤ h175.size := Nat.le_trans Z149 Kq175.1
          refine Go.trans st175 ?_
          show Go _ _ _ _ _ _ _ T175 (mkF m 197 #[.val (.int is_), .val (.int ii), .val (.int iv), .val (.int ig), .val (.int sp), .val (.int f5), .val (.int f6), .val (.ref b102), .val (.ref ar_104), .val (.ref ar_105), .val (.int ix), .unset, .unset] [])
          refine Go.step (fun _ k => XS.aload X175.here hx rfl (hb hby at_197) rfl rfl k) ?_
          show Go _ _ _ _ _ _ _ T175 (mkF m 199 #[.val (.int is_), .val (.int ii), .val (.int iv), .val (.int ig), .val (.int sp), .val (.int f5), .val (.int f6), .val (.ref b102), .val (.ref ar_104), .val (.ref ar_105), .val (.int ix), .unset, .unset] [(.ref b102)])
          have f183 : Arv Z h175 ac_103 kc_103 (.array .int) (16 : Int32) (((List.replicate 16 Value.null).set (0 : Int32).toNatClampNeg (.ref ar_104)).set (1 : Int32).toNatClampNeg (.ref ar_105)) .null := (((Vc1_105.other W147 ne_ac_103_ar_104).other W149 ne_ac_103_ar_105).keep Kq175 (ninS (Ne.symm ne_b102_ac_103) nin0))
          obtain ⟨cq182, kq182, q182a, q182b, q182c⟩ := isOf hZ e175 E1_175
          obtain ⟨_, _, ⟨T182, L182, k182, n182⟩, -, X182, ⟨Lc182, hQ182, l182, y182, z182⟩, st182⟩ := X175.virtualBack hx (y := (⟨"com/example/termvault/termvault/MarkArrays", "counts", "()[I"⟩ : MethodName)) (z := (⟨"com/example/termvault/termvault/MarkArrays", "counts", "()[I"⟩ : MethodName)) hown (mvT hZ (hw _ (List.mem_of_getElem? (i := 19) rfl))) (mvT hZ (hw _ (List.mem_of_getElem? (i := 20) rfl))) (notFace_of_selects (args := #[]) (mvT hZ (hw _ (List.mem_of_getElem? (i := 22) rfl)))) (mvT hZ (hw _ (List.mem_of_getElem? (i := 22) rfl))) (mvT hZ (hw _ (List.mem_of_getElem? (i := 21) rfl))) (by decide) (backOf (W := 0) (rmCa l Z a0 hw [] b102 ac_103 kc_103 (((List.replicate 16 Value.null).set (0 : Int32).toNatClampNeg (.ref ar_104)).set (1 : Int32).toNatClampNeg (.ref ar_105)) (0 : Int32) sp ar_104 (0 : Int32) ap_103 h175 n0 Z175 E1_175 Fc1_175 Ft1_175 Fs1_175 f183 Fu1_175 Fp1_175 g_b102 ne_b102_ac_103 (by decide) (by decide) ((own_n (by decide)).trans (own_g (by simp [List.length_set])))) hZ (hw _ (List.mem_of_getElem? (i := 23) rfl)) (hw _ (List.mem_of_getElem? (i := 2) rfl)) (by decide) (by decide)) q182a q182c (g := (mkF m 199 #[.val (.int is_), .val (.int ii), .val (.int iv), .val (.int ig), .val (.int sp), .val (.int f5), .val (.int f6), .val (.ref b102), .val (.ref ar_104), .val (.ref ar_105), .val (.int ix), .unset, .unset] [(.ref b102)])) rfl (by rw [hml]; rfl) (Steps.refl _) (argsL := []) (rest := []) (lenOf pd____I rfl) rfl (by show 2 * 0 + _ ≤ _; exact Nat.le_of_eq rfl) (hb hby at_199) (fun _ _ => ⟨rfl, e175, (by decide : 6 + 0 ≤ _), (by decide : 3106 + 0 ≤ _)⟩)
          dsimp only [Pt.U, Pt.locs, Pt.cells, Pt.slots] at X182 l182 y182 z182 st182 hQ182
          subst l182 y182 z182
          obtain ⟨h182, e182⟩ : ∃ h, T182.heap = h := ⟨_, rfl⟩
          rw [e182] at hQ182
          obtain ⟨rfl, Nq182, Kq182, E1_182, Fc1_182, Ft1_182, Fs1_182, Fo1_182, Fq1_182⟩ := hQ182
          have N182 := Fr.app N175 Nq182
          have Z182 : n0 ≤ h182.size := Nat.le_trans Z175 Kq182.1
          have Ft1_182 : Fld Z h182 b102 "com/example/termvault/termvault/MarkArrays" "countsTaken" "I" (.int (1 : Int32)) := Ft1_182
          have Fo1_182 : Fld Z h182 b102 "com/example/termvault/termvault/MarkArrays" "positionsTaken" "I" (.int (0 : Int32)) := Fo1_182
          refine Go.trans st182 ?_
          show Go _ _ _ _ _ _ _ T182 (mkF m 202 #[.val (.int is_), .val (.int ii), .val (.int iv), .val (.int ig), .val (.int sp), .val (.int f5), .val (.int f6), .val (.ref b102), .val (.ref ar_104), .val (.ref ar_105), .val (.int ix), .unset, .unset] [(.ref ar_104)])
          refine Go.step (fun _ k => XS.astore X182.here hx rfl (hb hby at_202) rfl rfl (l' := #[.val (.int is_), .val (.int ii), .val (.int iv), .val (.int ig), .val (.int sp), .val (.int f5), .val (.int f6), .val (.ref b102), .val (.ref ar_104), .val (.ref ar_105), .val (.int ix), .val (.ref ar_104), .unset]) rfl k) ?_
          show Go _ _ _ _ _ _ _ T182 (mkF m 204 #[.val (.int is_), .val (.int ii), .val (.int iv), .val (.int ig), .val (.int sp), .val (.int f5), .val (.int f6), .val (.ref b102), .val (.ref ar_104), .val (.ref ar_105), .val (.int ix), .val (.ref ar_104), .unset] [])
          refine Go.step (fun _ k => XS.aload X182.here hx rfl (hb hby at_204) rfl rfl k) ?_
          show Go _ _ _ _ _ _ _ T182 (mkF m 206 #[.val (.int is_), .val (.int ii), .val (.int iv), .val (.int ig), .val (.int sp), .val (.int f5), .val (.int f6), .val (.ref b102), .val (.ref ar_104), .val (.ref ar_105), .val (.int ix), .val (.ref ar_104), .unset] [(.ref b102)])
          have f185 : Arv Z h182 ac_103 kc_103 (.array .int) (16 : Int32) (((List.replicate 16 Value.null).set (0 : Int32).toNatClampNeg (.ref ar_104)).set (1 : Int32).toNatClampNeg (.ref ar_105)) .null := (f183.keep Kq182 (ninS (Ne.symm ne_b102_ac_103) nin0))
          obtain ⟨cq184, kq184, q184a, q184b, q184c⟩ := isOf hZ e182 E1_182
          obtain ⟨_, _, ⟨T184, L184, k184, n184⟩, -, X184, ⟨Lc184, hQ184, l184, y184, z184⟩, st184⟩ := X182.virtualBack hx (y := (⟨"com/example/termvault/termvault/MarkArrays", "counts", "()[I"⟩ : MethodName)) (z := (⟨"com/example/termvault/termvault/MarkArrays", "counts", "()[I"⟩ : MethodName)) hown (mvT hZ (hw _ (List.mem_of_getElem? (i := 19) rfl))) (mvT hZ (hw _ (List.mem_of_getElem? (i := 20) rfl))) (notFace_of_selects (args := #[]) (mvT hZ (hw _ (List.mem_of_getElem? (i := 22) rfl)))) (mvT hZ (hw _ (List.mem_of_getElem? (i := 22) rfl))) (mvT hZ (hw _ (List.mem_of_getElem? (i := 21) rfl))) (by decide) (backOf (W := 0) (rmCa l Z a0 hw [] b102 ac_103 kc_103 (((List.replicate 16 Value.null).set (0 : Int32).toNatClampNeg (.ref ar_104)).set (1 : Int32).toNatClampNeg (.ref ar_105)) (1 : Int32) sp ar_105 (0 : Int32) ap_103 h182 n0 Z182 E1_182 Fc1_182 Ft1_182 Fs1_182 f185 Fo1_182 Fq1_182 g_b102 ne_b102_ac_103 (by decide) (by decide) (own_g (by simp [List.length_set]))) hZ (hw _ (List.mem_of_getElem? (i := 23) rfl)) (hw _ (List.mem_of_getElem? (i := 2) rfl)) (by decide) (by decide)) q184a q184c (g := (mkF m 206 #[.val (.int is_), .val (.int ii), .val (.int iv), .val (.int ig), .val (.int sp), .val (.int f5), .val (.int f6), .val (.ref b102), .val (.ref ar_104), .val (.ref ar_105), .val (.int ix), .val (.ref ar_104), .unset] [(.ref b102)])) rfl (by rw [hml]; rfl) (Steps.refl _) (argsL := []) (rest := []) (lenOf pd____I rfl) rfl (by show 2 * 0 + _ ≤ _; exact Nat.le_of_eq rfl) (hb hby at_206) (fun _ _ => ⟨rfl, e182, (by decide : 6 + 0 ≤ _), (by decide : 3106 + 0 ≤ _)⟩)
          dsimp only [Pt.U, Pt.locs, Pt.cells, Pt.slots] at X184 l184 y184 z184 st184 hQ184
          subst l184 y184 z184
          obtain ⟨h184, e184⟩ : ∃ h, T184.heap = h := ⟨_, rfl⟩
          rw [e184] at hQ184
          obtain ⟨rfl, Nq184, Kq184, E1_184, Fc1_184, Ft1_184, Fs1_184, Fo1_184, Fq1_184⟩ := hQ184
          have N184 := Fr.app N182 Nq184
          have Z184 : n0 ≤ h184.size := Nat.le_trans Z182 Kq184.1
          have Ft1_184 : Fld Z h184 b102 "com/example/termvault/termvault/MarkArrays" "countsTaken" "I" (.int (2 : Int32)) := Ft1_184
          have Fo1_184 : Fld Z h184 b102 "com/example/termvault/termvault/MarkArrays" "positionsTaken" "I" (.int (0 : Int32)) := Fo1_184
          refine Go.trans st184 ?_
          show Go _ _ _ _ _ _ _ T184 (mkF m 209 #[.val (.int is_), .val (.int ii), .val (.int iv), .val (.int ig), .val (.int sp), .val (.int f5), .val (.int f6), .val (.ref b102), .val (.ref ar_104), .val (.ref ar_105), .val (.int ix), .val (.ref ar_104), .unset] [(.ref ar_105)])
          refine Go.step (fun _ k => XS.astore X184.here hx rfl (hb hby at_209) rfl rfl (l' := #[.val (.int is_), .val (.int ii), .val (.int iv), .val (.int ig), .val (.int sp), .val (.int f5), .val (.int f6), .val (.ref b102), .val (.ref ar_104), .val (.ref ar_105), .val (.int ix), .val (.ref ar_104), .val (.ref ar_105)]) rfl k) ?_
          show Go _ _ _ _ _ _ _ T184 (mkF m 211 #[.val (.int is_), .val (.int ii), .val (.int iv), .val (.int ig), .val (.int sp), .val (.int f5), .val (.int f6), .val (.ref b102), .val (.ref ar_104), .val (.ref ar_105), .val (.int ix), .val (.ref ar_104), .val (.ref ar_105)] [])
          refine Go.step (fun _ k => XS.aload X184.here hx rfl (hb hby at_211) rfl rfl k) ?_
          show Go _ _ _ _ _ _ _ T184 (mkF m 213 #[.val (.int is_), .val (.int ii), .val (.int iv), .val (.int ig), .val (.int sp), .val (.int f5), .val (.int f6), .val (.ref b102), .val (.ref ar_104), .val (.ref ar_105), .val (.int ix), .val (.ref ar_104), .val (.ref ar_105)] [(.ref ar_104)])
          refine Go.step (fun _ k => XS.ifnullNo X184.here hx rfl (hb hby at_213) rfl k) ?_
          show Go _ _ _ _ _ _ _ T184 (mkF m 216 #[.val (.int is_), .val (.int ii), .val (.int iv), .val (.int ig), .val (.int sp), .val (.int f5), .val (.int f6), .val (.ref b102), .val (.ref ar_104), .val (.ref ar_105), .val (.int ix), .val (.ref ar_104), .val (.ref ar_105)] [])
          refine Go.step (fun _ k => XS.aload X184.here hx rfl (hb hby at_216) rfl rfl k) ?_
          show Go _ _ _ _ _ _ _ T184 (mkF m 218 #[.val (.int is_), .val (.int ii), .val (.int iv), .val (.int ig), .val (.int sp), .val (.int f5), .val (.int f6), .val (.ref b102), .val (.ref ar_104), .val (.ref ar_105), .val (.int ix), .val (.ref ar_104), .val (.ref ar_105)] [(.ref ar_105)])
          refine Go.step (fun _ k => XS.ifnonnullYes X184.here hx rfl (pc0 := 218) (pc' := 223) rfl (hb hby at_218) rfl (by decide) (by decide) k) ?_
          show Go _ _ _ _ _ _ _ T184 (mkF m 223 #[.val (.int is_), .val (.int ii), .val (.int iv), .val (.int ig), .val (.int sp), .val (.int f5), .val (.int f6), .val (.ref b102), .val (.ref ar_104), .val (.ref ar_105), .val (.int ix), .val (.ref ar_104), .val (.ref ar_105)] [])
          refine Go.step (fun _ k => XS.aload X184.here hx rfl (hb hby at_223) rfl rfl k) ?_
          show Go _ _ _ _ _ _ _ T184 (mkF m 225 #[.val (.int is_), .val (.int ii), .val (.int iv), .val (.int ig), .val (.int sp), .val (.int f5), .val (.int f6), .val (.ref b102), .val (.ref ar_104), .val (.ref ar_105), .val (.int ix), .val (.ref ar_104), .val (.ref ar_105)] [(.ref ar_104)])
          have f186 : Arv Z h184 ar_104 kr_104 .int sp ((List.replicate sp.toNatClampNeg (.int (0 : Int32))).set ix.toNatClampNeg (.int iv)) (.int (0 : Int32)) := ((((V147.other W149 ne_ar_104_ar_105).keep Kq175 (ninS (Ne.symm ne_b102_ar_104) nin0)).keep Kq182 (ninS (Ne.symm ne_b102_ar_104) nin0)).keep Kq184 (ninS (Ne.symm ne_b102_ar_104) nin0))
          obtain ⟨cl187, Ar187, -, S187, M187, -, -⟩ := id (f186)
          have al187 := X184.arraylength hx (by rw [e184]; exact Ar187.1) (State.isArrayOf_alike hZ.alike Ar187.2.1) (g := (mkF m 225 #[.val (.int is_), .val (.int ii), .val (.int iv), .val (.int ig), .val (.int sp), .val (.int f5), .val (.int f6), .val (.ref b102), .val (.ref ar_104), .val (.ref ar_105), .val (.int ix), .val (.ref ar_104), .val (.ref ar_105)] [(.ref ar_104)])) rfl rfl (hb hby at_225)
          rw [len_of S187 M187] at al187
          refine Go.step al187 ?_
          show Go _ _ _ _ _ _ _ T184 (mkF m 226 #[.val (.int is_), .val (.int ii), .val (.int iv), .val (.int ig), .val (.int sp), .val (.int f5), .val (.int f6), .val (.ref b102), .val (.ref ar_104), .val (.ref ar_105), .val (.int ix), .val (.ref ar_104), .val (.ref ar_105)] [(.int sp)])
          refine Go.step (fun _ k => XS.iload X184.here hx rfl (hb hby at_226) rfl k) ?_
          show Go _ _ _ _ _ _ _ T184 (mkF m 228 #[.val (.int is_), .val (.int ii), .val (.int iv), .val (.int ig), .val (.int sp), .val (.int f5), .val (.int f6), .val (.ref b102), .val (.ref ar_104), .val (.ref ar_105), .val (.int ix), .val (.ref ar_104), .val (.ref ar_105)] [(.int sp), (.int sp)])
          have hc228_188 : sp = sp := rfl
          refine Go.step (fun _ k => XS.icmpNo X184.here hx rfl (hb hby at_228) rfl (teq hc228_188).2 k) ?_
          show Go _ _ _ _ _ _ _ T184 (mkF m 231 #[.val (.int is_), .val (.int ii), .val (.int iv), .val (.int ig), .val (.int sp), .val (.int f5), .val (.int f6), .val (.ref b102), .val (.ref ar_104), .val (.ref ar_105), .val (.int ix), .val (.ref ar_104), .val (.ref ar_105)] [])
          refine Go.step (fun _ k => XS.aload X184.here hx rfl (hb hby at_231) rfl rfl k) ?_
          show Go _ _ _ _ _ _ _ T184 (mkF m 233 #[.val (.int is_), .val (.int ii), .val (.int iv), .val (.int ig), .val (.int sp), .val (.int f5), .val (.int f6), .val (.ref b102), .val (.ref ar_104), .val (.ref ar_105), .val (.int ix), .val (.ref ar_104), .val (.ref ar_105)] [(.ref ar_105)])
          have f189 : Arv Z h184 ar_105 kr_105 .int sp ((List.replicate sp.toNatClampNeg (.int (0 : Int32))).set ix.toNatClampNeg (.int (iv ^^^ (-1 : Int32)))) (.int (0 : Int32)) := (((V149.keep Kq175 (ninS (Ne.symm ne_b102_ar_105) nin0)).keep Kq182 (ninS (Ne.symm ne_b102_ar_105) nin0)).keep Kq184 (ninS (Ne.symm ne_b102_ar_105) nin0))
          obtain ⟨cl190, Ar190, -, S190, M190, -, -⟩ := id (f189)
          have al190 := X184.arraylength hx (by rw [e184]; exact Ar190.1) (State.isArrayOf_alike hZ.alike Ar190.2.1) (g := (mkF m 233 #[.val (.int is_), .val (.int ii), .val (.int iv), .val (.int ig), .val (.int sp), .val (.int f5), .val (.int f6), .val (.ref b102), .val (.ref ar_104), .val (.ref ar_105), .val (.int ix), .val (.ref ar_104), .val (.ref ar_105)] [(.ref ar_105)])) rfl rfl (hb hby at_233)
          rw [len_of S190 M190] at al190
          refine Go.step al190 ?_
          show Go _ _ _ _ _ _ _ T184 (mkF m 234 #[.val (.int is_), .val (.int ii), .val (.int iv), .val (.int ig), .val (.int sp), .val (.int f5), .val (.int f6), .val (.ref b102), .val (.ref ar_104), .val (.ref ar_105), .val (.int ix), .val (.ref ar_104), .val (.ref ar_105)] [(.int sp)])
          refine Go.step (fun _ k => XS.iload X184.here hx rfl (hb hby at_234) rfl k) ?_
          show Go _ _ _ _ _ _ _ T184 (mkF m 236 #[.val (.int is_), .val (.int ii), .val (.int iv), .val (.int ig), .val (.int sp), .val (.int f5), .val (.int f6), .val (.ref b102), .val (.ref ar_104), .val (.ref ar_105), .val (.int ix), .val (.ref ar_104), .val (.ref ar_105)] [(.int sp), (.int sp)])
          have hc236_191 : sp = sp := rfl
          refine Go.step (fun _ k => XS.icmpNo X184.here hx rfl (hb hby at_236) rfl (teq hc236_191).2 k) ?_
          show Go _ _ _ _ _ _ _ T184 (mkF m 239 #[.val (.int is_), .val (.int ii), .val (.int iv), .val (.int ig), .val (.int sp), .val (.int f5), .val (.int f6), .val (.ref b102), .val (.ref ar_104), .val (.ref ar_105), .val (.int ix), .val (.ref ar_104), .val (.ref ar_105)] [])
          refine Go.step (fun _ k => XS.aload X184.here hx rfl (hb hby at_239) rfl rfl k) ?_
          show Go _ _ _ _ _ _ _ T184 (mkF m 241 #[.val (.int is_), .val (.int ii), .val (.int iv), .val (.int ig), .val (.int sp), .val (.int f5), .val (.int f6), .val (.ref b102), .val (.ref ar_104), .val (.ref ar_105), .val (.int ix), .val (.ref ar_104), .val (.ref ar_105)] [(.ref ar_104)])
          refine Go.step (fun _ k => XS.aload X184.here hx rfl (hb hby at_241) rfl rfl k) ?_
          show Go _ _ _ _ _ _ _ T184 (mkF m 243 #[.val (.int is_), .val (.int ii), .val (.int iv), .val (.int ig), .val (.int sp), .val (.int f5), .val (.int f6), .val (.ref b102), .val (.ref ar_104), .val (.ref ar_105), .val (.int ix), .val (.ref ar_104), .val (.ref ar_105)] [(.ref ar_105), (.ref ar_104)])
          refine Go.step (fun _ k => Jvm.RoadKit.acmp (g := (mkF m 243 #[.val (.int is_), .val (.int ii), .val (.int iv), .val (.int ig), .val (.int sp), .val (.int f5), .val (.int f6), .val (.ref b102), .val (.ref ar_104), .val (.ref ar_105), .val (.int ix), .val (.ref ar_104), .val (.ref ar_105)] [(.ref ar_105), (.ref ar_104)])) X184 hx rfl rfl rfl (pc0 := 243) (pc' := 248) (same := false) rfl (hb hby at_243) rfl (decide_eq_false fun q => ne_ar_104_ar_105 (Value.ref.inj q)) (by decide) (by decide) k) ?_
          show Go _ _ _ _ _ _ _ T184 (mkF m 248 #[.val (.int is_), .val (.int ii), .val (.int iv), .val (.int ig), .val (.int sp), .val (.int f5), .val (.int f6), .val (.ref b102), .val (.ref ar_104), .val (.ref ar_105), .val (.int ix), .val (.ref ar_104), .val (.ref ar_105)] [])
          refine Go.step (fun _ k => XS.iload X184.here hx rfl (hb hby at_248) rfl k) ?_
          show Go _ _ _ _ _ _ _ T184 (mkF m 250 #[.val (.int is_), .val (.int ii), .val (.int iv), .val (.int ig), .val (.int sp), .val (.int f5), .val (.int f6), .val (.ref b102), .val (.ref ar_104), .val (.ref ar_105), .val (.int ix), .val (.ref ar_104), .val (.ref ar_105)] [(.int f6)])
          have hc250_192 : ¬ (f6 = (0 : Int32)) := hc189_150
          refine Go.step (fun _ k => XS.ifNo X184.here hx rfl (hb hby at_250) rfl ((if0 _ _).trans (feq hc250_192).1) k) ?_
          show Go _ _ _ _ _ _ _ T184 (mkF m 253 #[.val (.int is_), .val (.int ii), .val (.int iv), .val (.int ig), .val (.int sp), .val (.int f5), .val (.int f6), .val (.ref b102), .val (.ref ar_104), .val (.ref ar_105), .val (.int ix), .val (.ref ar_104), .val (.ref ar_105)] [])
          refine Go.step (fun _ k => XS.aload X184.here hx rfl (hb hby at_253) rfl rfl k) ?_
          show Go _ _ _ _ _ _ _ T184 (mkF m 255 #[.val (.int is_), .val (.int ii), .val (.int iv), .val (.int ig), .val (.int sp), .val (.int f5), .val (.int f6), .val (.ref b102), .val (.ref ar_104), .val (.ref ar_105), .val (.int ix), .val (.ref ar_104), .val (.ref ar_105)] [(.ref ar_104)])
          refine Go.step (fun _ k => XS.aload X184.here hx rfl (hb hby at_255) rfl rfl k) ?_
          show Go _ _ _ _ _ _ _ T184 (mkF m 257 #[.val (.int is_), .val (.int ii), .val (.int iv), .val (.int ig), .val (.int sp), .val (.int f5), .val (.int f6), .val (.ref b102), .val (.ref ar_104), .val (.ref ar_105), .val (.int ix), .val (.ref ar_104), .val (.ref ar_105)] [(.ref ar_104), (.ref ar_104)])
          refine Go.step (fun _ k => Jvm.RoadKit.acmp (g := (mkF m 257 #[.val (.int is_), .val (.int ii), .val (.int iv), .val (.int ig), .val (.int sp), .val (.int f5), .val (.int f6), .val (.ref b102), .val (.ref ar_104), .val (.ref ar_105), .val (.int ix), .val (.ref ar_104), .val (.ref ar_105)] [(.ref ar_104), (.ref ar_104)])) X184 hx rfl rfl rfl (pc0 := 257) (pc' := 260) (same := true) rfl (hb hby at_257) rfl (decide_eq_true rfl) (by decide) (by decide) k) ?_
          show Go _ _ _ _ _ _ _ T184 (mkF m 260 #[.val (.int is_), .val (.int ii), .val (.int iv), .val (.int ig), .val (.int sp), .val (.int f5), .val (.int f6), .val (.ref b102), .val (.ref ar_104), .val (.ref ar_105), .val (.int ix), .val (.ref ar_104), .val (.ref ar_105)] [])
          refine Go.step (fun _ k => XS.aload X184.here hx rfl (hb hby at_260) rfl rfl k) ?_
          show Go _ _ _ _ _ _ _ T184 (mkF m 262 #[.val (.int is_), .val (.int ii), .val (.int iv), .val (.int ig), .val (.int sp), .val (.int f5), .val (.int f6), .val (.ref b102), .val (.ref ar_104), .val (.ref ar_105), .val (.int ix), .val (.ref ar_104), .val (.ref ar_105)] [(.ref ar_105)])
          refine Go.step (fun _ k => XS.aload X184.here hx rfl (hb hby at_262) rfl rfl k) ?_
          show Go _ _ _ _ _ _ _ T184 (mkF m 264 #[.val (.int is_), .val (.int ii), .val (.int iv), .val (.int ig), .val (.int sp), .val (.int f5), .val (.int f6), .val (.ref b102), .val (.ref ar_104), .val (.ref ar_105), .val (.int ix), .val (.ref ar_104), .val (.ref ar_105)] [(.ref ar_105), (.ref ar_105)])
          refine Go.step (fun _ k => Jvm.RoadKit.acmp (g := (mkF m 264 #[.val (.int is_), .val (.int ii), .val (.int iv), .val (.int ig), .val (.int sp), .val (.int f5), .val (.int f6), .val (.ref b102), .val (.ref ar_104), .val (.ref ar_105), .val (.int ix), .val (.ref ar_104), .val (.ref ar_105)] [(.ref ar_105), (.ref ar_105)])) X184 hx rfl rfl rfl (pc0 := 264) (pc' := 269) (same := true) rfl (hb hby at_264) rfl (decide_eq_true rfl) (by decide) (by decide) k) ?_
          show Go _ _ _ _ _ _ _ T184 (mkF m 269 #[.val (.int is_), .val (.int ii), .val (.int iv), .val (.int ig), .val (.int sp), .val (.int f5), .val (.int f6), .val (.ref b102), .val (.ref ar_104), .val (.ref ar_105), .val (.int ix), .val (.ref ar_104), .val (.ref ar_105)] [])
          refine Go.step (fun _ k => XS.iload X184.here hx rfl (hb hby at_269) rfl k) ?_
          show Go _ _ _ _ _ _ _ T184 (mkF m 271 #[.val (.int is_), .val (.int ii), .val (.int iv), .val (.int ig), .val (.int sp), .val (.int f5), .val (.int f6), .val (.ref b102), .val (.ref ar_104), .val (.ref ar_105), .val (.int ix), .val (.ref ar_104), .val (.ref ar_105)] [(.int sp)])
          have hc271_193 : (0 : Int32) < sp := (by have := rng32 sp; have : (0 : Int32).toInt = 0 := rfl; have q0 := hc134_113; simp only [Int32.lt_iff_toInt_lt, Int32.le_iff_toInt_le, ← Int32.toInt_inj, Int64.lt_iff_toInt_lt, Int64.le_iff_toInt_le, ← Int64.toInt_inj] at q0 ⊢; omega)
          refine Go.step (fun _ k => XS.ifNo X184.here hx rfl (hb hby at_271) rfl ((if0 _ _).trans (tlt hc271_193).2.2.2) k) ?_
          show Go _ _ _ _ _ _ _ T184 (mkF m 274 #[.val (.int is_), .val (.int ii), .val (.int iv), .val (.int ig), .val (.int sp), .val (.int f5), .val (.int f6), .val (.ref b102), .val (.ref ar_104), .val (.ref ar_105), .val (.int ix), .val (.ref ar_104), .val (.ref ar_105)] [])
          refine Go.step (fun _ k => XS.aload X184.here hx rfl (hb hby at_274) rfl rfl k) ?_
          show Go _ _ _ _ _ _ _ T184 (mkF m 276 #[.val (.int is_), .val (.int ii), .val (.int iv), .val (.int ig), .val (.int sp), .val (.int f5), .val (.int f6), .val (.ref b102), .val (.ref ar_104), .val (.ref ar_105), .val (.int ix), .val (.ref ar_104), .val (.ref ar_105)] [(.ref ar_104)])
          refine Go.step (fun _ k => XS.iload X184.here hx rfl (hb hby at_276) rfl k) ?_
          show Go _ _ _ _ _ _ _ T184 (mkF m 278 #[.val (.int is_), .val (.int ii), .val (.int iv), .val (.int ig), .val (.int sp), .val (.int f5), .val (.int f6), .val (.ref b102), .val (.ref ar_104), .val (.ref ar_105), .val (.int ix), .val (.ref ar_104), .val (.ref ar_105)] [(.int ix), (.ref ar_104)])
          obtain ⟨cl194, Ar194, q194, S194, M194, H194, G194⟩ := id (f186)
          have hin194 : ¬ (ix < 0 ∨ cl194.slots.size ≤ (ix).toNatClampNeg) := inb_of S194 ⟨ix0, ix1⟩
          have hat194 : cl194.slots[(ix).toNatClampNeg]? = some (.int iv) := H194.at hin194 (own_g (by rw [List.length_replicate]; exact own_tlt ix0 ix1))
          refine Go.step (X184.iaload hx (j := ix) (v := (.int iv)) (by rw [e184]; exact Ar194.1) (State.isArrayOf_alike hZ.alike Ar194.2.1) Ar194.2.2 hin194 hat194 (g := (mkF m 278 #[.val (.int is_), .val (.int ii), .val (.int iv), .val (.int ig), .val (.int sp), .val (.int f5), .val (.int f6), .val (.ref b102), .val (.ref ar_104), .val (.ref ar_105), .val (.int ix), .val (.ref ar_104), .val (.ref ar_105)] [(.int ix), (.ref ar_104)])) rfl rfl (hb hby at_278)) ?_
          show Go _ _ _ _ _ _ _ T184 (mkF m 279 #[.val (.int is_), .val (.int ii), .val (.int iv), .val (.int ig), .val (.int sp), .val (.int f5), .val (.int f6), .val (.ref b102), .val (.ref ar_104), .val (.ref ar_105), .val (.int ix), .val (.ref ar_104), .val (.ref ar_105)] [(.int iv)])
          refine Go.step (fun _ k => XS.iloadN X184.here hx rfl (hb hby at_279) rfl k) ?_
          show Go _ _ _ _ _ _ _ T184 (mkF m 280 #[.val (.int is_), .val (.int ii), .val (.int iv), .val (.int ig), .val (.int sp), .val (.int f5), .val (.int f6), .val (.ref b102), .val (.ref ar_104), .val (.ref ar_105), .val (.int ix), .val (.ref ar_104), .val (.ref ar_105)] [(.int iv), (.int iv)])
          have hc280_195 : iv = iv := rfl
          refine Go.step (fun _ k => XS.icmpNo X184.here hx rfl (hb hby at_280) rfl (teq hc280_195).2 k) ?_
          show Go _ _ _ _ _ _ _ T184 (mkF m 283 #[.val (.int is_), .val (.int ii), .val (.int iv), .val (.int ig), .val (.int sp), .val (.int f5), .val (.int f6), .val (.ref b102), .val (.ref ar_104), .val (.ref ar_105), .val (.int ix), .val (.ref ar_104), .val (.ref ar_105)] [])
          refine Go.step (fun _ k => XS.aload X184.here hx rfl (hb hby at_283) rfl rfl k) ?_
          show Go _ _ _ _ _ _ _ T184 (mkF m 285 #[.val (.int is_), .val (.int ii), .val (.int iv), .val (.int ig), .val (.int sp), .val (.int f5), .val (.int f6), .val (.ref b102), .val (.ref ar_104), .val (.ref ar_105), .val (.int ix), .val (.ref ar_104), .val (.ref ar_105)] [(.ref ar_105)])
          refine Go.step (fun _ k => XS.iload X184.here hx rfl (hb hby at_285) rfl k) ?_
          show Go _ _ _ _ _ _ _ T184 (mkF m 287 #[.val (.int is_), .val (.int ii), .val (.int iv), .val (.int ig), .val (.int sp), .val (.int f5), .val (.int f6), .val (.ref b102), .val (.ref ar_104), .val (.ref ar_105), .val (.int ix), .val (.ref ar_104), .val (.ref ar_105)] [(.int ix), (.ref ar_105)])
          obtain ⟨cl196, Ar196, q196, S196, M196, H196, G196⟩ := id (f189)
          have hin196 : ¬ (ix < 0 ∨ cl196.slots.size ≤ (ix).toNatClampNeg) := inb_of S196 ⟨ix0, ix1⟩
          have hat196 : cl196.slots[(ix).toNatClampNeg]? = some (.int (iv ^^^ (-1 : Int32))) := H196.at hin196 (own_g (by rw [List.length_replicate]; exact own_tlt ix0 ix1))
          refine Go.step (X184.iaload hx (j := ix) (v := (.int (iv ^^^ (-1 : Int32)))) (by rw [e184]; exact Ar196.1) (State.isArrayOf_alike hZ.alike Ar196.2.1) Ar196.2.2 hin196 hat196 (g := (mkF m 287 #[.val (.int is_), .val (.int ii), .val (.int iv), .val (.int ig), .val (.int sp), .val (.int f5), .val (.int f6), .val (.ref b102), .val (.ref ar_104), .val (.ref ar_105), .val (.int ix), .val (.ref ar_104), .val (.ref ar_105)] [(.int ix), (.ref ar_105)])) rfl rfl (hb hby at_287)) ?_
          show Go _ _ _ _ _ _ _ T184 (mkF m 288 #[.val (.int is_), .val (.int ii), .val (.int iv), .val (.int ig), .val (.int sp), .val (.int f5), .val (.int f6), .val (.ref b102), .val (.ref ar_104), .val (.ref ar_105), .val (.int ix), .val (.ref ar_104), .val (.ref ar_105)] [(.int (iv ^^^ (-1 : Int32)))])
          refine Go.step (fun _ k => XS.iloadN X184.here hx rfl (hb hby at_288) rfl k) ?_
          show Go _ _ _ _ _ _ _ T184 (mkF m 289 #[.val (.int is_), .val (.int ii), .val (.int iv), .val (.int ig), .val (.int sp), .val (.int f5), .val (.int f6), .val (.ref b102), .val (.ref ar_104), .val (.ref ar_105), .val (.int ix), .val (.ref ar_104), .val (.ref ar_105)] [(.int iv), (.int (iv ^^^ (-1 : Int32)))])
          refine Go.step (fun _ k => XS.iconst X184.here hx rfl (hb hby at_289) k) ?_
          show Go _ _ _ _ _ _ _ T184 (mkF m 290 #[.val (.int is_), .val (.int ii), .val (.int iv), .val (.int ig), .val (.int sp), .val (.int f5), .val (.int f6), .val (.ref b102), .val (.ref ar_104), .val (.ref ar_105), .val (.int ix), .val (.ref ar_104), .val (.ref ar_105)] [(.int (-1 : Int32)), (.int iv), (.int (iv ^^^ (-1 : Int32)))])
          refine Go.step (fun _ k => XS.ixor X184.here hx rfl (hb hby at_290) rfl k) ?_
          show Go _ _ _ _ _ _ _ T184 (mkF m 291 #[.val (.int is_), .val (.int ii), .val (.int iv), .val (.int ig), .val (.int sp), .val (.int f5), .val (.int f6), .val (.ref b102), .val (.ref ar_104), .val (.ref ar_105), .val (.int ix), .val (.ref ar_104), .val (.ref ar_105)] [(.int (iv ^^^ (-1 : Int32))), (.int (iv ^^^ (-1 : Int32)))])
          have hc291_197 : (iv ^^^ (-1 : Int32)) = (iv ^^^ (-1 : Int32)) := rfl
          refine Go.step (fun _ k => XS.icmpYes X184.here hx rfl (pc0 := 291) (pc' := 349) rfl (hb hby at_291) rfl (teq hc291_197).1 (by decide) (by decide) k) ?_
          show Go _ _ _ _ _ _ _ T184 (mkF m 349 #[.val (.int is_), .val (.int ii), .val (.int iv), .val (.int ig), .val (.int sp), .val (.int f5), .val (.int f6), .val (.ref b102), .val (.ref ar_104), .val (.ref ar_105), .val (.int ix), .val (.ref ar_104), .val (.ref ar_105)] [])
          refine Go.step (fun _ k => XS.iconst X184.here hx rfl (hb hby at_349) k) ?_
          show Go _ _ _ _ _ _ _ T184 (mkF m 350 #[.val (.int is_), .val (.int ii), .val (.int iv), .val (.int ig), .val (.int sp), .val (.int f5), .val (.int f6), .val (.ref b102), .val (.ref ar_104), .val (.ref ar_105), .val (.int ix), .val (.ref ar_104), .val (.ref ar_105)] [(.int (1 : Int32))])
          exact Go.retN X184 hx (t := .boolean) hret hlk (by simp) (hb hby at_350) e184 (by decide) (by decide) ⟨rfl, N184, trivial⟩
    refine Go.step (fun _ k => XS.iload X104.here hx rfl (hb hby at_51) rfl k) ?_
    show Go _ _ _ _ _ _ _ T104 (mkF m 53 #[.val (.int is_), .val (.int ii), .val (.int iv), .val (.int ig), .val (.int sp), .val (.int f5), .val (.int f6), .val (.ref b102), .val (.ref ar_104), .unset, .unset, .unset, .unset] [(.int f5)])
    by_cases hc53_198 : f5 = (0 : Int32)
    · refine Go.step (fun _ k => XS.ifYes X104.here hx rfl (pc0 := 53) (pc' := 78) rfl (hb hby at_53) rfl ((if0 _ _).trans (teq hc53_198).1) (by decide) (by decide) k) ?_
      show Go _ _ _ _ _ _ _ T104 (mkF m 78 #[.val (.int is_), .val (.int ii), .val (.int iv), .val (.int ig), .val (.int sp), .val (.int f5), .val (.int f6), .val (.ref b102), .val (.ref ar_104), .unset, .unset, .unset, .unset] [])
      exact J T104 h104 _ (0 : Int32) Slot.unset (X104.more (by decide) (by decide)) e104 N104 Z104 E1_104 Fc1_104 Fq1_104 Fs1_104 Ft1_104 Fo1_104 Vc1_104 Vr_104 One.u
    · refine Go.step (fun _ k => XS.ifNo X104.here hx rfl (hb hby at_53) rfl ((if0 _ _).trans (feq hc53_198).1) k) ?_
      show Go _ _ _ _ _ _ _ T104 (mkF m 56 #[.val (.int is_), .val (.int ii), .val (.int iv), .val (.int ig), .val (.int sp), .val (.int f5), .val (.int f6), .val (.ref b102), .val (.ref ar_104), .unset, .unset, .unset, .unset] [])
      refine Go.step (fun _ k => XS.aload X104.here hx rfl (hb hby at_56) rfl rfl k) ?_
      show Go _ _ _ _ _ _ _ T104 (mkF m 58 #[.val (.int is_), .val (.int ii), .val (.int iv), .val (.int ig), .val (.int sp), .val (.int f5), .val (.int f6), .val (.ref b102), .val (.ref ar_104), .unset, .unset, .unset, .unset] [(.ref b102)])
      have f200 : Arv Z h104 ap_103 kp_103 (.array .long) (16 : Int32) (List.replicate 16 Value.null) .null := (Vp_103.keep Kq104 (ninS (Ne.symm ne_b102_ap_103) (ninS (Ne.symm ne_103) nin0)))
      obtain ⟨cq199, kq199, q199a, q199b, q199c⟩ := isOf hZ e104 E1_104
      obtain ⟨_, _, ⟨T199, L199, k199, n199⟩, -, X199, ⟨Lc199, hQ199, l199, y199, z199⟩, st199⟩ := X104.virtualBack hx (y := (⟨"com/example/termvault/termvault/MarkArrays", "positions", "()[J"⟩ : MethodName)) (z := (⟨"com/example/termvault/termvault/MarkArrays", "positions", "()[J"⟩ : MethodName)) hown (mvT hZ (hw _ (List.mem_of_getElem? (i := 28) rfl))) (mvT hZ (hw _ (List.mem_of_getElem? (i := 29) rfl))) (notFace_of_selects (args := #[]) (mvT hZ (hw _ (List.mem_of_getElem? (i := 31) rfl)))) (mvT hZ (hw _ (List.mem_of_getElem? (i := 31) rfl))) (mvT hZ (hw _ (List.mem_of_getElem? (i := 30) rfl))) (by decide) (backOf (W := 0) (rmPt l Z a0 hw [] b102 ap_103 kp_103 (List.replicate 16 Value.null) (0 : Int32) sp (1 : Int32) ac_103 h104 n0 Z104 E1_104 Fq1_104 Fo1_104 Fs1_104 f200 Ft1_104 Fc1_104 op_103 g_b102 g_ap_103 ne_b102_ap_103 (by decide) (by decide) (by simp only [List.length_replicate]; rfl) own_rep hs0 hs1) hZ (hw _ (List.mem_of_getElem? (i := 32) rfl)) (hw _ (List.mem_of_getElem? (i := 2) rfl)) (by decide) (by decide)) q199a q199c (g := (mkF m 58 #[.val (.int is_), .val (.int ii), .val (.int iv), .val (.int ig), .val (.int sp), .val (.int f5), .val (.int f6), .val (.ref b102), .val (.ref ar_104), .unset, .unset, .unset, .unset] [(.ref b102)])) rfl (by rw [hml]; rfl) (Steps.refl _) (argsL := []) (rest := []) (lenOf pd____J rfl) rfl (by show 2 * 0 + _ ≤ _; exact Nat.le_of_eq rfl) (hb hby at_58) (fun _ _ => ⟨rfl, e104, (by decide : 4 + 1 ≤ _), (by decide : 1060 + 1023 ≤ _)⟩)
      dsimp only [Pt.U, Pt.locs, Pt.cells, Pt.slots] at X199 l199 y199 z199 st199 hQ199
      subst l199 y199 z199
      obtain ⟨h199, e199⟩ : ∃ h, T199.heap = h := ⟨_, rfl⟩
      rw [e199] at hQ199
      obtain ⟨ar_199, kr_199, rfl, Nq199, Kq199, sa_199, E1_199, Fc1_199, Ft1_199, Fs1_199, Fo1_199, Fq1_199, Vc1_199, Vr_199, Er_199⟩ := hQ199
      have N199 := Fr.app N104 Nq199
      have Z199 : n0 ≤ h199.size := Nat.le_trans Z104 Kq199.1
      have g_ar_199 : n0 ≤ ar_199 := Nat.le_trans Z104 sa_199
      have ne_ac_103_ar_199 : ac_103 ≠ ar_199 := Nat.ne_of_lt (Nat.lt_of_lt_of_le Vc1_104.lt sa_199)
      have ne_ap_103_ar_199 : ap_103 ≠ ar_199 := Nat.ne_of_lt (Nat.lt_of_lt_of_le f200.lt sa_199)
      have ne_ar_104_ar_199 : ar_104 ≠ ar_199 := Nat.ne_of_lt (Nat.lt_of_lt_of_le Er_104.lt sa_199)
      have ne_b102_ar_199 : b102 ≠ ar_199 := Nat.ne_of_lt (Nat.lt_of_lt_of_le E1_104.lt sa_199)
      have Ft1_199 : Fld Z h199 b102 "com/example/termvault/termvault/MarkArrays" "positionsTaken" "I" (.int (1 : Int32)) := Ft1_199
      have Fo1_199 : Fld Z h199 b102 "com/example/termvault/termvault/MarkArrays" "countsTaken" "I" (.int (1 : Int32)) := Fo1_199
      refine Go.trans st199 ?_
      show Go _ _ _ _ _ _ _ T199 (mkF m 61 #[.val (.int is_), .val (.int ii), .val (.int iv), .val (.int ig), .val (.int sp), .val (.int f5), .val (.int f6), .val (.ref b102), .val (.ref ar_104), .unset, .unset, .unset, .unset] [(.ref ar_199)])
      refine Go.step (fun _ k => XS.astore X199.here hx rfl (hb hby at_61) rfl rfl (l' := #[.val (.int is_), .val (.int ii), .val (.int iv), .val (.int ig), .val (.int sp), .val (.int f5), .val (.int f6), .val (.ref b102), .val (.ref ar_104), .val (.ref ar_199), .unset, .unset, .unset]) rfl k) ?_
      show Go _ _ _ _ _ _ _ T199 (mkF m 63 #[.val (.int is_), .val (.int ii), .val (.int iv), .val (.int ig), .val (.int sp), .val (.int f5), .val (.int f6), .val (.ref b102), .val (.ref ar_104), .val (.ref ar_199), .unset, .unset, .unset] [])
      refine Go.step (fun _ k => XS.aload X199.here hx rfl (hb hby at_63) rfl rfl k) ?_
      show Go _ _ _ _ _ _ _ T199 (mkF m 65 #[.val (.int is_), .val (.int ii), .val (.int iv), .val (.int ig), .val (.int sp), .val (.int f5), .val (.int f6), .val (.ref b102), .val (.ref ar_104), .val (.ref ar_199), .unset, .unset, .unset] [(.ref ar_199)])
      refine Go.step (fun _ k => XS.ifnullNo X199.here hx rfl (hb hby at_65) rfl k) ?_
      show Go _ _ _ _ _ _ _ T199 (mkF m 68 #[.val (.int is_), .val (.int ii), .val (.int iv), .val (.int ig), .val (.int sp), .val (.int f5), .val (.int f6), .val (.ref b102), .val (.ref ar_104), .val (.ref ar_199), .unset, .unset, .unset] [])
      refine Go.step (fun _ k => XS.aload X199.here hx rfl (hb hby at_68) rfl rfl k) ?_
      show Go _ _ _ _ _ _ _ T199 (mkF m 70 #[.val (.int is_), .val (.int ii), .val (.int iv), .val (.int ig), .val (.int sp), .val (.int f5), .val (.int f6), .val (.ref b102), .val (.ref ar_104), .val (.ref ar_199), .unset, .unset, .unset] [(.ref ar_199)])
      obtain ⟨cl201, Ar201, -, S201, M201, -, -⟩ := id (Vr_199)
      have al201 := X199.arraylength hx (by rw [e199]; exact Ar201.1) (State.isArrayOf_alike hZ.alike Ar201.2.1) (g := (mkF m 70 #[.val (.int is_), .val (.int ii), .val (.int iv), .val (.int ig), .val (.int sp), .val (.int f5), .val (.int f6), .val (.ref b102), .val (.ref ar_104), .val (.ref ar_199), .unset, .unset, .unset] [(.ref ar_199)])) rfl rfl (hb hby at_70)
      rw [len_of S201 M201] at al201
      refine Go.step al201 ?_
      show Go _ _ _ _ _ _ _ T199 (mkF m 71 #[.val (.int is_), .val (.int ii), .val (.int iv), .val (.int ig), .val (.int sp), .val (.int f5), .val (.int f6), .val (.ref b102), .val (.ref ar_104), .val (.ref ar_199), .unset, .unset, .unset] [(.int sp)])
      refine Go.step (fun _ k => XS.iload X199.here hx rfl (hb hby at_71) rfl k) ?_
      show Go _ _ _ _ _ _ _ T199 (mkF m 73 #[.val (.int is_), .val (.int ii), .val (.int iv), .val (.int ig), .val (.int sp), .val (.int f5), .val (.int f6), .val (.ref b102), .val (.ref ar_104), .val (.ref ar_199), .unset, .unset, .unset] [(.int sp), (.int sp)])
      have hc73_202 : sp = sp := rfl
      refine Go.step (fun _ k => XS.icmpYes X199.here hx rfl (pc0 := 73) (pc' := 78) rfl (hb hby at_73) rfl (teq hc73_202).1 (by decide) (by decide) k) ?_
      show Go _ _ _ _ _ _ _ T199 (mkF m 78 #[.val (.int is_), .val (.int ii), .val (.int iv), .val (.int ig), .val (.int sp), .val (.int f5), .val (.int f6), .val (.ref b102), .val (.ref ar_104), .val (.ref ar_199), .unset, .unset, .unset] [])
      have f203 : Arv Z h199 ac_103 kc_103 (.array .int) (16 : Int32) ((List.replicate 16 Value.null).set (0 : Int32).toNatClampNeg (.ref ar_104)) .null := (Vc1_104.keep Kq199 (ninS (Ne.symm ne_b102_ac_103) (ninS ne_103 nin0)))
      have f204 : Arv Z h199 ar_104 kr_104 .int sp [] (.int (0 : Int32)) := (Vr_104.keep Kq199 (ninS (Ne.symm ne_b102_ar_104) (ninS (Ne.symm ne_ap_103_ar_104) nin0)))
      exact J T199 h199 _ (1 : Int32) (.val (.ref ar_199)) (X199.more (by decide) (by decide)) e199 N199 Z199 E1_199 Fq1_199 Fc1_199 Fs1_199 Fo1_199 Ft1_199 f203 f204 (One.val rfl)
  refine Go.step (fun _ k => XS.iloadN X0.here hx rfl (hb hby at_7) rfl k) ?_
  show Go _ _ _ _ _ _ _ s₁ (mkF m 8 #[.val (.int is_), .val (.int ii), .val (.int iv), .val (.int ig), .val (.int sp), .unset, .unset, .unset, .unset, .unset, .unset, .unset, .unset] [(.int ig)])
  refine Go.step (fun _ k => XS.iconst X0.here hx rfl (hb hby at_8) k) ?_
  show Go _ _ _ _ _ _ _ s₁ (mkF m 9 #[.val (.int is_), .val (.int ii), .val (.int iv), .val (.int ig), .val (.int sp), .unset, .unset, .unset, .unset, .unset, .unset, .unset, .unset] [(.int (1 : Int32)), (.int ig)])
  refine Go.step (fun _ k => XS.iand X0.here hx rfl (hb hby at_9) rfl k) ?_
  show Go _ _ _ _ _ _ _ s₁ (mkF m 10 #[.val (.int is_), .val (.int ii), .val (.int iv), .val (.int ig), .val (.int sp), .unset, .unset, .unset, .unset, .unset, .unset, .unset, .unset] [(.int (ig &&& (1 : Int32)))])
  by_cases hc10_205 : (ig &&& (1 : Int32)) = (0 : Int32)
  · refine Go.step (fun _ k => XS.ifYes X0.here hx rfl (pc0 := 10) (pc' := 17) rfl (hb hby at_10) rfl ((if0 _ _).trans (teq hc10_205).1) (by decide) (by decide) k) ?_
    show Go _ _ _ _ _ _ _ s₁ (mkF m 17 #[.val (.int is_), .val (.int ii), .val (.int iv), .val (.int ig), .val (.int sp), .unset, .unset, .unset, .unset, .unset, .unset, .unset, .unset] [])
    refine Go.step (fun _ k => XS.iconst X0.here hx rfl (hb hby at_17) k) ?_
    show Go _ _ _ _ _ _ _ s₁ (mkF m 18 #[.val (.int is_), .val (.int ii), .val (.int iv), .val (.int ig), .val (.int sp), .unset, .unset, .unset, .unset, .unset, .unset, .unset, .unset] [(.int (0 : Int32))])
    refine Go.step (fun _ k => XS.istore X0.here hx rfl (hb hby at_18) rfl (l' := #[.val (.int is_), .val (.int ii), .val (.int iv), .val (.int ig), .val (.int sp), .val (.int (0 : Int32)), .unset, .unset, .unset, .unset, .unset, .unset, .unset]) rfl k) ?_
    show Go _ _ _ _ _ _ _ s₁ (mkF m 20 #[.val (.int is_), .val (.int ii), .val (.int iv), .val (.int ig), .val (.int sp), .val (.int (0 : Int32)), .unset, .unset, .unset, .unset, .unset, .unset, .unset] [])
    refine Go.step (fun _ k => XS.iloadN X0.here hx rfl (hb hby at_20) rfl k) ?_
    show Go _ _ _ _ _ _ _ s₁ (mkF m 21 #[.val (.int is_), .val (.int ii), .val (.int iv), .val (.int ig), .val (.int sp), .val (.int (0 : Int32)), .unset, .unset, .unset, .unset, .unset, .unset, .unset] [(.int ig)])
    refine Go.step (fun _ k => XS.iconst X0.here hx rfl (hb hby at_21) k) ?_
    show Go _ _ _ _ _ _ _ s₁ (mkF m 22 #[.val (.int is_), .val (.int ii), .val (.int iv), .val (.int ig), .val (.int sp), .val (.int (0 : Int32)), .unset, .unset, .unset, .unset, .unset, .unset, .unset] [(.int (2 : Int32)), (.int ig)])
    refine Go.step (fun _ k => XS.iand X0.here hx rfl (hb hby at_22) rfl k) ?_
    show Go _ _ _ _ _ _ _ s₁ (mkF m 23 #[.val (.int is_), .val (.int ii), .val (.int iv), .val (.int ig), .val (.int sp), .val (.int (0 : Int32)), .unset, .unset, .unset, .unset, .unset, .unset, .unset] [(.int (ig &&& (2 : Int32)))])
    by_cases hc23_206 : (ig &&& (2 : Int32)) = (0 : Int32)
    · refine Go.step (fun _ k => XS.ifYes X0.here hx rfl (pc0 := 23) (pc' := 30) rfl (hb hby at_23) rfl ((if0 _ _).trans (teq hc23_206).1) (by decide) (by decide) k) ?_
      show Go _ _ _ _ _ _ _ s₁ (mkF m 30 #[.val (.int is_), .val (.int ii), .val (.int iv), .val (.int ig), .val (.int sp), .val (.int (0 : Int32)), .unset, .unset, .unset, .unset, .unset, .unset, .unset] [])
      refine Go.step (fun _ k => XS.iconst X0.here hx rfl (hb hby at_30) k) ?_
      show Go _ _ _ _ _ _ _ s₁ (mkF m 31 #[.val (.int is_), .val (.int ii), .val (.int iv), .val (.int ig), .val (.int sp), .val (.int (0 : Int32)), .unset, .unset, .unset, .unset, .unset, .unset, .unset] [(.int (0 : Int32))])
      refine Go.step (fun _ k => XS.istore X0.here hx rfl (hb hby at_31) rfl (l' := #[.val (.int is_), .val (.int ii), .val (.int iv), .val (.int ig), .val (.int sp), .val (.int (0 : Int32)), .val (.int (0 : Int32)), .unset, .unset, .unset, .unset, .unset, .unset]) rfl k) ?_
      show Go _ _ _ _ _ _ _ s₁ (mkF m 33 #[.val (.int is_), .val (.int ii), .val (.int iv), .val (.int ig), .val (.int sp), .val (.int (0 : Int32)), .val (.int (0 : Int32)), .unset, .unset, .unset, .unset, .unset, .unset] [])
      exact J33 s₁ h0 _ (0 : Int32) (0 : Int32) (X0.more (by decide) (by decide)) e0 N0 Z0 
    · refine Go.step (fun _ k => XS.ifNo X0.here hx rfl (hb hby at_23) rfl ((if0 _ _).trans (feq hc23_206).1) k) ?_
      show Go _ _ _ _ _ _ _ s₁ (mkF m 26 #[.val (.int is_), .val (.int ii), .val (.int iv), .val (.int ig), .val (.int sp), .val (.int (0 : Int32)), .unset, .unset, .unset, .unset, .unset, .unset, .unset] [])
      refine Go.step (fun _ k => XS.iconst X0.here hx rfl (hb hby at_26) k) ?_
      show Go _ _ _ _ _ _ _ s₁ (mkF m 27 #[.val (.int is_), .val (.int ii), .val (.int iv), .val (.int ig), .val (.int sp), .val (.int (0 : Int32)), .unset, .unset, .unset, .unset, .unset, .unset, .unset] [(.int (1 : Int32))])
      refine Go.step (fun _ k => XS.goto X0.here hx rfl (pc0 := 27) (pc' := 31) rfl (hb hby at_27) (by decide) (by decide) k) ?_
      show Go _ _ _ _ _ _ _ s₁ (mkF m 31 #[.val (.int is_), .val (.int ii), .val (.int iv), .val (.int ig), .val (.int sp), .val (.int (0 : Int32)), .unset, .unset, .unset, .unset, .unset, .unset, .unset] [(.int (1 : Int32))])
      refine Go.step (fun _ k => XS.istore X0.here hx rfl (hb hby at_31) rfl (l' := #[.val (.int is_), .val (.int ii), .val (.int iv), .val (.int ig), .val (.int sp), .val (.int (0 : Int32)), .val (.int (1 : Int32)), .unset, .unset, .unset, .unset, .unset, .unset]) rfl k) ?_
      show Go _ _ _ _ _ _ _ s₁ (mkF m 33 #[.val (.int is_), .val (.int ii), .val (.int iv), .val (.int ig), .val (.int sp), .val (.int (0 : Int32)), .val (.int (1 : Int32)), .unset, .unset, .unset, .unset, .unset, .unset] [])
      exact J33 s₁ h0 _ (0 : Int32) (1 : Int32) (X0.more (by decide) (by decide)) e0 N0 Z0 
  · refine Go.step (fun _ k => XS.ifNo X0.here hx rfl (hb hby at_10) rfl ((if0 _ _).trans (feq hc10_205).1) k) ?_
    show Go _ _ _ _ _ _ _ s₁ (mkF m 13 #[.val (.int is_), .val (.int ii), .val (.int iv), .val (.int ig), .val (.int sp), .unset, .unset, .unset, .unset, .unset, .unset, .unset, .unset] [])
    refine Go.step (fun _ k => XS.iconst X0.here hx rfl (hb hby at_13) k) ?_
    show Go _ _ _ _ _ _ _ s₁ (mkF m 14 #[.val (.int is_), .val (.int ii), .val (.int iv), .val (.int ig), .val (.int sp), .unset, .unset, .unset, .unset, .unset, .unset, .unset, .unset] [(.int (1 : Int32))])
    refine Go.step (fun _ k => XS.goto X0.here hx rfl (pc0 := 14) (pc' := 18) rfl (hb hby at_14) (by decide) (by decide) k) ?_
    show Go _ _ _ _ _ _ _ s₁ (mkF m 18 #[.val (.int is_), .val (.int ii), .val (.int iv), .val (.int ig), .val (.int sp), .unset, .unset, .unset, .unset, .unset, .unset, .unset, .unset] [(.int (1 : Int32))])
    refine Go.step (fun _ k => XS.istore X0.here hx rfl (hb hby at_18) rfl (l' := #[.val (.int is_), .val (.int ii), .val (.int iv), .val (.int ig), .val (.int sp), .val (.int (1 : Int32)), .unset, .unset, .unset, .unset, .unset, .unset, .unset]) rfl k) ?_
    show Go _ _ _ _ _ _ _ s₁ (mkF m 20 #[.val (.int is_), .val (.int ii), .val (.int iv), .val (.int ig), .val (.int sp), .val (.int (1 : Int32)), .unset, .unset, .unset, .unset, .unset, .unset, .unset] [])
    refine Go.step (fun _ k => XS.iloadN X0.here hx rfl (hb hby at_20) rfl k) ?_
    show Go _ _ _ _ _ _ _ s₁ (mkF m 21 #[.val (.int is_), .val (.int ii), .val (.int iv), .val (.int ig), .val (.int sp), .val (.int (1 : Int32)), .unset, .unset, .unset, .unset, .unset, .unset, .unset] [(.int ig)])
    refine Go.step (fun _ k => XS.iconst X0.here hx rfl (hb hby at_21) k) ?_
    show Go _ _ _ _ _ _ _ s₁ (mkF m 22 #[.val (.int is_), .val (.int ii), .val (.int iv), .val (.int ig), .val (.int sp), .val (.int (1 : Int32)), .unset, .unset, .unset, .unset, .unset, .unset, .unset] [(.int (2 : Int32)), (.int ig)])
    refine Go.step (fun _ k => XS.iand X0.here hx rfl (hb hby at_22) rfl k) ?_
    show Go _ _ _ _ _ _ _ s₁ (mkF m 23 #[.val (.int is_), .val (.int ii), .val (.int iv), .val (.int ig), .val (.int sp), .val (.int (1 : Int32)), .unset, .unset, .unset, .unset, .unset, .unset, .unset] [(.int (ig &&& (2 : Int32)))])
    by_cases hc23_207 : (ig &&& (2 : Int32)) = (0 : Int32)
    · refine Go.step (fun _ k => XS.ifYes X0.here hx rfl (pc0 := 23) (pc' := 30) rfl (hb hby at_23) rfl ((if0 _ _).trans (teq hc23_207).1) (by decide) (by decide) k) ?_
      show Go _ _ _ _ _ _ _ s₁ (mkF m 30 #[.val (.int is_), .val (.int ii), .val (.int iv), .val (.int ig), .val (.int sp), .val (.int (1 : Int32)), .unset, .unset, .unset, .unset, .unset, .unset, .unset] [])
      refine Go.step (fun _ k => XS.iconst X0.here hx rfl (hb hby at_30) k) ?_
      show Go _ _ _ _ _ _ _ s₁ (mkF m 31 #[.val (.int is_), .val (.int ii), .val (.int iv), .val (.int ig), .val (.int sp), .val (.int (1 : Int32)), .unset, .unset, .unset, .unset, .unset, .unset, .unset] [(.int (0 : Int32))])
      refine Go.step (fun _ k => XS.istore X0.here hx rfl (hb hby at_31) rfl (l' := #[.val (.int is_), .val (.int ii), .val (.int iv), .val (.int ig), .val (.int sp), .val (.int (1 : Int32)), .val (.int (0 : Int32)), .unset, .unset, .unset, .unset, .unset, .unset]) rfl k) ?_
      show Go _ _ _ _ _ _ _ s₁ (mkF m 33 #[.val (.int is_), .val (.int ii), .val (.int iv), .val (.int ig), .val (.int sp), .val (.int (1 : Int32)), .val (.int (0 : Int32)), .unset, .unset, .unset, .unset, .unset, .unset] [])
      exact J33 s₁ h0 _ (1 : Int32) (0 : Int32) (X0.more (by decide) (by decide)) e0 N0 Z0 
    · refine Go.step (fun _ k => XS.ifNo X0.here hx rfl (hb hby at_23) rfl ((if0 _ _).trans (feq hc23_207).1) k) ?_
      show Go _ _ _ _ _ _ _ s₁ (mkF m 26 #[.val (.int is_), .val (.int ii), .val (.int iv), .val (.int ig), .val (.int sp), .val (.int (1 : Int32)), .unset, .unset, .unset, .unset, .unset, .unset, .unset] [])
      refine Go.step (fun _ k => XS.iconst X0.here hx rfl (hb hby at_26) k) ?_
      show Go _ _ _ _ _ _ _ s₁ (mkF m 27 #[.val (.int is_), .val (.int ii), .val (.int iv), .val (.int ig), .val (.int sp), .val (.int (1 : Int32)), .unset, .unset, .unset, .unset, .unset, .unset, .unset] [(.int (1 : Int32))])
      refine Go.step (fun _ k => XS.goto X0.here hx rfl (pc0 := 27) (pc' := 31) rfl (hb hby at_27) (by decide) (by decide) k) ?_
      show Go _ _ _ _ _ _ _ s₁ (mkF m 31 #[.val (.int is_), .val (.int ii), .val (.int iv), .val (.int ig), .val (.int sp), .val (.int (1 : Int32)), .unset, .unset, .unset, .unset, .unset, .unset, .unset] [(.int (1 : Int32))])
      refine Go.step (fun _ k => XS.istore X0.here hx rfl (hb hby at_31) rfl (l' := #[.val (.int is_), .val (.int ii), .val (.int iv), .val (.int ig), .val (.int sp), .val (.int (1 : Int32)), .val (.int (1 : Int32)), .unset, .unset, .unset, .unset, .unset, .unset]) rfl k) ?_
      show Go _ _ _ _ _ _ _ s₁ (mkF m 33 #[.val (.int is_), .val (.int ii), .val (.int iv), .val (.int ig), .val (.int sp), .val (.int (1 : Int32)), .val (.int (1 : Int32)), .unset, .unset, .unset, .unset, .unset, .unset] [])
      exact J33 s₁ h0 _ (1 : Int32) (1 : Int32) (X0.more (by decide) (by decide)) e0 N0 Z0 
set_option maxRecDepth 65536 in
set_option maxHeartbeats 40000000 in
theorem comes_1 {Post : Tables → Env → Array Value → State → Outcome → State → Prop} (hpost : ∀ tb e args s v u, (limb_1_1.after args s (.returned v) u = true ∧ limb_1_2.after args s (.returned v) u = true ∧ True) → FrameEnd s (.returned v) u (Jvm.fieldLocs frame_1_writes args s ++ Jvm.arrayLocs frame_1_arrays args s ++ Jvm.staticLocs frame_1_statics s) 24 10368 → Post tb e args s (.returned v) u) :
    ArmFor flags0 classFile x code maxLocals ret World_1 tables_1 room_1 Calls_1 rest_1 Pre_1 Post := by
  intro l hfl _ _ p e ha hc hk s m args below hf hA hF happ hP
  obtain ⟨hcalls, hrest, hpre⟩ := hP
  obtain ⟨-, -, -, hnamed, -, -, -, hat⟩ := (Spec.applies_iff hf).mp happ
  obtain ⟨hg, hn⟩ := and_e (Cond.before_iff.mp (show (Jvm.Cond.and given_1 narrow_1).before args s = true from hpre))
  obtain ⟨gg1, gg2⟩ := and_e hg
  obtain ⟨gg3, gg4⟩ := and_e gg2
  obtain ⟨gg5, gg6⟩ := and_e gg4
  obtain ⟨gg7, gg8⟩ := and_e gg6
  obtain ⟨w0, w1, w2, w3, rfl⟩ : ∃ w0 w1 w2 w3 : Value, args = #[w0, w1, w2, w3] := by
    have hs : args.size = 4 := by simpa [Cond.value, given_1] using gg1
    obtain ⟨L⟩ := args
    match L, hs with
    | [w0, w1, w2, w3], _ => exact ⟨w0, w1, w2, w3, rfl⟩
  have hw := fun d (hd : d ∈ tables_1) => atoms_spec (ws := Jvm.Cond.code x code maxLocals ret :: tables_1) hat d (List.mem_cons_of_mem _ hd)
  have hfit : Fit s := fun {y c} hc i hi => by
    obtain ⟨ha, rfl⟩ := Array.getElem?_eq_some_iff.mp hc
    have q := List.all_eq_true.mp ((Array.all_eq_true_iff_forall_mem.mp hF) _ (Array.getElem_mem ha)) i (List.mem_range.mpr hi)
    simpa [Array.getElem?_eq_getElem hi] using q
  obtain ⟨is_, ei0⟩ := is_v gg3
  obtain rfl : w0 = (.int is_) := Option.some.inj ei0
  obtain ⟨ii, ei1⟩ := is_v gg5
  obtain rfl : w1 = (.int ii) := Option.some.inj ei1
  obtain ⟨iv, ei2⟩ := is_v gg7
  obtain rfl : w2 = (.int iv) := Option.some.inj ei2
  obtain ⟨ig, ei3⟩ := is_v gg8
  obtain rfl : w3 = (.int ig) := Option.some.inj ei3
  obtain ⟨n, o, h1, h2, h3, _, L, rfl, ⟨rfl, N, -⟩, hq⟩ := rm0 l s _ hw tables_1 is_ ii iv ig s.heap s.heap.size (Nat.le_refl _)  p e ha hc hk s m _ below hf ((Spec.applies_iff_loose hf).mp happ).1 ⟨rfl, State.Warmed39.refl s, rfl⟩ trivial
  refine ⟨n, _, h1, h2, h3, hpost _ _ _ _ _ _ ⟨Cond.after_iff.mpr rfl, Cond.after_iff.mpr (eq_i res_at (Term.int_eval (1)) rfl), trivial⟩ ⟨hq.1, hq.2.1, (hq.2.2.sift fun y hy => Or.inr (N y hy)).mono (by decide) (by decide)⟩⟩
theorem main_1_1 : Claimed_1_1 := comes_1 fun _ _ _ _ _ _ h hF => ⟨h.1, hF⟩
theorem main_1_2 : Claimed_1_2 := comes_1 fun _ _ _ _ _ _ h hF => ⟨h.2.1, hF⟩
end Jvm.Pilot.@@N@@
namespace Jvm.Pilot.@@N@@
open Jvm Jvm.ClassFile Sem Op Lib Jvm.Free Jvm.Stand Jvm.Pilot.@@N@@.Jvm.D
/-! MADE BY PROGRAM (witnessworld.py) out of the Statement's table words and the real class files: 11 classes; the members and pool entries that the words name. The judged class is class 1, her method 1. -/
namespace start1
open Jvm.ClassFile
def u (s : String) : CpInfo := .utf8 (stringToUtf16 s)
/-- a pool by its gaps: so many unusable entries, then the entry; so many at the end -/
def gap : Nat → List CpInfo → List CpInfo
  | 0, r => r
  | n + 1, r => .unusable :: gap n r
def poolList (es : List (Nat × CpInfo)) (last : Nat) : List CpInfo := es.foldr (fun e r => gap e.1 (e.2 :: r)) (gap last [])
def pool (es : List (Nat × CpInfo)) (last : Nat) : Array CpInfo := ⟨poolList es last⟩
def fileOf (pool : Array CpInfo) (this : Nat) (attrs : Array Attribute := #[]) (ms : Array MethodInfo := #[]) (fl : Nat := 33) (sup : Nat := 0) (ifs : Array Nat := #[]) (fds : Array FieldInfo := #[]) : ClassFile where
  minorVersion := 0
  majorVersion := 65
  constantPool := pool
  accessFlags := fl
  thisClass := this
  superClass := sup
  interfaces := ifs
  fields := fds
  methods := ms
  attributes := attrs
def plain (name : String) (sup : Option ClassId) : Class where
  name := name
  kind := .ordinary
  loader := none
  accessFlags := 33
  super := sup
  interfaces := #[]
  cf := none
  fields := #[]
  methods := #[]
  instanceTypes := #[]
  staticTypes := #[]
  resolved := #[]
  callSites := []
  init := .initialized
  statics := none
  mirror := none

def pool0 : Array CpInfo := pool [(5, u "<init>"), (0, u "()V"), (1, .class_ 10), (1, u "java/lang/Object")] 113

def k0c0 : Code := { maxStack := 0, maxLocals := 1, code := object_method_1_code, exceptionTable := #[], attributes := #[] }
def k0m0 : Method := { name := "<init>", desc := "()V", sig := { parameters := [], returnType := none }, accessFlags := 1, code := some k0c0 }
/-- java/lang/Object -/
def k0 : Class := { plain "java/lang/Object" none with
  accessFlags := 33
  interfaces := #[]
  cf := some (fileOf pool0 8 #[] #[{ accessFlags := 1, nameIndex := 5, descriptorIndex := 6, attributes := #[] }] 33 0 #[] #[])
  fields := #[]
  methods := #[k0m0]
  instanceTypes := #[]
  staticTypes := #[]
  resolved := Array.replicate 124 none
  statics := none }

def pool1 : Array CpInfo := pool [(2, .class_ 4), (1, u "java/lang/Object"), (0, u "<init>"), (0, u "()V"), (0, .class_ 8), (0, u "com/example/termvault/termvault/MarkArrays"), (0, .methodref 7 10), (0, .nameAndType 5 11), (0, u "(I)V"), (0, .methodref 7 13), (0, .nameAndType 14 15), (0, u "counts"), (0, u "()[I"), (0, .methodref 7 17), (0, .nameAndType 18 19), (0, u "positions"), (0, u "()[J"), (0, .methodref 7 21), (0, .nameAndType 22 23), (0, u "span"), (0, u "()I"), (0, .integer 2147483647), (0, .methodref 7 26), (0, .nameAndType 27 6), (0, u "restart"), (0, .class_ 29), (0, u "com/example/termvault/termvault/MarkArraysCountsPinLaw"), (2, u "law"), (0, u "(IIII)Z")] 7

def k1m0 : Method := { name := "<init>", desc := "()V", sig := { parameters := [], returnType := none }, accessFlags := 2, code := none }
def k1c1 : Code := { maxStack := 4, maxLocals := 13, code := code, exceptionTable := #[], attributes := #[] }
def k1m1 : Method := { name := "law", desc := "(IIII)Z", sig := { parameters := [.int, .int, .int, .int], returnType := some .boolean }, accessFlags := 9, code := some k1c1 }
/-- com/example/termvault/termvault/MarkArraysCountsPinLaw -/
def k1 : Class := { plain "com/example/termvault/termvault/MarkArraysCountsPinLaw" (some 0) with
  accessFlags := 49
  interfaces := #[]
  cf := some (fileOf pool1 28 #[] #[{ accessFlags := 2, nameIndex := 5, descriptorIndex := 6, attributes := #[] }, { accessFlags := 9, nameIndex := 32, descriptorIndex := 33, attributes := #[] }] 49 2 #[] #[])
  fields := #[]
  methods := #[k1m0, k1m1]
  instanceTypes := #[]
  staticTypes := #[]
  resolved := Array.replicate 41 none
  statics := none }

def pool2 : Array CpInfo := pool [(1, .methodref 2 3), (0, .class_ 4), (0, .nameAndType 5 6), (0, u "java/lang/Object"), (0, u "<init>"), (0, u "()V"), (0, .class_ 8), (0, u "com/example/termvault/termvault/MarkArrays"), (0, .class_ 10), (0, u "[I"), (0, .fieldref 7 12), (0, .nameAndType 13 14), (0, u "counts"), (0, u "[[I"), (0, .class_ 16), (0, u "[J"), (0, .fieldref 7 18), (0, .nameAndType 19 20), (0, u "positions"), (0, u "[[J"), (0, .fieldref 7 22), (0, .nameAndType 23 24), (0, u "span"), (0, u "I"), (0, .fieldref 7 26), (0, .nameAndType 27 24), (0, u "countsTaken"), (0, .fieldref 7 29), (0, .nameAndType 30 24), (0, u "positionsTaken"), (0, u "MOST_KEPT"), (2, u "(I)V"), (2, u "()I"), (0, u "()[I"), (1, u "()[J"), (0, u "restart")] 2

def k2c0 : Code := { maxStack := 2, maxLocals := 2, code := prog_85_method_1_code, exceptionTable := #[], attributes := #[] }
def k2m0 : Method := { name := "<init>", desc := "(I)V", sig := { parameters := [.int], returnType := none }, accessFlags := 0, code := some k2c0 }
def k2c1 : Code := { maxStack := 1, maxLocals := 1, code := prog_85_method_2_code, exceptionTable := #[], attributes := #[] }
def k2m1 : Method := { name := "span", desc := "()I", sig := { parameters := [], returnType := some .int }, accessFlags := 0, code := some k2c1 }
def k2c2 : Code := { maxStack := 3, maxLocals := 1, code := prog_85_method_3_code, exceptionTable := #[], attributes := #[] }
def k2m2 : Method := { name := "counts", desc := "()[I", sig := { parameters := [], returnType := some (.array .int) }, accessFlags := 0, code := some k2c2 }
def k2c3 : Code := { maxStack := 3, maxLocals := 1, code := prog_85_method_4_code, exceptionTable := #[], attributes := #[] }
def k2m3 : Method := { name := "positions", desc := "()[J", sig := { parameters := [], returnType := some (.array .long) }, accessFlags := 0, code := some k2c3 }
def k2c4 : Code := { maxStack := 2, maxLocals := 1, code := prog_85_method_5_code, exceptionTable := #[], attributes := #[] }
def k2m4 : Method := { name := "restart", desc := "()V", sig := { parameters := [], returnType := none }, accessFlags := 0, code := some k2c4 }
/-- com/example/termvault/termvault/MarkArrays -/
def k2 : Class := { plain "com/example/termvault/termvault/MarkArrays" (some 0) with
  accessFlags := 48
  interfaces := #[]
  cf := some (fileOf pool2 7 #[] #[{ accessFlags := 0, nameIndex := 5, descriptorIndex := 34, attributes := #[] }, { accessFlags := 0, nameIndex := 23, descriptorIndex := 37, attributes := #[] }, { accessFlags := 0, nameIndex := 13, descriptorIndex := 38, attributes := #[] }, { accessFlags := 0, nameIndex := 19, descriptorIndex := 40, attributes := #[] }, { accessFlags := 0, nameIndex := 41, descriptorIndex := 6, attributes := #[] }] 48 2 #[] #[{ accessFlags := 26, nameIndex := 31, descriptorIndex := 24, attributes := #[] }, { accessFlags := 18, nameIndex := 23, descriptorIndex := 24, attributes := #[] }, { accessFlags := 18, nameIndex := 13, descriptorIndex := 14, attributes := #[] }, { accessFlags := 18, nameIndex := 19, descriptorIndex := 20, attributes := #[] }, { accessFlags := 2, nameIndex := 27, descriptorIndex := 24, attributes := #[] }, { accessFlags := 2, nameIndex := 30, descriptorIndex := 24, attributes := #[] }])
  fields := #[{ name := "MOST_KEPT", type := .int, accessFlags := 26, slot := 0, constantValue := 0 }, { name := "span", type := .int, accessFlags := 18, slot := 0, constantValue := 0 }, { name := "counts", type := (.array (.array .int)), accessFlags := 18, slot := 1, constantValue := 0 }, { name := "positions", type := (.array (.array .long)), accessFlags := 18, slot := 2, constantValue := 0 }, { name := "countsTaken", type := .int, accessFlags := 2, slot := 3, constantValue := 0 }, { name := "positionsTaken", type := .int, accessFlags := 2, slot := 4, constantValue := 0 }]
  methods := #[k2m0, k2m1, k2m2, k2m3, k2m4]
  instanceTypes := #[.int, (.array (.array .int)), (.array (.array .long)), .int, .int]
  staticTypes := #[.int]
  resolved := Array.replicate 44 none
  statics := none }

def pool3 : Array CpInfo := pool [(1, u "java/lang/Cloneable"), (0, .class_ 1), (0, u "java/lang/Object"), (0, .class_ 3)] 3

/-- java/lang/Cloneable -/
def k3 : Class := { plain "java/lang/Cloneable" (some 0) with
  accessFlags := 1537
  interfaces := #[]
  cf := some (fileOf pool3 2 #[] #[] 1537 4 #[] #[])
  fields := #[]
  methods := #[]
  instanceTypes := #[]
  staticTypes := #[]
  resolved := Array.replicate 8 none
  statics := none }

def pool4 : Array CpInfo := pool [(1, u "java/io/Serializable"), (0, .class_ 1), (0, u "java/lang/Object"), (0, .class_ 3)] 3

/-- java/io/Serializable -/
def k4 : Class := { plain "java/io/Serializable" (some 0) with
  accessFlags := 1537
  interfaces := #[]
  cf := some (fileOf pool4 2 #[] #[] 1537 4 #[] #[])
  fields := #[]
  methods := #[]
  instanceTypes := #[]
  staticTypes := #[]
  resolved := Array.replicate 8 none
  statics := none }

/-- the primitive byte -/
def k5 : Class := { plain "byte" none with kind := .primitive 'B', accessFlags := 0x411 }
/-- [B -/
def k6 : Class := { plain "[B" (some 0) with kind := .array 5 .byte, interfaces := #[3, 4], accessFlags := 1041 }

/-- the primitive int -/
def k7 : Class := { plain "int" none with kind := .primitive 'I', accessFlags := 0x411 }
/-- [I -/
def k8 : Class := { plain "[I" (some 0) with kind := .array 7 .int, interfaces := #[3, 4], accessFlags := 1041 }

/-- the primitive long -/
def k9 : Class := { plain "long" none with kind := .primitive 'J', accessFlags := 0x411 }
/-- [J -/
def k10 : Class := { plain "[J" (some 0) with kind := .array 9 .long, interfaces := #[3, 4], accessFlags := 1041 }

def heap : Heap := #[]
def k11 : Class := { plain "[[I" (some 0) with kind := .array 8 (.array .int), interfaces := #[3, 4], accessFlags := 1041 }
def k12 : Class := { plain "[[J" (some 0) with kind := .array 10 (.array .long), interfaces := #[3, 4], accessFlags := 1041 }
def classes : Array Class := #[k0, k1, k2, k3, k4, k5, k6, k7, k8, k9, k10, k11, k12]
def interned : List (Array UInt16 × Addr) := []
def slotsUsed : Nat := 0
def theMethod : MethodId := ⟨1, 1⟩
def args0 : Array Value := #[.int 5, .int 7, .int 3, .int 2]
def aboutOver (below : List Frame) : State where
  vm := { classes := classes, interned := interned.toArray }
  heap := heap
  slotsUsed := slotsUsed
  threads := #[{ frames := .invoking theMethod args0 :: below }]
def below0 : List Frame := [.native { method := ⟨0, 0⟩, args := #[] }]
def about1 : State := aboutOver below0
def p0 : Program := .bare "" "" ""
def e0 : Env := launch0.env 0 0 0
theorem w_frames : about1.frames = Frame.invoking theMethod args0 :: below0 := rfl
set_option maxRecDepth 65536 in
theorem w_args : argsFit about1.vm theMethod args0 = true := by decide +kernel
set_option maxRecDepth 65536 in
theorem w_heap : heapFits about1 = true := by decide +kernel
set_option maxRecDepth 65536 in
theorem w_runnable : about1.curStatus? = some .runnable := by decide +kernel
set_option maxRecDepth 65536 in
theorem w_alone : about1.alone = true := by decide +kernel
set_option maxRecDepth 65536 in
theorem w_named : about1.methodNamed? x = some theMethod := by decide +kernel
set_option maxRecDepth 65536 in
theorem w_hears : about1.hears theMethod below0 = true := by decide +kernel
set_option maxRecDepth 65536 in
theorem w_ripe : about1.ripe theMethod args0 below0 = true := by decide +kernel
theorem w_running : about1.status = .running := rfl
set_option maxRecDepth 65536 in
theorem w_room : about1.hasRoom e0.platform room_1 = true :=
  launch0.hasRoom_least _ room_1 (by decide +kernel) (by decide +kernel) (by decide +kernel) (by decide +kernel) (by decide +kernel) (by decide +kernel)
theorem allAtoms_all (ts : List Jvm.Cond) (a : Array Jvm.Value) (st : Jvm.State) : (allAtoms ts).before a st = ts.all (fun c => c.before a st) := by
  induction ts with
  | nil => rfl
  | cons c t ih =>
    show (Jvm.Cond.and c (allAtoms t)).before a st = _
    rw [Jvm.Cond.before_and, ih, List.all_cons]
def words1 : List Jvm.Cond := Jvm.Cond.code x code maxLocals ret :: tables_1
/-- a 'code' word, met by the world's own term for the bytes: nothing is compared byte by byte -/
theorem code_word {y : MethodName} {bytes : ByteArray} {mx : Nat} {rt : Option FieldType} {a : Array Value} {s : State} {m : MethodId} {meth : Method} {c : Code} (h1 : s.methodNamed? y = some m) (h2 : s.vm.method? m = some meth) (h3 : meth.code = some c) (h4 : c.code = bytes)
    (h5 : (c.maxLocals == mx && c.exceptionTable.isEmpty && decide (c.maxStack ≤ mostOperands) && decide (meth.sig.returnType = rt) && !meth.locks && decide (parseMethodDescriptor y.desc = some meth.sig)) = true) : (Jvm.Cond.code y bytes mx rt).before a s = true := by
  simp only [Bool.and_eq_true, beq_iff_eq, Bool.not_eq_true', decide_eq_true_eq] at h5
  obtain ⟨⟨⟨⟨⟨g1, g2⟩, g3⟩, g4⟩, g5⟩, g6⟩ := h5
  simp [Cond.before, Cond.holds, Cond.value, h1, h2, h3, h4, g1, g2, g3, g4, g5, g6]
def isCode : Jvm.Cond → Bool
  | .code _ _ _ _ => true
  | _ => false
theorem all_split {L : List Jvm.Cond} {P : Jvm.Cond → Bool} (h1 : L.all (fun c => isCode c || P c) = true) (h2 : ∀ c ∈ L.filter isCode, P c = true) : L.all P = true := by
  refine List.all_eq_true.mpr fun c hc => ?_
  have h := List.all_eq_true.mp h1 c hc
  rcases Bool.eq_false_or_eq_true (isCode c) with hi | hi
  · exact h2 c (List.mem_filter.mpr ⟨hc, hi⟩)
  · simpa [hi] using h
set_option maxRecDepth 65536 in
theorem w_c0 : (Jvm.Cond.code x code maxLocals ret).before args0 about1 = true := code_word (m := ⟨1, 1⟩) (meth := k1m1) (c := k1c1) (by decide +kernel) rfl rfl rfl (by decide +kernel)
set_option maxRecDepth 65536 in
theorem w_c1 : (Jvm.Cond.code ({ cls := "com/example/termvault/termvault/MarkArrays", name := "<init>", desc := "(I)V" } : Jvm.MethodName) prog_85_method_1_code (2 : Nat) (Option.none : Option Jvm.ClassFile.FieldType)).before args0 about1 = true := code_word (m := ⟨2, 0⟩) (meth := k2m0) (c := k2c0) (by decide +kernel) rfl rfl rfl (by decide +kernel)
set_option maxRecDepth 65536 in
theorem w_c2 : (Jvm.Cond.code ({ cls := "java/lang/Object", name := "<init>", desc := "()V" } : Jvm.MethodName) object_method_1_code (1 : Nat) (Option.none : Option Jvm.ClassFile.FieldType)).before args0 about1 = true := code_word (m := ⟨0, 0⟩) (meth := k0m0) (c := k0c0) (by decide +kernel) rfl rfl rfl (by decide +kernel)
set_option maxRecDepth 65536 in
theorem w_c3 : (Jvm.Cond.code ({ cls := "com/example/termvault/termvault/MarkArrays", name := "counts", desc := "()[I" } : Jvm.MethodName) prog_85_method_3_code (1 : Nat) (Option.some (Jvm.ClassFile.FieldType.array Jvm.ClassFile.FieldType.int))).before args0 about1 = true := code_word (m := ⟨2, 2⟩) (meth := k2m2) (c := k2c2) (by decide +kernel) rfl rfl rfl (by decide +kernel)
set_option maxRecDepth 65536 in
theorem w_c4 : (Jvm.Cond.code ({ cls := "com/example/termvault/termvault/MarkArrays", name := "positions", desc := "()[J" } : Jvm.MethodName) prog_85_method_4_code (1 : Nat) (Option.some (Jvm.ClassFile.FieldType.array Jvm.ClassFile.FieldType.long))).before args0 about1 = true := code_word (m := ⟨2, 3⟩) (meth := k2m3) (c := k2c3) (by decide +kernel) rfl rfl rfl (by decide +kernel)
set_option maxRecDepth 65536 in
theorem w_c5 : (Jvm.Cond.code ({ cls := "com/example/termvault/termvault/MarkArrays", name := "span", desc := "()I" } : Jvm.MethodName) prog_85_method_2_code (1 : Nat) (Option.some Jvm.ClassFile.FieldType.int)).before args0 about1 = true := code_word (m := ⟨2, 1⟩) (meth := k2m1) (c := k2c1) (by decide +kernel) rfl rfl rfl (by decide +kernel)
set_option maxRecDepth 65536 in
theorem w_c6 : (Jvm.Cond.code ({ cls := "com/example/termvault/termvault/MarkArrays", name := "restart", desc := "()V" } : Jvm.MethodName) prog_85_method_5_code (1 : Nat) (Option.none : Option Jvm.ClassFile.FieldType)).before args0 about1 = true := code_word (m := ⟨2, 4⟩) (meth := k2m4) (c := k2c4) (by decide +kernel) rfl rfl rfl (by decide +kernel)
def codes1 : List Jvm.Cond := [Jvm.Cond.code x code maxLocals ret, Jvm.Cond.code ({ cls := "com/example/termvault/termvault/MarkArrays", name := "<init>", desc := "(I)V" } : Jvm.MethodName) prog_85_method_1_code (2 : Nat) (Option.none : Option Jvm.ClassFile.FieldType), Jvm.Cond.code ({ cls := "java/lang/Object", name := "<init>", desc := "()V" } : Jvm.MethodName) object_method_1_code (1 : Nat) (Option.none : Option Jvm.ClassFile.FieldType), Jvm.Cond.code ({ cls := "com/example/termvault/termvault/MarkArrays", name := "counts", desc := "()[I" } : Jvm.MethodName) prog_85_method_3_code (1 : Nat) (Option.some (Jvm.ClassFile.FieldType.array Jvm.ClassFile.FieldType.int)), Jvm.Cond.code ({ cls := "com/example/termvault/termvault/MarkArrays", name := "positions", desc := "()[J" } : Jvm.MethodName) prog_85_method_4_code (1 : Nat) (Option.some (Jvm.ClassFile.FieldType.array Jvm.ClassFile.FieldType.long)), Jvm.Cond.code ({ cls := "com/example/termvault/termvault/MarkArrays", name := "span", desc := "()I" } : Jvm.MethodName) prog_85_method_2_code (1 : Nat) (Option.some Jvm.ClassFile.FieldType.int), Jvm.Cond.code ({ cls := "com/example/termvault/termvault/MarkArrays", name := "restart", desc := "()V" } : Jvm.MethodName) prog_85_method_5_code (1 : Nat) (Option.none : Option Jvm.ClassFile.FieldType)]
set_option maxRecDepth 65536 in
theorem codes_eq : words1.filter isCode = codes1 := rfl
theorem w_codes : ∀ c ∈ words1.filter isCode, c.before args0 about1 = true := by
  rw [codes_eq]
  intro c hc
  simp only [codes1, List.mem_cons, List.not_mem_nil, or_false] at hc
  rcases hc with rfl | rfl | rfl | rfl | rfl | rfl | rfl
  · exact w_c0
  · exact w_c1
  · exact w_c2
  · exact w_c3
  · exact w_c4
  · exact w_c5
  · exact w_c6
set_option maxRecDepth 65536 in
theorem w_t1 : (words1.take 24).all (fun c => isCode c || c.before args0 about1) = true := by decide +kernel
set_option maxRecDepth 65536 in
theorem w_t2 : ((words1.drop 24).take 24).all (fun c => isCode c || c.before args0 about1) = true := by decide +kernel
set_option maxRecDepth 65536 in
theorem w_t3 : ((words1.drop 24).drop 24).all (fun c => isCode c || c.before args0 about1) = true := by decide +kernel
theorem w_tables : (allAtoms (Jvm.Cond.code x code maxLocals ret :: tables_1)).before args0 about1 = true := by
  rw [allAtoms_all]
  show words1.all (fun c => c.before args0 about1) = true
  refine all_split ?_ w_codes
  rw [← List.take_append_drop 24 words1, List.all_append, w_t1, ← List.take_append_drop 24 (words1.drop 24), List.all_append, w_t2, w_t3]
  rfl
set_option maxRecDepth 65536 in
theorem w_case : (Jvm.Cond.and given_1 narrow_1).before args0 about1 = true := by decide +kernel
theorem w_applies : (headSpec (Jvm.Cond.code x code maxLocals ret :: tables_1) room_1).applies x e0.platform about1 = true :=
  (Spec.applies_iff w_frames).mpr ⟨w_running, w_runnable, w_alone, w_named, w_hears, w_ripe, w_room, w_tables⟩
theorem atStart : AtStart classFile x code maxLocals ret World_1 tables_1 room_1 Calls_1 rest_1 Pre_1 launch0 p0 e0 about1 theMethod args0 below0 :=
  ⟨lists_1, trivial, launch0.admits_env _ _ _, launch0.least_env, fairChoices_fair.cas, fairChoices_fair.clock, w_frames, w_args, w_heap, w_applies, trivial, trivial, w_case⟩
end start1
theorem witness_1 : WitnessClaimed_1 := ⟨start1.p0, start1.e0, start1.about1, start1.theMethod, start1.args0, start1.below0, start1.atStart⟩
end Jvm.Pilot.@@N@@
