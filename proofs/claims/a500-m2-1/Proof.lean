import JvmDerived
import JvmDerived.Pilot.@@N@@Statement
import JvmDerived.Pilot.@@N@@Code
set_option linter.unusedVariables false
set_option linter.unusedSimpArgs false
namespace Jvm.RoadKit
open Sem ClassFile Op Lib Jvm.Stand Jvm.Free Jvm.LawKit
section OwnGo
variable {p : Program} {l : Launch} {e : Env} {R : Room} {s : State} {m : MethodId} {args : Array Value} {below : List Frame} {meth : Method} {c : Code} {T T' : State} {locs : List Loc} {cells slots kc ks : Nat} {Q : Option Value → Heap → List Loc → Prop} {f f' : JFrame} {h : Heap}
/-- from the state T with the top frame f the body comes to its end, and what it leaves meets Q -/
def Go (p : Program) (e : Env) (below : List Frame) (s : State) (kc ks : Nat) (Q : Option Value → Heap → List Loc → Prop) (T : State) (f : JFrame) : Prop :=
  ∃ (s₂ : State) (o : Outcome), Steps p.tables e below (T.setTop f) s₂ ∧ s₂.status = .running ∧ Ended s₂ below o ∧ ∃ v L, o = .returned v ∧ Q v s₂.heap L ∧ FrameEnd s o s₂ L kc ks
theorem Go.step (h : ∀ target, Steps p.tables e below (T'.setTop f') target → Steps p.tables e below (T.setTop f) target) (k : Go p e below s kc ks Q T' f') : Go p e below s kc ks Q T f := by
  obtain ⟨s₂, o, h1, r⟩ := k
  exact ⟨s₂, o, h _ h1, r⟩
theorem Go.trans (h : Steps p.tables e below (T.setTop f) (T'.setTop f')) (k : Go p e below s kc ks Q T' f') : Go p e below s kc ks Q T f := by
  obtain ⟨s₂, o, h1, r⟩ := k
  exact ⟨s₂, o, h.trans h1, r⟩
theorem Go.cast (q : f = f') (k : Go p e below s kc ks Q T f') : Go p e below s kc ks Q T f := q ▸ k
theorem Go.enter {g : JFrame} {s₁ : State} (k : Go p e below s kc ks Q s₁ f) (q : g = f) :
    ∃ s₂ o, Steps p.tables e below (s₁.setTop g) s₂ ∧ s₂.status = .running ∧ Ended s₂ below o ∧ ∃ v L, o = .returned v ∧ Q v s₂.heap L ∧ FrameEnd s o s₂ L kc ks := by
  subst q; exact k
theorem Go.ret (X : Stand p l e R s m args below meth c T locs cells slots) (hx : p.tables.exec = Jvm.exec) {pc : Nat} {Ls : Array Slot} {w : Value} {t : FieldType} {i : Instr} {rest : List Value} (hret : meth.sig.returnType = some t) (hlk : meth.locks = false) (hn : narrow t w = w)
    (hi : (i = .ireturn ∧ (t = .int ∨ t = .boolean ∨ t = .byte ∨ t = .char ∨ t = .short) ∧ ∃ z, w = .int z) ∨ (i = .lreturn ∧ t = .long ∧ ∃ z, w = .long z) ∨ (i = .dreturn ∧ t = .double ∧ ∃ z, w = .double z) ∨ (i = .freturn ∧ t = .float ∧ ∃ z, w = .float z) ∨ (i = .areturn ∧ t.isReference = true ∧ w.isRef = true))
    (hd : decode c.code pc = .ok (i, 1)) (eT : T.heap = h) (hc : cells ≤ kc) (hs : slots ≤ ks) (hQ : Q (some w) h locs) : Go p e below s kc ks Q T (mkF m pc Ls (w :: rest)) := by
  obtain ⟨fs, hr, hrun, hended, hW, hsame⟩ := X.leave (v := some w) (fun q => by rw [hret] at q; cases q) hlk
  exact ⟨_, _, retOut X hx hret hn hi hd hr, hrun, hended, _, _, rfl, (by subst eT; exact hQ), ⟨_, rfl⟩, hW, hsame.mono hc hs⟩
theorem Go.retI (X : Stand p l e R s m args below meth c T locs cells slots) (hx : p.tables.exec = Jvm.exec) {pc : Nat} {Ls : Array Slot} {z : Int32} {rest : List Value} (hret : meth.sig.returnType = some .int) (hlk : meth.locks = false)
    (hd : decode c.code pc = .ok (.ireturn, 1)) (eT : T.heap = h) (hc : cells ≤ kc) (hs : slots ≤ ks) (hQ : Q (some (.int z)) h locs) : Go p e below s kc ks Q T (mkF m pc Ls (.int z :: rest)) :=
  Go.ret X hx hret hlk rfl (Or.inl ⟨rfl, Or.inl rfl, _, rfl⟩) hd eT hc hs hQ
theorem Go.retJ (X : Stand p l e R s m args below meth c T locs cells slots) (hx : p.tables.exec = Jvm.exec) {pc : Nat} {Ls : Array Slot} {z : Int64} {rest : List Value} (hret : meth.sig.returnType = some .long) (hlk : meth.locks = false)
    (hd : decode c.code pc = .ok (.lreturn, 1)) (eT : T.heap = h) (hc : cells ≤ kc) (hs : slots ≤ ks) (hQ : Q (some (.long z)) h locs) : Go p e below s kc ks Q T (mkF m pc Ls (.long z :: rest)) :=
  Go.ret X hx hret hlk rfl (Or.inr (Or.inl ⟨rfl, rfl, _, rfl⟩)) hd eT hc hs hQ
theorem Go.retA (X : Stand p l e R s m args below meth c T locs cells slots) (hx : p.tables.exec = Jvm.exec) {pc : Nat} {Ls : Array Slot} {w : Value} {t : FieldType} {rest : List Value} (hret : meth.sig.returnType = some t) (hlk : meth.locks = false) (ht : t.isReference = true) (hv : w.isRef = true)
    (hd : decode c.code pc = .ok (.areturn, 1)) (eT : T.heap = h) (hc : cells ≤ kc) (hs : slots ≤ ks) (hQ : Q (some w) h locs) : Go p e below s kc ks Q T (mkF m pc Ls (w :: rest)) :=
  Go.ret X hx hret hlk (by cases t <;> first | (cases ht; done) | (cases w <;> first | (cases hv; done) | rfl)) (Or.inr (Or.inr (Or.inr (Or.inr ⟨rfl, ht, hv⟩)))) hd eT hc hs hQ
theorem Go.retN (X : Stand p l e R s m args below meth c T locs cells slots) (hx : p.tables.exec = Jvm.exec) {pc : Nat} {Ls : Array Slot} {z : Int32} {t : FieldType} {rest : List Value} (hret : meth.sig.returnType = some t) (hlk : meth.locks = false) (ht : t = .boolean ∨ t = .byte ∨ t = .char ∨ t = .short)
    (hd : decode c.code pc = .ok (.ireturn, 1)) (eT : T.heap = h) (hc : cells ≤ kc) (hs : slots ≤ ks) (hQ : Q (some (.int (nar t z))) h locs) : Go p e below s kc ks Q T (mkF m pc Ls (.int z :: rest)) := by
  obtain ⟨fs, hr, hrun, hended, hW, hsame⟩ := X.leave (v := some (.int (nar t z))) (fun q => by rw [hret] at q; cases q) hlk
  exact ⟨_, _, Jvm.RoadKit.retN X hx hret ht hd hr, hrun, hended, _, _, rfl, (by subst eT; exact hQ), ⟨_, rfl⟩, hW, hsame.mono hc hs⟩
theorem Go.ret0 (X : Stand p l e R s m args below meth c T locs cells slots) (hx : p.tables.exec = Jvm.exec) {pc : Nat} {Ls : Array Slot} (hret : meth.sig.returnType = none) (hlk : meth.locks = false)
    (hd : decode c.code pc = .ok (.return_, 1)) (eT : T.heap = h) (hc : cells ≤ kc) (hs : slots ≤ ks) (hQ : Q none h locs) : Go p e below s kc ks Q T (mkF m pc Ls []) := by
  obtain ⟨fs, hr, hrun, hended, hW, hsame⟩ := X.leave (v := none) (fun _ => rfl) hlk
  exact ⟨_, _, X.returnOut hx hret hd hr, hrun, hended, _, _, rfl, (by subst eT; exact hQ), ⟨_, rfl⟩, hW, hsame.mono hc hs⟩
theorem own_selp {args' : Array Value} {y : MethodName} {n : Nat} (wi : (Cond.instantiable y.cls n).before args' s = true) (hpriv : s.PrivateAt y) (hinst : (Cond.instanceMethod y).before args' s = true) (hy : y.cls ≠ "java/lang/invoke/MethodHandle" ∧ y.cls ≠ "java/lang/invoke/VarHandle") : (Cond.selects y.cls y y).before args' s = true := by
  obtain ⟨c, k, h1, h2, -, h4, -⟩ := Cond.instantiable_spec wi
  exact selects_self_of_private h1 h2 (by simp only [Bool.or_eq_false_iff] at h4; exact h4.1) hpriv hinst hy
theorem own_mvMN {Z : State} {a0 args' : Array Value} {own host : String} {y : MethodName} {index : Nat} (hZ : Z.Warmed39 s.vm) (w : (Cond.methodLinkNest own index y host).before a0 Z = true) : (Cond.methodLinkNest own index y host).before args' s = true := (Cond.methodLinkNest_wide hZ w :)
theorem own_nar01 {z : Int32} (h : z = 0 ∨ z = 1) : nar .boolean z = z := by rcases h with rfl | rfl <;> decide
end OwnGo
end Jvm.RoadKit
namespace Jvm.Pilot.@@N@@
open Jvm Jvm.ClassFile Sem Op Lib Jvm.Free Jvm.Stand Jvm.LawKit Jvm.RoadKit Bundle Jvm.Pilot.@@N@@.Jvm.D
theorem own_tlt {a b : Int32} (h0 : ¬ a < 0) (h : a < b) : a.toNatClampNeg < b.toNatClampNeg := by
  rw [Int32.lt_iff_toInt_lt] at h0 h; have : (0 : Int32).toInt = 0 := rfl; simp only [Int32.toNatClampNeg]; omega
theorem own_tle {a b : Int32} (h : ¬ b < a) : a.toNatClampNeg ≤ b.toNatClampNeg := by
  rw [Int32.lt_iff_toInt_lt] at h; simp only [Int32.toNatClampNeg]; omega
theorem own_as (a : Int32) : a + 1 - 1 = a := by
  have := c_iadd a 1; have := c_isub (a + 1) 1; have : (1 : Int32).toInt = 1 := rfl; have := rng32 a; have := rng32 (a + 1); have := rng32 (a + 1 - 1)
  rw [← Int32.toInt_inj]; omega
theorem own_g {l : List Value} {k : Nat} {x d : Value} (h : k < l.length) : (l.set k x).getD k d = x := by simp [List.getD_eq_getElem?_getD, h]
theorem own_n {l : List Value} {j k : Nat} {x d : Value} (h : k ≠ j) : (l.set k x).getD j d = l.getD j d := by simp [List.getD_eq_getElem?_getD, List.getElem?_set_ne h]
theorem own_rep {n k : Nat} {d : Value} : (List.replicate n d).getD k d = d := by
  simp only [List.getD_eq_getElem?_getD, List.getElem?_replicate]; split <;> rfl
theorem d1_0 : decode prog_85_method_1_code 0 = .ok (.aload_n 0, 1) := by decide +kernel
theorem d1_1 : decode prog_85_method_1_code 1 = .ok (.invokespecial 1, 3) := by decide +kernel
theorem d1_4 : decode prog_85_method_1_code 4 = .ok (.aload_n 0, 1) := by decide +kernel
theorem d1_5 : decode prog_85_method_1_code 5 = .ok (.bipush 16, 2) := by decide +kernel
theorem d1_7 : decode prog_85_method_1_code 7 = .ok (.anewarray 9, 3) := by decide +kernel
theorem d1_10 : decode prog_85_method_1_code 10 = .ok (.putfield 11, 3) := by decide +kernel
theorem d1_13 : decode prog_85_method_1_code 13 = .ok (.aload_n 0, 1) := by decide +kernel
theorem d1_14 : decode prog_85_method_1_code 14 = .ok (.bipush 16, 2) := by decide +kernel
theorem d1_16 : decode prog_85_method_1_code 16 = .ok (.anewarray 15, 3) := by decide +kernel
theorem d1_19 : decode prog_85_method_1_code 19 = .ok (.putfield 17, 3) := by decide +kernel
theorem d1_22 : decode prog_85_method_1_code 22 = .ok (.aload_n 0, 1) := by decide +kernel
theorem d1_23 : decode prog_85_method_1_code 23 = .ok (.iload_n 1, 1) := by decide +kernel
theorem d1_24 : decode prog_85_method_1_code 24 = .ok (.putfield 21, 3) := by decide +kernel
theorem d1_27 : decode prog_85_method_1_code 27 = .ok (.return_, 1) := by decide +kernel
theorem pd___V : parseMethodDescriptor "()V" = some ⟨[], none⟩ := by decide +kernel
theorem pn_com_example_termvault_termvault_MarkArrays : plainName "com/example/termvault/termvault/MarkArrays" = true := by first | (simp [plainName, overriddenIn]; done) | decide +kernel
theorem ef_rmIn (m : MethodId) (ao : Addr) (sp : Int32) : entryFrame m #[(.ref ao), (.int sp)] 2 = mkF m 0 #[.val (.ref ao), .val (.int sp)] [] := by first | (simp [entryFrame, mkF, argsToLocals, Value.category]; done) | rfl
def Q_rmIn (Z : State) (ao : Addr) (sp : Int32) (h0 : Heap) (n0 : Nat) (v : Option Value) (h : Heap) (L : List Loc) : Prop := ∃ ac : Addr, ∃ kc : ClassId, ∃ ap : Addr, ∃ kp : ClassId, (v = none) ∧ (Fr n0 L) ∧ (Keep h0 h [ao]) ∧ (h0.size ≤ ac) ∧ (h0.size ≤ ap) ∧ (ac ≠ ap) ∧ (Exa Z h ao "com/example/termvault/termvault/MarkArrays") ∧ (Fld Z h ao "com/example/termvault/termvault/MarkArrays" "counts" "[[I" (.ref ac)) ∧ (Fld Z h ao "com/example/termvault/termvault/MarkArrays" "positions" "[[J" (.ref ap)) ∧ (Fld Z h ao "com/example/termvault/termvault/MarkArrays" "span" "I" (.int sp)) ∧ (Fld Z h ao "com/example/termvault/termvault/MarkArrays" "countsTaken" "I" (.int (0 : Int32))) ∧ (Fld Z h ao "com/example/termvault/termvault/MarkArrays" "positionsTaken" "I" (.int (0 : Int32))) ∧ (Arv Z h ac kc (.array .int) (16 : Int32) (List.replicate 16 Value.null) .null) ∧ (Arv Z h ap kp (.array .long) (16 : Int32) (List.replicate 16 Value.null) .null) ∧ (OvrA Z kc .int "[I") ∧ (OvrA Z kp .long "[J")
set_option maxRecDepth 65536 in
set_option maxHeartbeats 40000000 in
theorem rmIn (l : Launch) (Z : State) (a0 : Array Value) (hw : ∀ d ∈ tables_1, d.before a0 Z = true) (ws : List Jvm.Cond) (ao : Addr) (sp : Int32) (h0 : Heap) (n0 : Nat) (Z0 : n0 ≤ h0.size) (E0 : Exa Z h0 ao "com/example/termvault/termvault/MarkArrays") (Fc : Fld Z h0 ao "com/example/termvault/termvault/MarkArrays" "counts" "[[I" .null) (Fp : Fld Z h0 ao "com/example/termvault/termvault/MarkArrays" "positions" "[[J" .null) (Fs : Fld Z h0 ao "com/example/termvault/termvault/MarkArrays" "span" "I" (.int (0 : Int32))) (Ft : Fld Z h0 ao "com/example/termvault/termvault/MarkArrays" "countsTaken" "I" (.int (0 : Int32))) (Fu : Fld Z h0 ao "com/example/termvault/termvault/MarkArrays" "positionsTaken" "I" (.int (0 : Int32))) (g0 : n0 ≤ ao) :
    MetFree l (⟨"com/example/termvault/termvault/MarkArrays", "<init>", "(I)V"⟩ : MethodName) (head1 (Jvm.Cond.code (⟨"com/example/termvault/termvault/MarkArrays", "<init>", "(I)V"⟩ : MethodName) prog_85_method_1_code 2 none :: ws) ({ frames := 1, cells := 2, slots := 32, locals := 12 } : Room)) (fun aA U => aA = #[(.ref ao), (.int sp)] ∧ Z.Warmed39 U.vm ∧ U.heap = h0) (fun _ _ _ _ _ => True) (fun _ U o U' => ∃ v L, o = .returned v ∧ Q_rmIn Z ao sp h0 n0 v U'.heap L ∧ FrameEnd U o U' L ({ frames := 1, cells := 2, slots := 32, locals := 12 } : Room).cells ({ frames := 1, cells := 2, slots := 32, locals := 12 } : Room).slots) := by
  refine MetFree.of_bodySF (plainFor_of_name pn_com_example_termvault_termvault_MarkArrays) hisR ?_
  intro p e s m args below meth c s₁ Bd hml0 hP hK
  obtain ⟨rfl, hZ, hh⟩ := hP
  have hx := Bd.exec
  have hby := Bd.bytes
  have hml : c.maxLocals = 2 := hml0
  have hown : s.vm.findClass "com/example/termvault/termvault/MarkArrays" = some m.cls := findClass_of_methodNamed Bd.named
  have hnm := (name_of_methodNamed Bd.named Bd.method).1
  have hret := Bd.returns
  have hlk : meth.locks = false := BodyLoose.notSynchronized Bd
  have X0 : Stand p l e ({ frames := 1, cells := 2, slots := 32, locals := 12 } : Room) s m #[(.ref ao), (.int sp)] below meth c s₁ [] 0 0 := Stand.of_body Bd
  have e0 : s₁.heap = h0 := by rw [← hh, Bd.state]; rfl
  have N0 := Fr.nil n0
  suffices hgo : Go p e below s ({ frames := 1, cells := 2, slots := 32, locals := 12 } : Room).cells ({ frames := 1, cells := 2, slots := 32, locals := 12 } : Room).slots (Q_rmIn Z ao sp h0 n0) s₁ (mkF m 0 #[.val (.ref ao), .val (.int sp)] []) from hgo.enter (ef_rmIn m ao sp)
  refine Go.step (fun _ k => XS.aloadN X0.here hx rfl (hb hby d1_0) rfl rfl k) ?_
  show Go _ _ _ _ _ _ _ s₁ (mkF m 1 #[.val (.ref ao), .val (.int sp)] [(.ref ao)])
  obtain ⟨T1, X1, e1, st1⟩ := initO X0 hx hZ hown (hw _ (List.mem_of_getElem? (i := 6) rfl)) (hw _ (List.mem_of_getElem? (i := 7) rfl)) (hw _ (List.mem_of_getElem? (i := 8) rfl)) e0 (g := (mkF m 1 #[.val (.ref ao), .val (.int sp)] [(.ref ao)])) rfl (by rw [hml]; rfl) rfl (hb hby d1_1) (by decide) (W := 0) (by show 2 * 0 + _ ≤ _; exact Nat.le_of_eq rfl) (by decide)
  refine Go.step st1 ?_
  show Go _ _ _ _ _ _ _ T1 (mkF m 4 #[.val (.ref ao), .val (.int sp)] [])
  refine Go.step (fun _ k => XS.aloadN X1.here hx rfl (hb hby d1_4) rfl rfl k) ?_
  show Go _ _ _ _ _ _ _ T1 (mkF m 5 #[.val (.ref ao), .val (.int sp)] [(.ref ao)])
  refine Go.step (fun _ k => XS.bipush X1.here hx rfl (hb hby d1_5) k) ?_
  show Go _ _ _ _ _ _ _ T1 (mkF m 7 #[.val (.ref ao), .val (.int sp)] [(.int (16 : Int32)), (.ref ao)])
  obtain ⟨T2, h2, k2, X2, e2, E2, A2, Xa2, O2, st2⟩ := newRA X1 hx hZ hown (C := "[I") (ty := .int) (by decide) (hw _ (List.mem_of_getElem? (i := 9) rfl)) (hw _ (List.mem_of_getElem? (i := 10) rfl)) e1 (g := (mkF m 7 #[.val (.ref ao), .val (.int sp)] [(.int (16 : Int32)), (.ref ao)])) rfl (hb hby d1_7) rfl (by decide) (cap := 16) (by decide) (by decide) (by decide) (by decide) (ad := "[[I") (by decide)
  obtain ⟨b2, g2⟩ : ∃ z, z = h0.size := ⟨_, rfl⟩
  rw [← g2] at A2 st2
  refine Go.step st2 ?_
  have g_b2 : n0 ≤ b2 := Nat.le_trans Z0 (Nat.le_of_eq g2.symm)
  have sz_b2 : h0.size ≤ b2 := Nat.le_trans (Keep.refl h0 [ao]).1 (Nat.le_of_eq g2.symm)
  have ne_ao_b2 : ao ≠ b2 := Nat.ne_of_lt (Nat.lt_of_lt_of_le E0.lt (Nat.le_of_eq g2.symm))
  have Z2 : n0 ≤ h2.size := Nat.le_trans Z0 E2.1
  have KK2 : Keep h0 h2 [ao] := (Keep.refl h0 [ao]).ext E2
  have V2 : Arv Z h2 b2 k2 (.array .int) (16 : Int32) [] .null := Arv.new A2 (by decide)
  show Go _ _ _ _ _ _ _ T2 (mkF m 10 #[.val (.ref ao), .val (.int sp)] [(.ref b2), (.ref ao)])
  have f3 : Fld Z h2 ao "com/example/termvault/termvault/MarkArrays" "counts" "[[I" .null := (Fc.ext E2)
  have f4 : Exa Z h2 ao "com/example/termvault/termvault/MarkArrays" := (E0.ext E2)
  obtain ⟨T5, h5, X5, e5, W5, st5⟩ := putF X2 hx hZ hown (host := "") (Or.inl (hw _ (List.mem_of_getElem? (i := 11) rfl))) Via.refl e2 f3 f4 (Or.inr ⟨(hw _ (List.mem_of_getElem? (i := 12) rfl)), rfl, hnm⟩) (hw _ (List.mem_of_getElem? (i := 1) rfl)) (ty := (.array (.array .int))) (by decide) rfl rfl (g := (mkF m 10 #[.val (.ref ao), .val (.int sp)] [(.ref b2), (.ref ao)])) rfl rfl (hb hby d1_10)
  refine Go.step st5 ?_
  have Fw5 := f3.same W5
  have N5 := Fr.snoc X5 N0 g0
  have Z5 : n0 ≤ h5.size := Nat.le_trans Z2 (Keep.of_wr W5).1
  have KK5 : Keep h0 h5 [ao] := KK2.wr W5 (Or.inl (List.mem_of_getElem? (i := 0) rfl))
  show Go _ _ _ _ _ _ _ T5 (mkF m 13 #[.val (.ref ao), .val (.int sp)] [])
  refine Go.step (fun _ k => XS.aloadN X5.here hx rfl (hb hby d1_13) rfl rfl k) ?_
  show Go _ _ _ _ _ _ _ T5 (mkF m 14 #[.val (.ref ao), .val (.int sp)] [(.ref ao)])
  refine Go.step (fun _ k => XS.bipush X5.here hx rfl (hb hby d1_14) k) ?_
  show Go _ _ _ _ _ _ _ T5 (mkF m 16 #[.val (.ref ao), .val (.int sp)] [(.int (16 : Int32)), (.ref ao)])
  have f7 : Exa Z h5 ao "com/example/termvault/termvault/MarkArrays" := (f4.wr W5)
  have f8 : Arv Z h5 b2 k2 (.array .int) (16 : Int32) [] .null := (V2.other W5 (Ne.symm ne_ao_b2))
  obtain ⟨T6, h6, k6, X6, e6, E6, A6, Xa6, O6, st6⟩ := newRA X5 hx hZ hown (C := "[J") (ty := .long) (by decide) (hw _ (List.mem_of_getElem? (i := 13) rfl)) (hw _ (List.mem_of_getElem? (i := 14) rfl)) e5 (g := (mkF m 16 #[.val (.ref ao), .val (.int sp)] [(.int (16 : Int32)), (.ref ao)])) rfl (hb hby d1_16) rfl (by decide) (cap := 16) (by decide) (by decide) (by decide) (by decide) (ad := "[[J") (by decide)
  obtain ⟨b6, g6⟩ : ∃ z, z = h5.size := ⟨_, rfl⟩
  rw [← g6] at A6 st6
  refine Go.step st6 ?_
  have g_b6 : n0 ≤ b6 := Nat.le_trans Z5 (Nat.le_of_eq g6.symm)
  have sz_b6 : h0.size ≤ b6 := Nat.le_trans KK5.1 (Nat.le_of_eq g6.symm)
  have ne_ao_b6 : ao ≠ b6 := Nat.ne_of_lt (Nat.lt_of_lt_of_le f7.lt (Nat.le_of_eq g6.symm))
  have ne_b2_b6 : b2 ≠ b6 := Nat.ne_of_lt (Nat.lt_of_lt_of_le f8.lt (Nat.le_of_eq g6.symm))
  have Z6 : n0 ≤ h6.size := Nat.le_trans Z5 E6.1
  have KK6 : Keep h0 h6 [ao] := KK5.ext E6
  have V6 : Arv Z h6 b6 k6 (.array .long) (16 : Int32) [] .null := Arv.new A6 (by decide)
  show Go _ _ _ _ _ _ _ T6 (mkF m 19 #[.val (.ref ao), .val (.int sp)] [(.ref b6), (.ref ao)])
  have f9 : Fld Z h6 ao "com/example/termvault/termvault/MarkArrays" "positions" "[[J" .null := (((Fp.ext E2).other W5 (Or.inr (slot_ne (a0 := a0) (C := "com/example/termvault/termvault/MarkArrays") (Or.inr (hw _ (List.mem_of_getElem? (i := 16) rfl))) (Or.inr (hw _ (List.mem_of_getElem? (i := 12) rfl))) (by decide) (t := (.array (.array .long))) (t' := (.array (.array .int))) (by decide) (by decide)))).ext E6)
  have f10 : Exa Z h6 ao "com/example/termvault/termvault/MarkArrays" := (f7.ext E6)
  obtain ⟨T11, h11, X11, e11, W11, st11⟩ := putF X6 hx hZ hown (host := "") (Or.inl (hw _ (List.mem_of_getElem? (i := 15) rfl))) Via.refl e6 f9 f10 (Or.inr ⟨(hw _ (List.mem_of_getElem? (i := 16) rfl)), rfl, hnm⟩) (hw _ (List.mem_of_getElem? (i := 1) rfl)) (ty := (.array (.array .long))) (by decide) rfl rfl (g := (mkF m 19 #[.val (.ref ao), .val (.int sp)] [(.ref b6), (.ref ao)])) rfl rfl (hb hby d1_19)
  refine Go.step st11 ?_
  have Fw11 := f9.same W11
  have N11 := Fr.snoc X11 N5 g0
  have Z11 : n0 ≤ h11.size := Nat.le_trans Z6 (Keep.of_wr W11).1
  have KK11 : Keep h0 h11 [ao] := KK6.wr W11 (Or.inl (List.mem_of_getElem? (i := 0) rfl))
  show Go _ _ _ _ _ _ _ T11 (mkF m 22 #[.val (.ref ao), .val (.int sp)] [])
  refine Go.step (fun _ k => XS.aloadN X11.here hx rfl (hb hby d1_22) rfl rfl k) ?_
  show Go _ _ _ _ _ _ _ T11 (mkF m 23 #[.val (.ref ao), .val (.int sp)] [(.ref ao)])
  refine Go.step (fun _ k => XS.iloadN X11.here hx rfl (hb hby d1_23) rfl k) ?_
  show Go _ _ _ _ _ _ _ T11 (mkF m 24 #[.val (.ref ao), .val (.int sp)] [(.int sp), (.ref ao)])
  have f12 : Fld Z h11 ao "com/example/termvault/termvault/MarkArrays" "span" "I" (.int (0 : Int32)) := ((((Fs.ext E2).other W5 (Or.inr (slot_ne (a0 := a0) (C := "com/example/termvault/termvault/MarkArrays") (Or.inr (hw _ (List.mem_of_getElem? (i := 18) rfl))) (Or.inr (hw _ (List.mem_of_getElem? (i := 12) rfl))) (by decide) (t := .int) (t' := (.array (.array .int))) (by decide) (by decide)))).ext E6).other W11 (Or.inr (slot_ne (a0 := a0) (C := "com/example/termvault/termvault/MarkArrays") (Or.inr (hw _ (List.mem_of_getElem? (i := 18) rfl))) (Or.inr (hw _ (List.mem_of_getElem? (i := 16) rfl))) (by decide) (t := .int) (t' := (.array (.array .long))) (by decide) (by decide))))
  have f13 : Exa Z h11 ao "com/example/termvault/termvault/MarkArrays" := (f10.wr W11)
  obtain ⟨T14, h14, X14, e14, W14, st14⟩ := putF X11 hx hZ hown (host := "") (Or.inl (hw _ (List.mem_of_getElem? (i := 17) rfl))) Via.refl e11 f12 f13 (Or.inr ⟨(hw _ (List.mem_of_getElem? (i := 18) rfl)), rfl, hnm⟩) (hw _ (List.mem_of_getElem? (i := 1) rfl)) (ty := .int) (by decide) rfl rfl (g := (mkF m 24 #[.val (.ref ao), .val (.int sp)] [(.int sp), (.ref ao)])) rfl rfl (hb hby d1_24)
  refine Go.step st14 ?_
  have Fw14 := f12.same W14
  have N14 := Fr.snoc X14 N11 g0
  have Z14 : n0 ≤ h14.size := Nat.le_trans Z11 (Keep.of_wr W14).1
  have KK14 : Keep h0 h14 [ao] := KK11.wr W14 (Or.inl (List.mem_of_getElem? (i := 0) rfl))
  show Go _ _ _ _ _ _ _ T14 (mkF m 27 #[.val (.ref ao), .val (.int sp)] [])
  have f15 : Arv Z h14 b2 k2 (.array .int) (16 : Int32) [] .null := (((f8.ext E6).other W11 (Ne.symm ne_ao_b2)).other W14 (Ne.symm ne_ao_b2))
  have V16 : Arv Z h14 b2 k2 (.array .int) (16 : Int32) (List.replicate 16 .null) .null := (f15).pad (pad_rep [] .null 16)
  have f17 : Arv Z h14 b6 k6 (.array .long) (16 : Int32) [] .null := ((V6.other W11 (Ne.symm ne_ao_b6)).other W14 (Ne.symm ne_ao_b6))
  have V18 : Arv Z h14 b6 k6 (.array .long) (16 : Int32) (List.replicate 16 .null) .null := (f17).pad (pad_rep [] .null 16)
  have f19 : Exa Z h14 ao "com/example/termvault/termvault/MarkArrays" := (f13.wr W14)
  have f20 : Fld Z h14 ao "com/example/termvault/termvault/MarkArrays" "counts" "[[I" (.ref b2) := (((Fw5.ext E6).other W11 (Or.inr (slot_ne (a0 := a0) (C := "com/example/termvault/termvault/MarkArrays") (Or.inr (hw _ (List.mem_of_getElem? (i := 12) rfl))) (Or.inr (hw _ (List.mem_of_getElem? (i := 16) rfl))) (by decide) (t := (.array (.array .int))) (t' := (.array (.array .long))) (by decide) (by decide)))).other W14 (Or.inr (slot_ne (a0 := a0) (C := "com/example/termvault/termvault/MarkArrays") (Or.inr (hw _ (List.mem_of_getElem? (i := 12) rfl))) (Or.inr (hw _ (List.mem_of_getElem? (i := 18) rfl))) (by decide) (t := (.array (.array .int))) (t' := .int) (by decide) (by decide))))
  have f21 : Fld Z h14 ao "com/example/termvault/termvault/MarkArrays" "positions" "[[J" (.ref b6) := (Fw11.other W14 (Or.inr (slot_ne (a0 := a0) (C := "com/example/termvault/termvault/MarkArrays") (Or.inr (hw _ (List.mem_of_getElem? (i := 16) rfl))) (Or.inr (hw _ (List.mem_of_getElem? (i := 18) rfl))) (by decide) (t := (.array (.array .long))) (t' := .int) (by decide) (by decide))))
  have f22 : Fld Z h14 ao "com/example/termvault/termvault/MarkArrays" "countsTaken" "I" (.int (0 : Int32)) := (((((Ft.ext E2).other W5 (Or.inr (slot_ne (a0 := a0) (C := "com/example/termvault/termvault/MarkArrays") (Or.inl (hw _ (List.mem_of_getElem? (i := 40) rfl))) (Or.inr (hw _ (List.mem_of_getElem? (i := 12) rfl))) (by decide) (t := .int) (t' := (.array (.array .int))) (by decide) (by decide)))).ext E6).other W11 (Or.inr (slot_ne (a0 := a0) (C := "com/example/termvault/termvault/MarkArrays") (Or.inl (hw _ (List.mem_of_getElem? (i := 40) rfl))) (Or.inr (hw _ (List.mem_of_getElem? (i := 16) rfl))) (by decide) (t := .int) (t' := (.array (.array .long))) (by decide) (by decide)))).other W14 (Or.inr (slot_ne (a0 := a0) (C := "com/example/termvault/termvault/MarkArrays") (Or.inl (hw _ (List.mem_of_getElem? (i := 40) rfl))) (Or.inr (hw _ (List.mem_of_getElem? (i := 18) rfl))) (by decide) (t := .int) (t' := .int) (by decide) (by decide))))
  have f23 : Fld Z h14 ao "com/example/termvault/termvault/MarkArrays" "positionsTaken" "I" (.int (0 : Int32)) := (((((Fu.ext E2).other W5 (Or.inr (slot_ne (a0 := a0) (C := "com/example/termvault/termvault/MarkArrays") (Or.inl (hw _ (List.mem_of_getElem? (i := 30) rfl))) (Or.inr (hw _ (List.mem_of_getElem? (i := 12) rfl))) (by decide) (t := .int) (t' := (.array (.array .int))) (by decide) (by decide)))).ext E6).other W11 (Or.inr (slot_ne (a0 := a0) (C := "com/example/termvault/termvault/MarkArrays") (Or.inl (hw _ (List.mem_of_getElem? (i := 30) rfl))) (Or.inr (hw _ (List.mem_of_getElem? (i := 16) rfl))) (by decide) (t := .int) (t' := (.array (.array .long))) (by decide) (by decide)))).other W14 (Or.inr (slot_ne (a0 := a0) (C := "com/example/termvault/termvault/MarkArrays") (Or.inl (hw _ (List.mem_of_getElem? (i := 30) rfl))) (Or.inr (hw _ (List.mem_of_getElem? (i := 18) rfl))) (by decide) (t := .int) (t' := .int) (by decide) (by decide))))
  exact Go.ret0 X14 hx hret hlk (hb hby d1_27) e14 (by decide) (by decide) ⟨b2, k2, b6, k6, rfl, N14, KK14, sz_b2, sz_b6, ne_b2_b6, f19, f20, f21, Fw14, f22, f23, V16, V18, O2, O6⟩
theorem d4_0 : decode prog_85_method_4_code 0 = .ok (.aload_n 0, 1) := by decide +kernel
theorem d4_1 : decode prog_85_method_4_code 1 = .ok (.getfield 28, 3) := by decide +kernel
theorem d4_4 : decode prog_85_method_4_code 4 = .ok (.bipush 16, 2) := by decide +kernel
theorem d4_6 : decode prog_85_method_4_code 6 = .ok (.if_icmp .ne 10, 3) := by decide +kernel
theorem d4_9 : decode prog_85_method_4_code 9 = .ok (.aload_n 0, 1) := by decide +kernel
theorem d4_10 : decode prog_85_method_4_code 10 = .ok (.getfield 21, 3) := by decide +kernel
theorem d4_13 : decode prog_85_method_4_code 13 = .ok (.newarray .long, 2) := by decide +kernel
theorem d4_15 : decode prog_85_method_4_code 15 = .ok (.areturn, 1) := by decide +kernel
theorem d4_16 : decode prog_85_method_4_code 16 = .ok (.aload_n 0, 1) := by decide +kernel
theorem d4_17 : decode prog_85_method_4_code 17 = .ok (.getfield 17, 3) := by decide +kernel
theorem d4_20 : decode prog_85_method_4_code 20 = .ok (.aload_n 0, 1) := by decide +kernel
theorem d4_21 : decode prog_85_method_4_code 21 = .ok (.getfield 28, 3) := by decide +kernel
theorem d4_24 : decode prog_85_method_4_code 24 = .ok (.aaload, 1) := by decide +kernel
theorem d4_25 : decode prog_85_method_4_code 25 = .ok (.ifnonnull 18, 3) := by decide +kernel
theorem d4_28 : decode prog_85_method_4_code 28 = .ok (.aload_n 0, 1) := by decide +kernel
theorem d4_29 : decode prog_85_method_4_code 29 = .ok (.getfield 17, 3) := by decide +kernel
theorem d4_32 : decode prog_85_method_4_code 32 = .ok (.aload_n 0, 1) := by decide +kernel
theorem d4_33 : decode prog_85_method_4_code 33 = .ok (.getfield 28, 3) := by decide +kernel
theorem d4_36 : decode prog_85_method_4_code 36 = .ok (.aload_n 0, 1) := by decide +kernel
theorem d4_37 : decode prog_85_method_4_code 37 = .ok (.getfield 21, 3) := by decide +kernel
theorem d4_40 : decode prog_85_method_4_code 40 = .ok (.newarray .long, 2) := by decide +kernel
theorem d4_42 : decode prog_85_method_4_code 42 = .ok (.aastore, 1) := by decide +kernel
theorem d4_43 : decode prog_85_method_4_code 43 = .ok (.aload_n 0, 1) := by decide +kernel
theorem d4_44 : decode prog_85_method_4_code 44 = .ok (.dup, 1) := by decide +kernel
theorem d4_45 : decode prog_85_method_4_code 45 = .ok (.getfield 28, 3) := by decide +kernel
theorem d4_48 : decode prog_85_method_4_code 48 = .ok (.iconst 1, 1) := by decide +kernel
theorem d4_49 : decode prog_85_method_4_code 49 = .ok (.iadd, 1) := by decide +kernel
theorem d4_50 : decode prog_85_method_4_code 50 = .ok (.putfield 28, 3) := by decide +kernel
theorem d4_53 : decode prog_85_method_4_code 53 = .ok (.aload_n 0, 1) := by decide +kernel
theorem d4_54 : decode prog_85_method_4_code 54 = .ok (.getfield 17, 3) := by decide +kernel
theorem d4_57 : decode prog_85_method_4_code 57 = .ok (.aload_n 0, 1) := by decide +kernel
theorem d4_58 : decode prog_85_method_4_code 58 = .ok (.getfield 28, 3) := by decide +kernel
theorem d4_61 : decode prog_85_method_4_code 61 = .ok (.iconst 1, 1) := by decide +kernel
theorem d4_62 : decode prog_85_method_4_code 62 = .ok (.isub, 1) := by decide +kernel
theorem d4_63 : decode prog_85_method_4_code 63 = .ok (.aaload, 1) := by decide +kernel
theorem d4_64 : decode prog_85_method_4_code 64 = .ok (.areturn, 1) := by decide +kernel
theorem ef_rmPt (m : MethodId) (ao : Addr) : entryFrame m #[(.ref ao)] 1 = mkF m 0 #[.val (.ref ao)] [] := by first | (simp [entryFrame, mkF, argsToLocals, Value.category]; done) | rfl
def Q_rmPt (Z : State) (ao : Addr) (ac : Addr) (kc : ClassId) (lc : List Value) (tk : Int32) (sp : Int32) (uo : Int32) (aw : Addr) (h0 : Heap) (n0 : Nat) (v : Option Value) (h : Heap) (L : List Loc) : Prop := ∃ ar : Addr, ∃ kr : ClassId, (v = some (.ref ar)) ∧ (Fr n0 L) ∧ (Keep h0 h [ao, ac]) ∧ (h0.size ≤ ar) ∧ (Exa Z h ao "com/example/termvault/termvault/MarkArrays") ∧ (Fld Z h ao "com/example/termvault/termvault/MarkArrays" "positions" "[[J" (.ref ac)) ∧ (Fld Z h ao "com/example/termvault/termvault/MarkArrays" "positionsTaken" "I" (.int (tk + (1 : Int32)))) ∧ (Fld Z h ao "com/example/termvault/termvault/MarkArrays" "span" "I" (.int sp)) ∧ (Fld Z h ao "com/example/termvault/termvault/MarkArrays" "countsTaken" "I" (.int uo)) ∧ (Fld Z h ao "com/example/termvault/termvault/MarkArrays" "counts" "[[I" (.ref aw)) ∧ (Arv Z h ac kc (.array .long) (16 : Int32) (lc.set tk.toNatClampNeg (.ref ar)) .null) ∧ (Arv Z h ar kr .long sp [] (.long (0 : Int64))) ∧ (Exa Z h ar "[J")
set_option maxRecDepth 65536 in
set_option maxHeartbeats 40000000 in
theorem rmPt (l : Launch) (Z : State) (a0 : Array Value) (hw : ∀ d ∈ tables_1, d.before a0 Z = true) (ws : List Jvm.Cond) (ao : Addr) (ac : Addr) (kc : ClassId) (lc : List Value) (tk : Int32) (sp : Int32) (uo : Int32) (aw : Addr) (h0 : Heap) (n0 : Nat) (Z0 : n0 ≤ h0.size) (E0 : Exa Z h0 ao "com/example/termvault/termvault/MarkArrays") (Fc : Fld Z h0 ao "com/example/termvault/termvault/MarkArrays" "positions" "[[J" (.ref ac)) (Ft : Fld Z h0 ao "com/example/termvault/termvault/MarkArrays" "positionsTaken" "I" (.int tk)) (Fs : Fld Z h0 ao "com/example/termvault/termvault/MarkArrays" "span" "I" (.int sp)) (Vc : Arv Z h0 ac kc (.array .long) (16 : Int32) lc .null) (Fo : Fld Z h0 ao "com/example/termvault/termvault/MarkArrays" "countsTaken" "I" (.int uo)) (Fq : Fld Z h0 ao "com/example/termvault/termvault/MarkArrays" "counts" "[[I" (.ref aw)) (ov_ac : OvrA Z kc .long "[J") (g0 : n0 ≤ ao) (g1 : n0 ≤ ac) (ne0 : ao ≠ ac) (ht0 : ¬ (tk < (0 : Int32))) (ht1 : tk < (16 : Int32)) (hl : lc.length = (16 : Int32).toNatClampNeg) (hnull : lc.getD tk.toNatClampNeg .null = .null) (hs0 : ¬ (sp < (0 : Int32))) (hs1 : ¬ ((7 : Int32) < sp)) :
    MetFree l (⟨"com/example/termvault/termvault/MarkArrays", "positions", "()[J"⟩ : MethodName) (head1 (Jvm.Cond.code (⟨"com/example/termvault/termvault/MarkArrays", "positions", "()[J"⟩ : MethodName) prog_85_method_4_code 1 (some (.array .long)) :: ws) ({ frames := 0, cells := 1, slots := 7, locals := 0 } : Room)) (fun aA U => aA = #[(.ref ao)] ∧ Z.Warmed39 U.vm ∧ U.heap = h0) (fun _ _ _ _ _ => True) (fun _ U o U' => ∃ v L, o = .returned v ∧ Q_rmPt Z ao ac kc lc tk sp uo aw h0 n0 v U'.heap L ∧ FrameEnd U o U' L ({ frames := 0, cells := 1, slots := 7, locals := 0 } : Room).cells ({ frames := 0, cells := 1, slots := 7, locals := 0 } : Room).slots) := by
  refine MetFree.of_bodySF (plainFor_of_name pn_com_example_termvault_termvault_MarkArrays) hisR ?_
  intro p e s m args below meth c s₁ Bd hml0 hP hK
  obtain ⟨rfl, hZ, hh⟩ := hP
  have hx := Bd.exec
  have hby := Bd.bytes
  have hml : c.maxLocals = 1 := hml0
  have hown : s.vm.findClass "com/example/termvault/termvault/MarkArrays" = some m.cls := findClass_of_methodNamed Bd.named
  have hnm := (name_of_methodNamed Bd.named Bd.method).1
  have hret := Bd.returns
  have hlk : meth.locks = false := BodyLoose.notSynchronized Bd
  have X0 : Stand p l e ({ frames := 0, cells := 1, slots := 7, locals := 0 } : Room) s m #[(.ref ao)] below meth c s₁ [] 0 0 := Stand.of_body Bd
  have e0 : s₁.heap = h0 := by rw [← hh, Bd.state]; rfl
  have N0 := Fr.nil n0
  suffices hgo : Go p e below s ({ frames := 0, cells := 1, slots := 7, locals := 0 } : Room).cells ({ frames := 0, cells := 1, slots := 7, locals := 0 } : Room).slots (Q_rmPt Z ao ac kc lc tk sp uo aw h0 n0) s₁ (mkF m 0 #[.val (.ref ao)] []) from hgo.enter (ef_rmPt m ao)
  refine Go.step (fun _ k => XS.aloadN X0.here hx rfl (hb hby d4_0) rfl rfl k) ?_
  show Go _ _ _ _ _ _ _ s₁ (mkF m 1 #[.val (.ref ao)] [(.ref ao)])
  obtain ⟨T24, X24, e24, st24⟩ := getF X0 hx hZ hown (host := "") (Or.inl (hw _ (List.mem_of_getElem? (i := 29) rfl))) Via.refl e0 Ft (g := (mkF m 1 #[.val (.ref ao)] [(.ref ao)])) rfl rfl (hb hby d4_1)
  refine Go.step st24 ?_
  show Go _ _ _ _ _ _ _ T24 (mkF m 4 #[.val (.ref ao)] [(.int tk)])
  refine Go.step (fun _ k => XS.bipush X24.here hx rfl (hb hby d4_4) k) ?_
  show Go _ _ _ _ _ _ _ T24 (mkF m 6 #[.val (.ref ao)] [(.int (16 : Int32)), (.int tk)])
  have hc6_25 : ¬ (tk = (16 : Int32)) := (by have := rng32 tk; have : (16 : Int32).toInt = 16 := rfl; simp only [Int32.lt_iff_toInt_lt, Int32.le_iff_toInt_le, ← Int32.toInt_inj, Int64.lt_iff_toInt_lt, Int64.le_iff_toInt_le, ← Int64.toInt_inj] at ht1 ⊢; omega)
  refine Go.step (fun _ k => XS.icmpYes X24.here hx rfl (pc0 := 6) (pc' := 16) rfl (hb hby d4_6) rfl (feq hc6_25).2 (by decide) (by decide) k) ?_
  show Go _ _ _ _ _ _ _ T24 (mkF m 16 #[.val (.ref ao)] [])
  refine Go.step (fun _ k => XS.aloadN X24.here hx rfl (hb hby d4_16) rfl rfl k) ?_
  show Go _ _ _ _ _ _ _ T24 (mkF m 17 #[.val (.ref ao)] [(.ref ao)])
  obtain ⟨T26, X26, e26, st26⟩ := getF X24 hx hZ hown (host := "") (Or.inl (hw _ (List.mem_of_getElem? (i := 15) rfl))) Via.refl e24 Fc (g := (mkF m 17 #[.val (.ref ao)] [(.ref ao)])) rfl rfl (hb hby d4_17)
  refine Go.step st26 ?_
  show Go _ _ _ _ _ _ _ T26 (mkF m 20 #[.val (.ref ao)] [(.ref ac)])
  refine Go.step (fun _ k => XS.aloadN X26.here hx rfl (hb hby d4_20) rfl rfl k) ?_
  show Go _ _ _ _ _ _ _ T26 (mkF m 21 #[.val (.ref ao)] [(.ref ao), (.ref ac)])
  obtain ⟨T27, X27, e27, st27⟩ := getF X26 hx hZ hown (host := "") (Or.inl (hw _ (List.mem_of_getElem? (i := 29) rfl))) Via.refl e26 Ft (g := (mkF m 21 #[.val (.ref ao)] [(.ref ao), (.ref ac)])) rfl rfl (hb hby d4_21)
  refine Go.step st27 ?_
  show Go _ _ _ _ _ _ _ T27 (mkF m 24 #[.val (.ref ao)] [(.int tk), (.ref ac)])
  obtain ⟨cl28, Ar28, q28, S28, M28, H28, G28⟩ := id (Vc)
  have hin28 : ¬ (tk < 0 ∨ cl28.slots.size ≤ (tk).toNatClampNeg) := inb_of S28 ⟨ht0, ht1⟩
  have hat28 : cl28.slots[(tk).toNatClampNeg]? = some .null := H28.at hin28 hnull
  refine Go.step (X27.aaload hx (j := tk) (v := .null) (by rw [e27]; exact Ar28.1) (State.isArrayOf_alike hZ.alike Ar28.2.1) rfl Ar28.2.2 hin28 hat28 (g := (mkF m 24 #[.val (.ref ao)] [(.int tk), (.ref ac)])) rfl rfl (hb hby d4_24)) ?_
  show Go _ _ _ _ _ _ _ T27 (mkF m 25 #[.val (.ref ao)] [.null])
  refine Go.step (fun _ k => XS.ifnonnullNo X27.here hx rfl (hb hby d4_25) rfl k) ?_
  show Go _ _ _ _ _ _ _ T27 (mkF m 28 #[.val (.ref ao)] [])
  refine Go.step (fun _ k => XS.aloadN X27.here hx rfl (hb hby d4_28) rfl rfl k) ?_
  show Go _ _ _ _ _ _ _ T27 (mkF m 29 #[.val (.ref ao)] [(.ref ao)])
  obtain ⟨T29, X29, e29, st29⟩ := getF X27 hx hZ hown (host := "") (Or.inl (hw _ (List.mem_of_getElem? (i := 15) rfl))) Via.refl e27 Fc (g := (mkF m 29 #[.val (.ref ao)] [(.ref ao)])) rfl rfl (hb hby d4_29)
  refine Go.step st29 ?_
  show Go _ _ _ _ _ _ _ T29 (mkF m 32 #[.val (.ref ao)] [(.ref ac)])
  refine Go.step (fun _ k => XS.aloadN X29.here hx rfl (hb hby d4_32) rfl rfl k) ?_
  show Go _ _ _ _ _ _ _ T29 (mkF m 33 #[.val (.ref ao)] [(.ref ao), (.ref ac)])
  obtain ⟨T30, X30, e30, st30⟩ := getF X29 hx hZ hown (host := "") (Or.inl (hw _ (List.mem_of_getElem? (i := 29) rfl))) Via.refl e29 Ft (g := (mkF m 33 #[.val (.ref ao)] [(.ref ao), (.ref ac)])) rfl rfl (hb hby d4_33)
  refine Go.step st30 ?_
  show Go _ _ _ _ _ _ _ T30 (mkF m 36 #[.val (.ref ao)] [(.int tk), (.ref ac)])
  refine Go.step (fun _ k => XS.aloadN X30.here hx rfl (hb hby d4_36) rfl rfl k) ?_
  show Go _ _ _ _ _ _ _ T30 (mkF m 37 #[.val (.ref ao)] [(.ref ao), (.int tk), (.ref ac)])
  obtain ⟨T31, X31, e31, st31⟩ := getF X30 hx hZ hown (host := "") (Or.inl (hw _ (List.mem_of_getElem? (i := 17) rfl))) Via.refl e30 Fs (g := (mkF m 37 #[.val (.ref ao)] [(.ref ao), (.int tk), (.ref ac)])) rfl rfl (hb hby d4_37)
  refine Go.step st31 ?_
  show Go _ _ _ _ _ _ _ T31 (mkF m 40 #[.val (.ref ao)] [(.int sp), (.int tk), (.ref ac)])
  obtain ⟨T32, h32, k32, X32, e32, E32, A32, Xa32, st32⟩ := newPE X31 hx hZ (hw _ (List.mem_of_getElem? (i := 31) rfl)) e31 (g := (mkF m 40 #[.val (.ref ao)] [(.int sp), (.int tk), (.ref ac)])) rfl (hb hby d4_40) rfl hs0 (cap := 7) (Nat.le_trans (own_tle hs1) (by decide)) (by decide) (by decide) (by decide) (ad := "[J") rfl
  obtain ⟨b32, g32⟩ : ∃ z, z = h0.size := ⟨_, rfl⟩
  rw [← g32] at A32 Xa32 st32
  refine Go.step st32 ?_
  have g_b32 : n0 ≤ b32 := Nat.le_trans Z0 (Nat.le_of_eq g32.symm)
  have sz_b32 : h0.size ≤ b32 := Nat.le_trans (Keep.refl h0 [ao, ac]).1 (Nat.le_of_eq g32.symm)
  have ne_ac_b32 : ac ≠ b32 := Nat.ne_of_lt (Nat.lt_of_lt_of_le Vc.lt (Nat.le_of_eq g32.symm))
  have ne_ao_b32 : ao ≠ b32 := Nat.ne_of_lt (Nat.lt_of_lt_of_le E0.lt (Nat.le_of_eq g32.symm))
  have Z32 : n0 ≤ h32.size := Nat.le_trans Z0 E32.1
  have KK32 : Keep h0 h32 [ao, ac] := (Keep.refl h0 [ao, ac]).ext E32
  have V32 : Arv Z h32 b32 k32 .long sp [] (.long (0 : Int64)) := Arv.new A32 hs0
  show Go _ _ _ _ _ _ _ T32 (mkF m 42 #[.val (.ref ao)] [(.ref b32), (.int tk), (.ref ac)])
  have f33 : Arv Z h32 ac kc (.array .long) (16 : Int32) lc .null := (Vc.ext E32)
  obtain ⟨cl34, Ar34, q34, S34, M34, H34, G34⟩ := id (f33)
  have hin34 : ¬ (tk < 0 ∨ cl34.slots.size ≤ (tk).toNatClampNeg) := inb_of S34 ⟨ht0, ht1⟩
  obtain ⟨T34, h34, X34, e34, W34, st34⟩ := stR X32 hx hZ e32 Ar34 (j := tk) hin34 rfl (Sto.ofVA Ar34 q34 ov_ac (Ins.self Xa32)) (g := (mkF m 42 #[.val (.ref ao)] [(.ref b32), (.int tk), (.ref ac)])) rfl rfl (hb hby d4_42)
  refine Go.step st34 ?_
  have V34 : Arv Z h34 ac kc (.array .long) (16 : Int32) (lc.set tk.toNatClampNeg (.ref b32)) .null := Arv.set Ar34 q34 S34 M34 H34 G34 rfl W34 tk.toNatClampNeg rfl (by rw [hl]; exact own_tlt ht0 ht1)
  have N34 := Fr.snoc X34 N0 g1
  have Z34 : n0 ≤ h34.size := Nat.le_trans Z32 (Keep.of_wr W34).1
  have KK34 : Keep h0 h34 [ao, ac] := KK32.wr W34 (Or.inl (List.mem_of_getElem? (i := 1) rfl))
  show Go _ _ _ _ _ _ _ T34 (mkF m 43 #[.val (.ref ao)] [])
  refine Go.step (fun _ k => XS.aloadN X34.here hx rfl (hb hby d4_43) rfl rfl k) ?_
  show Go _ _ _ _ _ _ _ T34 (mkF m 44 #[.val (.ref ao)] [(.ref ao)])
  refine Go.step (fun _ k => XS.dup X34.here hx rfl (hb hby d4_44) rfl rfl k) ?_
  show Go _ _ _ _ _ _ _ T34 (mkF m 45 #[.val (.ref ao)] [(.ref ao), (.ref ao)])
  have f35 : Fld Z h34 ao "com/example/termvault/termvault/MarkArrays" "positionsTaken" "I" (.int tk) := ((Ft.ext E32).other W34 (Or.inl ne0))
  obtain ⟨T36, X36, e36, st36⟩ := getF X34 hx hZ hown (host := "") (Or.inl (hw _ (List.mem_of_getElem? (i := 29) rfl))) Via.refl e34 f35 (g := (mkF m 45 #[.val (.ref ao)] [(.ref ao), (.ref ao)])) rfl rfl (hb hby d4_45)
  refine Go.step st36 ?_
  show Go _ _ _ _ _ _ _ T36 (mkF m 48 #[.val (.ref ao)] [(.int tk), (.ref ao)])
  refine Go.step (fun _ k => XS.iconst X36.here hx rfl (hb hby d4_48) k) ?_
  show Go _ _ _ _ _ _ _ T36 (mkF m 49 #[.val (.ref ao)] [(.int (1 : Int32)), (.int tk), (.ref ao)])
  refine Go.step (fun _ k => XS.iadd X36.here hx rfl (hb hby d4_49) rfl k) ?_
  show Go _ _ _ _ _ _ _ T36 (mkF m 50 #[.val (.ref ao)] [(.int (tk + (1 : Int32))), (.ref ao)])
  have f37 : Exa Z h34 ao "com/example/termvault/termvault/MarkArrays" := ((E0.ext E32).wr W34)
  obtain ⟨T38, h38, X38, e38, W38, st38⟩ := putF X36 hx hZ hown (host := "") (Or.inl (hw _ (List.mem_of_getElem? (i := 29) rfl))) Via.refl e36 f35 f37 (Or.inl (hw _ (List.mem_of_getElem? (i := 30) rfl))) (hw _ (List.mem_of_getElem? (i := 1) rfl)) (ty := .int) (by decide) rfl rfl (g := (mkF m 50 #[.val (.ref ao)] [(.int (tk + (1 : Int32))), (.ref ao)])) rfl rfl (hb hby d4_50)
  refine Go.step st38 ?_
  have Fw38 := f35.same W38
  have N38 := Fr.snoc X38 N34 g0
  have Z38 : n0 ≤ h38.size := Nat.le_trans Z34 (Keep.of_wr W38).1
  have KK38 : Keep h0 h38 [ao, ac] := KK34.wr W38 (Or.inl (List.mem_of_getElem? (i := 0) rfl))
  show Go _ _ _ _ _ _ _ T38 (mkF m 53 #[.val (.ref ao)] [])
  refine Go.step (fun _ k => XS.aloadN X38.here hx rfl (hb hby d4_53) rfl rfl k) ?_
  show Go _ _ _ _ _ _ _ T38 (mkF m 54 #[.val (.ref ao)] [(.ref ao)])
  have f39 : Fld Z h38 ao "com/example/termvault/termvault/MarkArrays" "positions" "[[J" (.ref ac) := (((Fc.ext E32).other W34 (Or.inl ne0)).other W38 (Or.inr (slot_ne (a0 := a0) (C := "com/example/termvault/termvault/MarkArrays") (Or.inr (hw _ (List.mem_of_getElem? (i := 16) rfl))) (Or.inl (hw _ (List.mem_of_getElem? (i := 30) rfl))) (by decide) (t := (.array (.array .long))) (t' := .int) (by decide) (by decide))))
  obtain ⟨T40, X40, e40, st40⟩ := getF X38 hx hZ hown (host := "") (Or.inl (hw _ (List.mem_of_getElem? (i := 15) rfl))) Via.refl e38 f39 (g := (mkF m 54 #[.val (.ref ao)] [(.ref ao)])) rfl rfl (hb hby d4_54)
  refine Go.step st40 ?_
  show Go _ _ _ _ _ _ _ T40 (mkF m 57 #[.val (.ref ao)] [(.ref ac)])
  refine Go.step (fun _ k => XS.aloadN X40.here hx rfl (hb hby d4_57) rfl rfl k) ?_
  show Go _ _ _ _ _ _ _ T40 (mkF m 58 #[.val (.ref ao)] [(.ref ao), (.ref ac)])
  obtain ⟨T41, X41, e41, st41⟩ := getF X40 hx hZ hown (host := "") (Or.inl (hw _ (List.mem_of_getElem? (i := 29) rfl))) Via.refl e40 Fw38 (g := (mkF m 58 #[.val (.ref ao)] [(.ref ao), (.ref ac)])) rfl rfl (hb hby d4_58)
  refine Go.step st41 ?_
  show Go _ _ _ _ _ _ _ T41 (mkF m 61 #[.val (.ref ao)] [(.int (tk + (1 : Int32))), (.ref ac)])
  refine Go.step (fun _ k => XS.iconst X41.here hx rfl (hb hby d4_61) k) ?_
  show Go _ _ _ _ _ _ _ T41 (mkF m 62 #[.val (.ref ao)] [(.int (1 : Int32)), (.int (tk + (1 : Int32))), (.ref ac)])
  refine Go.step (fun _ k => XS.isub X41.here hx rfl (hb hby d4_62) rfl k) ?_
  show Go _ _ _ _ _ _ _ T41 (mkF m 63 #[.val (.ref ao)] [(.int ((tk + (1 : Int32)) - (1 : Int32))), (.ref ac)])
  have f42 : Arv Z h38 ac kc (.array .long) (16 : Int32) (lc.set tk.toNatClampNeg (.ref b32)) .null := (V34.other W38 (Ne.symm ne0))
  obtain ⟨cl43, Ar43, q43, S43, M43, H43, G43⟩ := id (f42)
  have hin43 : ¬ (((tk + (1 : Int32)) - (1 : Int32)) < 0 ∨ cl43.slots.size ≤ (((tk + (1 : Int32)) - (1 : Int32))).toNatClampNeg) := inb_of S43 ⟨(by have := rng32 tk; have : (1 : Int32).toInt = 1 := rfl; have := rng32 (tk + (1 : Int32)); have := c_iadd tk (1 : Int32); have := rng32 ((tk + (1 : Int32)) - (1 : Int32)); have := c_isub (tk + (1 : Int32)) (1 : Int32); have : (0 : Int32).toInt = 0 := rfl; have : (16 : Int32).toInt = 16 := rfl; simp only [Int32.lt_iff_toInt_lt, Int32.le_iff_toInt_le, ← Int32.toInt_inj, Int64.lt_iff_toInt_lt, Int64.le_iff_toInt_le, ← Int64.toInt_inj] at ht0 ht1 ⊢; omega), (by have := rng32 tk; have : (1 : Int32).toInt = 1 := rfl; have := rng32 (tk + (1 : Int32)); have := c_iadd tk (1 : Int32); have := rng32 ((tk + (1 : Int32)) - (1 : Int32)); have := c_isub (tk + (1 : Int32)) (1 : Int32); have : (0 : Int32).toInt = 0 := rfl; have : (16 : Int32).toInt = 16 := rfl; simp only [Int32.lt_iff_toInt_lt, Int32.le_iff_toInt_le, ← Int32.toInt_inj, Int64.lt_iff_toInt_lt, Int64.le_iff_toInt_le, ← Int64.toInt_inj] at ht0 ht1 ⊢; omega)⟩
  have hat43 : cl43.slots[(((tk + (1 : Int32)) - (1 : Int32))).toNatClampNeg]? = some (.ref b32) := H43.at hin43 (by rw [own_as]; exact own_g (by rw [hl]; exact own_tlt ht0 ht1))
  refine Go.step (X41.aaload hx (j := ((tk + (1 : Int32)) - (1 : Int32))) (v := (.ref b32)) (by rw [e41]; exact Ar43.1) (State.isArrayOf_alike hZ.alike Ar43.2.1) rfl Ar43.2.2 hin43 hat43 (g := (mkF m 63 #[.val (.ref ao)] [(.int ((tk + (1 : Int32)) - (1 : Int32))), (.ref ac)])) rfl rfl (hb hby d4_63)) ?_
  show Go _ _ _ _ _ _ _ T41 (mkF m 64 #[.val (.ref ao)] [(.ref b32)])
  have f44 : Exa Z h38 ao "com/example/termvault/termvault/MarkArrays" := (f37.wr W38)
  have f45 : Fld Z h38 ao "com/example/termvault/termvault/MarkArrays" "span" "I" (.int sp) := (((Fs.ext E32).other W34 (Or.inl ne0)).other W38 (Or.inr (slot_ne (a0 := a0) (C := "com/example/termvault/termvault/MarkArrays") (Or.inr (hw _ (List.mem_of_getElem? (i := 18) rfl))) (Or.inl (hw _ (List.mem_of_getElem? (i := 30) rfl))) (by decide) (t := .int) (t' := .int) (by decide) (by decide))))
  have f46 : Fld Z h38 ao "com/example/termvault/termvault/MarkArrays" "countsTaken" "I" (.int uo) := (((Fo.ext E32).other W34 (Or.inl ne0)).other W38 (Or.inr (slot_ne (a0 := a0) (C := "com/example/termvault/termvault/MarkArrays") (Or.inl (hw _ (List.mem_of_getElem? (i := 40) rfl))) (Or.inl (hw _ (List.mem_of_getElem? (i := 30) rfl))) (by decide) (t := .int) (t' := .int) (by decide) (by decide))))
  have f47 : Fld Z h38 ao "com/example/termvault/termvault/MarkArrays" "counts" "[[I" (.ref aw) := (((Fq.ext E32).other W34 (Or.inl ne0)).other W38 (Or.inr (slot_ne (a0 := a0) (C := "com/example/termvault/termvault/MarkArrays") (Or.inr (hw _ (List.mem_of_getElem? (i := 12) rfl))) (Or.inl (hw _ (List.mem_of_getElem? (i := 30) rfl))) (by decide) (t := (.array (.array .int))) (t' := .int) (by decide) (by decide))))
  have f48 : Arv Z h38 b32 k32 .long sp [] (.long (0 : Int64)) := ((V32.other W34 (Ne.symm ne_ac_b32)).other W38 (Ne.symm ne_ao_b32))
  have f49 : Exa Z h38 b32 "[J" := ((Xa32.wr W34).wr W38)
  exact Go.retA X41 hx hret hlk rfl rfl (hb hby d4_64) e41 (by decide) (by decide) ⟨b32, k32, rfl, N38, KK38, sz_b32, f44, f39, Fw38, f45, f46, f47, f42, f48, f49⟩
theorem ef_rmPa (m : MethodId) (ao : Addr) : entryFrame m #[(.ref ao)] 1 = mkF m 0 #[.val (.ref ao)] [] := by first | (simp [entryFrame, mkF, argsToLocals, Value.category]; done) | rfl
def Q_rmPa (Z : State) (ao : Addr) (ac : Addr) (kc : ClassId) (lc : List Value) (tk : Int32) (sp : Int32) (ax : Addr) (uo : Int32) (aw : Addr) (h0 : Heap) (n0 : Nat) (v : Option Value) (h : Heap) (L : List Loc) : Prop := (v = some (.ref ax)) ∧ (Fr n0 L) ∧ (Keep h0 h [ao]) ∧ (Exa Z h ao "com/example/termvault/termvault/MarkArrays") ∧ (Fld Z h ao "com/example/termvault/termvault/MarkArrays" "positions" "[[J" (.ref ac)) ∧ (Fld Z h ao "com/example/termvault/termvault/MarkArrays" "positionsTaken" "I" (.int (tk + (1 : Int32)))) ∧ (Fld Z h ao "com/example/termvault/termvault/MarkArrays" "span" "I" (.int sp)) ∧ (Fld Z h ao "com/example/termvault/termvault/MarkArrays" "countsTaken" "I" (.int uo)) ∧ (Fld Z h ao "com/example/termvault/termvault/MarkArrays" "counts" "[[I" (.ref aw))
set_option maxRecDepth 65536 in
set_option maxHeartbeats 40000000 in
theorem rmPa (l : Launch) (Z : State) (a0 : Array Value) (hw : ∀ d ∈ tables_1, d.before a0 Z = true) (ws : List Jvm.Cond) (ao : Addr) (ac : Addr) (kc : ClassId) (lc : List Value) (tk : Int32) (sp : Int32) (ax : Addr) (uo : Int32) (aw : Addr) (h0 : Heap) (n0 : Nat) (Z0 : n0 ≤ h0.size) (E0 : Exa Z h0 ao "com/example/termvault/termvault/MarkArrays") (Fc : Fld Z h0 ao "com/example/termvault/termvault/MarkArrays" "positions" "[[J" (.ref ac)) (Ft : Fld Z h0 ao "com/example/termvault/termvault/MarkArrays" "positionsTaken" "I" (.int tk)) (Fs : Fld Z h0 ao "com/example/termvault/termvault/MarkArrays" "span" "I" (.int sp)) (Vc : Arv Z h0 ac kc (.array .long) (16 : Int32) lc .null) (Fo : Fld Z h0 ao "com/example/termvault/termvault/MarkArrays" "countsTaken" "I" (.int uo)) (Fq : Fld Z h0 ao "com/example/termvault/termvault/MarkArrays" "counts" "[[I" (.ref aw)) (g0 : n0 ≤ ao) (ne0 : ao ≠ ac) (ht0 : ¬ (tk < (0 : Int32))) (ht1 : tk < (16 : Int32)) (hre : lc.getD tk.toNatClampNeg .null = .ref ax) :
    MetFree l (⟨"com/example/termvault/termvault/MarkArrays", "positions", "()[J"⟩ : MethodName) (head1 (Jvm.Cond.code (⟨"com/example/termvault/termvault/MarkArrays", "positions", "()[J"⟩ : MethodName) prog_85_method_4_code 1 (some (.array .long)) :: ws) ({ frames := 0, cells := 0, slots := 0, locals := 0 } : Room)) (fun aA U => aA = #[(.ref ao)] ∧ Z.Warmed39 U.vm ∧ U.heap = h0) (fun _ _ _ _ _ => True) (fun _ U o U' => ∃ v L, o = .returned v ∧ Q_rmPa Z ao ac kc lc tk sp ax uo aw h0 n0 v U'.heap L ∧ FrameEnd U o U' L ({ frames := 0, cells := 0, slots := 0, locals := 0 } : Room).cells ({ frames := 0, cells := 0, slots := 0, locals := 0 } : Room).slots) := by
  refine MetFree.of_bodySF (plainFor_of_name pn_com_example_termvault_termvault_MarkArrays) hisR ?_
  intro p e s m args below meth c s₁ Bd hml0 hP hK
  obtain ⟨rfl, hZ, hh⟩ := hP
  have hx := Bd.exec
  have hby := Bd.bytes
  have hml : c.maxLocals = 1 := hml0
  have hown : s.vm.findClass "com/example/termvault/termvault/MarkArrays" = some m.cls := findClass_of_methodNamed Bd.named
  have hnm := (name_of_methodNamed Bd.named Bd.method).1
  have hret := Bd.returns
  have hlk : meth.locks = false := BodyLoose.notSynchronized Bd
  have X0 : Stand p l e ({ frames := 0, cells := 0, slots := 0, locals := 0 } : Room) s m #[(.ref ao)] below meth c s₁ [] 0 0 := Stand.of_body Bd
  have e0 : s₁.heap = h0 := by rw [← hh, Bd.state]; rfl
  have N0 := Fr.nil n0
  suffices hgo : Go p e below s ({ frames := 0, cells := 0, slots := 0, locals := 0 } : Room).cells ({ frames := 0, cells := 0, slots := 0, locals := 0 } : Room).slots (Q_rmPa Z ao ac kc lc tk sp ax uo aw h0 n0) s₁ (mkF m 0 #[.val (.ref ao)] []) from hgo.enter (ef_rmPa m ao)
  refine Go.step (fun _ k => XS.aloadN X0.here hx rfl (hb hby d4_0) rfl rfl k) ?_
  show Go _ _ _ _ _ _ _ s₁ (mkF m 1 #[.val (.ref ao)] [(.ref ao)])
  obtain ⟨T50, X50, e50, st50⟩ := getF X0 hx hZ hown (host := "") (Or.inl (hw _ (List.mem_of_getElem? (i := 29) rfl))) Via.refl e0 Ft (g := (mkF m 1 #[.val (.ref ao)] [(.ref ao)])) rfl rfl (hb hby d4_1)
  refine Go.step st50 ?_
  show Go _ _ _ _ _ _ _ T50 (mkF m 4 #[.val (.ref ao)] [(.int tk)])
  refine Go.step (fun _ k => XS.bipush X50.here hx rfl (hb hby d4_4) k) ?_
  show Go _ _ _ _ _ _ _ T50 (mkF m 6 #[.val (.ref ao)] [(.int (16 : Int32)), (.int tk)])
  have hc6_51 : ¬ (tk = (16 : Int32)) := (by have := rng32 tk; have : (16 : Int32).toInt = 16 := rfl; simp only [Int32.lt_iff_toInt_lt, Int32.le_iff_toInt_le, ← Int32.toInt_inj, Int64.lt_iff_toInt_lt, Int64.le_iff_toInt_le, ← Int64.toInt_inj] at ht1 ⊢; omega)
  refine Go.step (fun _ k => XS.icmpYes X50.here hx rfl (pc0 := 6) (pc' := 16) rfl (hb hby d4_6) rfl (feq hc6_51).2 (by decide) (by decide) k) ?_
  show Go _ _ _ _ _ _ _ T50 (mkF m 16 #[.val (.ref ao)] [])
  refine Go.step (fun _ k => XS.aloadN X50.here hx rfl (hb hby d4_16) rfl rfl k) ?_
  show Go _ _ _ _ _ _ _ T50 (mkF m 17 #[.val (.ref ao)] [(.ref ao)])
  obtain ⟨T52, X52, e52, st52⟩ := getF X50 hx hZ hown (host := "") (Or.inl (hw _ (List.mem_of_getElem? (i := 15) rfl))) Via.refl e50 Fc (g := (mkF m 17 #[.val (.ref ao)] [(.ref ao)])) rfl rfl (hb hby d4_17)
  refine Go.step st52 ?_
  show Go _ _ _ _ _ _ _ T52 (mkF m 20 #[.val (.ref ao)] [(.ref ac)])
  refine Go.step (fun _ k => XS.aloadN X52.here hx rfl (hb hby d4_20) rfl rfl k) ?_
  show Go _ _ _ _ _ _ _ T52 (mkF m 21 #[.val (.ref ao)] [(.ref ao), (.ref ac)])
  obtain ⟨T53, X53, e53, st53⟩ := getF X52 hx hZ hown (host := "") (Or.inl (hw _ (List.mem_of_getElem? (i := 29) rfl))) Via.refl e52 Ft (g := (mkF m 21 #[.val (.ref ao)] [(.ref ao), (.ref ac)])) rfl rfl (hb hby d4_21)
  refine Go.step st53 ?_
  show Go _ _ _ _ _ _ _ T53 (mkF m 24 #[.val (.ref ao)] [(.int tk), (.ref ac)])
  obtain ⟨cl54, Ar54, q54, S54, M54, H54, G54⟩ := id (Vc)
  have hin54 : ¬ (tk < 0 ∨ cl54.slots.size ≤ (tk).toNatClampNeg) := inb_of S54 ⟨ht0, ht1⟩
  have hat54 : cl54.slots[(tk).toNatClampNeg]? = some (.ref ax) := H54.at hin54 hre
  refine Go.step (X53.aaload hx (j := tk) (v := (.ref ax)) (by rw [e53]; exact Ar54.1) (State.isArrayOf_alike hZ.alike Ar54.2.1) rfl Ar54.2.2 hin54 hat54 (g := (mkF m 24 #[.val (.ref ao)] [(.int tk), (.ref ac)])) rfl rfl (hb hby d4_24)) ?_
  show Go _ _ _ _ _ _ _ T53 (mkF m 25 #[.val (.ref ao)] [(.ref ax)])
  refine Go.step (fun _ k => XS.ifnonnullYes X53.here hx rfl (pc0 := 25) (pc' := 43) rfl (hb hby d4_25) rfl (by decide) (by decide) k) ?_
  show Go _ _ _ _ _ _ _ T53 (mkF m 43 #[.val (.ref ao)] [])
  refine Go.step (fun _ k => XS.aloadN X53.here hx rfl (hb hby d4_43) rfl rfl k) ?_
  show Go _ _ _ _ _ _ _ T53 (mkF m 44 #[.val (.ref ao)] [(.ref ao)])
  refine Go.step (fun _ k => XS.dup X53.here hx rfl (hb hby d4_44) rfl rfl k) ?_
  show Go _ _ _ _ _ _ _ T53 (mkF m 45 #[.val (.ref ao)] [(.ref ao), (.ref ao)])
  obtain ⟨T55, X55, e55, st55⟩ := getF X53 hx hZ hown (host := "") (Or.inl (hw _ (List.mem_of_getElem? (i := 29) rfl))) Via.refl e53 Ft (g := (mkF m 45 #[.val (.ref ao)] [(.ref ao), (.ref ao)])) rfl rfl (hb hby d4_45)
  refine Go.step st55 ?_
  show Go _ _ _ _ _ _ _ T55 (mkF m 48 #[.val (.ref ao)] [(.int tk), (.ref ao)])
  refine Go.step (fun _ k => XS.iconst X55.here hx rfl (hb hby d4_48) k) ?_
  show Go _ _ _ _ _ _ _ T55 (mkF m 49 #[.val (.ref ao)] [(.int (1 : Int32)), (.int tk), (.ref ao)])
  refine Go.step (fun _ k => XS.iadd X55.here hx rfl (hb hby d4_49) rfl k) ?_
  show Go _ _ _ _ _ _ _ T55 (mkF m 50 #[.val (.ref ao)] [(.int (tk + (1 : Int32))), (.ref ao)])
  obtain ⟨T56, h56, X56, e56, W56, st56⟩ := putF X55 hx hZ hown (host := "") (Or.inl (hw _ (List.mem_of_getElem? (i := 29) rfl))) Via.refl e55 Ft E0 (Or.inl (hw _ (List.mem_of_getElem? (i := 30) rfl))) (hw _ (List.mem_of_getElem? (i := 1) rfl)) (ty := .int) (by decide) rfl rfl (g := (mkF m 50 #[.val (.ref ao)] [(.int (tk + (1 : Int32))), (.ref ao)])) rfl rfl (hb hby d4_50)
  refine Go.step st56 ?_
  have Fw56 := Ft.same W56
  have N56 := Fr.snoc X56 N0 g0
  have Z56 : n0 ≤ h56.size := Nat.le_trans Z0 (Keep.of_wr W56).1
  have KK56 : Keep h0 h56 [ao] := (Keep.refl h0 [ao]).wr W56 (Or.inl (List.mem_of_getElem? (i := 0) rfl))
  show Go _ _ _ _ _ _ _ T56 (mkF m 53 #[.val (.ref ao)] [])
  refine Go.step (fun _ k => XS.aloadN X56.here hx rfl (hb hby d4_53) rfl rfl k) ?_
  show Go _ _ _ _ _ _ _ T56 (mkF m 54 #[.val (.ref ao)] [(.ref ao)])
  have f57 : Fld Z h56 ao "com/example/termvault/termvault/MarkArrays" "positions" "[[J" (.ref ac) := (Fc.other W56 (Or.inr (slot_ne (a0 := a0) (C := "com/example/termvault/termvault/MarkArrays") (Or.inr (hw _ (List.mem_of_getElem? (i := 16) rfl))) (Or.inl (hw _ (List.mem_of_getElem? (i := 30) rfl))) (by decide) (t := (.array (.array .long))) (t' := .int) (by decide) (by decide))))
  obtain ⟨T58, X58, e58, st58⟩ := getF X56 hx hZ hown (host := "") (Or.inl (hw _ (List.mem_of_getElem? (i := 15) rfl))) Via.refl e56 f57 (g := (mkF m 54 #[.val (.ref ao)] [(.ref ao)])) rfl rfl (hb hby d4_54)
  refine Go.step st58 ?_
  show Go _ _ _ _ _ _ _ T58 (mkF m 57 #[.val (.ref ao)] [(.ref ac)])
  refine Go.step (fun _ k => XS.aloadN X58.here hx rfl (hb hby d4_57) rfl rfl k) ?_
  show Go _ _ _ _ _ _ _ T58 (mkF m 58 #[.val (.ref ao)] [(.ref ao), (.ref ac)])
  obtain ⟨T59, X59, e59, st59⟩ := getF X58 hx hZ hown (host := "") (Or.inl (hw _ (List.mem_of_getElem? (i := 29) rfl))) Via.refl e58 Fw56 (g := (mkF m 58 #[.val (.ref ao)] [(.ref ao), (.ref ac)])) rfl rfl (hb hby d4_58)
  refine Go.step st59 ?_
  show Go _ _ _ _ _ _ _ T59 (mkF m 61 #[.val (.ref ao)] [(.int (tk + (1 : Int32))), (.ref ac)])
  refine Go.step (fun _ k => XS.iconst X59.here hx rfl (hb hby d4_61) k) ?_
  show Go _ _ _ _ _ _ _ T59 (mkF m 62 #[.val (.ref ao)] [(.int (1 : Int32)), (.int (tk + (1 : Int32))), (.ref ac)])
  refine Go.step (fun _ k => XS.isub X59.here hx rfl (hb hby d4_62) rfl k) ?_
  show Go _ _ _ _ _ _ _ T59 (mkF m 63 #[.val (.ref ao)] [(.int ((tk + (1 : Int32)) - (1 : Int32))), (.ref ac)])
  have f60 : Arv Z h56 ac kc (.array .long) (16 : Int32) lc .null := (Vc.other W56 (Ne.symm ne0))
  obtain ⟨cl61, Ar61, q61, S61, M61, H61, G61⟩ := id (f60)
  have hin61 : ¬ (((tk + (1 : Int32)) - (1 : Int32)) < 0 ∨ cl61.slots.size ≤ (((tk + (1 : Int32)) - (1 : Int32))).toNatClampNeg) := inb_of S61 ⟨(by have := rng32 tk; have : (1 : Int32).toInt = 1 := rfl; have := rng32 (tk + (1 : Int32)); have := c_iadd tk (1 : Int32); have := rng32 ((tk + (1 : Int32)) - (1 : Int32)); have := c_isub (tk + (1 : Int32)) (1 : Int32); have : (0 : Int32).toInt = 0 := rfl; have : (16 : Int32).toInt = 16 := rfl; simp only [Int32.lt_iff_toInt_lt, Int32.le_iff_toInt_le, ← Int32.toInt_inj, Int64.lt_iff_toInt_lt, Int64.le_iff_toInt_le, ← Int64.toInt_inj] at ht0 ht1 ⊢; omega), (by have := rng32 tk; have : (1 : Int32).toInt = 1 := rfl; have := rng32 (tk + (1 : Int32)); have := c_iadd tk (1 : Int32); have := rng32 ((tk + (1 : Int32)) - (1 : Int32)); have := c_isub (tk + (1 : Int32)) (1 : Int32); have : (0 : Int32).toInt = 0 := rfl; have : (16 : Int32).toInt = 16 := rfl; simp only [Int32.lt_iff_toInt_lt, Int32.le_iff_toInt_le, ← Int32.toInt_inj, Int64.lt_iff_toInt_lt, Int64.le_iff_toInt_le, ← Int64.toInt_inj] at ht0 ht1 ⊢; omega)⟩
  have hat61 : cl61.slots[(((tk + (1 : Int32)) - (1 : Int32))).toNatClampNeg]? = some (.ref ax) := H61.at hin61 (by rw [own_as]; exact hre)
  refine Go.step (X59.aaload hx (j := ((tk + (1 : Int32)) - (1 : Int32))) (v := (.ref ax)) (by rw [e59]; exact Ar61.1) (State.isArrayOf_alike hZ.alike Ar61.2.1) rfl Ar61.2.2 hin61 hat61 (g := (mkF m 63 #[.val (.ref ao)] [(.int ((tk + (1 : Int32)) - (1 : Int32))), (.ref ac)])) rfl rfl (hb hby d4_63)) ?_
  show Go _ _ _ _ _ _ _ T59 (mkF m 64 #[.val (.ref ao)] [(.ref ax)])
  have f62 : Exa Z h56 ao "com/example/termvault/termvault/MarkArrays" := (E0.wr W56)
  have f63 : Fld Z h56 ao "com/example/termvault/termvault/MarkArrays" "span" "I" (.int sp) := (Fs.other W56 (Or.inr (slot_ne (a0 := a0) (C := "com/example/termvault/termvault/MarkArrays") (Or.inr (hw _ (List.mem_of_getElem? (i := 18) rfl))) (Or.inl (hw _ (List.mem_of_getElem? (i := 30) rfl))) (by decide) (t := .int) (t' := .int) (by decide) (by decide))))
  have f64 : Fld Z h56 ao "com/example/termvault/termvault/MarkArrays" "countsTaken" "I" (.int uo) := (Fo.other W56 (Or.inr (slot_ne (a0 := a0) (C := "com/example/termvault/termvault/MarkArrays") (Or.inl (hw _ (List.mem_of_getElem? (i := 40) rfl))) (Or.inl (hw _ (List.mem_of_getElem? (i := 30) rfl))) (by decide) (t := .int) (t' := .int) (by decide) (by decide))))
  have f65 : Fld Z h56 ao "com/example/termvault/termvault/MarkArrays" "counts" "[[I" (.ref aw) := (Fq.other W56 (Or.inr (slot_ne (a0 := a0) (C := "com/example/termvault/termvault/MarkArrays") (Or.inr (hw _ (List.mem_of_getElem? (i := 12) rfl))) (Or.inl (hw _ (List.mem_of_getElem? (i := 30) rfl))) (by decide) (t := (.array (.array .int))) (t' := .int) (by decide) (by decide))))
  exact Go.retA X59 hx hret hlk rfl rfl (hb hby d4_64) e59 (by decide) (by decide) ⟨rfl, N56, KK56, f62, f57, Fw56, f63, f64, f65⟩
theorem d5_0 : decode prog_85_method_5_code 0 = .ok (.aload_n 0, 1) := by decide +kernel
theorem d5_1 : decode prog_85_method_5_code 1 = .ok (.iconst 0, 1) := by decide +kernel
theorem d5_2 : decode prog_85_method_5_code 2 = .ok (.putfield 25, 3) := by decide +kernel
theorem d5_5 : decode prog_85_method_5_code 5 = .ok (.aload_n 0, 1) := by decide +kernel
theorem d5_6 : decode prog_85_method_5_code 6 = .ok (.iconst 0, 1) := by decide +kernel
theorem d5_7 : decode prog_85_method_5_code 7 = .ok (.putfield 28, 3) := by decide +kernel
theorem d5_10 : decode prog_85_method_5_code 10 = .ok (.return_, 1) := by decide +kernel
theorem ef_rmRe (m : MethodId) (ao : Addr) : entryFrame m #[(.ref ao)] 1 = mkF m 0 #[.val (.ref ao)] [] := by first | (simp [entryFrame, mkF, argsToLocals, Value.category]; done) | rfl
def Q_rmRe (Z : State) (ao : Addr) (tc : Int32) (tp : Int32) (sp : Int32) (ac : Addr) (ap : Addr) (h0 : Heap) (n0 : Nat) (v : Option Value) (h : Heap) (L : List Loc) : Prop := (v = none) ∧ (Fr n0 L) ∧ (Keep h0 h [ao]) ∧ (Exa Z h ao "com/example/termvault/termvault/MarkArrays") ∧ (Fld Z h ao "com/example/termvault/termvault/MarkArrays" "countsTaken" "I" (.int (0 : Int32))) ∧ (Fld Z h ao "com/example/termvault/termvault/MarkArrays" "positionsTaken" "I" (.int (0 : Int32))) ∧ (Fld Z h ao "com/example/termvault/termvault/MarkArrays" "span" "I" (.int sp)) ∧ (Fld Z h ao "com/example/termvault/termvault/MarkArrays" "counts" "[[I" (.ref ac)) ∧ (Fld Z h ao "com/example/termvault/termvault/MarkArrays" "positions" "[[J" (.ref ap))
set_option maxRecDepth 65536 in
set_option maxHeartbeats 40000000 in
theorem rmRe (l : Launch) (Z : State) (a0 : Array Value) (hw : ∀ d ∈ tables_1, d.before a0 Z = true) (ws : List Jvm.Cond) (ao : Addr) (tc : Int32) (tp : Int32) (sp : Int32) (ac : Addr) (ap : Addr) (h0 : Heap) (n0 : Nat) (Z0 : n0 ≤ h0.size) (E0 : Exa Z h0 ao "com/example/termvault/termvault/MarkArrays") (Ft : Fld Z h0 ao "com/example/termvault/termvault/MarkArrays" "countsTaken" "I" (.int tc)) (Fu : Fld Z h0 ao "com/example/termvault/termvault/MarkArrays" "positionsTaken" "I" (.int tp)) (Fs : Fld Z h0 ao "com/example/termvault/termvault/MarkArrays" "span" "I" (.int sp)) (Fc : Fld Z h0 ao "com/example/termvault/termvault/MarkArrays" "counts" "[[I" (.ref ac)) (Fp : Fld Z h0 ao "com/example/termvault/termvault/MarkArrays" "positions" "[[J" (.ref ap)) (g0 : n0 ≤ ao) :
    MetFree l (⟨"com/example/termvault/termvault/MarkArrays", "restart", "()V"⟩ : MethodName) (head1 (Jvm.Cond.code (⟨"com/example/termvault/termvault/MarkArrays", "restart", "()V"⟩ : MethodName) prog_85_method_5_code 1 none :: ws) ({ frames := 0, cells := 0, slots := 0, locals := 0 } : Room)) (fun aA U => aA = #[(.ref ao)] ∧ Z.Warmed39 U.vm ∧ U.heap = h0) (fun _ _ _ _ _ => True) (fun _ U o U' => ∃ v L, o = .returned v ∧ Q_rmRe Z ao tc tp sp ac ap h0 n0 v U'.heap L ∧ FrameEnd U o U' L ({ frames := 0, cells := 0, slots := 0, locals := 0 } : Room).cells ({ frames := 0, cells := 0, slots := 0, locals := 0 } : Room).slots) := by
  refine MetFree.of_bodySF (plainFor_of_name pn_com_example_termvault_termvault_MarkArrays) hisR ?_
  intro p e s m args below meth c s₁ Bd hml0 hP hK
  obtain ⟨rfl, hZ, hh⟩ := hP
  have hx := Bd.exec
  have hby := Bd.bytes
  have hml : c.maxLocals = 1 := hml0
  have hown : s.vm.findClass "com/example/termvault/termvault/MarkArrays" = some m.cls := findClass_of_methodNamed Bd.named
  have hnm := (name_of_methodNamed Bd.named Bd.method).1
  have hret := Bd.returns
  have hlk : meth.locks = false := BodyLoose.notSynchronized Bd
  have X0 : Stand p l e ({ frames := 0, cells := 0, slots := 0, locals := 0 } : Room) s m #[(.ref ao)] below meth c s₁ [] 0 0 := Stand.of_body Bd
  have e0 : s₁.heap = h0 := by rw [← hh, Bd.state]; rfl
  have N0 := Fr.nil n0
  suffices hgo : Go p e below s ({ frames := 0, cells := 0, slots := 0, locals := 0 } : Room).cells ({ frames := 0, cells := 0, slots := 0, locals := 0 } : Room).slots (Q_rmRe Z ao tc tp sp ac ap h0 n0) s₁ (mkF m 0 #[.val (.ref ao)] []) from hgo.enter (ef_rmRe m ao)
  refine Go.step (fun _ k => XS.aloadN X0.here hx rfl (hb hby d5_0) rfl rfl k) ?_
  show Go _ _ _ _ _ _ _ s₁ (mkF m 1 #[.val (.ref ao)] [(.ref ao)])
  refine Go.step (fun _ k => XS.iconst X0.here hx rfl (hb hby d5_1) k) ?_
  show Go _ _ _ _ _ _ _ s₁ (mkF m 2 #[.val (.ref ao)] [(.int (0 : Int32)), (.ref ao)])
  obtain ⟨T66, h66, X66, e66, W66, st66⟩ := putF X0 hx hZ hown (host := "") (Or.inl (hw _ (List.mem_of_getElem? (i := 39) rfl))) Via.refl e0 Ft E0 (Or.inl (hw _ (List.mem_of_getElem? (i := 40) rfl))) (hw _ (List.mem_of_getElem? (i := 1) rfl)) (ty := .int) (by decide) rfl rfl (g := (mkF m 2 #[.val (.ref ao)] [(.int (0 : Int32)), (.ref ao)])) rfl rfl (hb hby d5_2)
  refine Go.step st66 ?_
  have Fw66 := Ft.same W66
  have N66 := Fr.snoc X66 N0 g0
  have Z66 : n0 ≤ h66.size := Nat.le_trans Z0 (Keep.of_wr W66).1
  have KK66 : Keep h0 h66 [ao] := (Keep.refl h0 [ao]).wr W66 (Or.inl (List.mem_of_getElem? (i := 0) rfl))
  show Go _ _ _ _ _ _ _ T66 (mkF m 5 #[.val (.ref ao)] [])
  refine Go.step (fun _ k => XS.aloadN X66.here hx rfl (hb hby d5_5) rfl rfl k) ?_
  show Go _ _ _ _ _ _ _ T66 (mkF m 6 #[.val (.ref ao)] [(.ref ao)])
  refine Go.step (fun _ k => XS.iconst X66.here hx rfl (hb hby d5_6) k) ?_
  show Go _ _ _ _ _ _ _ T66 (mkF m 7 #[.val (.ref ao)] [(.int (0 : Int32)), (.ref ao)])
  have f67 : Fld Z h66 ao "com/example/termvault/termvault/MarkArrays" "positionsTaken" "I" (.int tp) := (Fu.other W66 (Or.inr (slot_ne (a0 := a0) (C := "com/example/termvault/termvault/MarkArrays") (Or.inl (hw _ (List.mem_of_getElem? (i := 30) rfl))) (Or.inl (hw _ (List.mem_of_getElem? (i := 40) rfl))) (by decide) (t := .int) (t' := .int) (by decide) (by decide))))
  have f68 : Exa Z h66 ao "com/example/termvault/termvault/MarkArrays" := (E0.wr W66)
  obtain ⟨T69, h69, X69, e69, W69, st69⟩ := putF X66 hx hZ hown (host := "") (Or.inl (hw _ (List.mem_of_getElem? (i := 29) rfl))) Via.refl e66 f67 f68 (Or.inl (hw _ (List.mem_of_getElem? (i := 30) rfl))) (hw _ (List.mem_of_getElem? (i := 1) rfl)) (ty := .int) (by decide) rfl rfl (g := (mkF m 7 #[.val (.ref ao)] [(.int (0 : Int32)), (.ref ao)])) rfl rfl (hb hby d5_7)
  refine Go.step st69 ?_
  have Fw69 := f67.same W69
  have N69 := Fr.snoc X69 N66 g0
  have Z69 : n0 ≤ h69.size := Nat.le_trans Z66 (Keep.of_wr W69).1
  have KK69 : Keep h0 h69 [ao] := KK66.wr W69 (Or.inl (List.mem_of_getElem? (i := 0) rfl))
  show Go _ _ _ _ _ _ _ T69 (mkF m 10 #[.val (.ref ao)] [])
  have f70 : Exa Z h69 ao "com/example/termvault/termvault/MarkArrays" := (f68.wr W69)
  have f71 : Fld Z h69 ao "com/example/termvault/termvault/MarkArrays" "countsTaken" "I" (.int (0 : Int32)) := (Fw66.other W69 (Or.inr (slot_ne (a0 := a0) (C := "com/example/termvault/termvault/MarkArrays") (Or.inl (hw _ (List.mem_of_getElem? (i := 40) rfl))) (Or.inl (hw _ (List.mem_of_getElem? (i := 30) rfl))) (by decide) (t := .int) (t' := .int) (by decide) (by decide))))
  have f72 : Fld Z h69 ao "com/example/termvault/termvault/MarkArrays" "span" "I" (.int sp) := ((Fs.other W66 (Or.inr (slot_ne (a0 := a0) (C := "com/example/termvault/termvault/MarkArrays") (Or.inr (hw _ (List.mem_of_getElem? (i := 18) rfl))) (Or.inl (hw _ (List.mem_of_getElem? (i := 40) rfl))) (by decide) (t := .int) (t' := .int) (by decide) (by decide)))).other W69 (Or.inr (slot_ne (a0 := a0) (C := "com/example/termvault/termvault/MarkArrays") (Or.inr (hw _ (List.mem_of_getElem? (i := 18) rfl))) (Or.inl (hw _ (List.mem_of_getElem? (i := 30) rfl))) (by decide) (t := .int) (t' := .int) (by decide) (by decide))))
  have f73 : Fld Z h69 ao "com/example/termvault/termvault/MarkArrays" "counts" "[[I" (.ref ac) := ((Fc.other W66 (Or.inr (slot_ne (a0 := a0) (C := "com/example/termvault/termvault/MarkArrays") (Or.inr (hw _ (List.mem_of_getElem? (i := 12) rfl))) (Or.inl (hw _ (List.mem_of_getElem? (i := 40) rfl))) (by decide) (t := (.array (.array .int))) (t' := .int) (by decide) (by decide)))).other W69 (Or.inr (slot_ne (a0 := a0) (C := "com/example/termvault/termvault/MarkArrays") (Or.inr (hw _ (List.mem_of_getElem? (i := 12) rfl))) (Or.inl (hw _ (List.mem_of_getElem? (i := 30) rfl))) (by decide) (t := (.array (.array .int))) (t' := .int) (by decide) (by decide))))
  have f74 : Fld Z h69 ao "com/example/termvault/termvault/MarkArrays" "positions" "[[J" (.ref ap) := ((Fp.other W66 (Or.inr (slot_ne (a0 := a0) (C := "com/example/termvault/termvault/MarkArrays") (Or.inr (hw _ (List.mem_of_getElem? (i := 16) rfl))) (Or.inl (hw _ (List.mem_of_getElem? (i := 40) rfl))) (by decide) (t := (.array (.array .long))) (t' := .int) (by decide) (by decide)))).other W69 (Or.inr (slot_ne (a0 := a0) (C := "com/example/termvault/termvault/MarkArrays") (Or.inr (hw _ (List.mem_of_getElem? (i := 16) rfl))) (Or.inl (hw _ (List.mem_of_getElem? (i := 30) rfl))) (by decide) (t := (.array (.array .long))) (t' := .int) (by decide) (by decide))))
  exact Go.ret0 X69 hx hret hlk (hb hby d5_10) e69 (by decide) (by decide) ⟨rfl, N69, KK69, f70, f71, Fw69, f72, f73, f74⟩
theorem ef_rmPf (m : MethodId) (ao : Addr) : entryFrame m #[(.ref ao)] 1 = mkF m 0 #[.val (.ref ao)] [] := by first | (simp [entryFrame, mkF, argsToLocals, Value.category]; done) | rfl
def Q_rmPf (Z : State) (ao : Addr) (sp : Int32) (h0 : Heap) (n0 : Nat) (v : Option Value) (h : Heap) (L : List Loc) : Prop := ∃ ar : Addr, ∃ kr : ClassId, (v = some (.ref ar)) ∧ (Fr n0 L) ∧ (Keep h0 h []) ∧ (h0.size ≤ ar) ∧ (Arv Z h ar kr .long sp [] (.long (0 : Int64))) ∧ (Exa Z h ar "[J")
set_option maxRecDepth 65536 in
set_option maxHeartbeats 40000000 in
theorem rmPf (l : Launch) (Z : State) (a0 : Array Value) (hw : ∀ d ∈ tables_1, d.before a0 Z = true) (ws : List Jvm.Cond) (ao : Addr) (sp : Int32) (h0 : Heap) (n0 : Nat) (Z0 : n0 ≤ h0.size) (E0 : Exa Z h0 ao "com/example/termvault/termvault/MarkArrays") (Ft : Fld Z h0 ao "com/example/termvault/termvault/MarkArrays" "positionsTaken" "I" (.int (16 : Int32))) (Fs : Fld Z h0 ao "com/example/termvault/termvault/MarkArrays" "span" "I" (.int sp)) (hs0 : ¬ (sp < (0 : Int32))) (hs1 : ¬ ((7 : Int32) < sp)) :
    MetFree l (⟨"com/example/termvault/termvault/MarkArrays", "positions", "()[J"⟩ : MethodName) (head1 (Jvm.Cond.code (⟨"com/example/termvault/termvault/MarkArrays", "positions", "()[J"⟩ : MethodName) prog_85_method_4_code 1 (some (.array .long)) :: ws) ({ frames := 0, cells := 1, slots := 7, locals := 0 } : Room)) (fun aA U => aA = #[(.ref ao)] ∧ Z.Warmed39 U.vm ∧ U.heap = h0) (fun _ _ _ _ _ => True) (fun _ U o U' => ∃ v L, o = .returned v ∧ Q_rmPf Z ao sp h0 n0 v U'.heap L ∧ FrameEnd U o U' L ({ frames := 0, cells := 1, slots := 7, locals := 0 } : Room).cells ({ frames := 0, cells := 1, slots := 7, locals := 0 } : Room).slots) := by
  refine MetFree.of_bodySF (plainFor_of_name pn_com_example_termvault_termvault_MarkArrays) hisR ?_
  intro p e s m args below meth c s₁ Bd hml0 hP hK
  obtain ⟨rfl, hZ, hh⟩ := hP
  have hx := Bd.exec
  have hby := Bd.bytes
  have hml : c.maxLocals = 1 := hml0
  have hown : s.vm.findClass "com/example/termvault/termvault/MarkArrays" = some m.cls := findClass_of_methodNamed Bd.named
  have hnm := (name_of_methodNamed Bd.named Bd.method).1
  have hret := Bd.returns
  have hlk : meth.locks = false := BodyLoose.notSynchronized Bd
  have X0 : Stand p l e ({ frames := 0, cells := 1, slots := 7, locals := 0 } : Room) s m #[(.ref ao)] below meth c s₁ [] 0 0 := Stand.of_body Bd
  have e0 : s₁.heap = h0 := by rw [← hh, Bd.state]; rfl
  have N0 := Fr.nil n0
  suffices hgo : Go p e below s ({ frames := 0, cells := 1, slots := 7, locals := 0 } : Room).cells ({ frames := 0, cells := 1, slots := 7, locals := 0 } : Room).slots (Q_rmPf Z ao sp h0 n0) s₁ (mkF m 0 #[.val (.ref ao)] []) from hgo.enter (ef_rmPf m ao)
  refine Go.step (fun _ k => XS.aloadN X0.here hx rfl (hb hby d4_0) rfl rfl k) ?_
  show Go _ _ _ _ _ _ _ s₁ (mkF m 1 #[.val (.ref ao)] [(.ref ao)])
  obtain ⟨T75, X75, e75, st75⟩ := getF X0 hx hZ hown (host := "") (Or.inl (hw _ (List.mem_of_getElem? (i := 29) rfl))) Via.refl e0 Ft (g := (mkF m 1 #[.val (.ref ao)] [(.ref ao)])) rfl rfl (hb hby d4_1)
  refine Go.step st75 ?_
  show Go _ _ _ _ _ _ _ T75 (mkF m 4 #[.val (.ref ao)] [(.int (16 : Int32))])
  refine Go.step (fun _ k => XS.bipush X75.here hx rfl (hb hby d4_4) k) ?_
  show Go _ _ _ _ _ _ _ T75 (mkF m 6 #[.val (.ref ao)] [(.int (16 : Int32)), (.int (16 : Int32))])
  have hc6_76 : (16 : Int32) = (16 : Int32) := (by decide)
  refine Go.step (fun _ k => XS.icmpNo X75.here hx rfl (hb hby d4_6) rfl (teq hc6_76).2 k) ?_
  show Go _ _ _ _ _ _ _ T75 (mkF m 9 #[.val (.ref ao)] [])
  refine Go.step (fun _ k => XS.aloadN X75.here hx rfl (hb hby d4_9) rfl rfl k) ?_
  show Go _ _ _ _ _ _ _ T75 (mkF m 10 #[.val (.ref ao)] [(.ref ao)])
  obtain ⟨T77, X77, e77, st77⟩ := getF X75 hx hZ hown (host := "") (Or.inl (hw _ (List.mem_of_getElem? (i := 17) rfl))) Via.refl e75 Fs (g := (mkF m 10 #[.val (.ref ao)] [(.ref ao)])) rfl rfl (hb hby d4_10)
  refine Go.step st77 ?_
  show Go _ _ _ _ _ _ _ T77 (mkF m 13 #[.val (.ref ao)] [(.int sp)])
  obtain ⟨T78, h78, k78, X78, e78, E78, A78, Xa78, st78⟩ := newPE X77 hx hZ (hw _ (List.mem_of_getElem? (i := 31) rfl)) e77 (g := (mkF m 13 #[.val (.ref ao)] [(.int sp)])) rfl (hb hby d4_13) rfl hs0 (cap := 7) (Nat.le_trans (own_tle hs1) (by decide)) (by decide) (by decide) (by decide) (ad := "[J") rfl
  obtain ⟨b78, g78⟩ : ∃ z, z = h0.size := ⟨_, rfl⟩
  rw [← g78] at A78 Xa78 st78
  refine Go.step st78 ?_
  have g_b78 : n0 ≤ b78 := Nat.le_trans Z0 (Nat.le_of_eq g78.symm)
  have sz_b78 : h0.size ≤ b78 := Nat.le_trans (Keep.refl h0 []).1 (Nat.le_of_eq g78.symm)
  have ne_ao_b78 : ao ≠ b78 := Nat.ne_of_lt (Nat.lt_of_lt_of_le E0.lt (Nat.le_of_eq g78.symm))
  have Z78 : n0 ≤ h78.size := Nat.le_trans Z0 E78.1
  have KK78 : Keep h0 h78 [] := (Keep.refl h0 []).ext E78
  have V78 : Arv Z h78 b78 k78 .long sp [] (.long (0 : Int64)) := Arv.new A78 hs0
  show Go _ _ _ _ _ _ _ T78 (mkF m 15 #[.val (.ref ao)] [(.ref b78)])
  exact Go.retA X78 hx hret hlk rfl rfl (hb hby d4_15) e78 (by decide) (by decide) ⟨b78, k78, rfl, N0, KK78, sz_b78, V78, Xa78⟩
def own_Pos (Z : State) (h : Heap) (bs xs : List Addr) (sp : Int32) : Prop := xs.Nodup ∧ ∀ x ∈ xs, x ∉ bs ∧ Exa Z h x "[J" ∧ ∃ k, Arv Z h x k .long sp [] (.long (0 : Int64))
theorem own_Pos.ext {Z : State} {h h' : Heap} {bs xs : List Addr} {sp : Int32} (P : own_Pos Z h bs xs sp) (E : Ext h h') : own_Pos Z h' bs xs sp := ⟨P.1, fun x hx => by obtain ⟨a, b, k, c⟩ := P.2 x hx; exact ⟨a, b.ext E, k, c.ext E⟩⟩
theorem own_Pos.keep {Z : State} {h h' : Heap} {bs xs ws : List Addr} {sp : Int32} (P : own_Pos Z h bs xs sp) (K : Keep h h' ws) (q : ∀ y ∈ ws, y ∈ bs) : own_Pos Z h' bs xs sp := ⟨P.1, fun x hx => by obtain ⟨a, b, k, c⟩ := P.2 x hx; exact ⟨a, b.keep K, k, c.keep K fun z => a (q x z)⟩⟩
theorem own_Pos.lt {Z : State} {h : Heap} {bs xs : List Addr} {sp : Int32} (P : own_Pos Z h bs xs sp) : ∀ x ∈ xs, x < h.size := fun x hx => by obtain ⟨a, b, k, c⟩ := P.2 x hx; exact b.lt
theorem own_Pos.snoc {Z : State} {h : Heap} {bs xs : List Addr} {sp : Int32} {x : Addr} {k : ClassId} (P : own_Pos Z h bs xs sp) (h1 : ∀ y ∈ xs, y ≠ x) (h2 : x ∉ bs) (E : Exa Z h x "[J") (V : Arv Z h x k .long sp [] (.long (0 : Int64))) : own_Pos Z h bs (xs ++ [x]) sp := by
  refine ⟨?_, fun y hy => ?_⟩
  · rw [List.nodup_append]; exact ⟨P.1, by simp, fun a ha b hb => by rw [List.mem_singleton.mp hb]; exact h1 a ha⟩
  · rcases List.mem_append.mp hy with q | q
    · exact P.2 y q
    · rw [List.mem_singleton.mp q]; exact ⟨h2, E, k, V⟩
theorem d3_0 : decode method_2_code 0 = .ok (.aload_n 1, 1) := by decide +kernel
theorem d3_1 : decode method_2_code 1 = .ok (.iload_n 2, 1) := by decide +kernel
theorem d3_2 : decode method_2_code 2 = .ok (.aload_n 0, 1) := by decide +kernel
theorem d3_3 : decode method_2_code 3 = .ok (.invokevirtual 7, 3) := by decide +kernel
theorem d3_6 : decode method_2_code 6 = .ok (.aastore, 1) := by decide +kernel
theorem d3_7 : decode method_2_code 7 = .ok (.aload_n 1, 1) := by decide +kernel
theorem d3_8 : decode method_2_code 8 = .ok (.iload_n 2, 1) := by decide +kernel
theorem d3_9 : decode method_2_code 9 = .ok (.iconst 1, 1) := by decide +kernel
theorem d3_10 : decode method_2_code 10 = .ok (.iadd, 1) := by decide +kernel
theorem d3_11 : decode method_2_code 11 = .ok (.aload_n 0, 1) := by decide +kernel
theorem d3_12 : decode method_2_code 12 = .ok (.invokevirtual 7, 3) := by decide +kernel
theorem d3_15 : decode method_2_code 15 = .ok (.aastore, 1) := by decide +kernel
theorem d3_16 : decode method_2_code 16 = .ok (.aload_n 1, 1) := by decide +kernel
theorem d3_17 : decode method_2_code 17 = .ok (.iload_n 2, 1) := by decide +kernel
theorem d3_18 : decode method_2_code 18 = .ok (.iconst 2, 1) := by decide +kernel
theorem d3_19 : decode method_2_code 19 = .ok (.iadd, 1) := by decide +kernel
theorem d3_20 : decode method_2_code 20 = .ok (.aload_n 0, 1) := by decide +kernel
theorem d3_21 : decode method_2_code 21 = .ok (.invokevirtual 7, 3) := by decide +kernel
theorem d3_24 : decode method_2_code 24 = .ok (.aastore, 1) := by decide +kernel
theorem d3_25 : decode method_2_code 25 = .ok (.aload_n 1, 1) := by decide +kernel
theorem d3_26 : decode method_2_code 26 = .ok (.iload_n 2, 1) := by decide +kernel
theorem d3_27 : decode method_2_code 27 = .ok (.iconst 3, 1) := by decide +kernel
theorem d3_28 : decode method_2_code 28 = .ok (.iadd, 1) := by decide +kernel
theorem d3_29 : decode method_2_code 29 = .ok (.aload_n 0, 1) := by decide +kernel
theorem d3_30 : decode method_2_code 30 = .ok (.invokevirtual 7, 3) := by decide +kernel
theorem d3_33 : decode method_2_code 33 = .ok (.aastore, 1) := by decide +kernel
theorem d3_34 : decode method_2_code 34 = .ok (.return_, 1) := by decide +kernel
theorem pd____J : parseMethodDescriptor "()[J" = some ⟨[], some (.array .long)⟩ := by decide +kernel
theorem pn_com_example_termvault_termvault_MarkArraysPositionsPinLaw : plainName "com/example/termvault/termvault/MarkArraysPositionsPinLaw" = true := by first | (simp [plainName, overriddenIn]; done) | decide +kernel
theorem ef_rmFo0 (m : MethodId) (ao : Addr) (ag : Addr) : entryFrame m #[(.ref ao), (.ref ag), (.int (0 : Int32))] 3 = mkF m 0 #[.val (.ref ao), .val (.ref ag), .val (.int (0 : Int32))] [] := by first | (simp [entryFrame, mkF, argsToLocals, Value.category]; done) | rfl
def Q_rmFo0 (Z : State) (ao : Addr) (ag : Addr) (ap : Addr) (kp : ClassId) (lc : List Value) (kg : ClassId) (vs : List Value) (sp : Int32) (uo : Int32) (aw : Addr) (xs : List Addr) (h0 : Heap) (n0 : Nat) (v : Option Value) (h : Heap) (L : List Loc) : Prop := ∃ x0 : Addr, ∃ x1 : Addr, ∃ x2 : Addr, ∃ x3 : Addr, (v = none) ∧ (Fr n0 L) ∧ (Keep h0 h [ao, ap, ag]) ∧ (Exa Z h ao "com/example/termvault/termvault/MarkArrays") ∧ (Fld Z h ao "com/example/termvault/termvault/MarkArrays" "positions" "[[J" (.ref ap)) ∧ (Fld Z h ao "com/example/termvault/termvault/MarkArrays" "positionsTaken" "I" (.int (4 : Int32))) ∧ (Fld Z h ao "com/example/termvault/termvault/MarkArrays" "span" "I" (.int sp)) ∧ (Arv Z h ap kp (.array .long) (16 : Int32) ((((lc.set (0 : Int32).toNatClampNeg (.ref x0)).set (1 : Int32).toNatClampNeg (.ref x1)).set (2 : Int32).toNatClampNeg (.ref x2)).set (3 : Int32).toNatClampNeg (.ref x3)) .null) ∧ (Fld Z h ao "com/example/termvault/termvault/MarkArrays" "countsTaken" "I" (.int uo)) ∧ (Fld Z h ao "com/example/termvault/termvault/MarkArrays" "counts" "[[I" (.ref aw)) ∧ (Arv Z h ag kg (.array .long) (18 : Int32) ((((vs.set 0 (.ref x0)).set 1 (.ref x1)).set 2 (.ref x2)).set 3 (.ref x3)) .null) ∧ (own_Pos Z h [ao, ap, ag] ((((xs ++ [x0]) ++ [x1]) ++ [x2]) ++ [x3]) sp) ∧ (Exa Z h x0 "[J") ∧ (Exa Z h x1 "[J") ∧ (Exa Z h x2 "[J") ∧ (Exa Z h x3 "[J") ∧ (h0.size ≤ x0) ∧ (h0.size ≤ x1) ∧ (h0.size ≤ x2) ∧ (h0.size ≤ x3)
set_option maxRecDepth 65536 in
set_option maxHeartbeats 40000000 in
theorem rmFo0 (l : Launch) (Z : State) (a0 : Array Value) (hw : ∀ d ∈ tables_1, d.before a0 Z = true) (ws : List Jvm.Cond) (ao : Addr) (ag : Addr) (ap : Addr) (kp : ClassId) (lc : List Value) (kg : ClassId) (vs : List Value) (sp : Int32) (uo : Int32) (aw : Addr) (xs : List Addr) (h0 : Heap) (n0 : Nat) (Z0 : n0 ≤ h0.size) (E0 : Exa Z h0 ao "com/example/termvault/termvault/MarkArrays") (Fc : Fld Z h0 ao "com/example/termvault/termvault/MarkArrays" "positions" "[[J" (.ref ap)) (Ft : Fld Z h0 ao "com/example/termvault/termvault/MarkArrays" "positionsTaken" "I" (.int (0 : Int32))) (Fs : Fld Z h0 ao "com/example/termvault/termvault/MarkArrays" "span" "I" (.int sp)) (Vc : Arv Z h0 ap kp (.array .long) (16 : Int32) lc .null) (Fo : Fld Z h0 ao "com/example/termvault/termvault/MarkArrays" "countsTaken" "I" (.int uo)) (Fq : Fld Z h0 ao "com/example/termvault/termvault/MarkArrays" "counts" "[[I" (.ref aw)) (Vg : Arv Z h0 ag kg (.array .long) (18 : Int32) vs .null) (P0 : own_Pos Z h0 [ao, ap, ag] xs sp) (ov_ap : OvrA Z kp .long "[J") (ov_ag : OvrA Z kg .long "[J") (g0 : n0 ≤ ao) (g1 : n0 ≤ ap) (g2 : n0 ≤ ag) (ne0 : ao ≠ ap) (ne1 : ao ≠ ag) (ne2 : ap ≠ ag) (hl : lc.length = (16 : Int32).toNatClampNeg) (hlv : vs.length = 18) (hn0 : lc.getD (0 : Int32).toNatClampNeg .null = .null) (hn1 : lc.getD (1 : Int32).toNatClampNeg .null = .null) (hn2 : lc.getD (2 : Int32).toNatClampNeg .null = .null) (hn3 : lc.getD (3 : Int32).toNatClampNeg .null = .null) (hs0 : ¬ (sp < (0 : Int32))) (hs1 : ¬ ((7 : Int32) < sp)) :
    MetFree l (⟨"com/example/termvault/termvault/MarkArraysPositionsPinLaw", "four", "(Lcom/example/termvault/termvault/MarkArrays;[[JI)V"⟩ : MethodName) (head1 (Jvm.Cond.code (⟨"com/example/termvault/termvault/MarkArraysPositionsPinLaw", "four", "(Lcom/example/termvault/termvault/MarkArrays;[[JI)V"⟩ : MethodName) method_2_code 3 none :: ws) ({ frames := 1, cells := 4, slots := 28, locals := 14 } : Room)) (fun aA U => aA = #[(.ref ao), (.ref ag), (.int (0 : Int32))] ∧ Z.Warmed39 U.vm ∧ U.heap = h0) (fun _ _ _ _ _ => True) (fun _ U o U' => ∃ v L, o = .returned v ∧ Q_rmFo0 Z ao ag ap kp lc kg vs sp uo aw xs h0 n0 v U'.heap L ∧ FrameEnd U o U' L ({ frames := 1, cells := 4, slots := 28, locals := 14 } : Room).cells ({ frames := 1, cells := 4, slots := 28, locals := 14 } : Room).slots) := by
  refine MetFree.of_bodySF (plainFor_of_name pn_com_example_termvault_termvault_MarkArraysPositionsPinLaw) hisR ?_
  intro p e s m args below meth c s₁ Bd hml0 hP hK
  obtain ⟨rfl, hZ, hh⟩ := hP
  have hx := Bd.exec
  have hby := Bd.bytes
  have hml : c.maxLocals = 3 := hml0
  have hown : s.vm.findClass "com/example/termvault/termvault/MarkArraysPositionsPinLaw" = some m.cls := findClass_of_methodNamed Bd.named
  have hnm := (name_of_methodNamed Bd.named Bd.method).1
  have hret := Bd.returns
  have hlk : meth.locks = false := BodyLoose.notSynchronized Bd
  have X0 : Stand p l e ({ frames := 1, cells := 4, slots := 28, locals := 14 } : Room) s m #[(.ref ao), (.ref ag), (.int (0 : Int32))] below meth c s₁ [] 0 0 := Stand.of_body Bd
  have e0 : s₁.heap = h0 := by rw [← hh, Bd.state]; rfl
  have N0 := Fr.nil n0
  suffices hgo : Go p e below s ({ frames := 1, cells := 4, slots := 28, locals := 14 } : Room).cells ({ frames := 1, cells := 4, slots := 28, locals := 14 } : Room).slots (Q_rmFo0 Z ao ag ap kp lc kg vs sp uo aw xs h0 n0) s₁ (mkF m 0 #[.val (.ref ao), .val (.ref ag), .val (.int (0 : Int32))] []) from hgo.enter (ef_rmFo0 m ao ag)
  refine Go.step (fun _ k => XS.aloadN X0.here hx rfl (hb hby d3_0) rfl rfl k) ?_
  show Go _ _ _ _ _ _ _ s₁ (mkF m 1 #[.val (.ref ao), .val (.ref ag), .val (.int (0 : Int32))] [(.ref ag)])
  refine Go.step (fun _ k => XS.iloadN X0.here hx rfl (hb hby d3_1) rfl k) ?_
  show Go _ _ _ _ _ _ _ s₁ (mkF m 2 #[.val (.ref ao), .val (.ref ag), .val (.int (0 : Int32))] [(.int (0 : Int32)), (.ref ag)])
  refine Go.step (fun _ k => XS.aloadN X0.here hx rfl (hb hby d3_2) rfl rfl k) ?_
  show Go _ _ _ _ _ _ _ s₁ (mkF m 3 #[.val (.ref ao), .val (.ref ag), .val (.int (0 : Int32))] [(.ref ao), (.int (0 : Int32)), (.ref ag)])
  obtain ⟨cq79, kq79, q79a, q79b, q79c⟩ := isOf hZ e0 E0
  obtain ⟨_, _, ⟨T79, L79, k79, n79⟩, -, X79, ⟨Lc79, hQ79, l79, y79, z79⟩, st79⟩ := X0.virtualBack hx (y := (⟨"com/example/termvault/termvault/MarkArrays", "positions", "()[J"⟩ : MethodName)) (z := (⟨"com/example/termvault/termvault/MarkArrays", "positions", "()[J"⟩ : MethodName)) hown (mvT hZ (hw _ (List.mem_of_getElem? (i := 24) rfl))) (mvT hZ (hw _ (List.mem_of_getElem? (i := 25) rfl))) (notFace_of_selects (args := #[]) (mvT hZ (hw _ (List.mem_of_getElem? (i := 27) rfl)))) (mvT hZ (hw _ (List.mem_of_getElem? (i := 27) rfl))) (mvT hZ (hw _ (List.mem_of_getElem? (i := 26) rfl))) (by decide) (backOf (W := 2) (rmPt l Z a0 hw [] ao ap kp lc (0 : Int32) sp uo aw h0 n0 Z0 E0 Fc Ft Fs Vc Fo Fq ov_ap g0 g1 ne0 (by decide) (by decide) hl hn0 hs0 hs1) hZ (hw _ (List.mem_of_getElem? (i := 28) rfl)) (hw _ (List.mem_of_getElem? (i := 2) rfl)) (by decide) (by decide)) q79a q79c (g := (mkF m 3 #[.val (.ref ao), .val (.ref ag), .val (.int (0 : Int32))] [(.ref ao), (.int (0 : Int32)), (.ref ag)])) rfl (by rw [hml]; rfl) (Steps.refl _) (argsL := []) (rest := [(.int (0 : Int32)), (.ref ag)]) (lenOf pd____J rfl) rfl (by show 2 * 0 + _ ≤ _; exact Nat.le_of_eq rfl) (hb hby d3_3) (fun _ _ => ⟨rfl, e0, (by decide : 0 + 1 ≤ _), (by decide : 0 + 7 ≤ _)⟩)
  dsimp only [Pt.U, Pt.locs, Pt.cells, Pt.slots] at X79 l79 y79 z79 st79 hQ79
  subst l79 y79 z79
  obtain ⟨h79, e79⟩ : ∃ h, T79.heap = h := ⟨_, rfl⟩
  rw [e79] at hQ79
  obtain ⟨ar_79, kr_79, rfl, Nq79, Kq79, sa_79, E1_79, Fc1_79, Ft1_79, Fs1_79, Fo1_79, Fq1_79, Vc1_79, Vr_79, Er_79⟩ := hQ79
  have N79 := Fr.app N0 Nq79
  have Z79 : n0 ≤ h79.size := Nat.le_trans Z0 Kq79.1
  have KK79 : Keep h0 h79 [ao, ap, ag] := (Keep.refl h0 [ao, ap, ag]).trans Kq79 (allS (Or.inl (List.mem_of_getElem? (i := 0) rfl)) (allS (Or.inl (List.mem_of_getElem? (i := 1) rfl)) all0))
  have g_ar_79 : n0 ≤ ar_79 := Nat.le_trans Z0 sa_79
  have sz_ar_79 : h0.size ≤ ar_79 := Nat.le_trans (Keep.refl h0 [ao, ap, ag]).1 sa_79
  have ne_ag_ar_79 : ag ≠ ar_79 := Nat.ne_of_lt (Nat.lt_of_lt_of_le Vg.lt sa_79)
  have ne_ao_ar_79 : ao ≠ ar_79 := Nat.ne_of_lt (Nat.lt_of_lt_of_le E0.lt sa_79)
  have ne_ap_ar_79 : ap ≠ ar_79 := Nat.ne_of_lt (Nat.lt_of_lt_of_le Vc.lt sa_79)
  have Ft1_79 : Fld Z h79 ao "com/example/termvault/termvault/MarkArrays" "positionsTaken" "I" (.int (1 : Int32)) := Ft1_79
  refine Go.trans st79 ?_
  have f80 : own_Pos Z h79 [ao, ap, ag] xs sp := (P0.keep Kq79 (allS (List.mem_of_getElem? (i := 0) rfl) (allS (List.mem_of_getElem? (i := 1) rfl) all0)))
  have Ps79 : own_Pos Z h79 [ao, ap, ag] (xs ++ [ar_79]) sp := f80.snoc (fun y hy => Nat.ne_of_lt (Nat.lt_of_lt_of_le (P0.lt y hy) sa_79)) (ninS (Ne.symm ne_ao_ar_79) (ninS (Ne.symm ne_ap_ar_79) (ninS (Ne.symm ne_ag_ar_79) nin0))) Er_79 Vr_79
  show Go _ _ _ _ _ _ _ T79 (mkF m 6 #[.val (.ref ao), .val (.ref ag), .val (.int (0 : Int32))] [(.ref ar_79), (.int (0 : Int32)), (.ref ag)])
  have f81 : Arv Z h79 ag kg (.array .long) (18 : Int32) vs .null := (Vg.keep Kq79 (ninS (Ne.symm ne1) (ninS (Ne.symm ne2) nin0)))
  obtain ⟨cl82, Ar82, q82, S82, M82, H82, G82⟩ := id (f81)
  have hin82 : ¬ ((0 : Int32) < 0 ∨ cl82.slots.size ≤ ((0 : Int32)).toNatClampNeg) := inb_of S82 ⟨by decide, by decide⟩
  obtain ⟨T82, h82, X82, e82, W82, st82⟩ := stR X79 hx hZ e79 Ar82 (j := (0 : Int32)) hin82 rfl (Sto.ofVA Ar82 q82 ov_ag (Ins.self Er_79)) (g := (mkF m 6 #[.val (.ref ao), .val (.ref ag), .val (.int (0 : Int32))] [(.ref ar_79), (.int (0 : Int32)), (.ref ag)])) rfl rfl (hb hby d3_6)
  refine Go.step st82 ?_
  have V82 : Arv Z h82 ag kg (.array .long) (18 : Int32) (vs.set 0 (.ref ar_79)) .null := Arv.set Ar82 q82 S82 M82 H82 G82 rfl W82 0 rfl (by (try simp only [List.length_set]); rw [hlv]; decide)
  have N82 := Fr.snoc X82 N79 g2
  have Z82 : n0 ≤ h82.size := Nat.le_trans Z79 (Keep.of_wr W82).1
  have KK82 : Keep h0 h82 [ao, ap, ag] := KK79.wr W82 (Or.inl (List.mem_of_getElem? (i := 2) rfl))
  show Go _ _ _ _ _ _ _ T82 (mkF m 7 #[.val (.ref ao), .val (.ref ag), .val (.int (0 : Int32))] [])
  refine Go.step (fun _ k => XS.aloadN X82.here hx rfl (hb hby d3_7) rfl rfl k) ?_
  show Go _ _ _ _ _ _ _ T82 (mkF m 8 #[.val (.ref ao), .val (.ref ag), .val (.int (0 : Int32))] [(.ref ag)])
  refine Go.step (fun _ k => XS.iloadN X82.here hx rfl (hb hby d3_8) rfl k) ?_
  show Go _ _ _ _ _ _ _ T82 (mkF m 9 #[.val (.ref ao), .val (.ref ag), .val (.int (0 : Int32))] [(.int (0 : Int32)), (.ref ag)])
  refine Go.step (fun _ k => XS.iconst X82.here hx rfl (hb hby d3_9) k) ?_
  show Go _ _ _ _ _ _ _ T82 (mkF m 10 #[.val (.ref ao), .val (.ref ag), .val (.int (0 : Int32))] [(.int (1 : Int32)), (.int (0 : Int32)), (.ref ag)])
  refine Go.step (fun _ k => XS.iadd X82.here hx rfl (hb hby d3_10) rfl k) ?_
  show Go _ _ _ _ _ _ _ T82 (mkF m 11 #[.val (.ref ao), .val (.ref ag), .val (.int (0 : Int32))] [(.int (1 : Int32)), (.ref ag)])
  refine Go.step (fun _ k => XS.aloadN X82.here hx rfl (hb hby d3_11) rfl rfl k) ?_
  show Go _ _ _ _ _ _ _ T82 (mkF m 12 #[.val (.ref ao), .val (.ref ag), .val (.int (0 : Int32))] [(.ref ao), (.int (1 : Int32)), (.ref ag)])
  have f83 : own_Pos Z h82 [ao, ap, ag] (xs ++ [ar_79]) sp := (Ps79.keep (Keep.of_wr W82) (allS (List.mem_of_getElem? (i := 2) rfl) all0))
  have f85 : Exa Z h82 ao "com/example/termvault/termvault/MarkArrays" := (E1_79.wr W82)
  have f86 : Fld Z h82 ao "com/example/termvault/termvault/MarkArrays" "positions" "[[J" (.ref ap) := (Fc1_79.other W82 (Or.inl ne1))
  have f87 : Fld Z h82 ao "com/example/termvault/termvault/MarkArrays" "positionsTaken" "I" (.int (1 : Int32)) := (Ft1_79.other W82 (Or.inl ne1))
  have f88 : Fld Z h82 ao "com/example/termvault/termvault/MarkArrays" "span" "I" (.int sp) := (Fs1_79.other W82 (Or.inl ne1))
  have f89 : Arv Z h82 ap kp (.array .long) (16 : Int32) (lc.set (0 : Int32).toNatClampNeg (.ref ar_79)) .null := (Vc1_79.other W82 ne2)
  have f90 : Fld Z h82 ao "com/example/termvault/termvault/MarkArrays" "countsTaken" "I" (.int uo) := (Fo1_79.other W82 (Or.inl ne1))
  have f91 : Fld Z h82 ao "com/example/termvault/termvault/MarkArrays" "counts" "[[I" (.ref aw) := (Fq1_79.other W82 (Or.inl ne1))
  obtain ⟨cq84, kq84, q84a, q84b, q84c⟩ := isOf hZ e82 f85
  obtain ⟨_, _, ⟨T84, L84, k84, n84⟩, -, X84, ⟨Lc84, hQ84, l84, y84, z84⟩, st84⟩ := X82.virtualBack hx (y := (⟨"com/example/termvault/termvault/MarkArrays", "positions", "()[J"⟩ : MethodName)) (z := (⟨"com/example/termvault/termvault/MarkArrays", "positions", "()[J"⟩ : MethodName)) hown (mvT hZ (hw _ (List.mem_of_getElem? (i := 24) rfl))) (mvT hZ (hw _ (List.mem_of_getElem? (i := 25) rfl))) (notFace_of_selects (args := #[]) (mvT hZ (hw _ (List.mem_of_getElem? (i := 27) rfl)))) (mvT hZ (hw _ (List.mem_of_getElem? (i := 27) rfl))) (mvT hZ (hw _ (List.mem_of_getElem? (i := 26) rfl))) (by decide) (backOf (W := 2) (rmPt l Z a0 hw [] ao ap kp (lc.set (0 : Int32).toNatClampNeg (.ref ar_79)) (1 : Int32) sp uo aw h82 n0 Z82 f85 f86 f87 f88 f89 f90 f91 ov_ap g0 g1 ne0 (by decide) (by decide) (by simp only [List.length_set]; exact hl) ((own_n (by decide)).trans hn1) hs0 hs1) hZ (hw _ (List.mem_of_getElem? (i := 28) rfl)) (hw _ (List.mem_of_getElem? (i := 2) rfl)) (by decide) (by decide)) q84a q84c (g := (mkF m 12 #[.val (.ref ao), .val (.ref ag), .val (.int (0 : Int32))] [(.ref ao), (.int (1 : Int32)), (.ref ag)])) rfl (by rw [hml]; rfl) (Steps.refl _) (argsL := []) (rest := [(.int (1 : Int32)), (.ref ag)]) (lenOf pd____J rfl) rfl (by show 2 * 0 + _ ≤ _; exact Nat.le_of_eq rfl) (hb hby d3_12) (fun _ _ => ⟨rfl, e82, (by decide : 1 + 1 ≤ _), (by decide : 7 + 7 ≤ _)⟩)
  dsimp only [Pt.U, Pt.locs, Pt.cells, Pt.slots] at X84 l84 y84 z84 st84 hQ84
  subst l84 y84 z84
  obtain ⟨h84, e84⟩ : ∃ h, T84.heap = h := ⟨_, rfl⟩
  rw [e84] at hQ84
  have f92 : Exa Z h82 ar_79 "[J" := (Er_79.wr W82)
  obtain ⟨ar_84, kr_84, rfl, Nq84, Kq84, sa_84, E1_84, Fc1_84, Ft1_84, Fs1_84, Fo1_84, Fq1_84, Vc1_84, Vr_84, Er_84⟩ := hQ84
  have N84 := Fr.app N82 Nq84
  have Z84 : n0 ≤ h84.size := Nat.le_trans Z82 Kq84.1
  have KK84 : Keep h0 h84 [ao, ap, ag] := KK82.trans Kq84 (allS (Or.inl (List.mem_of_getElem? (i := 0) rfl)) (allS (Or.inl (List.mem_of_getElem? (i := 1) rfl)) all0))
  have g_ar_84 : n0 ≤ ar_84 := Nat.le_trans Z82 sa_84
  have sz_ar_84 : h0.size ≤ ar_84 := Nat.le_trans KK82.1 sa_84
  have ne_ag_ar_84 : ag ≠ ar_84 := Nat.ne_of_lt (Nat.lt_of_lt_of_le V82.lt sa_84)
  have ne_ao_ar_84 : ao ≠ ar_84 := Nat.ne_of_lt (Nat.lt_of_lt_of_le f85.lt sa_84)
  have ne_ap_ar_84 : ap ≠ ar_84 := Nat.ne_of_lt (Nat.lt_of_lt_of_le f89.lt sa_84)
  have ne_ar_79_ar_84 : ar_79 ≠ ar_84 := Nat.ne_of_lt (Nat.lt_of_lt_of_le f92.lt sa_84)
  have Ft1_84 : Fld Z h84 ao "com/example/termvault/termvault/MarkArrays" "positionsTaken" "I" (.int (2 : Int32)) := Ft1_84
  refine Go.trans st84 ?_
  have f93 : own_Pos Z h84 [ao, ap, ag] (xs ++ [ar_79]) sp := (f83.keep Kq84 (allS (List.mem_of_getElem? (i := 0) rfl) (allS (List.mem_of_getElem? (i := 1) rfl) all0)))
  have Ps84 : own_Pos Z h84 [ao, ap, ag] ((xs ++ [ar_79]) ++ [ar_84]) sp := f93.snoc (fun y hy => Nat.ne_of_lt (Nat.lt_of_lt_of_le (f83.lt y hy) sa_84)) (ninS (Ne.symm ne_ao_ar_84) (ninS (Ne.symm ne_ap_ar_84) (ninS (Ne.symm ne_ag_ar_84) nin0))) Er_84 Vr_84
  show Go _ _ _ _ _ _ _ T84 (mkF m 15 #[.val (.ref ao), .val (.ref ag), .val (.int (0 : Int32))] [(.ref ar_84), (.int (1 : Int32)), (.ref ag)])
  have f94 : Arv Z h84 ag kg (.array .long) (18 : Int32) (vs.set 0 (.ref ar_79)) .null := (V82.keep Kq84 (ninS (Ne.symm ne1) (ninS (Ne.symm ne2) nin0)))
  obtain ⟨cl95, Ar95, q95, S95, M95, H95, G95⟩ := id (f94)
  have hin95 : ¬ ((1 : Int32) < 0 ∨ cl95.slots.size ≤ ((1 : Int32)).toNatClampNeg) := inb_of S95 ⟨by decide, by decide⟩
  obtain ⟨T95, h95, X95, e95, W95, st95⟩ := stR X84 hx hZ e84 Ar95 (j := (1 : Int32)) hin95 rfl (Sto.ofVA Ar95 q95 ov_ag (Ins.self Er_84)) (g := (mkF m 15 #[.val (.ref ao), .val (.ref ag), .val (.int (0 : Int32))] [(.ref ar_84), (.int (1 : Int32)), (.ref ag)])) rfl rfl (hb hby d3_15)
  refine Go.step st95 ?_
  have V95 : Arv Z h95 ag kg (.array .long) (18 : Int32) ((vs.set 0 (.ref ar_79)).set 1 (.ref ar_84)) .null := Arv.set Ar95 q95 S95 M95 H95 G95 rfl W95 1 rfl (by (try simp only [List.length_set]); rw [hlv]; decide)
  have N95 := Fr.snoc X95 N84 g2
  have Z95 : n0 ≤ h95.size := Nat.le_trans Z84 (Keep.of_wr W95).1
  have KK95 : Keep h0 h95 [ao, ap, ag] := KK84.wr W95 (Or.inl (List.mem_of_getElem? (i := 2) rfl))
  show Go _ _ _ _ _ _ _ T95 (mkF m 16 #[.val (.ref ao), .val (.ref ag), .val (.int (0 : Int32))] [])
  refine Go.step (fun _ k => XS.aloadN X95.here hx rfl (hb hby d3_16) rfl rfl k) ?_
  show Go _ _ _ _ _ _ _ T95 (mkF m 17 #[.val (.ref ao), .val (.ref ag), .val (.int (0 : Int32))] [(.ref ag)])
  refine Go.step (fun _ k => XS.iloadN X95.here hx rfl (hb hby d3_17) rfl k) ?_
  show Go _ _ _ _ _ _ _ T95 (mkF m 18 #[.val (.ref ao), .val (.ref ag), .val (.int (0 : Int32))] [(.int (0 : Int32)), (.ref ag)])
  refine Go.step (fun _ k => XS.iconst X95.here hx rfl (hb hby d3_18) k) ?_
  show Go _ _ _ _ _ _ _ T95 (mkF m 19 #[.val (.ref ao), .val (.ref ag), .val (.int (0 : Int32))] [(.int (2 : Int32)), (.int (0 : Int32)), (.ref ag)])
  refine Go.step (fun _ k => XS.iadd X95.here hx rfl (hb hby d3_19) rfl k) ?_
  show Go _ _ _ _ _ _ _ T95 (mkF m 20 #[.val (.ref ao), .val (.ref ag), .val (.int (0 : Int32))] [(.int (2 : Int32)), (.ref ag)])
  refine Go.step (fun _ k => XS.aloadN X95.here hx rfl (hb hby d3_20) rfl rfl k) ?_
  show Go _ _ _ _ _ _ _ T95 (mkF m 21 #[.val (.ref ao), .val (.ref ag), .val (.int (0 : Int32))] [(.ref ao), (.int (2 : Int32)), (.ref ag)])
  have f96 : own_Pos Z h95 [ao, ap, ag] ((xs ++ [ar_79]) ++ [ar_84]) sp := (Ps84.keep (Keep.of_wr W95) (allS (List.mem_of_getElem? (i := 2) rfl) all0))
  have f98 : Exa Z h95 ao "com/example/termvault/termvault/MarkArrays" := (E1_84.wr W95)
  have f99 : Fld Z h95 ao "com/example/termvault/termvault/MarkArrays" "positions" "[[J" (.ref ap) := (Fc1_84.other W95 (Or.inl ne1))
  have f100 : Fld Z h95 ao "com/example/termvault/termvault/MarkArrays" "positionsTaken" "I" (.int (2 : Int32)) := (Ft1_84.other W95 (Or.inl ne1))
  have f101 : Fld Z h95 ao "com/example/termvault/termvault/MarkArrays" "span" "I" (.int sp) := (Fs1_84.other W95 (Or.inl ne1))
  have f102 : Arv Z h95 ap kp (.array .long) (16 : Int32) ((lc.set (0 : Int32).toNatClampNeg (.ref ar_79)).set (1 : Int32).toNatClampNeg (.ref ar_84)) .null := (Vc1_84.other W95 ne2)
  have f103 : Fld Z h95 ao "com/example/termvault/termvault/MarkArrays" "countsTaken" "I" (.int uo) := (Fo1_84.other W95 (Or.inl ne1))
  have f104 : Fld Z h95 ao "com/example/termvault/termvault/MarkArrays" "counts" "[[I" (.ref aw) := (Fq1_84.other W95 (Or.inl ne1))
  obtain ⟨cq97, kq97, q97a, q97b, q97c⟩ := isOf hZ e95 f98
  obtain ⟨_, _, ⟨T97, L97, k97, n97⟩, -, X97, ⟨Lc97, hQ97, l97, y97, z97⟩, st97⟩ := X95.virtualBack hx (y := (⟨"com/example/termvault/termvault/MarkArrays", "positions", "()[J"⟩ : MethodName)) (z := (⟨"com/example/termvault/termvault/MarkArrays", "positions", "()[J"⟩ : MethodName)) hown (mvT hZ (hw _ (List.mem_of_getElem? (i := 24) rfl))) (mvT hZ (hw _ (List.mem_of_getElem? (i := 25) rfl))) (notFace_of_selects (args := #[]) (mvT hZ (hw _ (List.mem_of_getElem? (i := 27) rfl)))) (mvT hZ (hw _ (List.mem_of_getElem? (i := 27) rfl))) (mvT hZ (hw _ (List.mem_of_getElem? (i := 26) rfl))) (by decide) (backOf (W := 2) (rmPt l Z a0 hw [] ao ap kp ((lc.set (0 : Int32).toNatClampNeg (.ref ar_79)).set (1 : Int32).toNatClampNeg (.ref ar_84)) (2 : Int32) sp uo aw h95 n0 Z95 f98 f99 f100 f101 f102 f103 f104 ov_ap g0 g1 ne0 (by decide) (by decide) (by simp only [List.length_set]; exact hl) ((own_n (by decide)).trans ((own_n (by decide)).trans hn2)) hs0 hs1) hZ (hw _ (List.mem_of_getElem? (i := 28) rfl)) (hw _ (List.mem_of_getElem? (i := 2) rfl)) (by decide) (by decide)) q97a q97c (g := (mkF m 21 #[.val (.ref ao), .val (.ref ag), .val (.int (0 : Int32))] [(.ref ao), (.int (2 : Int32)), (.ref ag)])) rfl (by rw [hml]; rfl) (Steps.refl _) (argsL := []) (rest := [(.int (2 : Int32)), (.ref ag)]) (lenOf pd____J rfl) rfl (by show 2 * 0 + _ ≤ _; exact Nat.le_of_eq rfl) (hb hby d3_21) (fun _ _ => ⟨rfl, e95, (by decide : 2 + 1 ≤ _), (by decide : 14 + 7 ≤ _)⟩)
  dsimp only [Pt.U, Pt.locs, Pt.cells, Pt.slots] at X97 l97 y97 z97 st97 hQ97
  subst l97 y97 z97
  obtain ⟨h97, e97⟩ : ∃ h, T97.heap = h := ⟨_, rfl⟩
  rw [e97] at hQ97
  have f105 : Exa Z h95 ar_79 "[J" := ((f92.keep Kq84).wr W95)
  have f106 : Exa Z h95 ar_84 "[J" := (Er_84.wr W95)
  obtain ⟨ar_97, kr_97, rfl, Nq97, Kq97, sa_97, E1_97, Fc1_97, Ft1_97, Fs1_97, Fo1_97, Fq1_97, Vc1_97, Vr_97, Er_97⟩ := hQ97
  have N97 := Fr.app N95 Nq97
  have Z97 : n0 ≤ h97.size := Nat.le_trans Z95 Kq97.1
  have KK97 : Keep h0 h97 [ao, ap, ag] := KK95.trans Kq97 (allS (Or.inl (List.mem_of_getElem? (i := 0) rfl)) (allS (Or.inl (List.mem_of_getElem? (i := 1) rfl)) all0))
  have g_ar_97 : n0 ≤ ar_97 := Nat.le_trans Z95 sa_97
  have sz_ar_97 : h0.size ≤ ar_97 := Nat.le_trans KK95.1 sa_97
  have ne_ag_ar_97 : ag ≠ ar_97 := Nat.ne_of_lt (Nat.lt_of_lt_of_le V95.lt sa_97)
  have ne_ao_ar_97 : ao ≠ ar_97 := Nat.ne_of_lt (Nat.lt_of_lt_of_le f98.lt sa_97)
  have ne_ap_ar_97 : ap ≠ ar_97 := Nat.ne_of_lt (Nat.lt_of_lt_of_le f102.lt sa_97)
  have ne_ar_79_ar_97 : ar_79 ≠ ar_97 := Nat.ne_of_lt (Nat.lt_of_lt_of_le f105.lt sa_97)
  have ne_ar_84_ar_97 : ar_84 ≠ ar_97 := Nat.ne_of_lt (Nat.lt_of_lt_of_le f106.lt sa_97)
  have Ft1_97 : Fld Z h97 ao "com/example/termvault/termvault/MarkArrays" "positionsTaken" "I" (.int (3 : Int32)) := Ft1_97
  refine Go.trans st97 ?_
  have f107 : own_Pos Z h97 [ao, ap, ag] ((xs ++ [ar_79]) ++ [ar_84]) sp := (f96.keep Kq97 (allS (List.mem_of_getElem? (i := 0) rfl) (allS (List.mem_of_getElem? (i := 1) rfl) all0)))
  have Ps97 : own_Pos Z h97 [ao, ap, ag] (((xs ++ [ar_79]) ++ [ar_84]) ++ [ar_97]) sp := f107.snoc (fun y hy => Nat.ne_of_lt (Nat.lt_of_lt_of_le (f96.lt y hy) sa_97)) (ninS (Ne.symm ne_ao_ar_97) (ninS (Ne.symm ne_ap_ar_97) (ninS (Ne.symm ne_ag_ar_97) nin0))) Er_97 Vr_97
  show Go _ _ _ _ _ _ _ T97 (mkF m 24 #[.val (.ref ao), .val (.ref ag), .val (.int (0 : Int32))] [(.ref ar_97), (.int (2 : Int32)), (.ref ag)])
  have f108 : Arv Z h97 ag kg (.array .long) (18 : Int32) ((vs.set 0 (.ref ar_79)).set 1 (.ref ar_84)) .null := (V95.keep Kq97 (ninS (Ne.symm ne1) (ninS (Ne.symm ne2) nin0)))
  obtain ⟨cl109, Ar109, q109, S109, M109, H109, G109⟩ := id (f108)
  have hin109 : ¬ ((2 : Int32) < 0 ∨ cl109.slots.size ≤ ((2 : Int32)).toNatClampNeg) := inb_of S109 ⟨by decide, by decide⟩
  obtain ⟨T109, h109, X109, e109, W109, st109⟩ := stR X97 hx hZ e97 Ar109 (j := (2 : Int32)) hin109 rfl (Sto.ofVA Ar109 q109 ov_ag (Ins.self Er_97)) (g := (mkF m 24 #[.val (.ref ao), .val (.ref ag), .val (.int (0 : Int32))] [(.ref ar_97), (.int (2 : Int32)), (.ref ag)])) rfl rfl (hb hby d3_24)
  refine Go.step st109 ?_
  have V109 : Arv Z h109 ag kg (.array .long) (18 : Int32) (((vs.set 0 (.ref ar_79)).set 1 (.ref ar_84)).set 2 (.ref ar_97)) .null := Arv.set Ar109 q109 S109 M109 H109 G109 rfl W109 2 rfl (by (try simp only [List.length_set]); rw [hlv]; decide)
  have N109 := Fr.snoc X109 N97 g2
  have Z109 : n0 ≤ h109.size := Nat.le_trans Z97 (Keep.of_wr W109).1
  have KK109 : Keep h0 h109 [ao, ap, ag] := KK97.wr W109 (Or.inl (List.mem_of_getElem? (i := 2) rfl))
  show Go _ _ _ _ _ _ _ T109 (mkF m 25 #[.val (.ref ao), .val (.ref ag), .val (.int (0 : Int32))] [])
  refine Go.step (fun _ k => XS.aloadN X109.here hx rfl (hb hby d3_25) rfl rfl k) ?_
  show Go _ _ _ _ _ _ _ T109 (mkF m 26 #[.val (.ref ao), .val (.ref ag), .val (.int (0 : Int32))] [(.ref ag)])
  refine Go.step (fun _ k => XS.iloadN X109.here hx rfl (hb hby d3_26) rfl k) ?_
  show Go _ _ _ _ _ _ _ T109 (mkF m 27 #[.val (.ref ao), .val (.ref ag), .val (.int (0 : Int32))] [(.int (0 : Int32)), (.ref ag)])
  refine Go.step (fun _ k => XS.iconst X109.here hx rfl (hb hby d3_27) k) ?_
  show Go _ _ _ _ _ _ _ T109 (mkF m 28 #[.val (.ref ao), .val (.ref ag), .val (.int (0 : Int32))] [(.int (3 : Int32)), (.int (0 : Int32)), (.ref ag)])
  refine Go.step (fun _ k => XS.iadd X109.here hx rfl (hb hby d3_28) rfl k) ?_
  show Go _ _ _ _ _ _ _ T109 (mkF m 29 #[.val (.ref ao), .val (.ref ag), .val (.int (0 : Int32))] [(.int (3 : Int32)), (.ref ag)])
  refine Go.step (fun _ k => XS.aloadN X109.here hx rfl (hb hby d3_29) rfl rfl k) ?_
  show Go _ _ _ _ _ _ _ T109 (mkF m 30 #[.val (.ref ao), .val (.ref ag), .val (.int (0 : Int32))] [(.ref ao), (.int (3 : Int32)), (.ref ag)])
  have f110 : own_Pos Z h109 [ao, ap, ag] (((xs ++ [ar_79]) ++ [ar_84]) ++ [ar_97]) sp := (Ps97.keep (Keep.of_wr W109) (allS (List.mem_of_getElem? (i := 2) rfl) all0))
  have f112 : Exa Z h109 ao "com/example/termvault/termvault/MarkArrays" := (E1_97.wr W109)
  have f113 : Fld Z h109 ao "com/example/termvault/termvault/MarkArrays" "positions" "[[J" (.ref ap) := (Fc1_97.other W109 (Or.inl ne1))
  have f114 : Fld Z h109 ao "com/example/termvault/termvault/MarkArrays" "positionsTaken" "I" (.int (3 : Int32)) := (Ft1_97.other W109 (Or.inl ne1))
  have f115 : Fld Z h109 ao "com/example/termvault/termvault/MarkArrays" "span" "I" (.int sp) := (Fs1_97.other W109 (Or.inl ne1))
  have f116 : Arv Z h109 ap kp (.array .long) (16 : Int32) (((lc.set (0 : Int32).toNatClampNeg (.ref ar_79)).set (1 : Int32).toNatClampNeg (.ref ar_84)).set (2 : Int32).toNatClampNeg (.ref ar_97)) .null := (Vc1_97.other W109 ne2)
  have f117 : Fld Z h109 ao "com/example/termvault/termvault/MarkArrays" "countsTaken" "I" (.int uo) := (Fo1_97.other W109 (Or.inl ne1))
  have f118 : Fld Z h109 ao "com/example/termvault/termvault/MarkArrays" "counts" "[[I" (.ref aw) := (Fq1_97.other W109 (Or.inl ne1))
  obtain ⟨cq111, kq111, q111a, q111b, q111c⟩ := isOf hZ e109 f112
  obtain ⟨_, _, ⟨T111, L111, k111, n111⟩, -, X111, ⟨Lc111, hQ111, l111, y111, z111⟩, st111⟩ := X109.virtualBack hx (y := (⟨"com/example/termvault/termvault/MarkArrays", "positions", "()[J"⟩ : MethodName)) (z := (⟨"com/example/termvault/termvault/MarkArrays", "positions", "()[J"⟩ : MethodName)) hown (mvT hZ (hw _ (List.mem_of_getElem? (i := 24) rfl))) (mvT hZ (hw _ (List.mem_of_getElem? (i := 25) rfl))) (notFace_of_selects (args := #[]) (mvT hZ (hw _ (List.mem_of_getElem? (i := 27) rfl)))) (mvT hZ (hw _ (List.mem_of_getElem? (i := 27) rfl))) (mvT hZ (hw _ (List.mem_of_getElem? (i := 26) rfl))) (by decide) (backOf (W := 2) (rmPt l Z a0 hw [] ao ap kp (((lc.set (0 : Int32).toNatClampNeg (.ref ar_79)).set (1 : Int32).toNatClampNeg (.ref ar_84)).set (2 : Int32).toNatClampNeg (.ref ar_97)) (3 : Int32) sp uo aw h109 n0 Z109 f112 f113 f114 f115 f116 f117 f118 ov_ap g0 g1 ne0 (by decide) (by decide) (by simp only [List.length_set]; exact hl) ((own_n (by decide)).trans ((own_n (by decide)).trans ((own_n (by decide)).trans hn3))) hs0 hs1) hZ (hw _ (List.mem_of_getElem? (i := 28) rfl)) (hw _ (List.mem_of_getElem? (i := 2) rfl)) (by decide) (by decide)) q111a q111c (g := (mkF m 30 #[.val (.ref ao), .val (.ref ag), .val (.int (0 : Int32))] [(.ref ao), (.int (3 : Int32)), (.ref ag)])) rfl (by rw [hml]; rfl) (Steps.refl _) (argsL := []) (rest := [(.int (3 : Int32)), (.ref ag)]) (lenOf pd____J rfl) rfl (by show 2 * 0 + _ ≤ _; exact Nat.le_of_eq rfl) (hb hby d3_30) (fun _ _ => ⟨rfl, e109, (by decide : 3 + 1 ≤ _), (by decide : 21 + 7 ≤ _)⟩)
  dsimp only [Pt.U, Pt.locs, Pt.cells, Pt.slots] at X111 l111 y111 z111 st111 hQ111
  subst l111 y111 z111
  obtain ⟨h111, e111⟩ : ∃ h, T111.heap = h := ⟨_, rfl⟩
  rw [e111] at hQ111
  have f119 : Exa Z h109 ar_79 "[J" := ((f105.keep Kq97).wr W109)
  have f120 : Exa Z h109 ar_84 "[J" := ((f106.keep Kq97).wr W109)
  have f121 : Exa Z h109 ar_97 "[J" := (Er_97.wr W109)
  obtain ⟨ar_111, kr_111, rfl, Nq111, Kq111, sa_111, E1_111, Fc1_111, Ft1_111, Fs1_111, Fo1_111, Fq1_111, Vc1_111, Vr_111, Er_111⟩ := hQ111
  have N111 := Fr.app N109 Nq111
  have Z111 : n0 ≤ h111.size := Nat.le_trans Z109 Kq111.1
  have KK111 : Keep h0 h111 [ao, ap, ag] := KK109.trans Kq111 (allS (Or.inl (List.mem_of_getElem? (i := 0) rfl)) (allS (Or.inl (List.mem_of_getElem? (i := 1) rfl)) all0))
  have g_ar_111 : n0 ≤ ar_111 := Nat.le_trans Z109 sa_111
  have sz_ar_111 : h0.size ≤ ar_111 := Nat.le_trans KK109.1 sa_111
  have ne_ag_ar_111 : ag ≠ ar_111 := Nat.ne_of_lt (Nat.lt_of_lt_of_le V109.lt sa_111)
  have ne_ao_ar_111 : ao ≠ ar_111 := Nat.ne_of_lt (Nat.lt_of_lt_of_le f112.lt sa_111)
  have ne_ap_ar_111 : ap ≠ ar_111 := Nat.ne_of_lt (Nat.lt_of_lt_of_le f116.lt sa_111)
  have ne_ar_79_ar_111 : ar_79 ≠ ar_111 := Nat.ne_of_lt (Nat.lt_of_lt_of_le f119.lt sa_111)
  have ne_ar_84_ar_111 : ar_84 ≠ ar_111 := Nat.ne_of_lt (Nat.lt_of_lt_of_le f120.lt sa_111)
  have ne_ar_97_ar_111 : ar_97 ≠ ar_111 := Nat.ne_of_lt (Nat.lt_of_lt_of_le f121.lt sa_111)
  have Ft1_111 : Fld Z h111 ao "com/example/termvault/termvault/MarkArrays" "positionsTaken" "I" (.int (4 : Int32)) := Ft1_111
  refine Go.trans st111 ?_
  have f122 : own_Pos Z h111 [ao, ap, ag] (((xs ++ [ar_79]) ++ [ar_84]) ++ [ar_97]) sp := (f110.keep Kq111 (allS (List.mem_of_getElem? (i := 0) rfl) (allS (List.mem_of_getElem? (i := 1) rfl) all0)))
  have Ps111 : own_Pos Z h111 [ao, ap, ag] ((((xs ++ [ar_79]) ++ [ar_84]) ++ [ar_97]) ++ [ar_111]) sp := f122.snoc (fun y hy => Nat.ne_of_lt (Nat.lt_of_lt_of_le (f110.lt y hy) sa_111)) (ninS (Ne.symm ne_ao_ar_111) (ninS (Ne.symm ne_ap_ar_111) (ninS (Ne.symm ne_ag_ar_111) nin0))) Er_111 Vr_111
  show Go _ _ _ _ _ _ _ T111 (mkF m 33 #[.val (.ref ao), .val (.ref ag), .val (.int (0 : Int32))] [(.ref ar_111), (.int (3 : Int32)), (.ref ag)])
  have f123 : Arv Z h111 ag kg (.array .long) (18 : Int32) (((vs.set 0 (.ref ar_79)).set 1 (.ref ar_84)).set 2 (.ref ar_97)) .null := (V109.keep Kq111 (ninS (Ne.symm ne1) (ninS (Ne.symm ne2) nin0)))
  obtain ⟨cl124, Ar124, q124, S124, M124, H124, G124⟩ := id (f123)
  have hin124 : ¬ ((3 : Int32) < 0 ∨ cl124.slots.size ≤ ((3 : Int32)).toNatClampNeg) := inb_of S124 ⟨by decide, by decide⟩
  obtain ⟨T124, h124, X124, e124, W124, st124⟩ := stR X111 hx hZ e111 Ar124 (j := (3 : Int32)) hin124 rfl (Sto.ofVA Ar124 q124 ov_ag (Ins.self Er_111)) (g := (mkF m 33 #[.val (.ref ao), .val (.ref ag), .val (.int (0 : Int32))] [(.ref ar_111), (.int (3 : Int32)), (.ref ag)])) rfl rfl (hb hby d3_33)
  refine Go.step st124 ?_
  have V124 : Arv Z h124 ag kg (.array .long) (18 : Int32) ((((vs.set 0 (.ref ar_79)).set 1 (.ref ar_84)).set 2 (.ref ar_97)).set 3 (.ref ar_111)) .null := Arv.set Ar124 q124 S124 M124 H124 G124 rfl W124 3 rfl (by (try simp only [List.length_set]); rw [hlv]; decide)
  have N124 := Fr.snoc X124 N111 g2
  have Z124 : n0 ≤ h124.size := Nat.le_trans Z111 (Keep.of_wr W124).1
  have KK124 : Keep h0 h124 [ao, ap, ag] := KK111.wr W124 (Or.inl (List.mem_of_getElem? (i := 2) rfl))
  show Go _ _ _ _ _ _ _ T124 (mkF m 34 #[.val (.ref ao), .val (.ref ag), .val (.int (0 : Int32))] [])
  have f125 : Exa Z h124 ao "com/example/termvault/termvault/MarkArrays" := (E1_111.wr W124)
  have f126 : Fld Z h124 ao "com/example/termvault/termvault/MarkArrays" "positions" "[[J" (.ref ap) := (Fc1_111.other W124 (Or.inl ne1))
  have f127 : Fld Z h124 ao "com/example/termvault/termvault/MarkArrays" "positionsTaken" "I" (.int (4 : Int32)) := (Ft1_111.other W124 (Or.inl ne1))
  have f128 : Fld Z h124 ao "com/example/termvault/termvault/MarkArrays" "span" "I" (.int sp) := (Fs1_111.other W124 (Or.inl ne1))
  have f129 : Arv Z h124 ap kp (.array .long) (16 : Int32) ((((lc.set (0 : Int32).toNatClampNeg (.ref ar_79)).set (1 : Int32).toNatClampNeg (.ref ar_84)).set (2 : Int32).toNatClampNeg (.ref ar_97)).set (3 : Int32).toNatClampNeg (.ref ar_111)) .null := (Vc1_111.other W124 ne2)
  have f130 : Fld Z h124 ao "com/example/termvault/termvault/MarkArrays" "countsTaken" "I" (.int uo) := (Fo1_111.other W124 (Or.inl ne1))
  have f131 : Fld Z h124 ao "com/example/termvault/termvault/MarkArrays" "counts" "[[I" (.ref aw) := (Fq1_111.other W124 (Or.inl ne1))
  have f132 : own_Pos Z h124 [ao, ap, ag] ((((xs ++ [ar_79]) ++ [ar_84]) ++ [ar_97]) ++ [ar_111]) sp := (Ps111.keep (Keep.of_wr W124) (allS (List.mem_of_getElem? (i := 2) rfl) all0))
  have f133 : Exa Z h124 ar_79 "[J" := ((f119.keep Kq111).wr W124)
  have f134 : Exa Z h124 ar_84 "[J" := ((f120.keep Kq111).wr W124)
  have f135 : Exa Z h124 ar_97 "[J" := ((f121.keep Kq111).wr W124)
  have f136 : Exa Z h124 ar_111 "[J" := (Er_111.wr W124)
  exact Go.ret0 X124 hx hret hlk (hb hby d3_34) e124 (by decide) (by decide) ⟨ar_79, ar_84, ar_97, ar_111, rfl, N124, KK124, f125, f126, f127, f128, f129, f130, f131, V124, f132, f133, f134, f135, f136, sz_ar_79, sz_ar_84, sz_ar_97, sz_ar_111⟩
theorem ef_rmFo4 (m : MethodId) (ao : Addr) (ag : Addr) : entryFrame m #[(.ref ao), (.ref ag), (.int (4 : Int32))] 3 = mkF m 0 #[.val (.ref ao), .val (.ref ag), .val (.int (4 : Int32))] [] := by first | (simp [entryFrame, mkF, argsToLocals, Value.category]; done) | rfl
def Q_rmFo4 (Z : State) (ao : Addr) (ag : Addr) (ap : Addr) (kp : ClassId) (lc : List Value) (kg : ClassId) (vs : List Value) (sp : Int32) (uo : Int32) (aw : Addr) (xs : List Addr) (h0 : Heap) (n0 : Nat) (v : Option Value) (h : Heap) (L : List Loc) : Prop := ∃ x0 : Addr, ∃ x1 : Addr, ∃ x2 : Addr, ∃ x3 : Addr, (v = none) ∧ (Fr n0 L) ∧ (Keep h0 h [ao, ap, ag]) ∧ (Exa Z h ao "com/example/termvault/termvault/MarkArrays") ∧ (Fld Z h ao "com/example/termvault/termvault/MarkArrays" "positions" "[[J" (.ref ap)) ∧ (Fld Z h ao "com/example/termvault/termvault/MarkArrays" "positionsTaken" "I" (.int (8 : Int32))) ∧ (Fld Z h ao "com/example/termvault/termvault/MarkArrays" "span" "I" (.int sp)) ∧ (Arv Z h ap kp (.array .long) (16 : Int32) ((((lc.set (4 : Int32).toNatClampNeg (.ref x0)).set (5 : Int32).toNatClampNeg (.ref x1)).set (6 : Int32).toNatClampNeg (.ref x2)).set (7 : Int32).toNatClampNeg (.ref x3)) .null) ∧ (Fld Z h ao "com/example/termvault/termvault/MarkArrays" "countsTaken" "I" (.int uo)) ∧ (Fld Z h ao "com/example/termvault/termvault/MarkArrays" "counts" "[[I" (.ref aw)) ∧ (Arv Z h ag kg (.array .long) (18 : Int32) ((((vs.set 4 (.ref x0)).set 5 (.ref x1)).set 6 (.ref x2)).set 7 (.ref x3)) .null) ∧ (own_Pos Z h [ao, ap, ag] ((((xs ++ [x0]) ++ [x1]) ++ [x2]) ++ [x3]) sp) ∧ (Exa Z h x0 "[J") ∧ (Exa Z h x1 "[J") ∧ (Exa Z h x2 "[J") ∧ (Exa Z h x3 "[J") ∧ (h0.size ≤ x0) ∧ (h0.size ≤ x1) ∧ (h0.size ≤ x2) ∧ (h0.size ≤ x3)
set_option maxRecDepth 65536 in
set_option maxHeartbeats 40000000 in
theorem rmFo4 (l : Launch) (Z : State) (a0 : Array Value) (hw : ∀ d ∈ tables_1, d.before a0 Z = true) (ws : List Jvm.Cond) (ao : Addr) (ag : Addr) (ap : Addr) (kp : ClassId) (lc : List Value) (kg : ClassId) (vs : List Value) (sp : Int32) (uo : Int32) (aw : Addr) (xs : List Addr) (h0 : Heap) (n0 : Nat) (Z0 : n0 ≤ h0.size) (E0 : Exa Z h0 ao "com/example/termvault/termvault/MarkArrays") (Fc : Fld Z h0 ao "com/example/termvault/termvault/MarkArrays" "positions" "[[J" (.ref ap)) (Ft : Fld Z h0 ao "com/example/termvault/termvault/MarkArrays" "positionsTaken" "I" (.int (4 : Int32))) (Fs : Fld Z h0 ao "com/example/termvault/termvault/MarkArrays" "span" "I" (.int sp)) (Vc : Arv Z h0 ap kp (.array .long) (16 : Int32) lc .null) (Fo : Fld Z h0 ao "com/example/termvault/termvault/MarkArrays" "countsTaken" "I" (.int uo)) (Fq : Fld Z h0 ao "com/example/termvault/termvault/MarkArrays" "counts" "[[I" (.ref aw)) (Vg : Arv Z h0 ag kg (.array .long) (18 : Int32) vs .null) (P0 : own_Pos Z h0 [ao, ap, ag] xs sp) (ov_ap : OvrA Z kp .long "[J") (ov_ag : OvrA Z kg .long "[J") (g0 : n0 ≤ ao) (g1 : n0 ≤ ap) (g2 : n0 ≤ ag) (ne0 : ao ≠ ap) (ne1 : ao ≠ ag) (ne2 : ap ≠ ag) (hl : lc.length = (16 : Int32).toNatClampNeg) (hlv : vs.length = 18) (hn0 : lc.getD (4 : Int32).toNatClampNeg .null = .null) (hn1 : lc.getD (5 : Int32).toNatClampNeg .null = .null) (hn2 : lc.getD (6 : Int32).toNatClampNeg .null = .null) (hn3 : lc.getD (7 : Int32).toNatClampNeg .null = .null) (hs0 : ¬ (sp < (0 : Int32))) (hs1 : ¬ ((7 : Int32) < sp)) :
    MetFree l (⟨"com/example/termvault/termvault/MarkArraysPositionsPinLaw", "four", "(Lcom/example/termvault/termvault/MarkArrays;[[JI)V"⟩ : MethodName) (head1 (Jvm.Cond.code (⟨"com/example/termvault/termvault/MarkArraysPositionsPinLaw", "four", "(Lcom/example/termvault/termvault/MarkArrays;[[JI)V"⟩ : MethodName) method_2_code 3 none :: ws) ({ frames := 1, cells := 4, slots := 28, locals := 14 } : Room)) (fun aA U => aA = #[(.ref ao), (.ref ag), (.int (4 : Int32))] ∧ Z.Warmed39 U.vm ∧ U.heap = h0) (fun _ _ _ _ _ => True) (fun _ U o U' => ∃ v L, o = .returned v ∧ Q_rmFo4 Z ao ag ap kp lc kg vs sp uo aw xs h0 n0 v U'.heap L ∧ FrameEnd U o U' L ({ frames := 1, cells := 4, slots := 28, locals := 14 } : Room).cells ({ frames := 1, cells := 4, slots := 28, locals := 14 } : Room).slots) := by
  refine MetFree.of_bodySF (plainFor_of_name pn_com_example_termvault_termvault_MarkArraysPositionsPinLaw) hisR ?_
  intro p e s m args below meth c s₁ Bd hml0 hP hK
  obtain ⟨rfl, hZ, hh⟩ := hP
  have hx := Bd.exec
  have hby := Bd.bytes
  have hml : c.maxLocals = 3 := hml0
  have hown : s.vm.findClass "com/example/termvault/termvault/MarkArraysPositionsPinLaw" = some m.cls := findClass_of_methodNamed Bd.named
  have hnm := (name_of_methodNamed Bd.named Bd.method).1
  have hret := Bd.returns
  have hlk : meth.locks = false := BodyLoose.notSynchronized Bd
  have X0 : Stand p l e ({ frames := 1, cells := 4, slots := 28, locals := 14 } : Room) s m #[(.ref ao), (.ref ag), (.int (4 : Int32))] below meth c s₁ [] 0 0 := Stand.of_body Bd
  have e0 : s₁.heap = h0 := by rw [← hh, Bd.state]; rfl
  have N0 := Fr.nil n0
  suffices hgo : Go p e below s ({ frames := 1, cells := 4, slots := 28, locals := 14 } : Room).cells ({ frames := 1, cells := 4, slots := 28, locals := 14 } : Room).slots (Q_rmFo4 Z ao ag ap kp lc kg vs sp uo aw xs h0 n0) s₁ (mkF m 0 #[.val (.ref ao), .val (.ref ag), .val (.int (4 : Int32))] []) from hgo.enter (ef_rmFo4 m ao ag)
  refine Go.step (fun _ k => XS.aloadN X0.here hx rfl (hb hby d3_0) rfl rfl k) ?_
  show Go _ _ _ _ _ _ _ s₁ (mkF m 1 #[.val (.ref ao), .val (.ref ag), .val (.int (4 : Int32))] [(.ref ag)])
  refine Go.step (fun _ k => XS.iloadN X0.here hx rfl (hb hby d3_1) rfl k) ?_
  show Go _ _ _ _ _ _ _ s₁ (mkF m 2 #[.val (.ref ao), .val (.ref ag), .val (.int (4 : Int32))] [(.int (4 : Int32)), (.ref ag)])
  refine Go.step (fun _ k => XS.aloadN X0.here hx rfl (hb hby d3_2) rfl rfl k) ?_
  show Go _ _ _ _ _ _ _ s₁ (mkF m 3 #[.val (.ref ao), .val (.ref ag), .val (.int (4 : Int32))] [(.ref ao), (.int (4 : Int32)), (.ref ag)])
  obtain ⟨cq137, kq137, q137a, q137b, q137c⟩ := isOf hZ e0 E0
  obtain ⟨_, _, ⟨T137, L137, k137, n137⟩, -, X137, ⟨Lc137, hQ137, l137, y137, z137⟩, st137⟩ := X0.virtualBack hx (y := (⟨"com/example/termvault/termvault/MarkArrays", "positions", "()[J"⟩ : MethodName)) (z := (⟨"com/example/termvault/termvault/MarkArrays", "positions", "()[J"⟩ : MethodName)) hown (mvT hZ (hw _ (List.mem_of_getElem? (i := 24) rfl))) (mvT hZ (hw _ (List.mem_of_getElem? (i := 25) rfl))) (notFace_of_selects (args := #[]) (mvT hZ (hw _ (List.mem_of_getElem? (i := 27) rfl)))) (mvT hZ (hw _ (List.mem_of_getElem? (i := 27) rfl))) (mvT hZ (hw _ (List.mem_of_getElem? (i := 26) rfl))) (by decide) (backOf (W := 2) (rmPt l Z a0 hw [] ao ap kp lc (4 : Int32) sp uo aw h0 n0 Z0 E0 Fc Ft Fs Vc Fo Fq ov_ap g0 g1 ne0 (by decide) (by decide) hl hn0 hs0 hs1) hZ (hw _ (List.mem_of_getElem? (i := 28) rfl)) (hw _ (List.mem_of_getElem? (i := 2) rfl)) (by decide) (by decide)) q137a q137c (g := (mkF m 3 #[.val (.ref ao), .val (.ref ag), .val (.int (4 : Int32))] [(.ref ao), (.int (4 : Int32)), (.ref ag)])) rfl (by rw [hml]; rfl) (Steps.refl _) (argsL := []) (rest := [(.int (4 : Int32)), (.ref ag)]) (lenOf pd____J rfl) rfl (by show 2 * 0 + _ ≤ _; exact Nat.le_of_eq rfl) (hb hby d3_3) (fun _ _ => ⟨rfl, e0, (by decide : 0 + 1 ≤ _), (by decide : 0 + 7 ≤ _)⟩)
  dsimp only [Pt.U, Pt.locs, Pt.cells, Pt.slots] at X137 l137 y137 z137 st137 hQ137
  subst l137 y137 z137
  obtain ⟨h137, e137⟩ : ∃ h, T137.heap = h := ⟨_, rfl⟩
  rw [e137] at hQ137
  obtain ⟨ar_137, kr_137, rfl, Nq137, Kq137, sa_137, E1_137, Fc1_137, Ft1_137, Fs1_137, Fo1_137, Fq1_137, Vc1_137, Vr_137, Er_137⟩ := hQ137
  have N137 := Fr.app N0 Nq137
  have Z137 : n0 ≤ h137.size := Nat.le_trans Z0 Kq137.1
  have KK137 : Keep h0 h137 [ao, ap, ag] := (Keep.refl h0 [ao, ap, ag]).trans Kq137 (allS (Or.inl (List.mem_of_getElem? (i := 0) rfl)) (allS (Or.inl (List.mem_of_getElem? (i := 1) rfl)) all0))
  have g_ar_137 : n0 ≤ ar_137 := Nat.le_trans Z0 sa_137
  have sz_ar_137 : h0.size ≤ ar_137 := Nat.le_trans (Keep.refl h0 [ao, ap, ag]).1 sa_137
  have ne_ag_ar_137 : ag ≠ ar_137 := Nat.ne_of_lt (Nat.lt_of_lt_of_le Vg.lt sa_137)
  have ne_ao_ar_137 : ao ≠ ar_137 := Nat.ne_of_lt (Nat.lt_of_lt_of_le E0.lt sa_137)
  have ne_ap_ar_137 : ap ≠ ar_137 := Nat.ne_of_lt (Nat.lt_of_lt_of_le Vc.lt sa_137)
  have Ft1_137 : Fld Z h137 ao "com/example/termvault/termvault/MarkArrays" "positionsTaken" "I" (.int (5 : Int32)) := Ft1_137
  refine Go.trans st137 ?_
  have f138 : own_Pos Z h137 [ao, ap, ag] xs sp := (P0.keep Kq137 (allS (List.mem_of_getElem? (i := 0) rfl) (allS (List.mem_of_getElem? (i := 1) rfl) all0)))
  have Ps137 : own_Pos Z h137 [ao, ap, ag] (xs ++ [ar_137]) sp := f138.snoc (fun y hy => Nat.ne_of_lt (Nat.lt_of_lt_of_le (P0.lt y hy) sa_137)) (ninS (Ne.symm ne_ao_ar_137) (ninS (Ne.symm ne_ap_ar_137) (ninS (Ne.symm ne_ag_ar_137) nin0))) Er_137 Vr_137
  show Go _ _ _ _ _ _ _ T137 (mkF m 6 #[.val (.ref ao), .val (.ref ag), .val (.int (4 : Int32))] [(.ref ar_137), (.int (4 : Int32)), (.ref ag)])
  have f139 : Arv Z h137 ag kg (.array .long) (18 : Int32) vs .null := (Vg.keep Kq137 (ninS (Ne.symm ne1) (ninS (Ne.symm ne2) nin0)))
  obtain ⟨cl140, Ar140, q140, S140, M140, H140, G140⟩ := id (f139)
  have hin140 : ¬ ((4 : Int32) < 0 ∨ cl140.slots.size ≤ ((4 : Int32)).toNatClampNeg) := inb_of S140 ⟨by decide, by decide⟩
  obtain ⟨T140, h140, X140, e140, W140, st140⟩ := stR X137 hx hZ e137 Ar140 (j := (4 : Int32)) hin140 rfl (Sto.ofVA Ar140 q140 ov_ag (Ins.self Er_137)) (g := (mkF m 6 #[.val (.ref ao), .val (.ref ag), .val (.int (4 : Int32))] [(.ref ar_137), (.int (4 : Int32)), (.ref ag)])) rfl rfl (hb hby d3_6)
  refine Go.step st140 ?_
  have V140 : Arv Z h140 ag kg (.array .long) (18 : Int32) (vs.set 4 (.ref ar_137)) .null := Arv.set Ar140 q140 S140 M140 H140 G140 rfl W140 4 rfl (by (try simp only [List.length_set]); rw [hlv]; decide)
  have N140 := Fr.snoc X140 N137 g2
  have Z140 : n0 ≤ h140.size := Nat.le_trans Z137 (Keep.of_wr W140).1
  have KK140 : Keep h0 h140 [ao, ap, ag] := KK137.wr W140 (Or.inl (List.mem_of_getElem? (i := 2) rfl))
  show Go _ _ _ _ _ _ _ T140 (mkF m 7 #[.val (.ref ao), .val (.ref ag), .val (.int (4 : Int32))] [])
  refine Go.step (fun _ k => XS.aloadN X140.here hx rfl (hb hby d3_7) rfl rfl k) ?_
  show Go _ _ _ _ _ _ _ T140 (mkF m 8 #[.val (.ref ao), .val (.ref ag), .val (.int (4 : Int32))] [(.ref ag)])
  refine Go.step (fun _ k => XS.iloadN X140.here hx rfl (hb hby d3_8) rfl k) ?_
  show Go _ _ _ _ _ _ _ T140 (mkF m 9 #[.val (.ref ao), .val (.ref ag), .val (.int (4 : Int32))] [(.int (4 : Int32)), (.ref ag)])
  refine Go.step (fun _ k => XS.iconst X140.here hx rfl (hb hby d3_9) k) ?_
  show Go _ _ _ _ _ _ _ T140 (mkF m 10 #[.val (.ref ao), .val (.ref ag), .val (.int (4 : Int32))] [(.int (1 : Int32)), (.int (4 : Int32)), (.ref ag)])
  refine Go.step (fun _ k => XS.iadd X140.here hx rfl (hb hby d3_10) rfl k) ?_
  show Go _ _ _ _ _ _ _ T140 (mkF m 11 #[.val (.ref ao), .val (.ref ag), .val (.int (4 : Int32))] [(.int (5 : Int32)), (.ref ag)])
  refine Go.step (fun _ k => XS.aloadN X140.here hx rfl (hb hby d3_11) rfl rfl k) ?_
  show Go _ _ _ _ _ _ _ T140 (mkF m 12 #[.val (.ref ao), .val (.ref ag), .val (.int (4 : Int32))] [(.ref ao), (.int (5 : Int32)), (.ref ag)])
  have f141 : own_Pos Z h140 [ao, ap, ag] (xs ++ [ar_137]) sp := (Ps137.keep (Keep.of_wr W140) (allS (List.mem_of_getElem? (i := 2) rfl) all0))
  have f143 : Exa Z h140 ao "com/example/termvault/termvault/MarkArrays" := (E1_137.wr W140)
  have f144 : Fld Z h140 ao "com/example/termvault/termvault/MarkArrays" "positions" "[[J" (.ref ap) := (Fc1_137.other W140 (Or.inl ne1))
  have f145 : Fld Z h140 ao "com/example/termvault/termvault/MarkArrays" "positionsTaken" "I" (.int (5 : Int32)) := (Ft1_137.other W140 (Or.inl ne1))
  have f146 : Fld Z h140 ao "com/example/termvault/termvault/MarkArrays" "span" "I" (.int sp) := (Fs1_137.other W140 (Or.inl ne1))
  have f147 : Arv Z h140 ap kp (.array .long) (16 : Int32) (lc.set (4 : Int32).toNatClampNeg (.ref ar_137)) .null := (Vc1_137.other W140 ne2)
  have f148 : Fld Z h140 ao "com/example/termvault/termvault/MarkArrays" "countsTaken" "I" (.int uo) := (Fo1_137.other W140 (Or.inl ne1))
  have f149 : Fld Z h140 ao "com/example/termvault/termvault/MarkArrays" "counts" "[[I" (.ref aw) := (Fq1_137.other W140 (Or.inl ne1))
  obtain ⟨cq142, kq142, q142a, q142b, q142c⟩ := isOf hZ e140 f143
  obtain ⟨_, _, ⟨T142, L142, k142, n142⟩, -, X142, ⟨Lc142, hQ142, l142, y142, z142⟩, st142⟩ := X140.virtualBack hx (y := (⟨"com/example/termvault/termvault/MarkArrays", "positions", "()[J"⟩ : MethodName)) (z := (⟨"com/example/termvault/termvault/MarkArrays", "positions", "()[J"⟩ : MethodName)) hown (mvT hZ (hw _ (List.mem_of_getElem? (i := 24) rfl))) (mvT hZ (hw _ (List.mem_of_getElem? (i := 25) rfl))) (notFace_of_selects (args := #[]) (mvT hZ (hw _ (List.mem_of_getElem? (i := 27) rfl)))) (mvT hZ (hw _ (List.mem_of_getElem? (i := 27) rfl))) (mvT hZ (hw _ (List.mem_of_getElem? (i := 26) rfl))) (by decide) (backOf (W := 2) (rmPt l Z a0 hw [] ao ap kp (lc.set (4 : Int32).toNatClampNeg (.ref ar_137)) (5 : Int32) sp uo aw h140 n0 Z140 f143 f144 f145 f146 f147 f148 f149 ov_ap g0 g1 ne0 (by decide) (by decide) (by simp only [List.length_set]; exact hl) ((own_n (by decide)).trans hn1) hs0 hs1) hZ (hw _ (List.mem_of_getElem? (i := 28) rfl)) (hw _ (List.mem_of_getElem? (i := 2) rfl)) (by decide) (by decide)) q142a q142c (g := (mkF m 12 #[.val (.ref ao), .val (.ref ag), .val (.int (4 : Int32))] [(.ref ao), (.int (5 : Int32)), (.ref ag)])) rfl (by rw [hml]; rfl) (Steps.refl _) (argsL := []) (rest := [(.int (5 : Int32)), (.ref ag)]) (lenOf pd____J rfl) rfl (by show 2 * 0 + _ ≤ _; exact Nat.le_of_eq rfl) (hb hby d3_12) (fun _ _ => ⟨rfl, e140, (by decide : 1 + 1 ≤ _), (by decide : 7 + 7 ≤ _)⟩)
  dsimp only [Pt.U, Pt.locs, Pt.cells, Pt.slots] at X142 l142 y142 z142 st142 hQ142
  subst l142 y142 z142
  obtain ⟨h142, e142⟩ : ∃ h, T142.heap = h := ⟨_, rfl⟩
  rw [e142] at hQ142
  have f150 : Exa Z h140 ar_137 "[J" := (Er_137.wr W140)
  obtain ⟨ar_142, kr_142, rfl, Nq142, Kq142, sa_142, E1_142, Fc1_142, Ft1_142, Fs1_142, Fo1_142, Fq1_142, Vc1_142, Vr_142, Er_142⟩ := hQ142
  have N142 := Fr.app N140 Nq142
  have Z142 : n0 ≤ h142.size := Nat.le_trans Z140 Kq142.1
  have KK142 : Keep h0 h142 [ao, ap, ag] := KK140.trans Kq142 (allS (Or.inl (List.mem_of_getElem? (i := 0) rfl)) (allS (Or.inl (List.mem_of_getElem? (i := 1) rfl)) all0))
  have g_ar_142 : n0 ≤ ar_142 := Nat.le_trans Z140 sa_142
  have sz_ar_142 : h0.size ≤ ar_142 := Nat.le_trans KK140.1 sa_142
  have ne_ag_ar_142 : ag ≠ ar_142 := Nat.ne_of_lt (Nat.lt_of_lt_of_le V140.lt sa_142)
  have ne_ao_ar_142 : ao ≠ ar_142 := Nat.ne_of_lt (Nat.lt_of_lt_of_le f143.lt sa_142)
  have ne_ap_ar_142 : ap ≠ ar_142 := Nat.ne_of_lt (Nat.lt_of_lt_of_le f147.lt sa_142)
  have ne_ar_137_ar_142 : ar_137 ≠ ar_142 := Nat.ne_of_lt (Nat.lt_of_lt_of_le f150.lt sa_142)
  have Ft1_142 : Fld Z h142 ao "com/example/termvault/termvault/MarkArrays" "positionsTaken" "I" (.int (6 : Int32)) := Ft1_142
  refine Go.trans st142 ?_
  have f151 : own_Pos Z h142 [ao, ap, ag] (xs ++ [ar_137]) sp := (f141.keep Kq142 (allS (List.mem_of_getElem? (i := 0) rfl) (allS (List.mem_of_getElem? (i := 1) rfl) all0)))
  have Ps142 : own_Pos Z h142 [ao, ap, ag] ((xs ++ [ar_137]) ++ [ar_142]) sp := f151.snoc (fun y hy => Nat.ne_of_lt (Nat.lt_of_lt_of_le (f141.lt y hy) sa_142)) (ninS (Ne.symm ne_ao_ar_142) (ninS (Ne.symm ne_ap_ar_142) (ninS (Ne.symm ne_ag_ar_142) nin0))) Er_142 Vr_142
  show Go _ _ _ _ _ _ _ T142 (mkF m 15 #[.val (.ref ao), .val (.ref ag), .val (.int (4 : Int32))] [(.ref ar_142), (.int (5 : Int32)), (.ref ag)])
  have f152 : Arv Z h142 ag kg (.array .long) (18 : Int32) (vs.set 4 (.ref ar_137)) .null := (V140.keep Kq142 (ninS (Ne.symm ne1) (ninS (Ne.symm ne2) nin0)))
  obtain ⟨cl153, Ar153, q153, S153, M153, H153, G153⟩ := id (f152)
  have hin153 : ¬ ((5 : Int32) < 0 ∨ cl153.slots.size ≤ ((5 : Int32)).toNatClampNeg) := inb_of S153 ⟨by decide, by decide⟩
  obtain ⟨T153, h153, X153, e153, W153, st153⟩ := stR X142 hx hZ e142 Ar153 (j := (5 : Int32)) hin153 rfl (Sto.ofVA Ar153 q153 ov_ag (Ins.self Er_142)) (g := (mkF m 15 #[.val (.ref ao), .val (.ref ag), .val (.int (4 : Int32))] [(.ref ar_142), (.int (5 : Int32)), (.ref ag)])) rfl rfl (hb hby d3_15)
  refine Go.step st153 ?_
  have V153 : Arv Z h153 ag kg (.array .long) (18 : Int32) ((vs.set 4 (.ref ar_137)).set 5 (.ref ar_142)) .null := Arv.set Ar153 q153 S153 M153 H153 G153 rfl W153 5 rfl (by (try simp only [List.length_set]); rw [hlv]; decide)
  have N153 := Fr.snoc X153 N142 g2
  have Z153 : n0 ≤ h153.size := Nat.le_trans Z142 (Keep.of_wr W153).1
  have KK153 : Keep h0 h153 [ao, ap, ag] := KK142.wr W153 (Or.inl (List.mem_of_getElem? (i := 2) rfl))
  show Go _ _ _ _ _ _ _ T153 (mkF m 16 #[.val (.ref ao), .val (.ref ag), .val (.int (4 : Int32))] [])
  refine Go.step (fun _ k => XS.aloadN X153.here hx rfl (hb hby d3_16) rfl rfl k) ?_
  show Go _ _ _ _ _ _ _ T153 (mkF m 17 #[.val (.ref ao), .val (.ref ag), .val (.int (4 : Int32))] [(.ref ag)])
  refine Go.step (fun _ k => XS.iloadN X153.here hx rfl (hb hby d3_17) rfl k) ?_
  show Go _ _ _ _ _ _ _ T153 (mkF m 18 #[.val (.ref ao), .val (.ref ag), .val (.int (4 : Int32))] [(.int (4 : Int32)), (.ref ag)])
  refine Go.step (fun _ k => XS.iconst X153.here hx rfl (hb hby d3_18) k) ?_
  show Go _ _ _ _ _ _ _ T153 (mkF m 19 #[.val (.ref ao), .val (.ref ag), .val (.int (4 : Int32))] [(.int (2 : Int32)), (.int (4 : Int32)), (.ref ag)])
  refine Go.step (fun _ k => XS.iadd X153.here hx rfl (hb hby d3_19) rfl k) ?_
  show Go _ _ _ _ _ _ _ T153 (mkF m 20 #[.val (.ref ao), .val (.ref ag), .val (.int (4 : Int32))] [(.int (6 : Int32)), (.ref ag)])
  refine Go.step (fun _ k => XS.aloadN X153.here hx rfl (hb hby d3_20) rfl rfl k) ?_
  show Go _ _ _ _ _ _ _ T153 (mkF m 21 #[.val (.ref ao), .val (.ref ag), .val (.int (4 : Int32))] [(.ref ao), (.int (6 : Int32)), (.ref ag)])
  have f154 : own_Pos Z h153 [ao, ap, ag] ((xs ++ [ar_137]) ++ [ar_142]) sp := (Ps142.keep (Keep.of_wr W153) (allS (List.mem_of_getElem? (i := 2) rfl) all0))
  have f156 : Exa Z h153 ao "com/example/termvault/termvault/MarkArrays" := (E1_142.wr W153)
  have f157 : Fld Z h153 ao "com/example/termvault/termvault/MarkArrays" "positions" "[[J" (.ref ap) := (Fc1_142.other W153 (Or.inl ne1))
  have f158 : Fld Z h153 ao "com/example/termvault/termvault/MarkArrays" "positionsTaken" "I" (.int (6 : Int32)) := (Ft1_142.other W153 (Or.inl ne1))
  have f159 : Fld Z h153 ao "com/example/termvault/termvault/MarkArrays" "span" "I" (.int sp) := (Fs1_142.other W153 (Or.inl ne1))
  have f160 : Arv Z h153 ap kp (.array .long) (16 : Int32) ((lc.set (4 : Int32).toNatClampNeg (.ref ar_137)).set (5 : Int32).toNatClampNeg (.ref ar_142)) .null := (Vc1_142.other W153 ne2)
  have f161 : Fld Z h153 ao "com/example/termvault/termvault/MarkArrays" "countsTaken" "I" (.int uo) := (Fo1_142.other W153 (Or.inl ne1))
  have f162 : Fld Z h153 ao "com/example/termvault/termvault/MarkArrays" "counts" "[[I" (.ref aw) := (Fq1_142.other W153 (Or.inl ne1))
  obtain ⟨cq155, kq155, q155a, q155b, q155c⟩ := isOf hZ e153 f156
  obtain ⟨_, _, ⟨T155, L155, k155, n155⟩, -, X155, ⟨Lc155, hQ155, l155, y155, z155⟩, st155⟩ := X153.virtualBack hx (y := (⟨"com/example/termvault/termvault/MarkArrays", "positions", "()[J"⟩ : MethodName)) (z := (⟨"com/example/termvault/termvault/MarkArrays", "positions", "()[J"⟩ : MethodName)) hown (mvT hZ (hw _ (List.mem_of_getElem? (i := 24) rfl))) (mvT hZ (hw _ (List.mem_of_getElem? (i := 25) rfl))) (notFace_of_selects (args := #[]) (mvT hZ (hw _ (List.mem_of_getElem? (i := 27) rfl)))) (mvT hZ (hw _ (List.mem_of_getElem? (i := 27) rfl))) (mvT hZ (hw _ (List.mem_of_getElem? (i := 26) rfl))) (by decide) (backOf (W := 2) (rmPt l Z a0 hw [] ao ap kp ((lc.set (4 : Int32).toNatClampNeg (.ref ar_137)).set (5 : Int32).toNatClampNeg (.ref ar_142)) (6 : Int32) sp uo aw h153 n0 Z153 f156 f157 f158 f159 f160 f161 f162 ov_ap g0 g1 ne0 (by decide) (by decide) (by simp only [List.length_set]; exact hl) ((own_n (by decide)).trans ((own_n (by decide)).trans hn2)) hs0 hs1) hZ (hw _ (List.mem_of_getElem? (i := 28) rfl)) (hw _ (List.mem_of_getElem? (i := 2) rfl)) (by decide) (by decide)) q155a q155c (g := (mkF m 21 #[.val (.ref ao), .val (.ref ag), .val (.int (4 : Int32))] [(.ref ao), (.int (6 : Int32)), (.ref ag)])) rfl (by rw [hml]; rfl) (Steps.refl _) (argsL := []) (rest := [(.int (6 : Int32)), (.ref ag)]) (lenOf pd____J rfl) rfl (by show 2 * 0 + _ ≤ _; exact Nat.le_of_eq rfl) (hb hby d3_21) (fun _ _ => ⟨rfl, e153, (by decide : 2 + 1 ≤ _), (by decide : 14 + 7 ≤ _)⟩)
  dsimp only [Pt.U, Pt.locs, Pt.cells, Pt.slots] at X155 l155 y155 z155 st155 hQ155
  subst l155 y155 z155
  obtain ⟨h155, e155⟩ : ∃ h, T155.heap = h := ⟨_, rfl⟩
  rw [e155] at hQ155
  have f163 : Exa Z h153 ar_137 "[J" := ((f150.keep Kq142).wr W153)
  have f164 : Exa Z h153 ar_142 "[J" := (Er_142.wr W153)
  obtain ⟨ar_155, kr_155, rfl, Nq155, Kq155, sa_155, E1_155, Fc1_155, Ft1_155, Fs1_155, Fo1_155, Fq1_155, Vc1_155, Vr_155, Er_155⟩ := hQ155
  have N155 := Fr.app N153 Nq155
  have Z155 : n0 ≤ h155.size := Nat.le_trans Z153 Kq155.1
  have KK155 : Keep h0 h155 [ao, ap, ag] := KK153.trans Kq155 (allS (Or.inl (List.mem_of_getElem? (i := 0) rfl)) (allS (Or.inl (List.mem_of_getElem? (i := 1) rfl)) all0))
  have g_ar_155 : n0 ≤ ar_155 := Nat.le_trans Z153 sa_155
  have sz_ar_155 : h0.size ≤ ar_155 := Nat.le_trans KK153.1 sa_155
  have ne_ag_ar_155 : ag ≠ ar_155 := Nat.ne_of_lt (Nat.lt_of_lt_of_le V153.lt sa_155)
  have ne_ao_ar_155 : ao ≠ ar_155 := Nat.ne_of_lt (Nat.lt_of_lt_of_le f156.lt sa_155)
  have ne_ap_ar_155 : ap ≠ ar_155 := Nat.ne_of_lt (Nat.lt_of_lt_of_le f160.lt sa_155)
  have ne_ar_137_ar_155 : ar_137 ≠ ar_155 := Nat.ne_of_lt (Nat.lt_of_lt_of_le f163.lt sa_155)
  have ne_ar_142_ar_155 : ar_142 ≠ ar_155 := Nat.ne_of_lt (Nat.lt_of_lt_of_le f164.lt sa_155)
  have Ft1_155 : Fld Z h155 ao "com/example/termvault/termvault/MarkArrays" "positionsTaken" "I" (.int (7 : Int32)) := Ft1_155
  refine Go.trans st155 ?_
  have f165 : own_Pos Z h155 [ao, ap, ag] ((xs ++ [ar_137]) ++ [ar_142]) sp := (f154.keep Kq155 (allS (List.mem_of_getElem? (i := 0) rfl) (allS (List.mem_of_getElem? (i := 1) rfl) all0)))
  have Ps155 : own_Pos Z h155 [ao, ap, ag] (((xs ++ [ar_137]) ++ [ar_142]) ++ [ar_155]) sp := f165.snoc (fun y hy => Nat.ne_of_lt (Nat.lt_of_lt_of_le (f154.lt y hy) sa_155)) (ninS (Ne.symm ne_ao_ar_155) (ninS (Ne.symm ne_ap_ar_155) (ninS (Ne.symm ne_ag_ar_155) nin0))) Er_155 Vr_155
  show Go _ _ _ _ _ _ _ T155 (mkF m 24 #[.val (.ref ao), .val (.ref ag), .val (.int (4 : Int32))] [(.ref ar_155), (.int (6 : Int32)), (.ref ag)])
  have f166 : Arv Z h155 ag kg (.array .long) (18 : Int32) ((vs.set 4 (.ref ar_137)).set 5 (.ref ar_142)) .null := (V153.keep Kq155 (ninS (Ne.symm ne1) (ninS (Ne.symm ne2) nin0)))
  obtain ⟨cl167, Ar167, q167, S167, M167, H167, G167⟩ := id (f166)
  have hin167 : ¬ ((6 : Int32) < 0 ∨ cl167.slots.size ≤ ((6 : Int32)).toNatClampNeg) := inb_of S167 ⟨by decide, by decide⟩
  obtain ⟨T167, h167, X167, e167, W167, st167⟩ := stR X155 hx hZ e155 Ar167 (j := (6 : Int32)) hin167 rfl (Sto.ofVA Ar167 q167 ov_ag (Ins.self Er_155)) (g := (mkF m 24 #[.val (.ref ao), .val (.ref ag), .val (.int (4 : Int32))] [(.ref ar_155), (.int (6 : Int32)), (.ref ag)])) rfl rfl (hb hby d3_24)
  refine Go.step st167 ?_
  have V167 : Arv Z h167 ag kg (.array .long) (18 : Int32) (((vs.set 4 (.ref ar_137)).set 5 (.ref ar_142)).set 6 (.ref ar_155)) .null := Arv.set Ar167 q167 S167 M167 H167 G167 rfl W167 6 rfl (by (try simp only [List.length_set]); rw [hlv]; decide)
  have N167 := Fr.snoc X167 N155 g2
  have Z167 : n0 ≤ h167.size := Nat.le_trans Z155 (Keep.of_wr W167).1
  have KK167 : Keep h0 h167 [ao, ap, ag] := KK155.wr W167 (Or.inl (List.mem_of_getElem? (i := 2) rfl))
  show Go _ _ _ _ _ _ _ T167 (mkF m 25 #[.val (.ref ao), .val (.ref ag), .val (.int (4 : Int32))] [])
  refine Go.step (fun _ k => XS.aloadN X167.here hx rfl (hb hby d3_25) rfl rfl k) ?_
  show Go _ _ _ _ _ _ _ T167 (mkF m 26 #[.val (.ref ao), .val (.ref ag), .val (.int (4 : Int32))] [(.ref ag)])
  refine Go.step (fun _ k => XS.iloadN X167.here hx rfl (hb hby d3_26) rfl k) ?_
  show Go _ _ _ _ _ _ _ T167 (mkF m 27 #[.val (.ref ao), .val (.ref ag), .val (.int (4 : Int32))] [(.int (4 : Int32)), (.ref ag)])
  refine Go.step (fun _ k => XS.iconst X167.here hx rfl (hb hby d3_27) k) ?_
  show Go _ _ _ _ _ _ _ T167 (mkF m 28 #[.val (.ref ao), .val (.ref ag), .val (.int (4 : Int32))] [(.int (3 : Int32)), (.int (4 : Int32)), (.ref ag)])
  refine Go.step (fun _ k => XS.iadd X167.here hx rfl (hb hby d3_28) rfl k) ?_
  show Go _ _ _ _ _ _ _ T167 (mkF m 29 #[.val (.ref ao), .val (.ref ag), .val (.int (4 : Int32))] [(.int (7 : Int32)), (.ref ag)])
  refine Go.step (fun _ k => XS.aloadN X167.here hx rfl (hb hby d3_29) rfl rfl k) ?_
  show Go _ _ _ _ _ _ _ T167 (mkF m 30 #[.val (.ref ao), .val (.ref ag), .val (.int (4 : Int32))] [(.ref ao), (.int (7 : Int32)), (.ref ag)])
  have f168 : own_Pos Z h167 [ao, ap, ag] (((xs ++ [ar_137]) ++ [ar_142]) ++ [ar_155]) sp := (Ps155.keep (Keep.of_wr W167) (allS (List.mem_of_getElem? (i := 2) rfl) all0))
  have f170 : Exa Z h167 ao "com/example/termvault/termvault/MarkArrays" := (E1_155.wr W167)
  have f171 : Fld Z h167 ao "com/example/termvault/termvault/MarkArrays" "positions" "[[J" (.ref ap) := (Fc1_155.other W167 (Or.inl ne1))
  have f172 : Fld Z h167 ao "com/example/termvault/termvault/MarkArrays" "positionsTaken" "I" (.int (7 : Int32)) := (Ft1_155.other W167 (Or.inl ne1))
  have f173 : Fld Z h167 ao "com/example/termvault/termvault/MarkArrays" "span" "I" (.int sp) := (Fs1_155.other W167 (Or.inl ne1))
  have f174 : Arv Z h167 ap kp (.array .long) (16 : Int32) (((lc.set (4 : Int32).toNatClampNeg (.ref ar_137)).set (5 : Int32).toNatClampNeg (.ref ar_142)).set (6 : Int32).toNatClampNeg (.ref ar_155)) .null := (Vc1_155.other W167 ne2)
  have f175 : Fld Z h167 ao "com/example/termvault/termvault/MarkArrays" "countsTaken" "I" (.int uo) := (Fo1_155.other W167 (Or.inl ne1))
  have f176 : Fld Z h167 ao "com/example/termvault/termvault/MarkArrays" "counts" "[[I" (.ref aw) := (Fq1_155.other W167 (Or.inl ne1))
  obtain ⟨cq169, kq169, q169a, q169b, q169c⟩ := isOf hZ e167 f170
  obtain ⟨_, _, ⟨T169, L169, k169, n169⟩, -, X169, ⟨Lc169, hQ169, l169, y169, z169⟩, st169⟩ := X167.virtualBack hx (y := (⟨"com/example/termvault/termvault/MarkArrays", "positions", "()[J"⟩ : MethodName)) (z := (⟨"com/example/termvault/termvault/MarkArrays", "positions", "()[J"⟩ : MethodName)) hown (mvT hZ (hw _ (List.mem_of_getElem? (i := 24) rfl))) (mvT hZ (hw _ (List.mem_of_getElem? (i := 25) rfl))) (notFace_of_selects (args := #[]) (mvT hZ (hw _ (List.mem_of_getElem? (i := 27) rfl)))) (mvT hZ (hw _ (List.mem_of_getElem? (i := 27) rfl))) (mvT hZ (hw _ (List.mem_of_getElem? (i := 26) rfl))) (by decide) (backOf (W := 2) (rmPt l Z a0 hw [] ao ap kp (((lc.set (4 : Int32).toNatClampNeg (.ref ar_137)).set (5 : Int32).toNatClampNeg (.ref ar_142)).set (6 : Int32).toNatClampNeg (.ref ar_155)) (7 : Int32) sp uo aw h167 n0 Z167 f170 f171 f172 f173 f174 f175 f176 ov_ap g0 g1 ne0 (by decide) (by decide) (by simp only [List.length_set]; exact hl) ((own_n (by decide)).trans ((own_n (by decide)).trans ((own_n (by decide)).trans hn3))) hs0 hs1) hZ (hw _ (List.mem_of_getElem? (i := 28) rfl)) (hw _ (List.mem_of_getElem? (i := 2) rfl)) (by decide) (by decide)) q169a q169c (g := (mkF m 30 #[.val (.ref ao), .val (.ref ag), .val (.int (4 : Int32))] [(.ref ao), (.int (7 : Int32)), (.ref ag)])) rfl (by rw [hml]; rfl) (Steps.refl _) (argsL := []) (rest := [(.int (7 : Int32)), (.ref ag)]) (lenOf pd____J rfl) rfl (by show 2 * 0 + _ ≤ _; exact Nat.le_of_eq rfl) (hb hby d3_30) (fun _ _ => ⟨rfl, e167, (by decide : 3 + 1 ≤ _), (by decide : 21 + 7 ≤ _)⟩)
  dsimp only [Pt.U, Pt.locs, Pt.cells, Pt.slots] at X169 l169 y169 z169 st169 hQ169
  subst l169 y169 z169
  obtain ⟨h169, e169⟩ : ∃ h, T169.heap = h := ⟨_, rfl⟩
  rw [e169] at hQ169
  have f177 : Exa Z h167 ar_137 "[J" := ((f163.keep Kq155).wr W167)
  have f178 : Exa Z h167 ar_142 "[J" := ((f164.keep Kq155).wr W167)
  have f179 : Exa Z h167 ar_155 "[J" := (Er_155.wr W167)
  obtain ⟨ar_169, kr_169, rfl, Nq169, Kq169, sa_169, E1_169, Fc1_169, Ft1_169, Fs1_169, Fo1_169, Fq1_169, Vc1_169, Vr_169, Er_169⟩ := hQ169
  have N169 := Fr.app N167 Nq169
  have Z169 : n0 ≤ h169.size := Nat.le_trans Z167 Kq169.1
  have KK169 : Keep h0 h169 [ao, ap, ag] := KK167.trans Kq169 (allS (Or.inl (List.mem_of_getElem? (i := 0) rfl)) (allS (Or.inl (List.mem_of_getElem? (i := 1) rfl)) all0))
  have g_ar_169 : n0 ≤ ar_169 := Nat.le_trans Z167 sa_169
  have sz_ar_169 : h0.size ≤ ar_169 := Nat.le_trans KK167.1 sa_169
  have ne_ag_ar_169 : ag ≠ ar_169 := Nat.ne_of_lt (Nat.lt_of_lt_of_le V167.lt sa_169)
  have ne_ao_ar_169 : ao ≠ ar_169 := Nat.ne_of_lt (Nat.lt_of_lt_of_le f170.lt sa_169)
  have ne_ap_ar_169 : ap ≠ ar_169 := Nat.ne_of_lt (Nat.lt_of_lt_of_le f174.lt sa_169)
  have ne_ar_137_ar_169 : ar_137 ≠ ar_169 := Nat.ne_of_lt (Nat.lt_of_lt_of_le f177.lt sa_169)
  have ne_ar_142_ar_169 : ar_142 ≠ ar_169 := Nat.ne_of_lt (Nat.lt_of_lt_of_le f178.lt sa_169)
  have ne_ar_155_ar_169 : ar_155 ≠ ar_169 := Nat.ne_of_lt (Nat.lt_of_lt_of_le f179.lt sa_169)
  have Ft1_169 : Fld Z h169 ao "com/example/termvault/termvault/MarkArrays" "positionsTaken" "I" (.int (8 : Int32)) := Ft1_169
  refine Go.trans st169 ?_
  have f180 : own_Pos Z h169 [ao, ap, ag] (((xs ++ [ar_137]) ++ [ar_142]) ++ [ar_155]) sp := (f168.keep Kq169 (allS (List.mem_of_getElem? (i := 0) rfl) (allS (List.mem_of_getElem? (i := 1) rfl) all0)))
  have Ps169 : own_Pos Z h169 [ao, ap, ag] ((((xs ++ [ar_137]) ++ [ar_142]) ++ [ar_155]) ++ [ar_169]) sp := f180.snoc (fun y hy => Nat.ne_of_lt (Nat.lt_of_lt_of_le (f168.lt y hy) sa_169)) (ninS (Ne.symm ne_ao_ar_169) (ninS (Ne.symm ne_ap_ar_169) (ninS (Ne.symm ne_ag_ar_169) nin0))) Er_169 Vr_169
  show Go _ _ _ _ _ _ _ T169 (mkF m 33 #[.val (.ref ao), .val (.ref ag), .val (.int (4 : Int32))] [(.ref ar_169), (.int (7 : Int32)), (.ref ag)])
  have f181 : Arv Z h169 ag kg (.array .long) (18 : Int32) (((vs.set 4 (.ref ar_137)).set 5 (.ref ar_142)).set 6 (.ref ar_155)) .null := (V167.keep Kq169 (ninS (Ne.symm ne1) (ninS (Ne.symm ne2) nin0)))
  obtain ⟨cl182, Ar182, q182, S182, M182, H182, G182⟩ := id (f181)
  have hin182 : ¬ ((7 : Int32) < 0 ∨ cl182.slots.size ≤ ((7 : Int32)).toNatClampNeg) := inb_of S182 ⟨by decide, by decide⟩
  obtain ⟨T182, h182, X182, e182, W182, st182⟩ := stR X169 hx hZ e169 Ar182 (j := (7 : Int32)) hin182 rfl (Sto.ofVA Ar182 q182 ov_ag (Ins.self Er_169)) (g := (mkF m 33 #[.val (.ref ao), .val (.ref ag), .val (.int (4 : Int32))] [(.ref ar_169), (.int (7 : Int32)), (.ref ag)])) rfl rfl (hb hby d3_33)
  refine Go.step st182 ?_
  have V182 : Arv Z h182 ag kg (.array .long) (18 : Int32) ((((vs.set 4 (.ref ar_137)).set 5 (.ref ar_142)).set 6 (.ref ar_155)).set 7 (.ref ar_169)) .null := Arv.set Ar182 q182 S182 M182 H182 G182 rfl W182 7 rfl (by (try simp only [List.length_set]); rw [hlv]; decide)
  have N182 := Fr.snoc X182 N169 g2
  have Z182 : n0 ≤ h182.size := Nat.le_trans Z169 (Keep.of_wr W182).1
  have KK182 : Keep h0 h182 [ao, ap, ag] := KK169.wr W182 (Or.inl (List.mem_of_getElem? (i := 2) rfl))
  show Go _ _ _ _ _ _ _ T182 (mkF m 34 #[.val (.ref ao), .val (.ref ag), .val (.int (4 : Int32))] [])
  have f183 : Exa Z h182 ao "com/example/termvault/termvault/MarkArrays" := (E1_169.wr W182)
  have f184 : Fld Z h182 ao "com/example/termvault/termvault/MarkArrays" "positions" "[[J" (.ref ap) := (Fc1_169.other W182 (Or.inl ne1))
  have f185 : Fld Z h182 ao "com/example/termvault/termvault/MarkArrays" "positionsTaken" "I" (.int (8 : Int32)) := (Ft1_169.other W182 (Or.inl ne1))
  have f186 : Fld Z h182 ao "com/example/termvault/termvault/MarkArrays" "span" "I" (.int sp) := (Fs1_169.other W182 (Or.inl ne1))
  have f187 : Arv Z h182 ap kp (.array .long) (16 : Int32) ((((lc.set (4 : Int32).toNatClampNeg (.ref ar_137)).set (5 : Int32).toNatClampNeg (.ref ar_142)).set (6 : Int32).toNatClampNeg (.ref ar_155)).set (7 : Int32).toNatClampNeg (.ref ar_169)) .null := (Vc1_169.other W182 ne2)
  have f188 : Fld Z h182 ao "com/example/termvault/termvault/MarkArrays" "countsTaken" "I" (.int uo) := (Fo1_169.other W182 (Or.inl ne1))
  have f189 : Fld Z h182 ao "com/example/termvault/termvault/MarkArrays" "counts" "[[I" (.ref aw) := (Fq1_169.other W182 (Or.inl ne1))
  have f190 : own_Pos Z h182 [ao, ap, ag] ((((xs ++ [ar_137]) ++ [ar_142]) ++ [ar_155]) ++ [ar_169]) sp := (Ps169.keep (Keep.of_wr W182) (allS (List.mem_of_getElem? (i := 2) rfl) all0))
  have f191 : Exa Z h182 ar_137 "[J" := ((f177.keep Kq169).wr W182)
  have f192 : Exa Z h182 ar_142 "[J" := ((f178.keep Kq169).wr W182)
  have f193 : Exa Z h182 ar_155 "[J" := ((f179.keep Kq169).wr W182)
  have f194 : Exa Z h182 ar_169 "[J" := (Er_169.wr W182)
  exact Go.ret0 X182 hx hret hlk (hb hby d3_34) e182 (by decide) (by decide) ⟨ar_137, ar_142, ar_155, ar_169, rfl, N182, KK182, f183, f184, f185, f186, f187, f188, f189, V182, f190, f191, f192, f193, f194, sz_ar_137, sz_ar_142, sz_ar_155, sz_ar_169⟩
theorem ef_rmFo8 (m : MethodId) (ao : Addr) (ag : Addr) : entryFrame m #[(.ref ao), (.ref ag), (.int (8 : Int32))] 3 = mkF m 0 #[.val (.ref ao), .val (.ref ag), .val (.int (8 : Int32))] [] := by first | (simp [entryFrame, mkF, argsToLocals, Value.category]; done) | rfl
def Q_rmFo8 (Z : State) (ao : Addr) (ag : Addr) (ap : Addr) (kp : ClassId) (lc : List Value) (kg : ClassId) (vs : List Value) (sp : Int32) (uo : Int32) (aw : Addr) (xs : List Addr) (h0 : Heap) (n0 : Nat) (v : Option Value) (h : Heap) (L : List Loc) : Prop := ∃ x0 : Addr, ∃ x1 : Addr, ∃ x2 : Addr, ∃ x3 : Addr, (v = none) ∧ (Fr n0 L) ∧ (Keep h0 h [ao, ap, ag]) ∧ (Exa Z h ao "com/example/termvault/termvault/MarkArrays") ∧ (Fld Z h ao "com/example/termvault/termvault/MarkArrays" "positions" "[[J" (.ref ap)) ∧ (Fld Z h ao "com/example/termvault/termvault/MarkArrays" "positionsTaken" "I" (.int (12 : Int32))) ∧ (Fld Z h ao "com/example/termvault/termvault/MarkArrays" "span" "I" (.int sp)) ∧ (Arv Z h ap kp (.array .long) (16 : Int32) ((((lc.set (8 : Int32).toNatClampNeg (.ref x0)).set (9 : Int32).toNatClampNeg (.ref x1)).set (10 : Int32).toNatClampNeg (.ref x2)).set (11 : Int32).toNatClampNeg (.ref x3)) .null) ∧ (Fld Z h ao "com/example/termvault/termvault/MarkArrays" "countsTaken" "I" (.int uo)) ∧ (Fld Z h ao "com/example/termvault/termvault/MarkArrays" "counts" "[[I" (.ref aw)) ∧ (Arv Z h ag kg (.array .long) (18 : Int32) ((((vs.set 8 (.ref x0)).set 9 (.ref x1)).set 10 (.ref x2)).set 11 (.ref x3)) .null) ∧ (own_Pos Z h [ao, ap, ag] ((((xs ++ [x0]) ++ [x1]) ++ [x2]) ++ [x3]) sp) ∧ (Exa Z h x0 "[J") ∧ (Exa Z h x1 "[J") ∧ (Exa Z h x2 "[J") ∧ (Exa Z h x3 "[J") ∧ (h0.size ≤ x0) ∧ (h0.size ≤ x1) ∧ (h0.size ≤ x2) ∧ (h0.size ≤ x3)
set_option maxRecDepth 65536 in
set_option maxHeartbeats 40000000 in
theorem rmFo8 (l : Launch) (Z : State) (a0 : Array Value) (hw : ∀ d ∈ tables_1, d.before a0 Z = true) (ws : List Jvm.Cond) (ao : Addr) (ag : Addr) (ap : Addr) (kp : ClassId) (lc : List Value) (kg : ClassId) (vs : List Value) (sp : Int32) (uo : Int32) (aw : Addr) (xs : List Addr) (h0 : Heap) (n0 : Nat) (Z0 : n0 ≤ h0.size) (E0 : Exa Z h0 ao "com/example/termvault/termvault/MarkArrays") (Fc : Fld Z h0 ao "com/example/termvault/termvault/MarkArrays" "positions" "[[J" (.ref ap)) (Ft : Fld Z h0 ao "com/example/termvault/termvault/MarkArrays" "positionsTaken" "I" (.int (8 : Int32))) (Fs : Fld Z h0 ao "com/example/termvault/termvault/MarkArrays" "span" "I" (.int sp)) (Vc : Arv Z h0 ap kp (.array .long) (16 : Int32) lc .null) (Fo : Fld Z h0 ao "com/example/termvault/termvault/MarkArrays" "countsTaken" "I" (.int uo)) (Fq : Fld Z h0 ao "com/example/termvault/termvault/MarkArrays" "counts" "[[I" (.ref aw)) (Vg : Arv Z h0 ag kg (.array .long) (18 : Int32) vs .null) (P0 : own_Pos Z h0 [ao, ap, ag] xs sp) (ov_ap : OvrA Z kp .long "[J") (ov_ag : OvrA Z kg .long "[J") (g0 : n0 ≤ ao) (g1 : n0 ≤ ap) (g2 : n0 ≤ ag) (ne0 : ao ≠ ap) (ne1 : ao ≠ ag) (ne2 : ap ≠ ag) (hl : lc.length = (16 : Int32).toNatClampNeg) (hlv : vs.length = 18) (hn0 : lc.getD (8 : Int32).toNatClampNeg .null = .null) (hn1 : lc.getD (9 : Int32).toNatClampNeg .null = .null) (hn2 : lc.getD (10 : Int32).toNatClampNeg .null = .null) (hn3 : lc.getD (11 : Int32).toNatClampNeg .null = .null) (hs0 : ¬ (sp < (0 : Int32))) (hs1 : ¬ ((7 : Int32) < sp)) :
    MetFree l (⟨"com/example/termvault/termvault/MarkArraysPositionsPinLaw", "four", "(Lcom/example/termvault/termvault/MarkArrays;[[JI)V"⟩ : MethodName) (head1 (Jvm.Cond.code (⟨"com/example/termvault/termvault/MarkArraysPositionsPinLaw", "four", "(Lcom/example/termvault/termvault/MarkArrays;[[JI)V"⟩ : MethodName) method_2_code 3 none :: ws) ({ frames := 1, cells := 4, slots := 28, locals := 14 } : Room)) (fun aA U => aA = #[(.ref ao), (.ref ag), (.int (8 : Int32))] ∧ Z.Warmed39 U.vm ∧ U.heap = h0) (fun _ _ _ _ _ => True) (fun _ U o U' => ∃ v L, o = .returned v ∧ Q_rmFo8 Z ao ag ap kp lc kg vs sp uo aw xs h0 n0 v U'.heap L ∧ FrameEnd U o U' L ({ frames := 1, cells := 4, slots := 28, locals := 14 } : Room).cells ({ frames := 1, cells := 4, slots := 28, locals := 14 } : Room).slots) := by
  refine MetFree.of_bodySF (plainFor_of_name pn_com_example_termvault_termvault_MarkArraysPositionsPinLaw) hisR ?_
  intro p e s m args below meth c s₁ Bd hml0 hP hK
  obtain ⟨rfl, hZ, hh⟩ := hP
  have hx := Bd.exec
  have hby := Bd.bytes
  have hml : c.maxLocals = 3 := hml0
  have hown : s.vm.findClass "com/example/termvault/termvault/MarkArraysPositionsPinLaw" = some m.cls := findClass_of_methodNamed Bd.named
  have hnm := (name_of_methodNamed Bd.named Bd.method).1
  have hret := Bd.returns
  have hlk : meth.locks = false := BodyLoose.notSynchronized Bd
  have X0 : Stand p l e ({ frames := 1, cells := 4, slots := 28, locals := 14 } : Room) s m #[(.ref ao), (.ref ag), (.int (8 : Int32))] below meth c s₁ [] 0 0 := Stand.of_body Bd
  have e0 : s₁.heap = h0 := by rw [← hh, Bd.state]; rfl
  have N0 := Fr.nil n0
  suffices hgo : Go p e below s ({ frames := 1, cells := 4, slots := 28, locals := 14 } : Room).cells ({ frames := 1, cells := 4, slots := 28, locals := 14 } : Room).slots (Q_rmFo8 Z ao ag ap kp lc kg vs sp uo aw xs h0 n0) s₁ (mkF m 0 #[.val (.ref ao), .val (.ref ag), .val (.int (8 : Int32))] []) from hgo.enter (ef_rmFo8 m ao ag)
  refine Go.step (fun _ k => XS.aloadN X0.here hx rfl (hb hby d3_0) rfl rfl k) ?_
  show Go _ _ _ _ _ _ _ s₁ (mkF m 1 #[.val (.ref ao), .val (.ref ag), .val (.int (8 : Int32))] [(.ref ag)])
  refine Go.step (fun _ k => XS.iloadN X0.here hx rfl (hb hby d3_1) rfl k) ?_
  show Go _ _ _ _ _ _ _ s₁ (mkF m 2 #[.val (.ref ao), .val (.ref ag), .val (.int (8 : Int32))] [(.int (8 : Int32)), (.ref ag)])
  refine Go.step (fun _ k => XS.aloadN X0.here hx rfl (hb hby d3_2) rfl rfl k) ?_
  show Go _ _ _ _ _ _ _ s₁ (mkF m 3 #[.val (.ref ao), .val (.ref ag), .val (.int (8 : Int32))] [(.ref ao), (.int (8 : Int32)), (.ref ag)])
  obtain ⟨cq195, kq195, q195a, q195b, q195c⟩ := isOf hZ e0 E0
  obtain ⟨_, _, ⟨T195, L195, k195, n195⟩, -, X195, ⟨Lc195, hQ195, l195, y195, z195⟩, st195⟩ := X0.virtualBack hx (y := (⟨"com/example/termvault/termvault/MarkArrays", "positions", "()[J"⟩ : MethodName)) (z := (⟨"com/example/termvault/termvault/MarkArrays", "positions", "()[J"⟩ : MethodName)) hown (mvT hZ (hw _ (List.mem_of_getElem? (i := 24) rfl))) (mvT hZ (hw _ (List.mem_of_getElem? (i := 25) rfl))) (notFace_of_selects (args := #[]) (mvT hZ (hw _ (List.mem_of_getElem? (i := 27) rfl)))) (mvT hZ (hw _ (List.mem_of_getElem? (i := 27) rfl))) (mvT hZ (hw _ (List.mem_of_getElem? (i := 26) rfl))) (by decide) (backOf (W := 2) (rmPt l Z a0 hw [] ao ap kp lc (8 : Int32) sp uo aw h0 n0 Z0 E0 Fc Ft Fs Vc Fo Fq ov_ap g0 g1 ne0 (by decide) (by decide) hl hn0 hs0 hs1) hZ (hw _ (List.mem_of_getElem? (i := 28) rfl)) (hw _ (List.mem_of_getElem? (i := 2) rfl)) (by decide) (by decide)) q195a q195c (g := (mkF m 3 #[.val (.ref ao), .val (.ref ag), .val (.int (8 : Int32))] [(.ref ao), (.int (8 : Int32)), (.ref ag)])) rfl (by rw [hml]; rfl) (Steps.refl _) (argsL := []) (rest := [(.int (8 : Int32)), (.ref ag)]) (lenOf pd____J rfl) rfl (by show 2 * 0 + _ ≤ _; exact Nat.le_of_eq rfl) (hb hby d3_3) (fun _ _ => ⟨rfl, e0, (by decide : 0 + 1 ≤ _), (by decide : 0 + 7 ≤ _)⟩)
  dsimp only [Pt.U, Pt.locs, Pt.cells, Pt.slots] at X195 l195 y195 z195 st195 hQ195
  subst l195 y195 z195
  obtain ⟨h195, e195⟩ : ∃ h, T195.heap = h := ⟨_, rfl⟩
  rw [e195] at hQ195
  obtain ⟨ar_195, kr_195, rfl, Nq195, Kq195, sa_195, E1_195, Fc1_195, Ft1_195, Fs1_195, Fo1_195, Fq1_195, Vc1_195, Vr_195, Er_195⟩ := hQ195
  have N195 := Fr.app N0 Nq195
  have Z195 : n0 ≤ h195.size := Nat.le_trans Z0 Kq195.1
  have KK195 : Keep h0 h195 [ao, ap, ag] := (Keep.refl h0 [ao, ap, ag]).trans Kq195 (allS (Or.inl (List.mem_of_getElem? (i := 0) rfl)) (allS (Or.inl (List.mem_of_getElem? (i := 1) rfl)) all0))
  have g_ar_195 : n0 ≤ ar_195 := Nat.le_trans Z0 sa_195
  have sz_ar_195 : h0.size ≤ ar_195 := Nat.le_trans (Keep.refl h0 [ao, ap, ag]).1 sa_195
  have ne_ag_ar_195 : ag ≠ ar_195 := Nat.ne_of_lt (Nat.lt_of_lt_of_le Vg.lt sa_195)
  have ne_ao_ar_195 : ao ≠ ar_195 := Nat.ne_of_lt (Nat.lt_of_lt_of_le E0.lt sa_195)
  have ne_ap_ar_195 : ap ≠ ar_195 := Nat.ne_of_lt (Nat.lt_of_lt_of_le Vc.lt sa_195)
  have Ft1_195 : Fld Z h195 ao "com/example/termvault/termvault/MarkArrays" "positionsTaken" "I" (.int (9 : Int32)) := Ft1_195
  refine Go.trans st195 ?_
  have f196 : own_Pos Z h195 [ao, ap, ag] xs sp := (P0.keep Kq195 (allS (List.mem_of_getElem? (i := 0) rfl) (allS (List.mem_of_getElem? (i := 1) rfl) all0)))
  have Ps195 : own_Pos Z h195 [ao, ap, ag] (xs ++ [ar_195]) sp := f196.snoc (fun y hy => Nat.ne_of_lt (Nat.lt_of_lt_of_le (P0.lt y hy) sa_195)) (ninS (Ne.symm ne_ao_ar_195) (ninS (Ne.symm ne_ap_ar_195) (ninS (Ne.symm ne_ag_ar_195) nin0))) Er_195 Vr_195
  show Go _ _ _ _ _ _ _ T195 (mkF m 6 #[.val (.ref ao), .val (.ref ag), .val (.int (8 : Int32))] [(.ref ar_195), (.int (8 : Int32)), (.ref ag)])
  have f197 : Arv Z h195 ag kg (.array .long) (18 : Int32) vs .null := (Vg.keep Kq195 (ninS (Ne.symm ne1) (ninS (Ne.symm ne2) nin0)))
  obtain ⟨cl198, Ar198, q198, S198, M198, H198, G198⟩ := id (f197)
  have hin198 : ¬ ((8 : Int32) < 0 ∨ cl198.slots.size ≤ ((8 : Int32)).toNatClampNeg) := inb_of S198 ⟨by decide, by decide⟩
  obtain ⟨T198, h198, X198, e198, W198, st198⟩ := stR X195 hx hZ e195 Ar198 (j := (8 : Int32)) hin198 rfl (Sto.ofVA Ar198 q198 ov_ag (Ins.self Er_195)) (g := (mkF m 6 #[.val (.ref ao), .val (.ref ag), .val (.int (8 : Int32))] [(.ref ar_195), (.int (8 : Int32)), (.ref ag)])) rfl rfl (hb hby d3_6)
  refine Go.step st198 ?_
  have V198 : Arv Z h198 ag kg (.array .long) (18 : Int32) (vs.set 8 (.ref ar_195)) .null := Arv.set Ar198 q198 S198 M198 H198 G198 rfl W198 8 rfl (by (try simp only [List.length_set]); rw [hlv]; decide)
  have N198 := Fr.snoc X198 N195 g2
  have Z198 : n0 ≤ h198.size := Nat.le_trans Z195 (Keep.of_wr W198).1
  have KK198 : Keep h0 h198 [ao, ap, ag] := KK195.wr W198 (Or.inl (List.mem_of_getElem? (i := 2) rfl))
  show Go _ _ _ _ _ _ _ T198 (mkF m 7 #[.val (.ref ao), .val (.ref ag), .val (.int (8 : Int32))] [])
  refine Go.step (fun _ k => XS.aloadN X198.here hx rfl (hb hby d3_7) rfl rfl k) ?_
  show Go _ _ _ _ _ _ _ T198 (mkF m 8 #[.val (.ref ao), .val (.ref ag), .val (.int (8 : Int32))] [(.ref ag)])
  refine Go.step (fun _ k => XS.iloadN X198.here hx rfl (hb hby d3_8) rfl k) ?_
  show Go _ _ _ _ _ _ _ T198 (mkF m 9 #[.val (.ref ao), .val (.ref ag), .val (.int (8 : Int32))] [(.int (8 : Int32)), (.ref ag)])
  refine Go.step (fun _ k => XS.iconst X198.here hx rfl (hb hby d3_9) k) ?_
  show Go _ _ _ _ _ _ _ T198 (mkF m 10 #[.val (.ref ao), .val (.ref ag), .val (.int (8 : Int32))] [(.int (1 : Int32)), (.int (8 : Int32)), (.ref ag)])
  refine Go.step (fun _ k => XS.iadd X198.here hx rfl (hb hby d3_10) rfl k) ?_
  show Go _ _ _ _ _ _ _ T198 (mkF m 11 #[.val (.ref ao), .val (.ref ag), .val (.int (8 : Int32))] [(.int (9 : Int32)), (.ref ag)])
  refine Go.step (fun _ k => XS.aloadN X198.here hx rfl (hb hby d3_11) rfl rfl k) ?_
  show Go _ _ _ _ _ _ _ T198 (mkF m 12 #[.val (.ref ao), .val (.ref ag), .val (.int (8 : Int32))] [(.ref ao), (.int (9 : Int32)), (.ref ag)])
  have f199 : own_Pos Z h198 [ao, ap, ag] (xs ++ [ar_195]) sp := (Ps195.keep (Keep.of_wr W198) (allS (List.mem_of_getElem? (i := 2) rfl) all0))
  have f201 : Exa Z h198 ao "com/example/termvault/termvault/MarkArrays" := (E1_195.wr W198)
  have f202 : Fld Z h198 ao "com/example/termvault/termvault/MarkArrays" "positions" "[[J" (.ref ap) := (Fc1_195.other W198 (Or.inl ne1))
  have f203 : Fld Z h198 ao "com/example/termvault/termvault/MarkArrays" "positionsTaken" "I" (.int (9 : Int32)) := (Ft1_195.other W198 (Or.inl ne1))
  have f204 : Fld Z h198 ao "com/example/termvault/termvault/MarkArrays" "span" "I" (.int sp) := (Fs1_195.other W198 (Or.inl ne1))
  have f205 : Arv Z h198 ap kp (.array .long) (16 : Int32) (lc.set (8 : Int32).toNatClampNeg (.ref ar_195)) .null := (Vc1_195.other W198 ne2)
  have f206 : Fld Z h198 ao "com/example/termvault/termvault/MarkArrays" "countsTaken" "I" (.int uo) := (Fo1_195.other W198 (Or.inl ne1))
  have f207 : Fld Z h198 ao "com/example/termvault/termvault/MarkArrays" "counts" "[[I" (.ref aw) := (Fq1_195.other W198 (Or.inl ne1))
  obtain ⟨cq200, kq200, q200a, q200b, q200c⟩ := isOf hZ e198 f201
  obtain ⟨_, _, ⟨T200, L200, k200, n200⟩, -, X200, ⟨Lc200, hQ200, l200, y200, z200⟩, st200⟩ := X198.virtualBack hx (y := (⟨"com/example/termvault/termvault/MarkArrays", "positions", "()[J"⟩ : MethodName)) (z := (⟨"com/example/termvault/termvault/MarkArrays", "positions", "()[J"⟩ : MethodName)) hown (mvT hZ (hw _ (List.mem_of_getElem? (i := 24) rfl))) (mvT hZ (hw _ (List.mem_of_getElem? (i := 25) rfl))) (notFace_of_selects (args := #[]) (mvT hZ (hw _ (List.mem_of_getElem? (i := 27) rfl)))) (mvT hZ (hw _ (List.mem_of_getElem? (i := 27) rfl))) (mvT hZ (hw _ (List.mem_of_getElem? (i := 26) rfl))) (by decide) (backOf (W := 2) (rmPt l Z a0 hw [] ao ap kp (lc.set (8 : Int32).toNatClampNeg (.ref ar_195)) (9 : Int32) sp uo aw h198 n0 Z198 f201 f202 f203 f204 f205 f206 f207 ov_ap g0 g1 ne0 (by decide) (by decide) (by simp only [List.length_set]; exact hl) ((own_n (by decide)).trans hn1) hs0 hs1) hZ (hw _ (List.mem_of_getElem? (i := 28) rfl)) (hw _ (List.mem_of_getElem? (i := 2) rfl)) (by decide) (by decide)) q200a q200c (g := (mkF m 12 #[.val (.ref ao), .val (.ref ag), .val (.int (8 : Int32))] [(.ref ao), (.int (9 : Int32)), (.ref ag)])) rfl (by rw [hml]; rfl) (Steps.refl _) (argsL := []) (rest := [(.int (9 : Int32)), (.ref ag)]) (lenOf pd____J rfl) rfl (by show 2 * 0 + _ ≤ _; exact Nat.le_of_eq rfl) (hb hby d3_12) (fun _ _ => ⟨rfl, e198, (by decide : 1 + 1 ≤ _), (by decide : 7 + 7 ≤ _)⟩)
  dsimp only [Pt.U, Pt.locs, Pt.cells, Pt.slots] at X200 l200 y200 z200 st200 hQ200
  subst l200 y200 z200
  obtain ⟨h200, e200⟩ : ∃ h, T200.heap = h := ⟨_, rfl⟩
  rw [e200] at hQ200
  have f208 : Exa Z h198 ar_195 "[J" := (Er_195.wr W198)
  obtain ⟨ar_200, kr_200, rfl, Nq200, Kq200, sa_200, E1_200, Fc1_200, Ft1_200, Fs1_200, Fo1_200, Fq1_200, Vc1_200, Vr_200, Er_200⟩ := hQ200
  have N200 := Fr.app N198 Nq200
  have Z200 : n0 ≤ h200.size := Nat.le_trans Z198 Kq200.1
  have KK200 : Keep h0 h200 [ao, ap, ag] := KK198.trans Kq200 (allS (Or.inl (List.mem_of_getElem? (i := 0) rfl)) (allS (Or.inl (List.mem_of_getElem? (i := 1) rfl)) all0))
  have g_ar_200 : n0 ≤ ar_200 := Nat.le_trans Z198 sa_200
  have sz_ar_200 : h0.size ≤ ar_200 := Nat.le_trans KK198.1 sa_200
  have ne_ag_ar_200 : ag ≠ ar_200 := Nat.ne_of_lt (Nat.lt_of_lt_of_le V198.lt sa_200)
  have ne_ao_ar_200 : ao ≠ ar_200 := Nat.ne_of_lt (Nat.lt_of_lt_of_le f201.lt sa_200)
  have ne_ap_ar_200 : ap ≠ ar_200 := Nat.ne_of_lt (Nat.lt_of_lt_of_le f205.lt sa_200)
  have ne_ar_195_ar_200 : ar_195 ≠ ar_200 := Nat.ne_of_lt (Nat.lt_of_lt_of_le f208.lt sa_200)
  have Ft1_200 : Fld Z h200 ao "com/example/termvault/termvault/MarkArrays" "positionsTaken" "I" (.int (10 : Int32)) := Ft1_200
  refine Go.trans st200 ?_
  have f209 : own_Pos Z h200 [ao, ap, ag] (xs ++ [ar_195]) sp := (f199.keep Kq200 (allS (List.mem_of_getElem? (i := 0) rfl) (allS (List.mem_of_getElem? (i := 1) rfl) all0)))
  have Ps200 : own_Pos Z h200 [ao, ap, ag] ((xs ++ [ar_195]) ++ [ar_200]) sp := f209.snoc (fun y hy => Nat.ne_of_lt (Nat.lt_of_lt_of_le (f199.lt y hy) sa_200)) (ninS (Ne.symm ne_ao_ar_200) (ninS (Ne.symm ne_ap_ar_200) (ninS (Ne.symm ne_ag_ar_200) nin0))) Er_200 Vr_200
  show Go _ _ _ _ _ _ _ T200 (mkF m 15 #[.val (.ref ao), .val (.ref ag), .val (.int (8 : Int32))] [(.ref ar_200), (.int (9 : Int32)), (.ref ag)])
  have f210 : Arv Z h200 ag kg (.array .long) (18 : Int32) (vs.set 8 (.ref ar_195)) .null := (V198.keep Kq200 (ninS (Ne.symm ne1) (ninS (Ne.symm ne2) nin0)))
  obtain ⟨cl211, Ar211, q211, S211, M211, H211, G211⟩ := id (f210)
  have hin211 : ¬ ((9 : Int32) < 0 ∨ cl211.slots.size ≤ ((9 : Int32)).toNatClampNeg) := inb_of S211 ⟨by decide, by decide⟩
  obtain ⟨T211, h211, X211, e211, W211, st211⟩ := stR X200 hx hZ e200 Ar211 (j := (9 : Int32)) hin211 rfl (Sto.ofVA Ar211 q211 ov_ag (Ins.self Er_200)) (g := (mkF m 15 #[.val (.ref ao), .val (.ref ag), .val (.int (8 : Int32))] [(.ref ar_200), (.int (9 : Int32)), (.ref ag)])) rfl rfl (hb hby d3_15)
  refine Go.step st211 ?_
  have V211 : Arv Z h211 ag kg (.array .long) (18 : Int32) ((vs.set 8 (.ref ar_195)).set 9 (.ref ar_200)) .null := Arv.set Ar211 q211 S211 M211 H211 G211 rfl W211 9 rfl (by (try simp only [List.length_set]); rw [hlv]; decide)
  have N211 := Fr.snoc X211 N200 g2
  have Z211 : n0 ≤ h211.size := Nat.le_trans Z200 (Keep.of_wr W211).1
  have KK211 : Keep h0 h211 [ao, ap, ag] := KK200.wr W211 (Or.inl (List.mem_of_getElem? (i := 2) rfl))
  show Go _ _ _ _ _ _ _ T211 (mkF m 16 #[.val (.ref ao), .val (.ref ag), .val (.int (8 : Int32))] [])
  refine Go.step (fun _ k => XS.aloadN X211.here hx rfl (hb hby d3_16) rfl rfl k) ?_
  show Go _ _ _ _ _ _ _ T211 (mkF m 17 #[.val (.ref ao), .val (.ref ag), .val (.int (8 : Int32))] [(.ref ag)])
  refine Go.step (fun _ k => XS.iloadN X211.here hx rfl (hb hby d3_17) rfl k) ?_
  show Go _ _ _ _ _ _ _ T211 (mkF m 18 #[.val (.ref ao), .val (.ref ag), .val (.int (8 : Int32))] [(.int (8 : Int32)), (.ref ag)])
  refine Go.step (fun _ k => XS.iconst X211.here hx rfl (hb hby d3_18) k) ?_
  show Go _ _ _ _ _ _ _ T211 (mkF m 19 #[.val (.ref ao), .val (.ref ag), .val (.int (8 : Int32))] [(.int (2 : Int32)), (.int (8 : Int32)), (.ref ag)])
  refine Go.step (fun _ k => XS.iadd X211.here hx rfl (hb hby d3_19) rfl k) ?_
  show Go _ _ _ _ _ _ _ T211 (mkF m 20 #[.val (.ref ao), .val (.ref ag), .val (.int (8 : Int32))] [(.int (10 : Int32)), (.ref ag)])
  refine Go.step (fun _ k => XS.aloadN X211.here hx rfl (hb hby d3_20) rfl rfl k) ?_
  show Go _ _ _ _ _ _ _ T211 (mkF m 21 #[.val (.ref ao), .val (.ref ag), .val (.int (8 : Int32))] [(.ref ao), (.int (10 : Int32)), (.ref ag)])
  have f212 : own_Pos Z h211 [ao, ap, ag] ((xs ++ [ar_195]) ++ [ar_200]) sp := (Ps200.keep (Keep.of_wr W211) (allS (List.mem_of_getElem? (i := 2) rfl) all0))
  have f214 : Exa Z h211 ao "com/example/termvault/termvault/MarkArrays" := (E1_200.wr W211)
  have f215 : Fld Z h211 ao "com/example/termvault/termvault/MarkArrays" "positions" "[[J" (.ref ap) := (Fc1_200.other W211 (Or.inl ne1))
  have f216 : Fld Z h211 ao "com/example/termvault/termvault/MarkArrays" "positionsTaken" "I" (.int (10 : Int32)) := (Ft1_200.other W211 (Or.inl ne1))
  have f217 : Fld Z h211 ao "com/example/termvault/termvault/MarkArrays" "span" "I" (.int sp) := (Fs1_200.other W211 (Or.inl ne1))
  have f218 : Arv Z h211 ap kp (.array .long) (16 : Int32) ((lc.set (8 : Int32).toNatClampNeg (.ref ar_195)).set (9 : Int32).toNatClampNeg (.ref ar_200)) .null := (Vc1_200.other W211 ne2)
  have f219 : Fld Z h211 ao "com/example/termvault/termvault/MarkArrays" "countsTaken" "I" (.int uo) := (Fo1_200.other W211 (Or.inl ne1))
  have f220 : Fld Z h211 ao "com/example/termvault/termvault/MarkArrays" "counts" "[[I" (.ref aw) := (Fq1_200.other W211 (Or.inl ne1))
  obtain ⟨cq213, kq213, q213a, q213b, q213c⟩ := isOf hZ e211 f214
  obtain ⟨_, _, ⟨T213, L213, k213, n213⟩, -, X213, ⟨Lc213, hQ213, l213, y213, z213⟩, st213⟩ := X211.virtualBack hx (y := (⟨"com/example/termvault/termvault/MarkArrays", "positions", "()[J"⟩ : MethodName)) (z := (⟨"com/example/termvault/termvault/MarkArrays", "positions", "()[J"⟩ : MethodName)) hown (mvT hZ (hw _ (List.mem_of_getElem? (i := 24) rfl))) (mvT hZ (hw _ (List.mem_of_getElem? (i := 25) rfl))) (notFace_of_selects (args := #[]) (mvT hZ (hw _ (List.mem_of_getElem? (i := 27) rfl)))) (mvT hZ (hw _ (List.mem_of_getElem? (i := 27) rfl))) (mvT hZ (hw _ (List.mem_of_getElem? (i := 26) rfl))) (by decide) (backOf (W := 2) (rmPt l Z a0 hw [] ao ap kp ((lc.set (8 : Int32).toNatClampNeg (.ref ar_195)).set (9 : Int32).toNatClampNeg (.ref ar_200)) (10 : Int32) sp uo aw h211 n0 Z211 f214 f215 f216 f217 f218 f219 f220 ov_ap g0 g1 ne0 (by decide) (by decide) (by simp only [List.length_set]; exact hl) ((own_n (by decide)).trans ((own_n (by decide)).trans hn2)) hs0 hs1) hZ (hw _ (List.mem_of_getElem? (i := 28) rfl)) (hw _ (List.mem_of_getElem? (i := 2) rfl)) (by decide) (by decide)) q213a q213c (g := (mkF m 21 #[.val (.ref ao), .val (.ref ag), .val (.int (8 : Int32))] [(.ref ao), (.int (10 : Int32)), (.ref ag)])) rfl (by rw [hml]; rfl) (Steps.refl _) (argsL := []) (rest := [(.int (10 : Int32)), (.ref ag)]) (lenOf pd____J rfl) rfl (by show 2 * 0 + _ ≤ _; exact Nat.le_of_eq rfl) (hb hby d3_21) (fun _ _ => ⟨rfl, e211, (by decide : 2 + 1 ≤ _), (by decide : 14 + 7 ≤ _)⟩)
  dsimp only [Pt.U, Pt.locs, Pt.cells, Pt.slots] at X213 l213 y213 z213 st213 hQ213
  subst l213 y213 z213
  obtain ⟨h213, e213⟩ : ∃ h, T213.heap = h := ⟨_, rfl⟩
  rw [e213] at hQ213
  have f221 : Exa Z h211 ar_195 "[J" := ((f208.keep Kq200).wr W211)
  have f222 : Exa Z h211 ar_200 "[J" := (Er_200.wr W211)
  obtain ⟨ar_213, kr_213, rfl, Nq213, Kq213, sa_213, E1_213, Fc1_213, Ft1_213, Fs1_213, Fo1_213, Fq1_213, Vc1_213, Vr_213, Er_213⟩ := hQ213
  have N213 := Fr.app N211 Nq213
  have Z213 : n0 ≤ h213.size := Nat.le_trans Z211 Kq213.1
  have KK213 : Keep h0 h213 [ao, ap, ag] := KK211.trans Kq213 (allS (Or.inl (List.mem_of_getElem? (i := 0) rfl)) (allS (Or.inl (List.mem_of_getElem? (i := 1) rfl)) all0))
  have g_ar_213 : n0 ≤ ar_213 := Nat.le_trans Z211 sa_213
  have sz_ar_213 : h0.size ≤ ar_213 := Nat.le_trans KK211.1 sa_213
  have ne_ag_ar_213 : ag ≠ ar_213 := Nat.ne_of_lt (Nat.lt_of_lt_of_le V211.lt sa_213)
  have ne_ao_ar_213 : ao ≠ ar_213 := Nat.ne_of_lt (Nat.lt_of_lt_of_le f214.lt sa_213)
  have ne_ap_ar_213 : ap ≠ ar_213 := Nat.ne_of_lt (Nat.lt_of_lt_of_le f218.lt sa_213)
  have ne_ar_195_ar_213 : ar_195 ≠ ar_213 := Nat.ne_of_lt (Nat.lt_of_lt_of_le f221.lt sa_213)
  have ne_ar_200_ar_213 : ar_200 ≠ ar_213 := Nat.ne_of_lt (Nat.lt_of_lt_of_le f222.lt sa_213)
  have Ft1_213 : Fld Z h213 ao "com/example/termvault/termvault/MarkArrays" "positionsTaken" "I" (.int (11 : Int32)) := Ft1_213
  refine Go.trans st213 ?_
  have f223 : own_Pos Z h213 [ao, ap, ag] ((xs ++ [ar_195]) ++ [ar_200]) sp := (f212.keep Kq213 (allS (List.mem_of_getElem? (i := 0) rfl) (allS (List.mem_of_getElem? (i := 1) rfl) all0)))
  have Ps213 : own_Pos Z h213 [ao, ap, ag] (((xs ++ [ar_195]) ++ [ar_200]) ++ [ar_213]) sp := f223.snoc (fun y hy => Nat.ne_of_lt (Nat.lt_of_lt_of_le (f212.lt y hy) sa_213)) (ninS (Ne.symm ne_ao_ar_213) (ninS (Ne.symm ne_ap_ar_213) (ninS (Ne.symm ne_ag_ar_213) nin0))) Er_213 Vr_213
  show Go _ _ _ _ _ _ _ T213 (mkF m 24 #[.val (.ref ao), .val (.ref ag), .val (.int (8 : Int32))] [(.ref ar_213), (.int (10 : Int32)), (.ref ag)])
  have f224 : Arv Z h213 ag kg (.array .long) (18 : Int32) ((vs.set 8 (.ref ar_195)).set 9 (.ref ar_200)) .null := (V211.keep Kq213 (ninS (Ne.symm ne1) (ninS (Ne.symm ne2) nin0)))
  obtain ⟨cl225, Ar225, q225, S225, M225, H225, G225⟩ := id (f224)
  have hin225 : ¬ ((10 : Int32) < 0 ∨ cl225.slots.size ≤ ((10 : Int32)).toNatClampNeg) := inb_of S225 ⟨by decide, by decide⟩
  obtain ⟨T225, h225, X225, e225, W225, st225⟩ := stR X213 hx hZ e213 Ar225 (j := (10 : Int32)) hin225 rfl (Sto.ofVA Ar225 q225 ov_ag (Ins.self Er_213)) (g := (mkF m 24 #[.val (.ref ao), .val (.ref ag), .val (.int (8 : Int32))] [(.ref ar_213), (.int (10 : Int32)), (.ref ag)])) rfl rfl (hb hby d3_24)
  refine Go.step st225 ?_
  have V225 : Arv Z h225 ag kg (.array .long) (18 : Int32) (((vs.set 8 (.ref ar_195)).set 9 (.ref ar_200)).set 10 (.ref ar_213)) .null := Arv.set Ar225 q225 S225 M225 H225 G225 rfl W225 10 rfl (by (try simp only [List.length_set]); rw [hlv]; decide)
  have N225 := Fr.snoc X225 N213 g2
  have Z225 : n0 ≤ h225.size := Nat.le_trans Z213 (Keep.of_wr W225).1
  have KK225 : Keep h0 h225 [ao, ap, ag] := KK213.wr W225 (Or.inl (List.mem_of_getElem? (i := 2) rfl))
  show Go _ _ _ _ _ _ _ T225 (mkF m 25 #[.val (.ref ao), .val (.ref ag), .val (.int (8 : Int32))] [])
  refine Go.step (fun _ k => XS.aloadN X225.here hx rfl (hb hby d3_25) rfl rfl k) ?_
  show Go _ _ _ _ _ _ _ T225 (mkF m 26 #[.val (.ref ao), .val (.ref ag), .val (.int (8 : Int32))] [(.ref ag)])
  refine Go.step (fun _ k => XS.iloadN X225.here hx rfl (hb hby d3_26) rfl k) ?_
  show Go _ _ _ _ _ _ _ T225 (mkF m 27 #[.val (.ref ao), .val (.ref ag), .val (.int (8 : Int32))] [(.int (8 : Int32)), (.ref ag)])
  refine Go.step (fun _ k => XS.iconst X225.here hx rfl (hb hby d3_27) k) ?_
  show Go _ _ _ _ _ _ _ T225 (mkF m 28 #[.val (.ref ao), .val (.ref ag), .val (.int (8 : Int32))] [(.int (3 : Int32)), (.int (8 : Int32)), (.ref ag)])
  refine Go.step (fun _ k => XS.iadd X225.here hx rfl (hb hby d3_28) rfl k) ?_
  show Go _ _ _ _ _ _ _ T225 (mkF m 29 #[.val (.ref ao), .val (.ref ag), .val (.int (8 : Int32))] [(.int (11 : Int32)), (.ref ag)])
  refine Go.step (fun _ k => XS.aloadN X225.here hx rfl (hb hby d3_29) rfl rfl k) ?_
  show Go _ _ _ _ _ _ _ T225 (mkF m 30 #[.val (.ref ao), .val (.ref ag), .val (.int (8 : Int32))] [(.ref ao), (.int (11 : Int32)), (.ref ag)])
  have f226 : own_Pos Z h225 [ao, ap, ag] (((xs ++ [ar_195]) ++ [ar_200]) ++ [ar_213]) sp := (Ps213.keep (Keep.of_wr W225) (allS (List.mem_of_getElem? (i := 2) rfl) all0))
  have f228 : Exa Z h225 ao "com/example/termvault/termvault/MarkArrays" := (E1_213.wr W225)
  have f229 : Fld Z h225 ao "com/example/termvault/termvault/MarkArrays" "positions" "[[J" (.ref ap) := (Fc1_213.other W225 (Or.inl ne1))
  have f230 : Fld Z h225 ao "com/example/termvault/termvault/MarkArrays" "positionsTaken" "I" (.int (11 : Int32)) := (Ft1_213.other W225 (Or.inl ne1))
  have f231 : Fld Z h225 ao "com/example/termvault/termvault/MarkArrays" "span" "I" (.int sp) := (Fs1_213.other W225 (Or.inl ne1))
  have f232 : Arv Z h225 ap kp (.array .long) (16 : Int32) (((lc.set (8 : Int32).toNatClampNeg (.ref ar_195)).set (9 : Int32).toNatClampNeg (.ref ar_200)).set (10 : Int32).toNatClampNeg (.ref ar_213)) .null := (Vc1_213.other W225 ne2)
  have f233 : Fld Z h225 ao "com/example/termvault/termvault/MarkArrays" "countsTaken" "I" (.int uo) := (Fo1_213.other W225 (Or.inl ne1))
  have f234 : Fld Z h225 ao "com/example/termvault/termvault/MarkArrays" "counts" "[[I" (.ref aw) := (Fq1_213.other W225 (Or.inl ne1))
  obtain ⟨cq227, kq227, q227a, q227b, q227c⟩ := isOf hZ e225 f228
  obtain ⟨_, _, ⟨T227, L227, k227, n227⟩, -, X227, ⟨Lc227, hQ227, l227, y227, z227⟩, st227⟩ := X225.virtualBack hx (y := (⟨"com/example/termvault/termvault/MarkArrays", "positions", "()[J"⟩ : MethodName)) (z := (⟨"com/example/termvault/termvault/MarkArrays", "positions", "()[J"⟩ : MethodName)) hown (mvT hZ (hw _ (List.mem_of_getElem? (i := 24) rfl))) (mvT hZ (hw _ (List.mem_of_getElem? (i := 25) rfl))) (notFace_of_selects (args := #[]) (mvT hZ (hw _ (List.mem_of_getElem? (i := 27) rfl)))) (mvT hZ (hw _ (List.mem_of_getElem? (i := 27) rfl))) (mvT hZ (hw _ (List.mem_of_getElem? (i := 26) rfl))) (by decide) (backOf (W := 2) (rmPt l Z a0 hw [] ao ap kp (((lc.set (8 : Int32).toNatClampNeg (.ref ar_195)).set (9 : Int32).toNatClampNeg (.ref ar_200)).set (10 : Int32).toNatClampNeg (.ref ar_213)) (11 : Int32) sp uo aw h225 n0 Z225 f228 f229 f230 f231 f232 f233 f234 ov_ap g0 g1 ne0 (by decide) (by decide) (by simp only [List.length_set]; exact hl) ((own_n (by decide)).trans ((own_n (by decide)).trans ((own_n (by decide)).trans hn3))) hs0 hs1) hZ (hw _ (List.mem_of_getElem? (i := 28) rfl)) (hw _ (List.mem_of_getElem? (i := 2) rfl)) (by decide) (by decide)) q227a q227c (g := (mkF m 30 #[.val (.ref ao), .val (.ref ag), .val (.int (8 : Int32))] [(.ref ao), (.int (11 : Int32)), (.ref ag)])) rfl (by rw [hml]; rfl) (Steps.refl _) (argsL := []) (rest := [(.int (11 : Int32)), (.ref ag)]) (lenOf pd____J rfl) rfl (by show 2 * 0 + _ ≤ _; exact Nat.le_of_eq rfl) (hb hby d3_30) (fun _ _ => ⟨rfl, e225, (by decide : 3 + 1 ≤ _), (by decide : 21 + 7 ≤ _)⟩)
  dsimp only [Pt.U, Pt.locs, Pt.cells, Pt.slots] at X227 l227 y227 z227 st227 hQ227
  subst l227 y227 z227
  obtain ⟨h227, e227⟩ : ∃ h, T227.heap = h := ⟨_, rfl⟩
  rw [e227] at hQ227
  have f235 : Exa Z h225 ar_195 "[J" := ((f221.keep Kq213).wr W225)
  have f236 : Exa Z h225 ar_200 "[J" := ((f222.keep Kq213).wr W225)
  have f237 : Exa Z h225 ar_213 "[J" := (Er_213.wr W225)
  obtain ⟨ar_227, kr_227, rfl, Nq227, Kq227, sa_227, E1_227, Fc1_227, Ft1_227, Fs1_227, Fo1_227, Fq1_227, Vc1_227, Vr_227, Er_227⟩ := hQ227
  have N227 := Fr.app N225 Nq227
  have Z227 : n0 ≤ h227.size := Nat.le_trans Z225 Kq227.1
  have KK227 : Keep h0 h227 [ao, ap, ag] := KK225.trans Kq227 (allS (Or.inl (List.mem_of_getElem? (i := 0) rfl)) (allS (Or.inl (List.mem_of_getElem? (i := 1) rfl)) all0))
  have g_ar_227 : n0 ≤ ar_227 := Nat.le_trans Z225 sa_227
  have sz_ar_227 : h0.size ≤ ar_227 := Nat.le_trans KK225.1 sa_227
  have ne_ag_ar_227 : ag ≠ ar_227 := Nat.ne_of_lt (Nat.lt_of_lt_of_le V225.lt sa_227)
  have ne_ao_ar_227 : ao ≠ ar_227 := Nat.ne_of_lt (Nat.lt_of_lt_of_le f228.lt sa_227)
  have ne_ap_ar_227 : ap ≠ ar_227 := Nat.ne_of_lt (Nat.lt_of_lt_of_le f232.lt sa_227)
  have ne_ar_195_ar_227 : ar_195 ≠ ar_227 := Nat.ne_of_lt (Nat.lt_of_lt_of_le f235.lt sa_227)
  have ne_ar_200_ar_227 : ar_200 ≠ ar_227 := Nat.ne_of_lt (Nat.lt_of_lt_of_le f236.lt sa_227)
  have ne_ar_213_ar_227 : ar_213 ≠ ar_227 := Nat.ne_of_lt (Nat.lt_of_lt_of_le f237.lt sa_227)
  have Ft1_227 : Fld Z h227 ao "com/example/termvault/termvault/MarkArrays" "positionsTaken" "I" (.int (12 : Int32)) := Ft1_227
  refine Go.trans st227 ?_
  have f238 : own_Pos Z h227 [ao, ap, ag] (((xs ++ [ar_195]) ++ [ar_200]) ++ [ar_213]) sp := (f226.keep Kq227 (allS (List.mem_of_getElem? (i := 0) rfl) (allS (List.mem_of_getElem? (i := 1) rfl) all0)))
  have Ps227 : own_Pos Z h227 [ao, ap, ag] ((((xs ++ [ar_195]) ++ [ar_200]) ++ [ar_213]) ++ [ar_227]) sp := f238.snoc (fun y hy => Nat.ne_of_lt (Nat.lt_of_lt_of_le (f226.lt y hy) sa_227)) (ninS (Ne.symm ne_ao_ar_227) (ninS (Ne.symm ne_ap_ar_227) (ninS (Ne.symm ne_ag_ar_227) nin0))) Er_227 Vr_227
  show Go _ _ _ _ _ _ _ T227 (mkF m 33 #[.val (.ref ao), .val (.ref ag), .val (.int (8 : Int32))] [(.ref ar_227), (.int (11 : Int32)), (.ref ag)])
  have f239 : Arv Z h227 ag kg (.array .long) (18 : Int32) (((vs.set 8 (.ref ar_195)).set 9 (.ref ar_200)).set 10 (.ref ar_213)) .null := (V225.keep Kq227 (ninS (Ne.symm ne1) (ninS (Ne.symm ne2) nin0)))
  obtain ⟨cl240, Ar240, q240, S240, M240, H240, G240⟩ := id (f239)
  have hin240 : ¬ ((11 : Int32) < 0 ∨ cl240.slots.size ≤ ((11 : Int32)).toNatClampNeg) := inb_of S240 ⟨by decide, by decide⟩
  obtain ⟨T240, h240, X240, e240, W240, st240⟩ := stR X227 hx hZ e227 Ar240 (j := (11 : Int32)) hin240 rfl (Sto.ofVA Ar240 q240 ov_ag (Ins.self Er_227)) (g := (mkF m 33 #[.val (.ref ao), .val (.ref ag), .val (.int (8 : Int32))] [(.ref ar_227), (.int (11 : Int32)), (.ref ag)])) rfl rfl (hb hby d3_33)
  refine Go.step st240 ?_
  have V240 : Arv Z h240 ag kg (.array .long) (18 : Int32) ((((vs.set 8 (.ref ar_195)).set 9 (.ref ar_200)).set 10 (.ref ar_213)).set 11 (.ref ar_227)) .null := Arv.set Ar240 q240 S240 M240 H240 G240 rfl W240 11 rfl (by (try simp only [List.length_set]); rw [hlv]; decide)
  have N240 := Fr.snoc X240 N227 g2
  have Z240 : n0 ≤ h240.size := Nat.le_trans Z227 (Keep.of_wr W240).1
  have KK240 : Keep h0 h240 [ao, ap, ag] := KK227.wr W240 (Or.inl (List.mem_of_getElem? (i := 2) rfl))
  show Go _ _ _ _ _ _ _ T240 (mkF m 34 #[.val (.ref ao), .val (.ref ag), .val (.int (8 : Int32))] [])
  have f241 : Exa Z h240 ao "com/example/termvault/termvault/MarkArrays" := (E1_227.wr W240)
  have f242 : Fld Z h240 ao "com/example/termvault/termvault/MarkArrays" "positions" "[[J" (.ref ap) := (Fc1_227.other W240 (Or.inl ne1))
  have f243 : Fld Z h240 ao "com/example/termvault/termvault/MarkArrays" "positionsTaken" "I" (.int (12 : Int32)) := (Ft1_227.other W240 (Or.inl ne1))
  have f244 : Fld Z h240 ao "com/example/termvault/termvault/MarkArrays" "span" "I" (.int sp) := (Fs1_227.other W240 (Or.inl ne1))
  have f245 : Arv Z h240 ap kp (.array .long) (16 : Int32) ((((lc.set (8 : Int32).toNatClampNeg (.ref ar_195)).set (9 : Int32).toNatClampNeg (.ref ar_200)).set (10 : Int32).toNatClampNeg (.ref ar_213)).set (11 : Int32).toNatClampNeg (.ref ar_227)) .null := (Vc1_227.other W240 ne2)
  have f246 : Fld Z h240 ao "com/example/termvault/termvault/MarkArrays" "countsTaken" "I" (.int uo) := (Fo1_227.other W240 (Or.inl ne1))
  have f247 : Fld Z h240 ao "com/example/termvault/termvault/MarkArrays" "counts" "[[I" (.ref aw) := (Fq1_227.other W240 (Or.inl ne1))
  have f248 : own_Pos Z h240 [ao, ap, ag] ((((xs ++ [ar_195]) ++ [ar_200]) ++ [ar_213]) ++ [ar_227]) sp := (Ps227.keep (Keep.of_wr W240) (allS (List.mem_of_getElem? (i := 2) rfl) all0))
  have f249 : Exa Z h240 ar_195 "[J" := ((f235.keep Kq227).wr W240)
  have f250 : Exa Z h240 ar_200 "[J" := ((f236.keep Kq227).wr W240)
  have f251 : Exa Z h240 ar_213 "[J" := ((f237.keep Kq227).wr W240)
  have f252 : Exa Z h240 ar_227 "[J" := (Er_227.wr W240)
  exact Go.ret0 X240 hx hret hlk (hb hby d3_34) e240 (by decide) (by decide) ⟨ar_195, ar_200, ar_213, ar_227, rfl, N240, KK240, f241, f242, f243, f244, f245, f246, f247, V240, f248, f249, f250, f251, f252, sz_ar_195, sz_ar_200, sz_ar_213, sz_ar_227⟩
theorem ef_rmFo12 (m : MethodId) (ao : Addr) (ag : Addr) : entryFrame m #[(.ref ao), (.ref ag), (.int (12 : Int32))] 3 = mkF m 0 #[.val (.ref ao), .val (.ref ag), .val (.int (12 : Int32))] [] := by first | (simp [entryFrame, mkF, argsToLocals, Value.category]; done) | rfl
def Q_rmFo12 (Z : State) (ao : Addr) (ag : Addr) (ap : Addr) (kp : ClassId) (lc : List Value) (kg : ClassId) (vs : List Value) (sp : Int32) (uo : Int32) (aw : Addr) (xs : List Addr) (h0 : Heap) (n0 : Nat) (v : Option Value) (h : Heap) (L : List Loc) : Prop := ∃ x0 : Addr, ∃ x1 : Addr, ∃ x2 : Addr, ∃ x3 : Addr, (v = none) ∧ (Fr n0 L) ∧ (Keep h0 h [ao, ap, ag]) ∧ (Exa Z h ao "com/example/termvault/termvault/MarkArrays") ∧ (Fld Z h ao "com/example/termvault/termvault/MarkArrays" "positions" "[[J" (.ref ap)) ∧ (Fld Z h ao "com/example/termvault/termvault/MarkArrays" "positionsTaken" "I" (.int (16 : Int32))) ∧ (Fld Z h ao "com/example/termvault/termvault/MarkArrays" "span" "I" (.int sp)) ∧ (Arv Z h ap kp (.array .long) (16 : Int32) ((((lc.set (12 : Int32).toNatClampNeg (.ref x0)).set (13 : Int32).toNatClampNeg (.ref x1)).set (14 : Int32).toNatClampNeg (.ref x2)).set (15 : Int32).toNatClampNeg (.ref x3)) .null) ∧ (Fld Z h ao "com/example/termvault/termvault/MarkArrays" "countsTaken" "I" (.int uo)) ∧ (Fld Z h ao "com/example/termvault/termvault/MarkArrays" "counts" "[[I" (.ref aw)) ∧ (Arv Z h ag kg (.array .long) (18 : Int32) ((((vs.set 12 (.ref x0)).set 13 (.ref x1)).set 14 (.ref x2)).set 15 (.ref x3)) .null) ∧ (own_Pos Z h [ao, ap, ag] ((((xs ++ [x0]) ++ [x1]) ++ [x2]) ++ [x3]) sp) ∧ (Exa Z h x0 "[J") ∧ (Exa Z h x1 "[J") ∧ (Exa Z h x2 "[J") ∧ (Exa Z h x3 "[J") ∧ (h0.size ≤ x0) ∧ (h0.size ≤ x1) ∧ (h0.size ≤ x2) ∧ (h0.size ≤ x3)
set_option maxRecDepth 65536 in
set_option maxHeartbeats 40000000 in
theorem rmFo12 (l : Launch) (Z : State) (a0 : Array Value) (hw : ∀ d ∈ tables_1, d.before a0 Z = true) (ws : List Jvm.Cond) (ao : Addr) (ag : Addr) (ap : Addr) (kp : ClassId) (lc : List Value) (kg : ClassId) (vs : List Value) (sp : Int32) (uo : Int32) (aw : Addr) (xs : List Addr) (h0 : Heap) (n0 : Nat) (Z0 : n0 ≤ h0.size) (E0 : Exa Z h0 ao "com/example/termvault/termvault/MarkArrays") (Fc : Fld Z h0 ao "com/example/termvault/termvault/MarkArrays" "positions" "[[J" (.ref ap)) (Ft : Fld Z h0 ao "com/example/termvault/termvault/MarkArrays" "positionsTaken" "I" (.int (12 : Int32))) (Fs : Fld Z h0 ao "com/example/termvault/termvault/MarkArrays" "span" "I" (.int sp)) (Vc : Arv Z h0 ap kp (.array .long) (16 : Int32) lc .null) (Fo : Fld Z h0 ao "com/example/termvault/termvault/MarkArrays" "countsTaken" "I" (.int uo)) (Fq : Fld Z h0 ao "com/example/termvault/termvault/MarkArrays" "counts" "[[I" (.ref aw)) (Vg : Arv Z h0 ag kg (.array .long) (18 : Int32) vs .null) (P0 : own_Pos Z h0 [ao, ap, ag] xs sp) (ov_ap : OvrA Z kp .long "[J") (ov_ag : OvrA Z kg .long "[J") (g0 : n0 ≤ ao) (g1 : n0 ≤ ap) (g2 : n0 ≤ ag) (ne0 : ao ≠ ap) (ne1 : ao ≠ ag) (ne2 : ap ≠ ag) (hl : lc.length = (16 : Int32).toNatClampNeg) (hlv : vs.length = 18) (hn0 : lc.getD (12 : Int32).toNatClampNeg .null = .null) (hn1 : lc.getD (13 : Int32).toNatClampNeg .null = .null) (hn2 : lc.getD (14 : Int32).toNatClampNeg .null = .null) (hn3 : lc.getD (15 : Int32).toNatClampNeg .null = .null) (hs0 : ¬ (sp < (0 : Int32))) (hs1 : ¬ ((7 : Int32) < sp)) :
    MetFree l (⟨"com/example/termvault/termvault/MarkArraysPositionsPinLaw", "four", "(Lcom/example/termvault/termvault/MarkArrays;[[JI)V"⟩ : MethodName) (head1 (Jvm.Cond.code (⟨"com/example/termvault/termvault/MarkArraysPositionsPinLaw", "four", "(Lcom/example/termvault/termvault/MarkArrays;[[JI)V"⟩ : MethodName) method_2_code 3 none :: ws) ({ frames := 1, cells := 4, slots := 28, locals := 14 } : Room)) (fun aA U => aA = #[(.ref ao), (.ref ag), (.int (12 : Int32))] ∧ Z.Warmed39 U.vm ∧ U.heap = h0) (fun _ _ _ _ _ => True) (fun _ U o U' => ∃ v L, o = .returned v ∧ Q_rmFo12 Z ao ag ap kp lc kg vs sp uo aw xs h0 n0 v U'.heap L ∧ FrameEnd U o U' L ({ frames := 1, cells := 4, slots := 28, locals := 14 } : Room).cells ({ frames := 1, cells := 4, slots := 28, locals := 14 } : Room).slots) := by
  refine MetFree.of_bodySF (plainFor_of_name pn_com_example_termvault_termvault_MarkArraysPositionsPinLaw) hisR ?_
  intro p e s m args below meth c s₁ Bd hml0 hP hK
  obtain ⟨rfl, hZ, hh⟩ := hP
  have hx := Bd.exec
  have hby := Bd.bytes
  have hml : c.maxLocals = 3 := hml0
  have hown : s.vm.findClass "com/example/termvault/termvault/MarkArraysPositionsPinLaw" = some m.cls := findClass_of_methodNamed Bd.named
  have hnm := (name_of_methodNamed Bd.named Bd.method).1
  have hret := Bd.returns
  have hlk : meth.locks = false := BodyLoose.notSynchronized Bd
  have X0 : Stand p l e ({ frames := 1, cells := 4, slots := 28, locals := 14 } : Room) s m #[(.ref ao), (.ref ag), (.int (12 : Int32))] below meth c s₁ [] 0 0 := Stand.of_body Bd
  have e0 : s₁.heap = h0 := by rw [← hh, Bd.state]; rfl
  have N0 := Fr.nil n0
  suffices hgo : Go p e below s ({ frames := 1, cells := 4, slots := 28, locals := 14 } : Room).cells ({ frames := 1, cells := 4, slots := 28, locals := 14 } : Room).slots (Q_rmFo12 Z ao ag ap kp lc kg vs sp uo aw xs h0 n0) s₁ (mkF m 0 #[.val (.ref ao), .val (.ref ag), .val (.int (12 : Int32))] []) from hgo.enter (ef_rmFo12 m ao ag)
  refine Go.step (fun _ k => XS.aloadN X0.here hx rfl (hb hby d3_0) rfl rfl k) ?_
  show Go _ _ _ _ _ _ _ s₁ (mkF m 1 #[.val (.ref ao), .val (.ref ag), .val (.int (12 : Int32))] [(.ref ag)])
  refine Go.step (fun _ k => XS.iloadN X0.here hx rfl (hb hby d3_1) rfl k) ?_
  show Go _ _ _ _ _ _ _ s₁ (mkF m 2 #[.val (.ref ao), .val (.ref ag), .val (.int (12 : Int32))] [(.int (12 : Int32)), (.ref ag)])
  refine Go.step (fun _ k => XS.aloadN X0.here hx rfl (hb hby d3_2) rfl rfl k) ?_
  show Go _ _ _ _ _ _ _ s₁ (mkF m 3 #[.val (.ref ao), .val (.ref ag), .val (.int (12 : Int32))] [(.ref ao), (.int (12 : Int32)), (.ref ag)])
  obtain ⟨cq253, kq253, q253a, q253b, q253c⟩ := isOf hZ e0 E0
  obtain ⟨_, _, ⟨T253, L253, k253, n253⟩, -, X253, ⟨Lc253, hQ253, l253, y253, z253⟩, st253⟩ := X0.virtualBack hx (y := (⟨"com/example/termvault/termvault/MarkArrays", "positions", "()[J"⟩ : MethodName)) (z := (⟨"com/example/termvault/termvault/MarkArrays", "positions", "()[J"⟩ : MethodName)) hown (mvT hZ (hw _ (List.mem_of_getElem? (i := 24) rfl))) (mvT hZ (hw _ (List.mem_of_getElem? (i := 25) rfl))) (notFace_of_selects (args := #[]) (mvT hZ (hw _ (List.mem_of_getElem? (i := 27) rfl)))) (mvT hZ (hw _ (List.mem_of_getElem? (i := 27) rfl))) (mvT hZ (hw _ (List.mem_of_getElem? (i := 26) rfl))) (by decide) (backOf (W := 2) (rmPt l Z a0 hw [] ao ap kp lc (12 : Int32) sp uo aw h0 n0 Z0 E0 Fc Ft Fs Vc Fo Fq ov_ap g0 g1 ne0 (by decide) (by decide) hl hn0 hs0 hs1) hZ (hw _ (List.mem_of_getElem? (i := 28) rfl)) (hw _ (List.mem_of_getElem? (i := 2) rfl)) (by decide) (by decide)) q253a q253c (g := (mkF m 3 #[.val (.ref ao), .val (.ref ag), .val (.int (12 : Int32))] [(.ref ao), (.int (12 : Int32)), (.ref ag)])) rfl (by rw [hml]; rfl) (Steps.refl _) (argsL := []) (rest := [(.int (12 : Int32)), (.ref ag)]) (lenOf pd____J rfl) rfl (by show 2 * 0 + _ ≤ _; exact Nat.le_of_eq rfl) (hb hby d3_3) (fun _ _ => ⟨rfl, e0, (by decide : 0 + 1 ≤ _), (by decide : 0 + 7 ≤ _)⟩)
  dsimp only [Pt.U, Pt.locs, Pt.cells, Pt.slots] at X253 l253 y253 z253 st253 hQ253
  subst l253 y253 z253
  obtain ⟨h253, e253⟩ : ∃ h, T253.heap = h := ⟨_, rfl⟩
  rw [e253] at hQ253
  obtain ⟨ar_253, kr_253, rfl, Nq253, Kq253, sa_253, E1_253, Fc1_253, Ft1_253, Fs1_253, Fo1_253, Fq1_253, Vc1_253, Vr_253, Er_253⟩ := hQ253
  have N253 := Fr.app N0 Nq253
  have Z253 : n0 ≤ h253.size := Nat.le_trans Z0 Kq253.1
  have KK253 : Keep h0 h253 [ao, ap, ag] := (Keep.refl h0 [ao, ap, ag]).trans Kq253 (allS (Or.inl (List.mem_of_getElem? (i := 0) rfl)) (allS (Or.inl (List.mem_of_getElem? (i := 1) rfl)) all0))
  have g_ar_253 : n0 ≤ ar_253 := Nat.le_trans Z0 sa_253
  have sz_ar_253 : h0.size ≤ ar_253 := Nat.le_trans (Keep.refl h0 [ao, ap, ag]).1 sa_253
  have ne_ag_ar_253 : ag ≠ ar_253 := Nat.ne_of_lt (Nat.lt_of_lt_of_le Vg.lt sa_253)
  have ne_ao_ar_253 : ao ≠ ar_253 := Nat.ne_of_lt (Nat.lt_of_lt_of_le E0.lt sa_253)
  have ne_ap_ar_253 : ap ≠ ar_253 := Nat.ne_of_lt (Nat.lt_of_lt_of_le Vc.lt sa_253)
  have Ft1_253 : Fld Z h253 ao "com/example/termvault/termvault/MarkArrays" "positionsTaken" "I" (.int (13 : Int32)) := Ft1_253
  refine Go.trans st253 ?_
  have f254 : own_Pos Z h253 [ao, ap, ag] xs sp := (P0.keep Kq253 (allS (List.mem_of_getElem? (i := 0) rfl) (allS (List.mem_of_getElem? (i := 1) rfl) all0)))
  have Ps253 : own_Pos Z h253 [ao, ap, ag] (xs ++ [ar_253]) sp := f254.snoc (fun y hy => Nat.ne_of_lt (Nat.lt_of_lt_of_le (P0.lt y hy) sa_253)) (ninS (Ne.symm ne_ao_ar_253) (ninS (Ne.symm ne_ap_ar_253) (ninS (Ne.symm ne_ag_ar_253) nin0))) Er_253 Vr_253
  show Go _ _ _ _ _ _ _ T253 (mkF m 6 #[.val (.ref ao), .val (.ref ag), .val (.int (12 : Int32))] [(.ref ar_253), (.int (12 : Int32)), (.ref ag)])
  have f255 : Arv Z h253 ag kg (.array .long) (18 : Int32) vs .null := (Vg.keep Kq253 (ninS (Ne.symm ne1) (ninS (Ne.symm ne2) nin0)))
  obtain ⟨cl256, Ar256, q256, S256, M256, H256, G256⟩ := id (f255)
  have hin256 : ¬ ((12 : Int32) < 0 ∨ cl256.slots.size ≤ ((12 : Int32)).toNatClampNeg) := inb_of S256 ⟨by decide, by decide⟩
  obtain ⟨T256, h256, X256, e256, W256, st256⟩ := stR X253 hx hZ e253 Ar256 (j := (12 : Int32)) hin256 rfl (Sto.ofVA Ar256 q256 ov_ag (Ins.self Er_253)) (g := (mkF m 6 #[.val (.ref ao), .val (.ref ag), .val (.int (12 : Int32))] [(.ref ar_253), (.int (12 : Int32)), (.ref ag)])) rfl rfl (hb hby d3_6)
  refine Go.step st256 ?_
  have V256 : Arv Z h256 ag kg (.array .long) (18 : Int32) (vs.set 12 (.ref ar_253)) .null := Arv.set Ar256 q256 S256 M256 H256 G256 rfl W256 12 rfl (by (try simp only [List.length_set]); rw [hlv]; decide)
  have N256 := Fr.snoc X256 N253 g2
  have Z256 : n0 ≤ h256.size := Nat.le_trans Z253 (Keep.of_wr W256).1
  have KK256 : Keep h0 h256 [ao, ap, ag] := KK253.wr W256 (Or.inl (List.mem_of_getElem? (i := 2) rfl))
  show Go _ _ _ _ _ _ _ T256 (mkF m 7 #[.val (.ref ao), .val (.ref ag), .val (.int (12 : Int32))] [])
  refine Go.step (fun _ k => XS.aloadN X256.here hx rfl (hb hby d3_7) rfl rfl k) ?_
  show Go _ _ _ _ _ _ _ T256 (mkF m 8 #[.val (.ref ao), .val (.ref ag), .val (.int (12 : Int32))] [(.ref ag)])
  refine Go.step (fun _ k => XS.iloadN X256.here hx rfl (hb hby d3_8) rfl k) ?_
  show Go _ _ _ _ _ _ _ T256 (mkF m 9 #[.val (.ref ao), .val (.ref ag), .val (.int (12 : Int32))] [(.int (12 : Int32)), (.ref ag)])
  refine Go.step (fun _ k => XS.iconst X256.here hx rfl (hb hby d3_9) k) ?_
  show Go _ _ _ _ _ _ _ T256 (mkF m 10 #[.val (.ref ao), .val (.ref ag), .val (.int (12 : Int32))] [(.int (1 : Int32)), (.int (12 : Int32)), (.ref ag)])
  refine Go.step (fun _ k => XS.iadd X256.here hx rfl (hb hby d3_10) rfl k) ?_
  show Go _ _ _ _ _ _ _ T256 (mkF m 11 #[.val (.ref ao), .val (.ref ag), .val (.int (12 : Int32))] [(.int (13 : Int32)), (.ref ag)])
  refine Go.step (fun _ k => XS.aloadN X256.here hx rfl (hb hby d3_11) rfl rfl k) ?_
  show Go _ _ _ _ _ _ _ T256 (mkF m 12 #[.val (.ref ao), .val (.ref ag), .val (.int (12 : Int32))] [(.ref ao), (.int (13 : Int32)), (.ref ag)])
  have f257 : own_Pos Z h256 [ao, ap, ag] (xs ++ [ar_253]) sp := (Ps253.keep (Keep.of_wr W256) (allS (List.mem_of_getElem? (i := 2) rfl) all0))
  have f259 : Exa Z h256 ao "com/example/termvault/termvault/MarkArrays" := (E1_253.wr W256)
  have f260 : Fld Z h256 ao "com/example/termvault/termvault/MarkArrays" "positions" "[[J" (.ref ap) := (Fc1_253.other W256 (Or.inl ne1))
  have f261 : Fld Z h256 ao "com/example/termvault/termvault/MarkArrays" "positionsTaken" "I" (.int (13 : Int32)) := (Ft1_253.other W256 (Or.inl ne1))
  have f262 : Fld Z h256 ao "com/example/termvault/termvault/MarkArrays" "span" "I" (.int sp) := (Fs1_253.other W256 (Or.inl ne1))
  have f263 : Arv Z h256 ap kp (.array .long) (16 : Int32) (lc.set (12 : Int32).toNatClampNeg (.ref ar_253)) .null := (Vc1_253.other W256 ne2)
  have f264 : Fld Z h256 ao "com/example/termvault/termvault/MarkArrays" "countsTaken" "I" (.int uo) := (Fo1_253.other W256 (Or.inl ne1))
  have f265 : Fld Z h256 ao "com/example/termvault/termvault/MarkArrays" "counts" "[[I" (.ref aw) := (Fq1_253.other W256 (Or.inl ne1))
  obtain ⟨cq258, kq258, q258a, q258b, q258c⟩ := isOf hZ e256 f259
  obtain ⟨_, _, ⟨T258, L258, k258, n258⟩, -, X258, ⟨Lc258, hQ258, l258, y258, z258⟩, st258⟩ := X256.virtualBack hx (y := (⟨"com/example/termvault/termvault/MarkArrays", "positions", "()[J"⟩ : MethodName)) (z := (⟨"com/example/termvault/termvault/MarkArrays", "positions", "()[J"⟩ : MethodName)) hown (mvT hZ (hw _ (List.mem_of_getElem? (i := 24) rfl))) (mvT hZ (hw _ (List.mem_of_getElem? (i := 25) rfl))) (notFace_of_selects (args := #[]) (mvT hZ (hw _ (List.mem_of_getElem? (i := 27) rfl)))) (mvT hZ (hw _ (List.mem_of_getElem? (i := 27) rfl))) (mvT hZ (hw _ (List.mem_of_getElem? (i := 26) rfl))) (by decide) (backOf (W := 2) (rmPt l Z a0 hw [] ao ap kp (lc.set (12 : Int32).toNatClampNeg (.ref ar_253)) (13 : Int32) sp uo aw h256 n0 Z256 f259 f260 f261 f262 f263 f264 f265 ov_ap g0 g1 ne0 (by decide) (by decide) (by simp only [List.length_set]; exact hl) ((own_n (by decide)).trans hn1) hs0 hs1) hZ (hw _ (List.mem_of_getElem? (i := 28) rfl)) (hw _ (List.mem_of_getElem? (i := 2) rfl)) (by decide) (by decide)) q258a q258c (g := (mkF m 12 #[.val (.ref ao), .val (.ref ag), .val (.int (12 : Int32))] [(.ref ao), (.int (13 : Int32)), (.ref ag)])) rfl (by rw [hml]; rfl) (Steps.refl _) (argsL := []) (rest := [(.int (13 : Int32)), (.ref ag)]) (lenOf pd____J rfl) rfl (by show 2 * 0 + _ ≤ _; exact Nat.le_of_eq rfl) (hb hby d3_12) (fun _ _ => ⟨rfl, e256, (by decide : 1 + 1 ≤ _), (by decide : 7 + 7 ≤ _)⟩)
  dsimp only [Pt.U, Pt.locs, Pt.cells, Pt.slots] at X258 l258 y258 z258 st258 hQ258
  subst l258 y258 z258
  obtain ⟨h258, e258⟩ : ∃ h, T258.heap = h := ⟨_, rfl⟩
  rw [e258] at hQ258
  have f266 : Exa Z h256 ar_253 "[J" := (Er_253.wr W256)
  obtain ⟨ar_258, kr_258, rfl, Nq258, Kq258, sa_258, E1_258, Fc1_258, Ft1_258, Fs1_258, Fo1_258, Fq1_258, Vc1_258, Vr_258, Er_258⟩ := hQ258
  have N258 := Fr.app N256 Nq258
  have Z258 : n0 ≤ h258.size := Nat.le_trans Z256 Kq258.1
  have KK258 : Keep h0 h258 [ao, ap, ag] := KK256.trans Kq258 (allS (Or.inl (List.mem_of_getElem? (i := 0) rfl)) (allS (Or.inl (List.mem_of_getElem? (i := 1) rfl)) all0))
  have g_ar_258 : n0 ≤ ar_258 := Nat.le_trans Z256 sa_258
  have sz_ar_258 : h0.size ≤ ar_258 := Nat.le_trans KK256.1 sa_258
  have ne_ag_ar_258 : ag ≠ ar_258 := Nat.ne_of_lt (Nat.lt_of_lt_of_le V256.lt sa_258)
  have ne_ao_ar_258 : ao ≠ ar_258 := Nat.ne_of_lt (Nat.lt_of_lt_of_le f259.lt sa_258)
  have ne_ap_ar_258 : ap ≠ ar_258 := Nat.ne_of_lt (Nat.lt_of_lt_of_le f263.lt sa_258)
  have ne_ar_253_ar_258 : ar_253 ≠ ar_258 := Nat.ne_of_lt (Nat.lt_of_lt_of_le f266.lt sa_258)
  have Ft1_258 : Fld Z h258 ao "com/example/termvault/termvault/MarkArrays" "positionsTaken" "I" (.int (14 : Int32)) := Ft1_258
  refine Go.trans st258 ?_
  have f267 : own_Pos Z h258 [ao, ap, ag] (xs ++ [ar_253]) sp := (f257.keep Kq258 (allS (List.mem_of_getElem? (i := 0) rfl) (allS (List.mem_of_getElem? (i := 1) rfl) all0)))
  have Ps258 : own_Pos Z h258 [ao, ap, ag] ((xs ++ [ar_253]) ++ [ar_258]) sp := f267.snoc (fun y hy => Nat.ne_of_lt (Nat.lt_of_lt_of_le (f257.lt y hy) sa_258)) (ninS (Ne.symm ne_ao_ar_258) (ninS (Ne.symm ne_ap_ar_258) (ninS (Ne.symm ne_ag_ar_258) nin0))) Er_258 Vr_258
  show Go _ _ _ _ _ _ _ T258 (mkF m 15 #[.val (.ref ao), .val (.ref ag), .val (.int (12 : Int32))] [(.ref ar_258), (.int (13 : Int32)), (.ref ag)])
  have f268 : Arv Z h258 ag kg (.array .long) (18 : Int32) (vs.set 12 (.ref ar_253)) .null := (V256.keep Kq258 (ninS (Ne.symm ne1) (ninS (Ne.symm ne2) nin0)))
  obtain ⟨cl269, Ar269, q269, S269, M269, H269, G269⟩ := id (f268)
  have hin269 : ¬ ((13 : Int32) < 0 ∨ cl269.slots.size ≤ ((13 : Int32)).toNatClampNeg) := inb_of S269 ⟨by decide, by decide⟩
  obtain ⟨T269, h269, X269, e269, W269, st269⟩ := stR X258 hx hZ e258 Ar269 (j := (13 : Int32)) hin269 rfl (Sto.ofVA Ar269 q269 ov_ag (Ins.self Er_258)) (g := (mkF m 15 #[.val (.ref ao), .val (.ref ag), .val (.int (12 : Int32))] [(.ref ar_258), (.int (13 : Int32)), (.ref ag)])) rfl rfl (hb hby d3_15)
  refine Go.step st269 ?_
  have V269 : Arv Z h269 ag kg (.array .long) (18 : Int32) ((vs.set 12 (.ref ar_253)).set 13 (.ref ar_258)) .null := Arv.set Ar269 q269 S269 M269 H269 G269 rfl W269 13 rfl (by (try simp only [List.length_set]); rw [hlv]; decide)
  have N269 := Fr.snoc X269 N258 g2
  have Z269 : n0 ≤ h269.size := Nat.le_trans Z258 (Keep.of_wr W269).1
  have KK269 : Keep h0 h269 [ao, ap, ag] := KK258.wr W269 (Or.inl (List.mem_of_getElem? (i := 2) rfl))
  show Go _ _ _ _ _ _ _ T269 (mkF m 16 #[.val (.ref ao), .val (.ref ag), .val (.int (12 : Int32))] [])
  refine Go.step (fun _ k => XS.aloadN X269.here hx rfl (hb hby d3_16) rfl rfl k) ?_
  show Go _ _ _ _ _ _ _ T269 (mkF m 17 #[.val (.ref ao), .val (.ref ag), .val (.int (12 : Int32))] [(.ref ag)])
  refine Go.step (fun _ k => XS.iloadN X269.here hx rfl (hb hby d3_17) rfl k) ?_
  show Go _ _ _ _ _ _ _ T269 (mkF m 18 #[.val (.ref ao), .val (.ref ag), .val (.int (12 : Int32))] [(.int (12 : Int32)), (.ref ag)])
  refine Go.step (fun _ k => XS.iconst X269.here hx rfl (hb hby d3_18) k) ?_
  show Go _ _ _ _ _ _ _ T269 (mkF m 19 #[.val (.ref ao), .val (.ref ag), .val (.int (12 : Int32))] [(.int (2 : Int32)), (.int (12 : Int32)), (.ref ag)])
  refine Go.step (fun _ k => XS.iadd X269.here hx rfl (hb hby d3_19) rfl k) ?_
  show Go _ _ _ _ _ _ _ T269 (mkF m 20 #[.val (.ref ao), .val (.ref ag), .val (.int (12 : Int32))] [(.int (14 : Int32)), (.ref ag)])
  refine Go.step (fun _ k => XS.aloadN X269.here hx rfl (hb hby d3_20) rfl rfl k) ?_
  show Go _ _ _ _ _ _ _ T269 (mkF m 21 #[.val (.ref ao), .val (.ref ag), .val (.int (12 : Int32))] [(.ref ao), (.int (14 : Int32)), (.ref ag)])
  have f270 : own_Pos Z h269 [ao, ap, ag] ((xs ++ [ar_253]) ++ [ar_258]) sp := (Ps258.keep (Keep.of_wr W269) (allS (List.mem_of_getElem? (i := 2) rfl) all0))
  have f272 : Exa Z h269 ao "com/example/termvault/termvault/MarkArrays" := (E1_258.wr W269)
  have f273 : Fld Z h269 ao "com/example/termvault/termvault/MarkArrays" "positions" "[[J" (.ref ap) := (Fc1_258.other W269 (Or.inl ne1))
  have f274 : Fld Z h269 ao "com/example/termvault/termvault/MarkArrays" "positionsTaken" "I" (.int (14 : Int32)) := (Ft1_258.other W269 (Or.inl ne1))
  have f275 : Fld Z h269 ao "com/example/termvault/termvault/MarkArrays" "span" "I" (.int sp) := (Fs1_258.other W269 (Or.inl ne1))
  have f276 : Arv Z h269 ap kp (.array .long) (16 : Int32) ((lc.set (12 : Int32).toNatClampNeg (.ref ar_253)).set (13 : Int32).toNatClampNeg (.ref ar_258)) .null := (Vc1_258.other W269 ne2)
  have f277 : Fld Z h269 ao "com/example/termvault/termvault/MarkArrays" "countsTaken" "I" (.int uo) := (Fo1_258.other W269 (Or.inl ne1))
  have f278 : Fld Z h269 ao "com/example/termvault/termvault/MarkArrays" "counts" "[[I" (.ref aw) := (Fq1_258.other W269 (Or.inl ne1))
  obtain ⟨cq271, kq271, q271a, q271b, q271c⟩ := isOf hZ e269 f272
  obtain ⟨_, _, ⟨T271, L271, k271, n271⟩, -, X271, ⟨Lc271, hQ271, l271, y271, z271⟩, st271⟩ := X269.virtualBack hx (y := (⟨"com/example/termvault/termvault/MarkArrays", "positions", "()[J"⟩ : MethodName)) (z := (⟨"com/example/termvault/termvault/MarkArrays", "positions", "()[J"⟩ : MethodName)) hown (mvT hZ (hw _ (List.mem_of_getElem? (i := 24) rfl))) (mvT hZ (hw _ (List.mem_of_getElem? (i := 25) rfl))) (notFace_of_selects (args := #[]) (mvT hZ (hw _ (List.mem_of_getElem? (i := 27) rfl)))) (mvT hZ (hw _ (List.mem_of_getElem? (i := 27) rfl))) (mvT hZ (hw _ (List.mem_of_getElem? (i := 26) rfl))) (by decide) (backOf (W := 2) (rmPt l Z a0 hw [] ao ap kp ((lc.set (12 : Int32).toNatClampNeg (.ref ar_253)).set (13 : Int32).toNatClampNeg (.ref ar_258)) (14 : Int32) sp uo aw h269 n0 Z269 f272 f273 f274 f275 f276 f277 f278 ov_ap g0 g1 ne0 (by decide) (by decide) (by simp only [List.length_set]; exact hl) ((own_n (by decide)).trans ((own_n (by decide)).trans hn2)) hs0 hs1) hZ (hw _ (List.mem_of_getElem? (i := 28) rfl)) (hw _ (List.mem_of_getElem? (i := 2) rfl)) (by decide) (by decide)) q271a q271c (g := (mkF m 21 #[.val (.ref ao), .val (.ref ag), .val (.int (12 : Int32))] [(.ref ao), (.int (14 : Int32)), (.ref ag)])) rfl (by rw [hml]; rfl) (Steps.refl _) (argsL := []) (rest := [(.int (14 : Int32)), (.ref ag)]) (lenOf pd____J rfl) rfl (by show 2 * 0 + _ ≤ _; exact Nat.le_of_eq rfl) (hb hby d3_21) (fun _ _ => ⟨rfl, e269, (by decide : 2 + 1 ≤ _), (by decide : 14 + 7 ≤ _)⟩)
  dsimp only [Pt.U, Pt.locs, Pt.cells, Pt.slots] at X271 l271 y271 z271 st271 hQ271
  subst l271 y271 z271
  obtain ⟨h271, e271⟩ : ∃ h, T271.heap = h := ⟨_, rfl⟩
  rw [e271] at hQ271
  have f279 : Exa Z h269 ar_253 "[J" := ((f266.keep Kq258).wr W269)
  have f280 : Exa Z h269 ar_258 "[J" := (Er_258.wr W269)
  obtain ⟨ar_271, kr_271, rfl, Nq271, Kq271, sa_271, E1_271, Fc1_271, Ft1_271, Fs1_271, Fo1_271, Fq1_271, Vc1_271, Vr_271, Er_271⟩ := hQ271
  have N271 := Fr.app N269 Nq271
  have Z271 : n0 ≤ h271.size := Nat.le_trans Z269 Kq271.1
  have KK271 : Keep h0 h271 [ao, ap, ag] := KK269.trans Kq271 (allS (Or.inl (List.mem_of_getElem? (i := 0) rfl)) (allS (Or.inl (List.mem_of_getElem? (i := 1) rfl)) all0))
  have g_ar_271 : n0 ≤ ar_271 := Nat.le_trans Z269 sa_271
  have sz_ar_271 : h0.size ≤ ar_271 := Nat.le_trans KK269.1 sa_271
  have ne_ag_ar_271 : ag ≠ ar_271 := Nat.ne_of_lt (Nat.lt_of_lt_of_le V269.lt sa_271)
  have ne_ao_ar_271 : ao ≠ ar_271 := Nat.ne_of_lt (Nat.lt_of_lt_of_le f272.lt sa_271)
  have ne_ap_ar_271 : ap ≠ ar_271 := Nat.ne_of_lt (Nat.lt_of_lt_of_le f276.lt sa_271)
  have ne_ar_253_ar_271 : ar_253 ≠ ar_271 := Nat.ne_of_lt (Nat.lt_of_lt_of_le f279.lt sa_271)
  have ne_ar_258_ar_271 : ar_258 ≠ ar_271 := Nat.ne_of_lt (Nat.lt_of_lt_of_le f280.lt sa_271)
  have Ft1_271 : Fld Z h271 ao "com/example/termvault/termvault/MarkArrays" "positionsTaken" "I" (.int (15 : Int32)) := Ft1_271
  refine Go.trans st271 ?_
  have f281 : own_Pos Z h271 [ao, ap, ag] ((xs ++ [ar_253]) ++ [ar_258]) sp := (f270.keep Kq271 (allS (List.mem_of_getElem? (i := 0) rfl) (allS (List.mem_of_getElem? (i := 1) rfl) all0)))
  have Ps271 : own_Pos Z h271 [ao, ap, ag] (((xs ++ [ar_253]) ++ [ar_258]) ++ [ar_271]) sp := f281.snoc (fun y hy => Nat.ne_of_lt (Nat.lt_of_lt_of_le (f270.lt y hy) sa_271)) (ninS (Ne.symm ne_ao_ar_271) (ninS (Ne.symm ne_ap_ar_271) (ninS (Ne.symm ne_ag_ar_271) nin0))) Er_271 Vr_271
  show Go _ _ _ _ _ _ _ T271 (mkF m 24 #[.val (.ref ao), .val (.ref ag), .val (.int (12 : Int32))] [(.ref ar_271), (.int (14 : Int32)), (.ref ag)])
  have f282 : Arv Z h271 ag kg (.array .long) (18 : Int32) ((vs.set 12 (.ref ar_253)).set 13 (.ref ar_258)) .null := (V269.keep Kq271 (ninS (Ne.symm ne1) (ninS (Ne.symm ne2) nin0)))
  obtain ⟨cl283, Ar283, q283, S283, M283, H283, G283⟩ := id (f282)
  have hin283 : ¬ ((14 : Int32) < 0 ∨ cl283.slots.size ≤ ((14 : Int32)).toNatClampNeg) := inb_of S283 ⟨by decide, by decide⟩
  obtain ⟨T283, h283, X283, e283, W283, st283⟩ := stR X271 hx hZ e271 Ar283 (j := (14 : Int32)) hin283 rfl (Sto.ofVA Ar283 q283 ov_ag (Ins.self Er_271)) (g := (mkF m 24 #[.val (.ref ao), .val (.ref ag), .val (.int (12 : Int32))] [(.ref ar_271), (.int (14 : Int32)), (.ref ag)])) rfl rfl (hb hby d3_24)
  refine Go.step st283 ?_
  have V283 : Arv Z h283 ag kg (.array .long) (18 : Int32) (((vs.set 12 (.ref ar_253)).set 13 (.ref ar_258)).set 14 (.ref ar_271)) .null := Arv.set Ar283 q283 S283 M283 H283 G283 rfl W283 14 rfl (by (try simp only [List.length_set]); rw [hlv]; decide)
  have N283 := Fr.snoc X283 N271 g2
  have Z283 : n0 ≤ h283.size := Nat.le_trans Z271 (Keep.of_wr W283).1
  have KK283 : Keep h0 h283 [ao, ap, ag] := KK271.wr W283 (Or.inl (List.mem_of_getElem? (i := 2) rfl))
  show Go _ _ _ _ _ _ _ T283 (mkF m 25 #[.val (.ref ao), .val (.ref ag), .val (.int (12 : Int32))] [])
  refine Go.step (fun _ k => XS.aloadN X283.here hx rfl (hb hby d3_25) rfl rfl k) ?_
  show Go _ _ _ _ _ _ _ T283 (mkF m 26 #[.val (.ref ao), .val (.ref ag), .val (.int (12 : Int32))] [(.ref ag)])
  refine Go.step (fun _ k => XS.iloadN X283.here hx rfl (hb hby d3_26) rfl k) ?_
  show Go _ _ _ _ _ _ _ T283 (mkF m 27 #[.val (.ref ao), .val (.ref ag), .val (.int (12 : Int32))] [(.int (12 : Int32)), (.ref ag)])
  refine Go.step (fun _ k => XS.iconst X283.here hx rfl (hb hby d3_27) k) ?_
  show Go _ _ _ _ _ _ _ T283 (mkF m 28 #[.val (.ref ao), .val (.ref ag), .val (.int (12 : Int32))] [(.int (3 : Int32)), (.int (12 : Int32)), (.ref ag)])
  refine Go.step (fun _ k => XS.iadd X283.here hx rfl (hb hby d3_28) rfl k) ?_
  show Go _ _ _ _ _ _ _ T283 (mkF m 29 #[.val (.ref ao), .val (.ref ag), .val (.int (12 : Int32))] [(.int (15 : Int32)), (.ref ag)])
  refine Go.step (fun _ k => XS.aloadN X283.here hx rfl (hb hby d3_29) rfl rfl k) ?_
  show Go _ _ _ _ _ _ _ T283 (mkF m 30 #[.val (.ref ao), .val (.ref ag), .val (.int (12 : Int32))] [(.ref ao), (.int (15 : Int32)), (.ref ag)])
  have f284 : own_Pos Z h283 [ao, ap, ag] (((xs ++ [ar_253]) ++ [ar_258]) ++ [ar_271]) sp := (Ps271.keep (Keep.of_wr W283) (allS (List.mem_of_getElem? (i := 2) rfl) all0))
  have f286 : Exa Z h283 ao "com/example/termvault/termvault/MarkArrays" := (E1_271.wr W283)
  have f287 : Fld Z h283 ao "com/example/termvault/termvault/MarkArrays" "positions" "[[J" (.ref ap) := (Fc1_271.other W283 (Or.inl ne1))
  have f288 : Fld Z h283 ao "com/example/termvault/termvault/MarkArrays" "positionsTaken" "I" (.int (15 : Int32)) := (Ft1_271.other W283 (Or.inl ne1))
  have f289 : Fld Z h283 ao "com/example/termvault/termvault/MarkArrays" "span" "I" (.int sp) := (Fs1_271.other W283 (Or.inl ne1))
  have f290 : Arv Z h283 ap kp (.array .long) (16 : Int32) (((lc.set (12 : Int32).toNatClampNeg (.ref ar_253)).set (13 : Int32).toNatClampNeg (.ref ar_258)).set (14 : Int32).toNatClampNeg (.ref ar_271)) .null := (Vc1_271.other W283 ne2)
  have f291 : Fld Z h283 ao "com/example/termvault/termvault/MarkArrays" "countsTaken" "I" (.int uo) := (Fo1_271.other W283 (Or.inl ne1))
  have f292 : Fld Z h283 ao "com/example/termvault/termvault/MarkArrays" "counts" "[[I" (.ref aw) := (Fq1_271.other W283 (Or.inl ne1))
  obtain ⟨cq285, kq285, q285a, q285b, q285c⟩ := isOf hZ e283 f286
  obtain ⟨_, _, ⟨T285, L285, k285, n285⟩, -, X285, ⟨Lc285, hQ285, l285, y285, z285⟩, st285⟩ := X283.virtualBack hx (y := (⟨"com/example/termvault/termvault/MarkArrays", "positions", "()[J"⟩ : MethodName)) (z := (⟨"com/example/termvault/termvault/MarkArrays", "positions", "()[J"⟩ : MethodName)) hown (mvT hZ (hw _ (List.mem_of_getElem? (i := 24) rfl))) (mvT hZ (hw _ (List.mem_of_getElem? (i := 25) rfl))) (notFace_of_selects (args := #[]) (mvT hZ (hw _ (List.mem_of_getElem? (i := 27) rfl)))) (mvT hZ (hw _ (List.mem_of_getElem? (i := 27) rfl))) (mvT hZ (hw _ (List.mem_of_getElem? (i := 26) rfl))) (by decide) (backOf (W := 2) (rmPt l Z a0 hw [] ao ap kp (((lc.set (12 : Int32).toNatClampNeg (.ref ar_253)).set (13 : Int32).toNatClampNeg (.ref ar_258)).set (14 : Int32).toNatClampNeg (.ref ar_271)) (15 : Int32) sp uo aw h283 n0 Z283 f286 f287 f288 f289 f290 f291 f292 ov_ap g0 g1 ne0 (by decide) (by decide) (by simp only [List.length_set]; exact hl) ((own_n (by decide)).trans ((own_n (by decide)).trans ((own_n (by decide)).trans hn3))) hs0 hs1) hZ (hw _ (List.mem_of_getElem? (i := 28) rfl)) (hw _ (List.mem_of_getElem? (i := 2) rfl)) (by decide) (by decide)) q285a q285c (g := (mkF m 30 #[.val (.ref ao), .val (.ref ag), .val (.int (12 : Int32))] [(.ref ao), (.int (15 : Int32)), (.ref ag)])) rfl (by rw [hml]; rfl) (Steps.refl _) (argsL := []) (rest := [(.int (15 : Int32)), (.ref ag)]) (lenOf pd____J rfl) rfl (by show 2 * 0 + _ ≤ _; exact Nat.le_of_eq rfl) (hb hby d3_30) (fun _ _ => ⟨rfl, e283, (by decide : 3 + 1 ≤ _), (by decide : 21 + 7 ≤ _)⟩)
  dsimp only [Pt.U, Pt.locs, Pt.cells, Pt.slots] at X285 l285 y285 z285 st285 hQ285
  subst l285 y285 z285
  obtain ⟨h285, e285⟩ : ∃ h, T285.heap = h := ⟨_, rfl⟩
  rw [e285] at hQ285
  have f293 : Exa Z h283 ar_253 "[J" := ((f279.keep Kq271).wr W283)
  have f294 : Exa Z h283 ar_258 "[J" := ((f280.keep Kq271).wr W283)
  have f295 : Exa Z h283 ar_271 "[J" := (Er_271.wr W283)
  obtain ⟨ar_285, kr_285, rfl, Nq285, Kq285, sa_285, E1_285, Fc1_285, Ft1_285, Fs1_285, Fo1_285, Fq1_285, Vc1_285, Vr_285, Er_285⟩ := hQ285
  have N285 := Fr.app N283 Nq285
  have Z285 : n0 ≤ h285.size := Nat.le_trans Z283 Kq285.1
  have KK285 : Keep h0 h285 [ao, ap, ag] := KK283.trans Kq285 (allS (Or.inl (List.mem_of_getElem? (i := 0) rfl)) (allS (Or.inl (List.mem_of_getElem? (i := 1) rfl)) all0))
  have g_ar_285 : n0 ≤ ar_285 := Nat.le_trans Z283 sa_285
  have sz_ar_285 : h0.size ≤ ar_285 := Nat.le_trans KK283.1 sa_285
  have ne_ag_ar_285 : ag ≠ ar_285 := Nat.ne_of_lt (Nat.lt_of_lt_of_le V283.lt sa_285)
  have ne_ao_ar_285 : ao ≠ ar_285 := Nat.ne_of_lt (Nat.lt_of_lt_of_le f286.lt sa_285)
  have ne_ap_ar_285 : ap ≠ ar_285 := Nat.ne_of_lt (Nat.lt_of_lt_of_le f290.lt sa_285)
  have ne_ar_253_ar_285 : ar_253 ≠ ar_285 := Nat.ne_of_lt (Nat.lt_of_lt_of_le f293.lt sa_285)
  have ne_ar_258_ar_285 : ar_258 ≠ ar_285 := Nat.ne_of_lt (Nat.lt_of_lt_of_le f294.lt sa_285)
  have ne_ar_271_ar_285 : ar_271 ≠ ar_285 := Nat.ne_of_lt (Nat.lt_of_lt_of_le f295.lt sa_285)
  have Ft1_285 : Fld Z h285 ao "com/example/termvault/termvault/MarkArrays" "positionsTaken" "I" (.int (16 : Int32)) := Ft1_285
  refine Go.trans st285 ?_
  have f296 : own_Pos Z h285 [ao, ap, ag] (((xs ++ [ar_253]) ++ [ar_258]) ++ [ar_271]) sp := (f284.keep Kq285 (allS (List.mem_of_getElem? (i := 0) rfl) (allS (List.mem_of_getElem? (i := 1) rfl) all0)))
  have Ps285 : own_Pos Z h285 [ao, ap, ag] ((((xs ++ [ar_253]) ++ [ar_258]) ++ [ar_271]) ++ [ar_285]) sp := f296.snoc (fun y hy => Nat.ne_of_lt (Nat.lt_of_lt_of_le (f284.lt y hy) sa_285)) (ninS (Ne.symm ne_ao_ar_285) (ninS (Ne.symm ne_ap_ar_285) (ninS (Ne.symm ne_ag_ar_285) nin0))) Er_285 Vr_285
  show Go _ _ _ _ _ _ _ T285 (mkF m 33 #[.val (.ref ao), .val (.ref ag), .val (.int (12 : Int32))] [(.ref ar_285), (.int (15 : Int32)), (.ref ag)])
  have f297 : Arv Z h285 ag kg (.array .long) (18 : Int32) (((vs.set 12 (.ref ar_253)).set 13 (.ref ar_258)).set 14 (.ref ar_271)) .null := (V283.keep Kq285 (ninS (Ne.symm ne1) (ninS (Ne.symm ne2) nin0)))
  obtain ⟨cl298, Ar298, q298, S298, M298, H298, G298⟩ := id (f297)
  have hin298 : ¬ ((15 : Int32) < 0 ∨ cl298.slots.size ≤ ((15 : Int32)).toNatClampNeg) := inb_of S298 ⟨by decide, by decide⟩
  obtain ⟨T298, h298, X298, e298, W298, st298⟩ := stR X285 hx hZ e285 Ar298 (j := (15 : Int32)) hin298 rfl (Sto.ofVA Ar298 q298 ov_ag (Ins.self Er_285)) (g := (mkF m 33 #[.val (.ref ao), .val (.ref ag), .val (.int (12 : Int32))] [(.ref ar_285), (.int (15 : Int32)), (.ref ag)])) rfl rfl (hb hby d3_33)
  refine Go.step st298 ?_
  have V298 : Arv Z h298 ag kg (.array .long) (18 : Int32) ((((vs.set 12 (.ref ar_253)).set 13 (.ref ar_258)).set 14 (.ref ar_271)).set 15 (.ref ar_285)) .null := Arv.set Ar298 q298 S298 M298 H298 G298 rfl W298 15 rfl (by (try simp only [List.length_set]); rw [hlv]; decide)
  have N298 := Fr.snoc X298 N285 g2
  have Z298 : n0 ≤ h298.size := Nat.le_trans Z285 (Keep.of_wr W298).1
  have KK298 : Keep h0 h298 [ao, ap, ag] := KK285.wr W298 (Or.inl (List.mem_of_getElem? (i := 2) rfl))
  show Go _ _ _ _ _ _ _ T298 (mkF m 34 #[.val (.ref ao), .val (.ref ag), .val (.int (12 : Int32))] [])
  have f299 : Exa Z h298 ao "com/example/termvault/termvault/MarkArrays" := (E1_285.wr W298)
  have f300 : Fld Z h298 ao "com/example/termvault/termvault/MarkArrays" "positions" "[[J" (.ref ap) := (Fc1_285.other W298 (Or.inl ne1))
  have f301 : Fld Z h298 ao "com/example/termvault/termvault/MarkArrays" "positionsTaken" "I" (.int (16 : Int32)) := (Ft1_285.other W298 (Or.inl ne1))
  have f302 : Fld Z h298 ao "com/example/termvault/termvault/MarkArrays" "span" "I" (.int sp) := (Fs1_285.other W298 (Or.inl ne1))
  have f303 : Arv Z h298 ap kp (.array .long) (16 : Int32) ((((lc.set (12 : Int32).toNatClampNeg (.ref ar_253)).set (13 : Int32).toNatClampNeg (.ref ar_258)).set (14 : Int32).toNatClampNeg (.ref ar_271)).set (15 : Int32).toNatClampNeg (.ref ar_285)) .null := (Vc1_285.other W298 ne2)
  have f304 : Fld Z h298 ao "com/example/termvault/termvault/MarkArrays" "countsTaken" "I" (.int uo) := (Fo1_285.other W298 (Or.inl ne1))
  have f305 : Fld Z h298 ao "com/example/termvault/termvault/MarkArrays" "counts" "[[I" (.ref aw) := (Fq1_285.other W298 (Or.inl ne1))
  have f306 : own_Pos Z h298 [ao, ap, ag] ((((xs ++ [ar_253]) ++ [ar_258]) ++ [ar_271]) ++ [ar_285]) sp := (Ps285.keep (Keep.of_wr W298) (allS (List.mem_of_getElem? (i := 2) rfl) all0))
  have f307 : Exa Z h298 ar_253 "[J" := ((f293.keep Kq285).wr W298)
  have f308 : Exa Z h298 ar_258 "[J" := ((f294.keep Kq285).wr W298)
  have f309 : Exa Z h298 ar_271 "[J" := ((f295.keep Kq285).wr W298)
  have f310 : Exa Z h298 ar_285 "[J" := (Er_285.wr W298)
  exact Go.ret0 X298 hx hret hlk (hb hby d3_34) e298 (by decide) (by decide) ⟨ar_253, ar_258, ar_271, ar_285, rfl, N298, KK298, f299, f300, f301, f302, f303, f304, f305, V298, f306, f307, f308, f309, f310, sz_ar_253, sz_ar_258, sz_ar_271, sz_ar_285⟩
theorem ef_rmFa (m : MethodId) (ao : Addr) (ag : Addr) : entryFrame m #[(.ref ao), (.ref ag), (.int (0 : Int32))] 3 = mkF m 0 #[.val (.ref ao), .val (.ref ag), .val (.int (0 : Int32))] [] := by first | (simp [entryFrame, mkF, argsToLocals, Value.category]; done) | rfl
def Q_rmFa (Z : State) (ao : Addr) (ag : Addr) (ap : Addr) (kp : ClassId) (lc : List Value) (kg : ClassId) (vs : List Value) (sp : Int32) (uo : Int32) (aw : Addr) (y0 : Addr) (y1 : Addr) (y2 : Addr) (y3 : Addr) (h0 : Heap) (n0 : Nat) (v : Option Value) (h : Heap) (L : List Loc) : Prop := (v = none) ∧ (Fr n0 L) ∧ (Keep h0 h [ao, ag]) ∧ (Exa Z h ao "com/example/termvault/termvault/MarkArrays") ∧ (Arv Z h ag kg (.array .long) (4 : Int32) ((((vs.set 0 (.ref y0)).set 1 (.ref y1)).set 2 (.ref y2)).set 3 (.ref y3)) .null)
set_option maxRecDepth 65536 in
set_option maxHeartbeats 40000000 in
theorem rmFa (l : Launch) (Z : State) (a0 : Array Value) (hw : ∀ d ∈ tables_1, d.before a0 Z = true) (ws : List Jvm.Cond) (ao : Addr) (ag : Addr) (ap : Addr) (kp : ClassId) (lc : List Value) (kg : ClassId) (vs : List Value) (sp : Int32) (uo : Int32) (aw : Addr) (y0 : Addr) (y1 : Addr) (y2 : Addr) (y3 : Addr) (h0 : Heap) (n0 : Nat) (Z0 : n0 ≤ h0.size) (E0 : Exa Z h0 ao "com/example/termvault/termvault/MarkArrays") (Fc : Fld Z h0 ao "com/example/termvault/termvault/MarkArrays" "positions" "[[J" (.ref ap)) (Ft : Fld Z h0 ao "com/example/termvault/termvault/MarkArrays" "positionsTaken" "I" (.int (0 : Int32))) (Fs : Fld Z h0 ao "com/example/termvault/termvault/MarkArrays" "span" "I" (.int sp)) (Vc : Arv Z h0 ap kp (.array .long) (16 : Int32) lc .null) (Fo : Fld Z h0 ao "com/example/termvault/termvault/MarkArrays" "countsTaken" "I" (.int uo)) (Fq : Fld Z h0 ao "com/example/termvault/termvault/MarkArrays" "counts" "[[I" (.ref aw)) (Vg : Arv Z h0 ag kg (.array .long) (4 : Int32) vs .null) (Xe0 : Exa Z h0 y0 "[J") (Xe1 : Exa Z h0 y1 "[J") (Xe2 : Exa Z h0 y2 "[J") (Xe3 : Exa Z h0 y3 "[J") (ov_ag : OvrA Z kg .long "[J") (g0 : n0 ≤ ao) (g2 : n0 ≤ ag) (ne0 : ao ≠ ap) (ne1 : ao ≠ ag) (ne2 : ap ≠ ag) (hlv : vs.length = 4) (hr0 : lc.getD (0 : Int32).toNatClampNeg .null = .ref y0) (hr1 : lc.getD (1 : Int32).toNatClampNeg .null = .ref y1) (hr2 : lc.getD (2 : Int32).toNatClampNeg .null = .ref y2) (hr3 : lc.getD (3 : Int32).toNatClampNeg .null = .ref y3) :
    MetFree l (⟨"com/example/termvault/termvault/MarkArraysPositionsPinLaw", "four", "(Lcom/example/termvault/termvault/MarkArrays;[[JI)V"⟩ : MethodName) (head1 (Jvm.Cond.code (⟨"com/example/termvault/termvault/MarkArraysPositionsPinLaw", "four", "(Lcom/example/termvault/termvault/MarkArrays;[[JI)V"⟩ : MethodName) method_2_code 3 none :: ws) ({ frames := 1, cells := 0, slots := 0, locals := 14 } : Room)) (fun aA U => aA = #[(.ref ao), (.ref ag), (.int (0 : Int32))] ∧ Z.Warmed39 U.vm ∧ U.heap = h0) (fun _ _ _ _ _ => True) (fun _ U o U' => ∃ v L, o = .returned v ∧ Q_rmFa Z ao ag ap kp lc kg vs sp uo aw y0 y1 y2 y3 h0 n0 v U'.heap L ∧ FrameEnd U o U' L ({ frames := 1, cells := 0, slots := 0, locals := 14 } : Room).cells ({ frames := 1, cells := 0, slots := 0, locals := 14 } : Room).slots) := by
  refine MetFree.of_bodySF (plainFor_of_name pn_com_example_termvault_termvault_MarkArraysPositionsPinLaw) hisR ?_
  intro p e s m args below meth c s₁ Bd hml0 hP hK
  obtain ⟨rfl, hZ, hh⟩ := hP
  have hx := Bd.exec
  have hby := Bd.bytes
  have hml : c.maxLocals = 3 := hml0
  have hown : s.vm.findClass "com/example/termvault/termvault/MarkArraysPositionsPinLaw" = some m.cls := findClass_of_methodNamed Bd.named
  have hnm := (name_of_methodNamed Bd.named Bd.method).1
  have hret := Bd.returns
  have hlk : meth.locks = false := BodyLoose.notSynchronized Bd
  have X0 : Stand p l e ({ frames := 1, cells := 0, slots := 0, locals := 14 } : Room) s m #[(.ref ao), (.ref ag), (.int (0 : Int32))] below meth c s₁ [] 0 0 := Stand.of_body Bd
  have e0 : s₁.heap = h0 := by rw [← hh, Bd.state]; rfl
  have N0 := Fr.nil n0
  suffices hgo : Go p e below s ({ frames := 1, cells := 0, slots := 0, locals := 14 } : Room).cells ({ frames := 1, cells := 0, slots := 0, locals := 14 } : Room).slots (Q_rmFa Z ao ag ap kp lc kg vs sp uo aw y0 y1 y2 y3 h0 n0) s₁ (mkF m 0 #[.val (.ref ao), .val (.ref ag), .val (.int (0 : Int32))] []) from hgo.enter (ef_rmFa m ao ag)
  refine Go.step (fun _ k => XS.aloadN X0.here hx rfl (hb hby d3_0) rfl rfl k) ?_
  show Go _ _ _ _ _ _ _ s₁ (mkF m 1 #[.val (.ref ao), .val (.ref ag), .val (.int (0 : Int32))] [(.ref ag)])
  refine Go.step (fun _ k => XS.iloadN X0.here hx rfl (hb hby d3_1) rfl k) ?_
  show Go _ _ _ _ _ _ _ s₁ (mkF m 2 #[.val (.ref ao), .val (.ref ag), .val (.int (0 : Int32))] [(.int (0 : Int32)), (.ref ag)])
  refine Go.step (fun _ k => XS.aloadN X0.here hx rfl (hb hby d3_2) rfl rfl k) ?_
  show Go _ _ _ _ _ _ _ s₁ (mkF m 3 #[.val (.ref ao), .val (.ref ag), .val (.int (0 : Int32))] [(.ref ao), (.int (0 : Int32)), (.ref ag)])
  obtain ⟨cq311, kq311, q311a, q311b, q311c⟩ := isOf hZ e0 E0
  obtain ⟨_, _, ⟨T311, L311, k311, n311⟩, -, X311, ⟨Lc311, hQ311, l311, y311, z311⟩, st311⟩ := X0.virtualBack hx (y := (⟨"com/example/termvault/termvault/MarkArrays", "positions", "()[J"⟩ : MethodName)) (z := (⟨"com/example/termvault/termvault/MarkArrays", "positions", "()[J"⟩ : MethodName)) hown (mvT hZ (hw _ (List.mem_of_getElem? (i := 24) rfl))) (mvT hZ (hw _ (List.mem_of_getElem? (i := 25) rfl))) (notFace_of_selects (args := #[]) (mvT hZ (hw _ (List.mem_of_getElem? (i := 27) rfl)))) (mvT hZ (hw _ (List.mem_of_getElem? (i := 27) rfl))) (mvT hZ (hw _ (List.mem_of_getElem? (i := 26) rfl))) (by decide) (backOf (W := 2) (rmPa l Z a0 hw [] ao ap kp lc (0 : Int32) sp y0 uo aw h0 n0 Z0 E0 Fc Ft Fs Vc Fo Fq g0 ne0 (by decide) (by decide) hr0) hZ (hw _ (List.mem_of_getElem? (i := 28) rfl)) (hw _ (List.mem_of_getElem? (i := 2) rfl)) (by decide) (by decide)) q311a q311c (g := (mkF m 3 #[.val (.ref ao), .val (.ref ag), .val (.int (0 : Int32))] [(.ref ao), (.int (0 : Int32)), (.ref ag)])) rfl (by rw [hml]; rfl) (Steps.refl _) (argsL := []) (rest := [(.int (0 : Int32)), (.ref ag)]) (lenOf pd____J rfl) rfl (by show 2 * 0 + _ ≤ _; exact Nat.le_of_eq rfl) (hb hby d3_3) (fun _ _ => ⟨rfl, e0, (by decide : 0 + 0 ≤ _), (by decide : 0 + 0 ≤ _)⟩)
  dsimp only [Pt.U, Pt.locs, Pt.cells, Pt.slots] at X311 l311 y311 z311 st311 hQ311
  subst l311 y311 z311
  obtain ⟨h311, e311⟩ : ∃ h, T311.heap = h := ⟨_, rfl⟩
  rw [e311] at hQ311
  obtain ⟨rfl, Nq311, Kq311, E1_311, Fc1_311, Ft1_311, Fs1_311, Fo1_311, Fq1_311⟩ := hQ311
  have N311 := Fr.app N0 Nq311
  have Z311 : n0 ≤ h311.size := Nat.le_trans Z0 Kq311.1
  have KK311 : Keep h0 h311 [ao, ag] := (Keep.refl h0 [ao, ag]).trans Kq311 (allS (Or.inl (List.mem_of_getElem? (i := 0) rfl)) all0)
  have Ft1_311 : Fld Z h311 ao "com/example/termvault/termvault/MarkArrays" "positionsTaken" "I" (.int (1 : Int32)) := Ft1_311
  refine Go.trans st311 ?_
  show Go _ _ _ _ _ _ _ T311 (mkF m 6 #[.val (.ref ao), .val (.ref ag), .val (.int (0 : Int32))] [(.ref y0), (.int (0 : Int32)), (.ref ag)])
  have f312 : Arv Z h311 ag kg (.array .long) (4 : Int32) vs .null := (Vg.keep Kq311 (ninS (Ne.symm ne1) nin0))
  obtain ⟨cl313, Ar313, q313, S313, M313, H313, G313⟩ := id (f312)
  have hin313 : ¬ ((0 : Int32) < 0 ∨ cl313.slots.size ≤ ((0 : Int32)).toNatClampNeg) := inb_of S313 ⟨by decide, by decide⟩
  have f314 : Exa Z h311 y0 "[J" := (Xe0.keep Kq311)
  obtain ⟨T313, h313, X313, e313, W313, st313⟩ := stR X311 hx hZ e311 Ar313 (j := (0 : Int32)) hin313 rfl (Sto.ofVA Ar313 q313 ov_ag (Ins.self f314)) (g := (mkF m 6 #[.val (.ref ao), .val (.ref ag), .val (.int (0 : Int32))] [(.ref y0), (.int (0 : Int32)), (.ref ag)])) rfl rfl (hb hby d3_6)
  refine Go.step st313 ?_
  have V313 : Arv Z h313 ag kg (.array .long) (4 : Int32) (vs.set 0 (.ref y0)) .null := Arv.set Ar313 q313 S313 M313 H313 G313 rfl W313 0 rfl (by (try simp only [List.length_set]); rw [hlv]; decide)
  have N313 := Fr.snoc X313 N311 g2
  have Z313 : n0 ≤ h313.size := Nat.le_trans Z311 (Keep.of_wr W313).1
  have KK313 : Keep h0 h313 [ao, ag] := KK311.wr W313 (Or.inl (List.mem_of_getElem? (i := 1) rfl))
  show Go _ _ _ _ _ _ _ T313 (mkF m 7 #[.val (.ref ao), .val (.ref ag), .val (.int (0 : Int32))] [])
  refine Go.step (fun _ k => XS.aloadN X313.here hx rfl (hb hby d3_7) rfl rfl k) ?_
  show Go _ _ _ _ _ _ _ T313 (mkF m 8 #[.val (.ref ao), .val (.ref ag), .val (.int (0 : Int32))] [(.ref ag)])
  refine Go.step (fun _ k => XS.iloadN X313.here hx rfl (hb hby d3_8) rfl k) ?_
  show Go _ _ _ _ _ _ _ T313 (mkF m 9 #[.val (.ref ao), .val (.ref ag), .val (.int (0 : Int32))] [(.int (0 : Int32)), (.ref ag)])
  refine Go.step (fun _ k => XS.iconst X313.here hx rfl (hb hby d3_9) k) ?_
  show Go _ _ _ _ _ _ _ T313 (mkF m 10 #[.val (.ref ao), .val (.ref ag), .val (.int (0 : Int32))] [(.int (1 : Int32)), (.int (0 : Int32)), (.ref ag)])
  refine Go.step (fun _ k => XS.iadd X313.here hx rfl (hb hby d3_10) rfl k) ?_
  show Go _ _ _ _ _ _ _ T313 (mkF m 11 #[.val (.ref ao), .val (.ref ag), .val (.int (0 : Int32))] [(.int (1 : Int32)), (.ref ag)])
  refine Go.step (fun _ k => XS.aloadN X313.here hx rfl (hb hby d3_11) rfl rfl k) ?_
  show Go _ _ _ _ _ _ _ T313 (mkF m 12 #[.val (.ref ao), .val (.ref ag), .val (.int (0 : Int32))] [(.ref ao), (.int (1 : Int32)), (.ref ag)])
  have f316 : Exa Z h313 ao "com/example/termvault/termvault/MarkArrays" := (E1_311.wr W313)
  have f317 : Fld Z h313 ao "com/example/termvault/termvault/MarkArrays" "positions" "[[J" (.ref ap) := (Fc1_311.other W313 (Or.inl ne1))
  have f318 : Fld Z h313 ao "com/example/termvault/termvault/MarkArrays" "positionsTaken" "I" (.int (1 : Int32)) := (Ft1_311.other W313 (Or.inl ne1))
  have f319 : Fld Z h313 ao "com/example/termvault/termvault/MarkArrays" "span" "I" (.int sp) := (Fs1_311.other W313 (Or.inl ne1))
  have f320 : Arv Z h313 ap kp (.array .long) (16 : Int32) lc .null := ((Vc.keep Kq311 (ninS (Ne.symm ne0) nin0)).other W313 ne2)
  have f321 : Fld Z h313 ao "com/example/termvault/termvault/MarkArrays" "countsTaken" "I" (.int uo) := (Fo1_311.other W313 (Or.inl ne1))
  have f322 : Fld Z h313 ao "com/example/termvault/termvault/MarkArrays" "counts" "[[I" (.ref aw) := (Fq1_311.other W313 (Or.inl ne1))
  obtain ⟨cq315, kq315, q315a, q315b, q315c⟩ := isOf hZ e313 f316
  obtain ⟨_, _, ⟨T315, L315, k315, n315⟩, -, X315, ⟨Lc315, hQ315, l315, y315, z315⟩, st315⟩ := X313.virtualBack hx (y := (⟨"com/example/termvault/termvault/MarkArrays", "positions", "()[J"⟩ : MethodName)) (z := (⟨"com/example/termvault/termvault/MarkArrays", "positions", "()[J"⟩ : MethodName)) hown (mvT hZ (hw _ (List.mem_of_getElem? (i := 24) rfl))) (mvT hZ (hw _ (List.mem_of_getElem? (i := 25) rfl))) (notFace_of_selects (args := #[]) (mvT hZ (hw _ (List.mem_of_getElem? (i := 27) rfl)))) (mvT hZ (hw _ (List.mem_of_getElem? (i := 27) rfl))) (mvT hZ (hw _ (List.mem_of_getElem? (i := 26) rfl))) (by decide) (backOf (W := 2) (rmPa l Z a0 hw [] ao ap kp lc (1 : Int32) sp y1 uo aw h313 n0 Z313 f316 f317 f318 f319 f320 f321 f322 g0 ne0 (by decide) (by decide) hr1) hZ (hw _ (List.mem_of_getElem? (i := 28) rfl)) (hw _ (List.mem_of_getElem? (i := 2) rfl)) (by decide) (by decide)) q315a q315c (g := (mkF m 12 #[.val (.ref ao), .val (.ref ag), .val (.int (0 : Int32))] [(.ref ao), (.int (1 : Int32)), (.ref ag)])) rfl (by rw [hml]; rfl) (Steps.refl _) (argsL := []) (rest := [(.int (1 : Int32)), (.ref ag)]) (lenOf pd____J rfl) rfl (by show 2 * 0 + _ ≤ _; exact Nat.le_of_eq rfl) (hb hby d3_12) (fun _ _ => ⟨rfl, e313, (by decide : 0 + 0 ≤ _), (by decide : 0 + 0 ≤ _)⟩)
  dsimp only [Pt.U, Pt.locs, Pt.cells, Pt.slots] at X315 l315 y315 z315 st315 hQ315
  subst l315 y315 z315
  obtain ⟨h315, e315⟩ : ∃ h, T315.heap = h := ⟨_, rfl⟩
  rw [e315] at hQ315
  obtain ⟨rfl, Nq315, Kq315, E1_315, Fc1_315, Ft1_315, Fs1_315, Fo1_315, Fq1_315⟩ := hQ315
  have N315 := Fr.app N313 Nq315
  have Z315 : n0 ≤ h315.size := Nat.le_trans Z313 Kq315.1
  have KK315 : Keep h0 h315 [ao, ag] := KK313.trans Kq315 (allS (Or.inl (List.mem_of_getElem? (i := 0) rfl)) all0)
  have Ft1_315 : Fld Z h315 ao "com/example/termvault/termvault/MarkArrays" "positionsTaken" "I" (.int (2 : Int32)) := Ft1_315
  refine Go.trans st315 ?_
  show Go _ _ _ _ _ _ _ T315 (mkF m 15 #[.val (.ref ao), .val (.ref ag), .val (.int (0 : Int32))] [(.ref y1), (.int (1 : Int32)), (.ref ag)])
  have f323 : Arv Z h315 ag kg (.array .long) (4 : Int32) (vs.set 0 (.ref y0)) .null := (V313.keep Kq315 (ninS (Ne.symm ne1) nin0))
  obtain ⟨cl324, Ar324, q324, S324, M324, H324, G324⟩ := id (f323)
  have hin324 : ¬ ((1 : Int32) < 0 ∨ cl324.slots.size ≤ ((1 : Int32)).toNatClampNeg) := inb_of S324 ⟨by decide, by decide⟩
  have f325 : Exa Z h315 y1 "[J" := (((Xe1.keep Kq311).wr W313).keep Kq315)
  obtain ⟨T324, h324, X324, e324, W324, st324⟩ := stR X315 hx hZ e315 Ar324 (j := (1 : Int32)) hin324 rfl (Sto.ofVA Ar324 q324 ov_ag (Ins.self f325)) (g := (mkF m 15 #[.val (.ref ao), .val (.ref ag), .val (.int (0 : Int32))] [(.ref y1), (.int (1 : Int32)), (.ref ag)])) rfl rfl (hb hby d3_15)
  refine Go.step st324 ?_
  have V324 : Arv Z h324 ag kg (.array .long) (4 : Int32) ((vs.set 0 (.ref y0)).set 1 (.ref y1)) .null := Arv.set Ar324 q324 S324 M324 H324 G324 rfl W324 1 rfl (by (try simp only [List.length_set]); rw [hlv]; decide)
  have N324 := Fr.snoc X324 N315 g2
  have Z324 : n0 ≤ h324.size := Nat.le_trans Z315 (Keep.of_wr W324).1
  have KK324 : Keep h0 h324 [ao, ag] := KK315.wr W324 (Or.inl (List.mem_of_getElem? (i := 1) rfl))
  show Go _ _ _ _ _ _ _ T324 (mkF m 16 #[.val (.ref ao), .val (.ref ag), .val (.int (0 : Int32))] [])
  refine Go.step (fun _ k => XS.aloadN X324.here hx rfl (hb hby d3_16) rfl rfl k) ?_
  show Go _ _ _ _ _ _ _ T324 (mkF m 17 #[.val (.ref ao), .val (.ref ag), .val (.int (0 : Int32))] [(.ref ag)])
  refine Go.step (fun _ k => XS.iloadN X324.here hx rfl (hb hby d3_17) rfl k) ?_
  show Go _ _ _ _ _ _ _ T324 (mkF m 18 #[.val (.ref ao), .val (.ref ag), .val (.int (0 : Int32))] [(.int (0 : Int32)), (.ref ag)])
  refine Go.step (fun _ k => XS.iconst X324.here hx rfl (hb hby d3_18) k) ?_
  show Go _ _ _ _ _ _ _ T324 (mkF m 19 #[.val (.ref ao), .val (.ref ag), .val (.int (0 : Int32))] [(.int (2 : Int32)), (.int (0 : Int32)), (.ref ag)])
  refine Go.step (fun _ k => XS.iadd X324.here hx rfl (hb hby d3_19) rfl k) ?_
  show Go _ _ _ _ _ _ _ T324 (mkF m 20 #[.val (.ref ao), .val (.ref ag), .val (.int (0 : Int32))] [(.int (2 : Int32)), (.ref ag)])
  refine Go.step (fun _ k => XS.aloadN X324.here hx rfl (hb hby d3_20) rfl rfl k) ?_
  show Go _ _ _ _ _ _ _ T324 (mkF m 21 #[.val (.ref ao), .val (.ref ag), .val (.int (0 : Int32))] [(.ref ao), (.int (2 : Int32)), (.ref ag)])
  have f327 : Exa Z h324 ao "com/example/termvault/termvault/MarkArrays" := (E1_315.wr W324)
  have f328 : Fld Z h324 ao "com/example/termvault/termvault/MarkArrays" "positions" "[[J" (.ref ap) := (Fc1_315.other W324 (Or.inl ne1))
  have f329 : Fld Z h324 ao "com/example/termvault/termvault/MarkArrays" "positionsTaken" "I" (.int (2 : Int32)) := (Ft1_315.other W324 (Or.inl ne1))
  have f330 : Fld Z h324 ao "com/example/termvault/termvault/MarkArrays" "span" "I" (.int sp) := (Fs1_315.other W324 (Or.inl ne1))
  have f331 : Arv Z h324 ap kp (.array .long) (16 : Int32) lc .null := ((f320.keep Kq315 (ninS (Ne.symm ne0) nin0)).other W324 ne2)
  have f332 : Fld Z h324 ao "com/example/termvault/termvault/MarkArrays" "countsTaken" "I" (.int uo) := (Fo1_315.other W324 (Or.inl ne1))
  have f333 : Fld Z h324 ao "com/example/termvault/termvault/MarkArrays" "counts" "[[I" (.ref aw) := (Fq1_315.other W324 (Or.inl ne1))
  obtain ⟨cq326, kq326, q326a, q326b, q326c⟩ := isOf hZ e324 f327
  obtain ⟨_, _, ⟨T326, L326, k326, n326⟩, -, X326, ⟨Lc326, hQ326, l326, y326, z326⟩, st326⟩ := X324.virtualBack hx (y := (⟨"com/example/termvault/termvault/MarkArrays", "positions", "()[J"⟩ : MethodName)) (z := (⟨"com/example/termvault/termvault/MarkArrays", "positions", "()[J"⟩ : MethodName)) hown (mvT hZ (hw _ (List.mem_of_getElem? (i := 24) rfl))) (mvT hZ (hw _ (List.mem_of_getElem? (i := 25) rfl))) (notFace_of_selects (args := #[]) (mvT hZ (hw _ (List.mem_of_getElem? (i := 27) rfl)))) (mvT hZ (hw _ (List.mem_of_getElem? (i := 27) rfl))) (mvT hZ (hw _ (List.mem_of_getElem? (i := 26) rfl))) (by decide) (backOf (W := 2) (rmPa l Z a0 hw [] ao ap kp lc (2 : Int32) sp y2 uo aw h324 n0 Z324 f327 f328 f329 f330 f331 f332 f333 g0 ne0 (by decide) (by decide) hr2) hZ (hw _ (List.mem_of_getElem? (i := 28) rfl)) (hw _ (List.mem_of_getElem? (i := 2) rfl)) (by decide) (by decide)) q326a q326c (g := (mkF m 21 #[.val (.ref ao), .val (.ref ag), .val (.int (0 : Int32))] [(.ref ao), (.int (2 : Int32)), (.ref ag)])) rfl (by rw [hml]; rfl) (Steps.refl _) (argsL := []) (rest := [(.int (2 : Int32)), (.ref ag)]) (lenOf pd____J rfl) rfl (by show 2 * 0 + _ ≤ _; exact Nat.le_of_eq rfl) (hb hby d3_21) (fun _ _ => ⟨rfl, e324, (by decide : 0 + 0 ≤ _), (by decide : 0 + 0 ≤ _)⟩)
  dsimp only [Pt.U, Pt.locs, Pt.cells, Pt.slots] at X326 l326 y326 z326 st326 hQ326
  subst l326 y326 z326
  obtain ⟨h326, e326⟩ : ∃ h, T326.heap = h := ⟨_, rfl⟩
  rw [e326] at hQ326
  obtain ⟨rfl, Nq326, Kq326, E1_326, Fc1_326, Ft1_326, Fs1_326, Fo1_326, Fq1_326⟩ := hQ326
  have N326 := Fr.app N324 Nq326
  have Z326 : n0 ≤ h326.size := Nat.le_trans Z324 Kq326.1
  have KK326 : Keep h0 h326 [ao, ag] := KK324.trans Kq326 (allS (Or.inl (List.mem_of_getElem? (i := 0) rfl)) all0)
  have Ft1_326 : Fld Z h326 ao "com/example/termvault/termvault/MarkArrays" "positionsTaken" "I" (.int (3 : Int32)) := Ft1_326
  refine Go.trans st326 ?_
  show Go _ _ _ _ _ _ _ T326 (mkF m 24 #[.val (.ref ao), .val (.ref ag), .val (.int (0 : Int32))] [(.ref y2), (.int (2 : Int32)), (.ref ag)])
  have f334 : Arv Z h326 ag kg (.array .long) (4 : Int32) ((vs.set 0 (.ref y0)).set 1 (.ref y1)) .null := (V324.keep Kq326 (ninS (Ne.symm ne1) nin0))
  obtain ⟨cl335, Ar335, q335, S335, M335, H335, G335⟩ := id (f334)
  have hin335 : ¬ ((2 : Int32) < 0 ∨ cl335.slots.size ≤ ((2 : Int32)).toNatClampNeg) := inb_of S335 ⟨by decide, by decide⟩
  have f336 : Exa Z h326 y2 "[J" := (((((Xe2.keep Kq311).wr W313).keep Kq315).wr W324).keep Kq326)
  obtain ⟨T335, h335, X335, e335, W335, st335⟩ := stR X326 hx hZ e326 Ar335 (j := (2 : Int32)) hin335 rfl (Sto.ofVA Ar335 q335 ov_ag (Ins.self f336)) (g := (mkF m 24 #[.val (.ref ao), .val (.ref ag), .val (.int (0 : Int32))] [(.ref y2), (.int (2 : Int32)), (.ref ag)])) rfl rfl (hb hby d3_24)
  refine Go.step st335 ?_
  have V335 : Arv Z h335 ag kg (.array .long) (4 : Int32) (((vs.set 0 (.ref y0)).set 1 (.ref y1)).set 2 (.ref y2)) .null := Arv.set Ar335 q335 S335 M335 H335 G335 rfl W335 2 rfl (by (try simp only [List.length_set]); rw [hlv]; decide)
  have N335 := Fr.snoc X335 N326 g2
  have Z335 : n0 ≤ h335.size := Nat.le_trans Z326 (Keep.of_wr W335).1
  have KK335 : Keep h0 h335 [ao, ag] := KK326.wr W335 (Or.inl (List.mem_of_getElem? (i := 1) rfl))
  show Go _ _ _ _ _ _ _ T335 (mkF m 25 #[.val (.ref ao), .val (.ref ag), .val (.int (0 : Int32))] [])
  refine Go.step (fun _ k => XS.aloadN X335.here hx rfl (hb hby d3_25) rfl rfl k) ?_
  show Go _ _ _ _ _ _ _ T335 (mkF m 26 #[.val (.ref ao), .val (.ref ag), .val (.int (0 : Int32))] [(.ref ag)])
  refine Go.step (fun _ k => XS.iloadN X335.here hx rfl (hb hby d3_26) rfl k) ?_
  show Go _ _ _ _ _ _ _ T335 (mkF m 27 #[.val (.ref ao), .val (.ref ag), .val (.int (0 : Int32))] [(.int (0 : Int32)), (.ref ag)])
  refine Go.step (fun _ k => XS.iconst X335.here hx rfl (hb hby d3_27) k) ?_
  show Go _ _ _ _ _ _ _ T335 (mkF m 28 #[.val (.ref ao), .val (.ref ag), .val (.int (0 : Int32))] [(.int (3 : Int32)), (.int (0 : Int32)), (.ref ag)])
  refine Go.step (fun _ k => XS.iadd X335.here hx rfl (hb hby d3_28) rfl k) ?_
  show Go _ _ _ _ _ _ _ T335 (mkF m 29 #[.val (.ref ao), .val (.ref ag), .val (.int (0 : Int32))] [(.int (3 : Int32)), (.ref ag)])
  refine Go.step (fun _ k => XS.aloadN X335.here hx rfl (hb hby d3_29) rfl rfl k) ?_
  show Go _ _ _ _ _ _ _ T335 (mkF m 30 #[.val (.ref ao), .val (.ref ag), .val (.int (0 : Int32))] [(.ref ao), (.int (3 : Int32)), (.ref ag)])
  have f338 : Exa Z h335 ao "com/example/termvault/termvault/MarkArrays" := (E1_326.wr W335)
  have f339 : Fld Z h335 ao "com/example/termvault/termvault/MarkArrays" "positions" "[[J" (.ref ap) := (Fc1_326.other W335 (Or.inl ne1))
  have f340 : Fld Z h335 ao "com/example/termvault/termvault/MarkArrays" "positionsTaken" "I" (.int (3 : Int32)) := (Ft1_326.other W335 (Or.inl ne1))
  have f341 : Fld Z h335 ao "com/example/termvault/termvault/MarkArrays" "span" "I" (.int sp) := (Fs1_326.other W335 (Or.inl ne1))
  have f342 : Arv Z h335 ap kp (.array .long) (16 : Int32) lc .null := ((f331.keep Kq326 (ninS (Ne.symm ne0) nin0)).other W335 ne2)
  have f343 : Fld Z h335 ao "com/example/termvault/termvault/MarkArrays" "countsTaken" "I" (.int uo) := (Fo1_326.other W335 (Or.inl ne1))
  have f344 : Fld Z h335 ao "com/example/termvault/termvault/MarkArrays" "counts" "[[I" (.ref aw) := (Fq1_326.other W335 (Or.inl ne1))
  obtain ⟨cq337, kq337, q337a, q337b, q337c⟩ := isOf hZ e335 f338
  obtain ⟨_, _, ⟨T337, L337, k337, n337⟩, -, X337, ⟨Lc337, hQ337, l337, y337, z337⟩, st337⟩ := X335.virtualBack hx (y := (⟨"com/example/termvault/termvault/MarkArrays", "positions", "()[J"⟩ : MethodName)) (z := (⟨"com/example/termvault/termvault/MarkArrays", "positions", "()[J"⟩ : MethodName)) hown (mvT hZ (hw _ (List.mem_of_getElem? (i := 24) rfl))) (mvT hZ (hw _ (List.mem_of_getElem? (i := 25) rfl))) (notFace_of_selects (args := #[]) (mvT hZ (hw _ (List.mem_of_getElem? (i := 27) rfl)))) (mvT hZ (hw _ (List.mem_of_getElem? (i := 27) rfl))) (mvT hZ (hw _ (List.mem_of_getElem? (i := 26) rfl))) (by decide) (backOf (W := 2) (rmPa l Z a0 hw [] ao ap kp lc (3 : Int32) sp y3 uo aw h335 n0 Z335 f338 f339 f340 f341 f342 f343 f344 g0 ne0 (by decide) (by decide) hr3) hZ (hw _ (List.mem_of_getElem? (i := 28) rfl)) (hw _ (List.mem_of_getElem? (i := 2) rfl)) (by decide) (by decide)) q337a q337c (g := (mkF m 30 #[.val (.ref ao), .val (.ref ag), .val (.int (0 : Int32))] [(.ref ao), (.int (3 : Int32)), (.ref ag)])) rfl (by rw [hml]; rfl) (Steps.refl _) (argsL := []) (rest := [(.int (3 : Int32)), (.ref ag)]) (lenOf pd____J rfl) rfl (by show 2 * 0 + _ ≤ _; exact Nat.le_of_eq rfl) (hb hby d3_30) (fun _ _ => ⟨rfl, e335, (by decide : 0 + 0 ≤ _), (by decide : 0 + 0 ≤ _)⟩)
  dsimp only [Pt.U, Pt.locs, Pt.cells, Pt.slots] at X337 l337 y337 z337 st337 hQ337
  subst l337 y337 z337
  obtain ⟨h337, e337⟩ : ∃ h, T337.heap = h := ⟨_, rfl⟩
  rw [e337] at hQ337
  obtain ⟨rfl, Nq337, Kq337, E1_337, Fc1_337, Ft1_337, Fs1_337, Fo1_337, Fq1_337⟩ := hQ337
  have N337 := Fr.app N335 Nq337
  have Z337 : n0 ≤ h337.size := Nat.le_trans Z335 Kq337.1
  have KK337 : Keep h0 h337 [ao, ag] := KK335.trans Kq337 (allS (Or.inl (List.mem_of_getElem? (i := 0) rfl)) all0)
  have Ft1_337 : Fld Z h337 ao "com/example/termvault/termvault/MarkArrays" "positionsTaken" "I" (.int (4 : Int32)) := Ft1_337
  refine Go.trans st337 ?_
  show Go _ _ _ _ _ _ _ T337 (mkF m 33 #[.val (.ref ao), .val (.ref ag), .val (.int (0 : Int32))] [(.ref y3), (.int (3 : Int32)), (.ref ag)])
  have f345 : Arv Z h337 ag kg (.array .long) (4 : Int32) (((vs.set 0 (.ref y0)).set 1 (.ref y1)).set 2 (.ref y2)) .null := (V335.keep Kq337 (ninS (Ne.symm ne1) nin0))
  obtain ⟨cl346, Ar346, q346, S346, M346, H346, G346⟩ := id (f345)
  have hin346 : ¬ ((3 : Int32) < 0 ∨ cl346.slots.size ≤ ((3 : Int32)).toNatClampNeg) := inb_of S346 ⟨by decide, by decide⟩
  have f347 : Exa Z h337 y3 "[J" := (((((((Xe3.keep Kq311).wr W313).keep Kq315).wr W324).keep Kq326).wr W335).keep Kq337)
  obtain ⟨T346, h346, X346, e346, W346, st346⟩ := stR X337 hx hZ e337 Ar346 (j := (3 : Int32)) hin346 rfl (Sto.ofVA Ar346 q346 ov_ag (Ins.self f347)) (g := (mkF m 33 #[.val (.ref ao), .val (.ref ag), .val (.int (0 : Int32))] [(.ref y3), (.int (3 : Int32)), (.ref ag)])) rfl rfl (hb hby d3_33)
  refine Go.step st346 ?_
  have V346 : Arv Z h346 ag kg (.array .long) (4 : Int32) ((((vs.set 0 (.ref y0)).set 1 (.ref y1)).set 2 (.ref y2)).set 3 (.ref y3)) .null := Arv.set Ar346 q346 S346 M346 H346 G346 rfl W346 3 rfl (by (try simp only [List.length_set]); rw [hlv]; decide)
  have N346 := Fr.snoc X346 N337 g2
  have Z346 : n0 ≤ h346.size := Nat.le_trans Z337 (Keep.of_wr W346).1
  have KK346 : Keep h0 h346 [ao, ag] := KK337.wr W346 (Or.inl (List.mem_of_getElem? (i := 1) rfl))
  show Go _ _ _ _ _ _ _ T346 (mkF m 34 #[.val (.ref ao), .val (.ref ag), .val (.int (0 : Int32))] [])
  have f348 : Exa Z h346 ao "com/example/termvault/termvault/MarkArrays" := (E1_337.wr W346)
  exact Go.ret0 X346 hx hret hlk (hb hby d3_34) e346 (by decide) (by decide) ⟨rfl, N346, KK346, f348, V346⟩
theorem own_at {xs : List Addr} {i : Nat} (h : i < xs.length) : ∃ x, xs[i]? = some x ∧ x ∈ xs ∧ (xs.map Value.ref).getD i .null = .ref x := ⟨xs[i], List.getElem?_eq_getElem h, List.getElem_mem h, by simp [List.getD_eq_getElem?_getD, h]⟩
theorem own_inj {xs : List Addr} {i j : Nat} {x y : Addr} (h : xs.Nodup) (hi : xs[i]? = some x) (hj : xs[j]? = some y) (q : i ≠ j) : x ≠ y := fun e => q ((List.getElem?_inj (List.getElem?_eq_some_iff.mp hi).1 h).mp (by rw [hi, hj, e]))
theorem own_and3 (x : Int32) : x &&& 3 = 0 ∨ x &&& 3 = 1 ∨ x &&& 3 = 2 ∨ x &&& 3 = 3 := by
  have := c_mask x 3 2 (by decide) (by decide)
  have : (0 : Int32).toInt = 0 := rfl; have : (1 : Int32).toInt = 1 := rfl; have : (2 : Int32).toInt = 2 := rfl; have : (3 : Int32).toInt = 3 := rfl
  simp only [← Int32.toInt_inj]; omega
theorem own_tlt' {a : Int32} {n : Nat} (h0 : ¬ a < 0) (h1 : a.toInt < n) : a.toNatClampNeg < n := by rw [Int32.lt_iff_toInt_lt] at h0; have : (0 : Int32).toInt = 0 := rfl; simp only [Int32.toNatClampNeg]; omega
theorem own_tne {a b : Int32} (h0 : ¬ a < 0) (h1 : ¬ b < 0) (h : ¬ a = b) : a.toNatClampNeg ≠ b.toNatClampNeg := by rw [Int32.lt_iff_toInt_lt] at h0 h1; rw [← Int32.toInt_inj] at h; have : (0 : Int32).toInt = 0 := rfl; simp only [Int32.toNatClampNeg]; omega
theorem pd__I_V : parseMethodDescriptor "(I)V" = some ⟨[.int], none⟩ := by decide +kernel
theorem pd__Lcom_example_termvault_termvault_MarkArrays___JI_V : parseMethodDescriptor "(Lcom/example/termvault/termvault/MarkArrays;[[JI)V" = some ⟨[(.object "com/example/termvault/termvault/MarkArrays"), (.array (.array .long)), .int], none⟩ := by decide +kernel
theorem ef_rm0 (m : MethodId) (ia : Int32) (ib : Int32) (ic : Int32) (id_ : Int32) : entryFrame m #[(.int ia), (.int ib), (.int ic), (.int id_)] maxLocals = mkF m 0 #[.val (.int ia), .val (.int ib), .val (.int ic), .val (.int id_), .unset, .unset, .unset, .unset, .unset, .unset, .unset, .unset] [] := by first | (simp [entryFrame, mkF, argsToLocals, Value.category, maxLocals]; done) | rfl
def Q_rm0 (Z : State) (ia : Int32) (ib : Int32) (ic : Int32) (id_ : Int32) (h0 : Heap) (n0 : Nat) (v : Option Value) (h : Heap) (L : List Loc) : Prop := (v = some (.int (1 : Int32))) ∧ (Fr n0 L) ∧ (True)
set_option maxRecDepth 65536 in
set_option maxHeartbeats 40000000 in
theorem rm0 (l : Launch) (Z : State) (a0 : Array Value) (hw : ∀ d ∈ tables_1, d.before a0 Z = true) (ws : List Jvm.Cond) (ia : Int32) (ib : Int32) (ic : Int32) (id_ : Int32) (h0 : Heap) (n0 : Nat) (Z0 : n0 ≤ h0.size) :
    MetFree l x (head1 (Jvm.Cond.code x code maxLocals ret :: ws) room_1) (fun aA U => aA = #[(.int ia), (.int ib), (.int ic), (.int id_)] ∧ Z.Warmed39 U.vm ∧ U.heap = h0) (fun _ _ _ _ _ => True) (fun _ U o U' => ∃ v L, o = .returned v ∧ Q_rm0 Z ia ib ic id_ h0 n0 v U'.heap L ∧ FrameEnd U o U' L room_1.cells room_1.slots) := by
  refine MetFree.of_bodySF (plainFor_of_name pn_com_example_termvault_termvault_MarkArraysPositionsPinLaw) hisR ?_
  intro p e s m args below meth c s₁ Bd hml0 hP hK
  obtain ⟨rfl, hZ, hh⟩ := hP
  have hx := Bd.exec
  have hby := Bd.bytes
  have hml : c.maxLocals = 12 := hml0
  have hown : s.vm.findClass "com/example/termvault/termvault/MarkArraysPositionsPinLaw" = some m.cls := findClass_of_methodNamed Bd.named
  have hnm := (name_of_methodNamed Bd.named Bd.method).1
  have hret := Bd.returns
  have hlk : meth.locks = false := BodyLoose.notSynchronized Bd
  have X0 : Stand p l e room_1 s m #[(.int ia), (.int ib), (.int ic), (.int id_)] below meth c s₁ [] 0 0 := Stand.of_body Bd
  have e0 : s₁.heap = h0 := by rw [← hh, Bd.state]; rfl
  have N0 := Fr.nil n0
  suffices hgo : Go p e below s room_1.cells room_1.slots (Q_rm0 Z ia ib ic id_ h0 n0) s₁ (mkF m 0 #[.val (.int ia), .val (.int ib), .val (.int ic), .val (.int id_), .unset, .unset, .unset, .unset, .unset, .unset, .unset, .unset] []) from hgo.enter (ef_rm0 m ia ib ic id_)
  refine Go.step (fun _ k => XS.iloadN X0.here hx rfl (hb hby at_0) rfl k) ?_
  show Go _ _ _ _ _ _ _ s₁ (mkF m 1 #[.val (.int ia), .val (.int ib), .val (.int ic), .val (.int id_), .unset, .unset, .unset, .unset, .unset, .unset, .unset, .unset] [(.int ia)])
  refine Go.step (fun _ k => XS.bipush X0.here hx rfl (hb hby at_1) k) ?_
  show Go _ _ _ _ _ _ _ s₁ (mkF m 3 #[.val (.int ia), .val (.int ib), .val (.int ic), .val (.int id_), .unset, .unset, .unset, .unset, .unset, .unset, .unset, .unset] [(.int (7 : Int32)), (.int ia)])
  refine Go.step (fun _ k => XS.iand X0.here hx rfl (hb hby at_3) rfl k) ?_
  show Go _ _ _ _ _ _ _ s₁ (mkF m 4 #[.val (.int ia), .val (.int ib), .val (.int ic), .val (.int id_), .unset, .unset, .unset, .unset, .unset, .unset, .unset, .unset] [(.int (ia &&& (7 : Int32)))])
  refine Go.step (fun _ k => XS.istore X0.here hx rfl (hb hby at_4) rfl (l' := #[.val (.int ia), .val (.int ib), .val (.int ic), .val (.int id_), .val (.int (ia &&& (7 : Int32))), .unset, .unset, .unset, .unset, .unset, .unset, .unset]) rfl k) ?_
  show Go _ _ _ _ _ _ _ s₁ (mkF m 6 #[.val (.int ia), .val (.int ib), .val (.int ic), .val (.int id_), .val (.int (ia &&& (7 : Int32))), .unset, .unset, .unset, .unset, .unset, .unset, .unset] [])
  have b0 : 0 ≤ (ia &&& (7 : Int32)).toInt ∧ (ia &&& (7 : Int32)).toInt < 8 := (by have := rng32 ia; have : (7 : Int32).toInt = 7 := rfl; have := rng32 (ia &&& (7 : Int32)); have := c_mask ia (7 : Int32) 3 (by decide) (by decide); omega)
  generalize (ia &&& (7 : Int32)) = sp at b0 ⊢
  show Go _ _ _ _ _ _ _ s₁ (mkF m 6 #[.val (.int ia), .val (.int ib), .val (.int ic), .val (.int id_), .val (.int sp), .unset, .unset, .unset, .unset, .unset, .unset, .unset] [])
  have hs0 : ¬ (sp < (0 : Int32)) := (by have := rng32 sp; have : (0 : Int32).toInt = 0 := rfl; simp only [Int32.lt_iff_toInt_lt, Int32.le_iff_toInt_le, ← Int32.toInt_inj, Int64.lt_iff_toInt_lt, Int64.le_iff_toInt_le, ← Int64.toInt_inj]; omega)
  have hs1 : ¬ ((7 : Int32) < sp) := (by have := rng32 sp; have : (7 : Int32).toInt = 7 := rfl; simp only [Int32.lt_iff_toInt_lt, Int32.le_iff_toInt_le, ← Int32.toInt_inj, Int64.lt_iff_toInt_lt, Int64.le_iff_toInt_le, ← Int64.toInt_inj]; omega)
  obtain ⟨T349, h349, X349, e349, E349, A349, D349, -, st349⟩ := newO X0 hx hZ hown (hw _ (List.mem_of_getElem? (i := 0) rfl)) (hw _ (List.mem_of_getElem? (i := 1) rfl)) (hw _ (List.mem_of_getElem? (i := 2) rfl)) e0 (g := (mkF m 6 #[.val (.int ia), .val (.int ib), .val (.int ic), .val (.int id_), .val (.int sp), .unset, .unset, .unset, .unset, .unset, .unset, .unset] [])) rfl (hb hby at_6) (by decide) (by decide)
  obtain ⟨b349, g349⟩ : ∃ z, z = h0.size := ⟨_, rfl⟩
  rw [← g349] at A349 D349 st349
  refine Go.step st349 ?_
  have g_b349 : n0 ≤ b349 := Nat.le_trans Z0 (Nat.le_of_eq g349.symm)
  have Z349 : n0 ≤ h349.size := Nat.le_trans Z0 E349.1
  have Fcounts_349 : Fld Z h349 b349 "com/example/termvault/termvault/MarkArrays" "counts" "[[I" .null := D349 (Or.inr (hw _ (List.mem_of_getElem? (i := 12) rfl))) (ty := (.array (.array .int))) (by decide)
  have Fpositions_349 : Fld Z h349 b349 "com/example/termvault/termvault/MarkArrays" "positions" "[[J" .null := D349 (Or.inr (hw _ (List.mem_of_getElem? (i := 16) rfl))) (ty := (.array (.array .long))) (by decide)
  have Fspan_349 : Fld Z h349 b349 "com/example/termvault/termvault/MarkArrays" "span" "I" (.int (0 : Int32)) := D349 (Or.inr (hw _ (List.mem_of_getElem? (i := 18) rfl))) (ty := .int) (by decide)
  have FpositionsTaken_349 : Fld Z h349 b349 "com/example/termvault/termvault/MarkArrays" "positionsTaken" "I" (.int (0 : Int32)) := D349 (Or.inl (hw _ (List.mem_of_getElem? (i := 30) rfl))) (ty := .int) (by decide)
  have FcountsTaken_349 : Fld Z h349 b349 "com/example/termvault/termvault/MarkArrays" "countsTaken" "I" (.int (0 : Int32)) := D349 (Or.inl (hw _ (List.mem_of_getElem? (i := 40) rfl))) (ty := .int) (by decide)
  show Go _ _ _ _ _ _ _ T349 (mkF m 9 #[.val (.int ia), .val (.int ib), .val (.int ic), .val (.int id_), .val (.int sp), .unset, .unset, .unset, .unset, .unset, .unset, .unset] [(.ref b349)])
  refine Go.step (fun _ k => XS.dup X349.here hx rfl (hb hby at_9) rfl rfl k) ?_
  show Go _ _ _ _ _ _ _ T349 (mkF m 10 #[.val (.int ia), .val (.int ib), .val (.int ic), .val (.int id_), .val (.int sp), .unset, .unset, .unset, .unset, .unset, .unset, .unset] [(.ref b349), (.ref b349)])
  refine Go.step (fun _ k => XS.iload X349.here hx rfl (hb hby at_10) rfl k) ?_
  show Go _ _ _ _ _ _ _ T349 (mkF m 12 #[.val (.int ia), .val (.int ib), .val (.int ic), .val (.int id_), .val (.int sp), .unset, .unset, .unset, .unset, .unset, .unset, .unset] [(.int sp), (.ref b349), (.ref b349)])
  obtain ⟨_, _, ⟨T350, L350, k350, n350⟩, -, X350, ⟨Lc350, hQ350, l350, y350, z350⟩, st350⟩ := X349.specialBack hx (y := (⟨"com/example/termvault/termvault/MarkArrays", "<init>", "(I)V"⟩ : MethodName)) rfl hown (mvT hZ (hw _ (List.mem_of_getElem? (i := 3) rfl))) (mvT hZ (hw _ (List.mem_of_getElem? (i := 4) rfl))) (mvT hZ (hw _ (List.mem_of_getElem? (i := 5) rfl))) (by decide) (backOf (W := 1) (rmIn l Z a0 hw [] b349 sp h349 n0 Z349 A349 Fcounts_349 Fpositions_349 Fspan_349 FcountsTaken_349 FpositionsTaken_349 g_b349) hZ (hw _ (List.mem_of_getElem? (i := 5) rfl)) (hw _ (List.mem_of_getElem? (i := 2) rfl)) (by decide) (by decide)) (g := (mkF m 12 #[.val (.int ia), .val (.int ib), .val (.int ic), .val (.int id_), .val (.int sp), .unset, .unset, .unset, .unset, .unset, .unset, .unset] [(.int sp), (.ref b349), (.ref b349)])) rfl (by rw [hml]; rfl) (Steps.refl _) (a := b349) (argsL := [(.int sp)]) (rest := [(.ref b349)]) (lenOf pd__I_V rfl) rfl (by show 2 * 0 + _ ≤ _; exact Nat.le_of_eq rfl) (hb hby at_12) (fun _ _ => ⟨rfl, e349, (by decide : 1 + 2 ≤ _), (by decide : 5 + 32 ≤ _)⟩)
  dsimp only [Pt.U, Pt.locs, Pt.cells, Pt.slots] at X350 l350 y350 z350 st350 hQ350
  subst l350 y350 z350
  obtain ⟨h350, e350⟩ : ∃ h, T350.heap = h := ⟨_, rfl⟩
  rw [e350] at hQ350
  obtain ⟨ac_350, kc_350, ap_350, kp_350, rfl, Nq350, Kq350, sa_350, sb_350, ne_350, E1_350, Fc1_350, Fp1_350, Fs1_350, Ft1_350, Fu1_350, Vc_350, Vp_350, oc_350, op_350⟩ := hQ350
  have N350 := Fr.app N0 Nq350
  have Z350 : n0 ≤ h350.size := Nat.le_trans Z349 Kq350.1
  have g_ac_350 : n0 ≤ ac_350 := Nat.le_trans Z349 sa_350
  have ne_b349_ac_350 : b349 ≠ ac_350 := Nat.ne_of_lt (Nat.lt_of_lt_of_le A349.lt sa_350)
  have g_ap_350 : n0 ≤ ap_350 := Nat.le_trans Z349 sb_350
  have ne_b349_ap_350 : b349 ≠ ap_350 := Nat.ne_of_lt (Nat.lt_of_lt_of_le A349.lt sb_350)
  refine Go.trans st350 ?_
  show Go _ _ _ _ _ _ _ T350 (mkF m 15 #[.val (.int ia), .val (.int ib), .val (.int ic), .val (.int id_), .val (.int sp), .unset, .unset, .unset, .unset, .unset, .unset, .unset] [(.ref b349)])
  refine Go.step (fun _ k => XS.astore X350.here hx rfl (hb hby at_15) rfl rfl (l' := #[.val (.int ia), .val (.int ib), .val (.int ic), .val (.int id_), .val (.int sp), .val (.ref b349), .unset, .unset, .unset, .unset, .unset, .unset]) rfl k) ?_
  show Go _ _ _ _ _ _ _ T350 (mkF m 17 #[.val (.int ia), .val (.int ib), .val (.int ic), .val (.int id_), .val (.int sp), .val (.ref b349), .unset, .unset, .unset, .unset, .unset, .unset] [])
  refine Go.step (fun _ k => XS.bipush X350.here hx rfl (hb hby at_17) k) ?_
  show Go _ _ _ _ _ _ _ T350 (mkF m 19 #[.val (.int ia), .val (.int ib), .val (.int ic), .val (.int id_), .val (.int sp), .val (.ref b349), .unset, .unset, .unset, .unset, .unset, .unset] [(.int (18 : Int32))])
  obtain ⟨T351, h351, k351, X351, e351, E351, A351, Xa351, O351, st351⟩ := newRA X350 hx hZ hown (C := "[J") (ty := .long) (by decide) (hw _ (List.mem_of_getElem? (i := 19) rfl)) (hw _ (List.mem_of_getElem? (i := 14) rfl)) e350 (g := (mkF m 19 #[.val (.int ia), .val (.int ib), .val (.int ic), .val (.int id_), .val (.int sp), .val (.ref b349), .unset, .unset, .unset, .unset, .unset, .unset] [(.int (18 : Int32))])) rfl (hb hby at_19) rfl (by decide) (cap := 18) (by decide) (by decide) (by decide) (by decide) (ad := "[[J") (by decide)
  obtain ⟨b351, g351⟩ : ∃ z, z = h350.size := ⟨_, rfl⟩
  rw [← g351] at A351 st351
  refine Go.step st351 ?_
  have g_b351 : n0 ≤ b351 := Nat.le_trans Z350 (Nat.le_of_eq g351.symm)
  have ne_ac_350_b351 : ac_350 ≠ b351 := Nat.ne_of_lt (Nat.lt_of_lt_of_le Vc_350.lt (Nat.le_of_eq g351.symm))
  have ne_ap_350_b351 : ap_350 ≠ b351 := Nat.ne_of_lt (Nat.lt_of_lt_of_le Vp_350.lt (Nat.le_of_eq g351.symm))
  have ne_b349_b351 : b349 ≠ b351 := Nat.ne_of_lt (Nat.lt_of_lt_of_le E1_350.lt (Nat.le_of_eq g351.symm))
  have Z351 : n0 ≤ h351.size := Nat.le_trans Z350 E351.1
  have V351 : Arv Z h351 b351 k351 (.array .long) (18 : Int32) [] .null := Arv.new A351 (by decide)
  show Go _ _ _ _ _ _ _ T351 (mkF m 22 #[.val (.int ia), .val (.int ib), .val (.int ic), .val (.int id_), .val (.int sp), .val (.ref b349), .unset, .unset, .unset, .unset, .unset, .unset] [(.ref b351)])
  refine Go.step (fun _ k => XS.astore X351.here hx rfl (hb hby at_22) rfl rfl (l' := #[.val (.int ia), .val (.int ib), .val (.int ic), .val (.int id_), .val (.int sp), .val (.ref b349), .val (.ref b351), .unset, .unset, .unset, .unset, .unset]) rfl k) ?_
  show Go _ _ _ _ _ _ _ T351 (mkF m 24 #[.val (.int ia), .val (.int ib), .val (.int ic), .val (.int id_), .val (.int sp), .val (.ref b349), .val (.ref b351), .unset, .unset, .unset, .unset, .unset] [])
  have V352 : Arv Z h351 b351 k351 (.array .long) (18 : Int32) (List.replicate 18 .null) .null := (V351).pad (pad_rep [] .null 18)
  have Ps0 : own_Pos Z h351 [b349, ap_350, b351] [] sp := ⟨List.nodup_nil, fun x hx => nomatch hx⟩
  refine Go.step (fun _ k => XS.aload X351.here hx rfl (hb hby at_24) rfl rfl k) ?_
  show Go _ _ _ _ _ _ _ T351 (mkF m 26 #[.val (.int ia), .val (.int ib), .val (.int ic), .val (.int id_), .val (.int sp), .val (.ref b349), .val (.ref b351), .unset, .unset, .unset, .unset, .unset] [(.ref b349)])
  refine Go.step (fun _ k => XS.aload X351.here hx rfl (hb hby at_26) rfl rfl k) ?_
  show Go _ _ _ _ _ _ _ T351 (mkF m 28 #[.val (.int ia), .val (.int ib), .val (.int ic), .val (.int id_), .val (.int sp), .val (.ref b349), .val (.ref b351), .unset, .unset, .unset, .unset, .unset] [(.ref b351), (.ref b349)])
  refine Go.step (fun _ k => XS.iconst X351.here hx rfl (hb hby at_28) k) ?_
  show Go _ _ _ _ _ _ _ T351 (mkF m 29 #[.val (.int ia), .val (.int ib), .val (.int ic), .val (.int id_), .val (.int sp), .val (.ref b349), .val (.ref b351), .unset, .unset, .unset, .unset, .unset] [(.int (0 : Int32)), (.ref b351), (.ref b349)])
  have f354 : Exa Z h351 b349 "com/example/termvault/termvault/MarkArrays" := (E1_350.ext E351)
  have f355 : Fld Z h351 b349 "com/example/termvault/termvault/MarkArrays" "positions" "[[J" (.ref ap_350) := (Fp1_350.ext E351)
  have f356 : Fld Z h351 b349 "com/example/termvault/termvault/MarkArrays" "positionsTaken" "I" (.int (0 : Int32)) := (Fu1_350.ext E351)
  have f357 : Fld Z h351 b349 "com/example/termvault/termvault/MarkArrays" "span" "I" (.int sp) := (Fs1_350.ext E351)
  have f358 : Arv Z h351 ap_350 kp_350 (.array .long) (16 : Int32) (List.replicate 16 Value.null) .null := (Vp_350.ext E351)
  have f359 : Fld Z h351 b349 "com/example/termvault/termvault/MarkArrays" "countsTaken" "I" (.int (0 : Int32)) := (Ft1_350.ext E351)
  have f360 : Fld Z h351 b349 "com/example/termvault/termvault/MarkArrays" "counts" "[[I" (.ref ac_350) := (Fc1_350.ext E351)
  obtain ⟨_, _, ⟨T353, L353, k353, n353⟩, -, X353, ⟨Lc353, hQ353, l353, y353, z353⟩, st353⟩ := Jvm.LawKit.callS X351 hx (y := (⟨"com/example/termvault/termvault/MarkArraysPositionsPinLaw", "four", "(Lcom/example/termvault/termvault/MarkArrays;[[JI)V"⟩ : MethodName)) hown (mvT hZ (hw _ (List.mem_of_getElem? (i := 20) rfl))) (mvT hZ (hw _ (List.mem_of_getElem? (i := 21) rfl))) (mvT hZ (hw _ (List.mem_of_getElem? (i := 22) rfl))) (mvT hZ (hw _ (List.mem_of_getElem? (i := 23) rfl))) (by decide) (backOf (W := 0) (rmFo0 l Z a0 hw [] b349 b351 ap_350 kp_350 (List.replicate 16 Value.null) k351 (List.replicate 18 .null) sp (0 : Int32) ac_350 [] h351 n0 Z351 f354 f355 f356 f357 f358 f359 f360 V352 Ps0 op_350 O351 g_b349 g_ap_350 g_b351 ne_b349_ap_350 ne_b349_b351 ne_ap_350_b351 (by simp only [List.length_set, List.length_replicate]; rfl) (by simp only [List.length_set, List.length_replicate]) own_rep own_rep own_rep own_rep hs0 hs1) hZ (hw _ (List.mem_of_getElem? (i := 23) rfl)) (hw _ (List.mem_of_getElem? (i := 22) rfl)) (by decide) (by decide)) (g := (mkF m 29 #[.val (.int ia), .val (.int ib), .val (.int ic), .val (.int id_), .val (.int sp), .val (.ref b349), .val (.ref b351), .unset, .unset, .unset, .unset, .unset] [(.int (0 : Int32)), (.ref b351), (.ref b349)])) rfl (by rw [hml]; rfl) (argsL := [(.ref b349), (.ref b351), (.int (0 : Int32))]) (rest := []) (lenOf pd__Lcom_example_termvault_termvault_MarkArrays___JI_V rfl) rfl (by show 2 * 0 + _ ≤ _; exact Nat.le_of_eq rfl) (hb hby at_29) (fun _ _ => ⟨rfl, e351, (by decide : 4 + 4 ≤ _), (by decide : 55 + 28 ≤ _)⟩)
  dsimp only [Pt.U, Pt.locs, Pt.cells, Pt.slots] at X353 l353 y353 z353 st353 hQ353
  subst l353 y353 z353
  obtain ⟨h353, e353⟩ : ∃ h, T353.heap = h := ⟨_, rfl⟩
  rw [e353] at hQ353
  have f361 : Arv Z h351 ac_350 kc_350 (.array .int) (16 : Int32) (List.replicate 16 Value.null) .null := (Vc_350.ext E351)
  obtain ⟨z0, z1, z2, z3, rfl, Nq353, Kq353, E1_353, Fc1_353, Ft1_353, Fs1_353, Vc1_353, Fo1_353, Fq1_353, Vg1_353, P1_353, Xe0_353, Xe1_353, Xe2_353, Xe3_353, sx0_353, sx1_353, sx2_353, sx3_353⟩ := hQ353
  have N353 := Fr.app N350 Nq353
  have Z353 : n0 ≤ h353.size := Nat.le_trans Z351 Kq353.1
  have Fo1_353 : Fld Z h353 b349 "com/example/termvault/termvault/MarkArrays" "countsTaken" "I" (.int (0 : Int32)) := Fo1_353
  have g_z0 : n0 ≤ z0 := Nat.le_trans Z351 sx0_353
  have ne_ac_350_z0 : ac_350 ≠ z0 := Nat.ne_of_lt (Nat.lt_of_lt_of_le f361.lt sx0_353)
  have ne_ap_350_z0 : ap_350 ≠ z0 := Nat.ne_of_lt (Nat.lt_of_lt_of_le f358.lt sx0_353)
  have ne_b349_z0 : b349 ≠ z0 := Nat.ne_of_lt (Nat.lt_of_lt_of_le f354.lt sx0_353)
  have ne_b351_z0 : b351 ≠ z0 := Nat.ne_of_lt (Nat.lt_of_lt_of_le V352.lt sx0_353)
  have g_z1 : n0 ≤ z1 := Nat.le_trans Z351 sx1_353
  have ne_ac_350_z1 : ac_350 ≠ z1 := Nat.ne_of_lt (Nat.lt_of_lt_of_le f361.lt sx1_353)
  have ne_ap_350_z1 : ap_350 ≠ z1 := Nat.ne_of_lt (Nat.lt_of_lt_of_le f358.lt sx1_353)
  have ne_b349_z1 : b349 ≠ z1 := Nat.ne_of_lt (Nat.lt_of_lt_of_le f354.lt sx1_353)
  have ne_b351_z1 : b351 ≠ z1 := Nat.ne_of_lt (Nat.lt_of_lt_of_le V352.lt sx1_353)
  have g_z2 : n0 ≤ z2 := Nat.le_trans Z351 sx2_353
  have ne_ac_350_z2 : ac_350 ≠ z2 := Nat.ne_of_lt (Nat.lt_of_lt_of_le f361.lt sx2_353)
  have ne_ap_350_z2 : ap_350 ≠ z2 := Nat.ne_of_lt (Nat.lt_of_lt_of_le f358.lt sx2_353)
  have ne_b349_z2 : b349 ≠ z2 := Nat.ne_of_lt (Nat.lt_of_lt_of_le f354.lt sx2_353)
  have ne_b351_z2 : b351 ≠ z2 := Nat.ne_of_lt (Nat.lt_of_lt_of_le V352.lt sx2_353)
  have g_z3 : n0 ≤ z3 := Nat.le_trans Z351 sx3_353
  have ne_ac_350_z3 : ac_350 ≠ z3 := Nat.ne_of_lt (Nat.lt_of_lt_of_le f361.lt sx3_353)
  have ne_ap_350_z3 : ap_350 ≠ z3 := Nat.ne_of_lt (Nat.lt_of_lt_of_le f358.lt sx3_353)
  have ne_b349_z3 : b349 ≠ z3 := Nat.ne_of_lt (Nat.lt_of_lt_of_le f354.lt sx3_353)
  have ne_b351_z3 : b351 ≠ z3 := Nat.ne_of_lt (Nat.lt_of_lt_of_le V352.lt sx3_353)
  refine Go.step st353 ?_
  show Go _ _ _ _ _ _ _ T353 (mkF m 32 #[.val (.int ia), .val (.int ib), .val (.int ic), .val (.int id_), .val (.int sp), .val (.ref b349), .val (.ref b351), .unset, .unset, .unset, .unset, .unset] [])
  refine Go.step (fun _ k => XS.aload X353.here hx rfl (hb hby at_32) rfl rfl k) ?_
  show Go _ _ _ _ _ _ _ T353 (mkF m 34 #[.val (.int ia), .val (.int ib), .val (.int ic), .val (.int id_), .val (.int sp), .val (.ref b349), .val (.ref b351), .unset, .unset, .unset, .unset, .unset] [(.ref b349)])
  refine Go.step (fun _ k => XS.aload X353.here hx rfl (hb hby at_34) rfl rfl k) ?_
  show Go _ _ _ _ _ _ _ T353 (mkF m 36 #[.val (.int ia), .val (.int ib), .val (.int ic), .val (.int id_), .val (.int sp), .val (.ref b349), .val (.ref b351), .unset, .unset, .unset, .unset, .unset] [(.ref b351), (.ref b349)])
  refine Go.step (fun _ k => XS.iconst X353.here hx rfl (hb hby at_36) k) ?_
  show Go _ _ _ _ _ _ _ T353 (mkF m 37 #[.val (.int ia), .val (.int ib), .val (.int ic), .val (.int id_), .val (.int sp), .val (.ref b349), .val (.ref b351), .unset, .unset, .unset, .unset, .unset] [(.int (4 : Int32)), (.ref b351), (.ref b349)])
  obtain ⟨_, _, ⟨T362, L362, k362, n362⟩, -, X362, ⟨Lc362, hQ362, l362, y362, z362⟩, st362⟩ := Jvm.LawKit.callS X353 hx (y := (⟨"com/example/termvault/termvault/MarkArraysPositionsPinLaw", "four", "(Lcom/example/termvault/termvault/MarkArrays;[[JI)V"⟩ : MethodName)) hown (mvT hZ (hw _ (List.mem_of_getElem? (i := 20) rfl))) (mvT hZ (hw _ (List.mem_of_getElem? (i := 21) rfl))) (mvT hZ (hw _ (List.mem_of_getElem? (i := 22) rfl))) (mvT hZ (hw _ (List.mem_of_getElem? (i := 23) rfl))) (by decide) (backOf (W := 0) (rmFo4 l Z a0 hw [] b349 b351 ap_350 kp_350 (((((List.replicate 16 Value.null).set (0 : Int32).toNatClampNeg (.ref z0)).set (1 : Int32).toNatClampNeg (.ref z1)).set (2 : Int32).toNatClampNeg (.ref z2)).set (3 : Int32).toNatClampNeg (.ref z3)) k351 (((((List.replicate 18 .null).set 0 (.ref z0)).set 1 (.ref z1)).set 2 (.ref z2)).set 3 (.ref z3)) sp (0 : Int32) ac_350 (((([] ++ [z0]) ++ [z1]) ++ [z2]) ++ [z3]) h353 n0 Z353 E1_353 Fc1_353 Ft1_353 Fs1_353 Vc1_353 Fo1_353 Fq1_353 Vg1_353 P1_353 op_350 O351 g_b349 g_ap_350 g_b351 ne_b349_ap_350 ne_b349_b351 ne_ap_350_b351 (by simp only [List.length_set, List.length_replicate]; rfl) (by simp only [List.length_set, List.length_replicate]) ((own_n (by decide)).trans ((own_n (by decide)).trans ((own_n (by decide)).trans ((own_n (by decide)).trans own_rep)))) ((own_n (by decide)).trans ((own_n (by decide)).trans ((own_n (by decide)).trans ((own_n (by decide)).trans own_rep)))) ((own_n (by decide)).trans ((own_n (by decide)).trans ((own_n (by decide)).trans ((own_n (by decide)).trans own_rep)))) ((own_n (by decide)).trans ((own_n (by decide)).trans ((own_n (by decide)).trans ((own_n (by decide)).trans own_rep)))) hs0 hs1) hZ (hw _ (List.mem_of_getElem? (i := 23) rfl)) (hw _ (List.mem_of_getElem? (i := 22) rfl)) (by decide) (by decide)) (g := (mkF m 37 #[.val (.int ia), .val (.int ib), .val (.int ic), .val (.int id_), .val (.int sp), .val (.ref b349), .val (.ref b351), .unset, .unset, .unset, .unset, .unset] [(.int (4 : Int32)), (.ref b351), (.ref b349)])) rfl (by rw [hml]; rfl) (argsL := [(.ref b349), (.ref b351), (.int (4 : Int32))]) (rest := []) (lenOf pd__Lcom_example_termvault_termvault_MarkArrays___JI_V rfl) rfl (by show 2 * 0 + _ ≤ _; exact Nat.le_of_eq rfl) (hb hby at_37) (fun _ _ => ⟨rfl, e353, (by decide : 8 + 4 ≤ _), (by decide : 83 + 28 ≤ _)⟩)
  dsimp only [Pt.U, Pt.locs, Pt.cells, Pt.slots] at X362 l362 y362 z362 st362 hQ362
  subst l362 y362 z362
  obtain ⟨h362, e362⟩ : ∃ h, T362.heap = h := ⟨_, rfl⟩
  rw [e362] at hQ362
  have f363 : Arv Z h353 ac_350 kc_350 (.array .int) (16 : Int32) (List.replicate 16 Value.null) .null := (f361.keep Kq353 (ninS (Ne.symm ne_b349_ac_350) (ninS ne_350 (ninS ne_ac_350_b351 nin0))))
  obtain ⟨z4, z5, z6, z7, rfl, Nq362, Kq362, E1_362, Fc1_362, Ft1_362, Fs1_362, Vc1_362, Fo1_362, Fq1_362, Vg1_362, P1_362, Xe0_362, Xe1_362, Xe2_362, Xe3_362, sx0_362, sx1_362, sx2_362, sx3_362⟩ := hQ362
  have N362 := Fr.app N353 Nq362
  have Z362 : n0 ≤ h362.size := Nat.le_trans Z353 Kq362.1
  have Fo1_362 : Fld Z h362 b349 "com/example/termvault/termvault/MarkArrays" "countsTaken" "I" (.int (0 : Int32)) := Fo1_362
  have g_z4 : n0 ≤ z4 := Nat.le_trans Z353 sx0_362
  have ne_ac_350_z4 : ac_350 ≠ z4 := Nat.ne_of_lt (Nat.lt_of_lt_of_le f363.lt sx0_362)
  have ne_ap_350_z4 : ap_350 ≠ z4 := Nat.ne_of_lt (Nat.lt_of_lt_of_le Vc1_353.lt sx0_362)
  have ne_b349_z4 : b349 ≠ z4 := Nat.ne_of_lt (Nat.lt_of_lt_of_le E1_353.lt sx0_362)
  have ne_b351_z4 : b351 ≠ z4 := Nat.ne_of_lt (Nat.lt_of_lt_of_le Vg1_353.lt sx0_362)
  have ne_z0_z4 : z0 ≠ z4 := Nat.ne_of_lt (Nat.lt_of_lt_of_le Xe0_353.lt sx0_362)
  have ne_z1_z4 : z1 ≠ z4 := Nat.ne_of_lt (Nat.lt_of_lt_of_le Xe1_353.lt sx0_362)
  have ne_z2_z4 : z2 ≠ z4 := Nat.ne_of_lt (Nat.lt_of_lt_of_le Xe2_353.lt sx0_362)
  have ne_z3_z4 : z3 ≠ z4 := Nat.ne_of_lt (Nat.lt_of_lt_of_le Xe3_353.lt sx0_362)
  have g_z5 : n0 ≤ z5 := Nat.le_trans Z353 sx1_362
  have ne_ac_350_z5 : ac_350 ≠ z5 := Nat.ne_of_lt (Nat.lt_of_lt_of_le f363.lt sx1_362)
  have ne_ap_350_z5 : ap_350 ≠ z5 := Nat.ne_of_lt (Nat.lt_of_lt_of_le Vc1_353.lt sx1_362)
  have ne_b349_z5 : b349 ≠ z5 := Nat.ne_of_lt (Nat.lt_of_lt_of_le E1_353.lt sx1_362)
  have ne_b351_z5 : b351 ≠ z5 := Nat.ne_of_lt (Nat.lt_of_lt_of_le Vg1_353.lt sx1_362)
  have ne_z0_z5 : z0 ≠ z5 := Nat.ne_of_lt (Nat.lt_of_lt_of_le Xe0_353.lt sx1_362)
  have ne_z1_z5 : z1 ≠ z5 := Nat.ne_of_lt (Nat.lt_of_lt_of_le Xe1_353.lt sx1_362)
  have ne_z2_z5 : z2 ≠ z5 := Nat.ne_of_lt (Nat.lt_of_lt_of_le Xe2_353.lt sx1_362)
  have ne_z3_z5 : z3 ≠ z5 := Nat.ne_of_lt (Nat.lt_of_lt_of_le Xe3_353.lt sx1_362)
  have g_z6 : n0 ≤ z6 := Nat.le_trans Z353 sx2_362
  have ne_ac_350_z6 : ac_350 ≠ z6 := Nat.ne_of_lt (Nat.lt_of_lt_of_le f363.lt sx2_362)
  have ne_ap_350_z6 : ap_350 ≠ z6 := Nat.ne_of_lt (Nat.lt_of_lt_of_le Vc1_353.lt sx2_362)
  have ne_b349_z6 : b349 ≠ z6 := Nat.ne_of_lt (Nat.lt_of_lt_of_le E1_353.lt sx2_362)
  have ne_b351_z6 : b351 ≠ z6 := Nat.ne_of_lt (Nat.lt_of_lt_of_le Vg1_353.lt sx2_362)
  have ne_z0_z6 : z0 ≠ z6 := Nat.ne_of_lt (Nat.lt_of_lt_of_le Xe0_353.lt sx2_362)
  have ne_z1_z6 : z1 ≠ z6 := Nat.ne_of_lt (Nat.lt_of_lt_of_le Xe1_353.lt sx2_362)
  have ne_z2_z6 : z2 ≠ z6 := Nat.ne_of_lt (Nat.lt_of_lt_of_le Xe2_353.lt sx2_362)
  have ne_z3_z6 : z3 ≠ z6 := Nat.ne_of_lt (Nat.lt_of_lt_of_le Xe3_353.lt sx2_362)
  have g_z7 : n0 ≤ z7 := Nat.le_trans Z353 sx3_362
  have ne_ac_350_z7 : ac_350 ≠ z7 := Nat.ne_of_lt (Nat.lt_of_lt_of_le f363.lt sx3_362)
  have ne_ap_350_z7 : ap_350 ≠ z7 := Nat.ne_of_lt (Nat.lt_of_lt_of_le Vc1_353.lt sx3_362)
  have ne_b349_z7 : b349 ≠ z7 := Nat.ne_of_lt (Nat.lt_of_lt_of_le E1_353.lt sx3_362)
  have ne_b351_z7 : b351 ≠ z7 := Nat.ne_of_lt (Nat.lt_of_lt_of_le Vg1_353.lt sx3_362)
  have ne_z0_z7 : z0 ≠ z7 := Nat.ne_of_lt (Nat.lt_of_lt_of_le Xe0_353.lt sx3_362)
  have ne_z1_z7 : z1 ≠ z7 := Nat.ne_of_lt (Nat.lt_of_lt_of_le Xe1_353.lt sx3_362)
  have ne_z2_z7 : z2 ≠ z7 := Nat.ne_of_lt (Nat.lt_of_lt_of_le Xe2_353.lt sx3_362)
  have ne_z3_z7 : z3 ≠ z7 := Nat.ne_of_lt (Nat.lt_of_lt_of_le Xe3_353.lt sx3_362)
  refine Go.step st362 ?_
  show Go _ _ _ _ _ _ _ T362 (mkF m 40 #[.val (.int ia), .val (.int ib), .val (.int ic), .val (.int id_), .val (.int sp), .val (.ref b349), .val (.ref b351), .unset, .unset, .unset, .unset, .unset] [])
  refine Go.step (fun _ k => XS.aload X362.here hx rfl (hb hby at_40) rfl rfl k) ?_
  show Go _ _ _ _ _ _ _ T362 (mkF m 42 #[.val (.int ia), .val (.int ib), .val (.int ic), .val (.int id_), .val (.int sp), .val (.ref b349), .val (.ref b351), .unset, .unset, .unset, .unset, .unset] [(.ref b349)])
  refine Go.step (fun _ k => XS.aload X362.here hx rfl (hb hby at_42) rfl rfl k) ?_
  show Go _ _ _ _ _ _ _ T362 (mkF m 44 #[.val (.int ia), .val (.int ib), .val (.int ic), .val (.int id_), .val (.int sp), .val (.ref b349), .val (.ref b351), .unset, .unset, .unset, .unset, .unset] [(.ref b351), (.ref b349)])
  refine Go.step (fun _ k => XS.bipush X362.here hx rfl (hb hby at_44) k) ?_
  show Go _ _ _ _ _ _ _ T362 (mkF m 46 #[.val (.int ia), .val (.int ib), .val (.int ic), .val (.int id_), .val (.int sp), .val (.ref b349), .val (.ref b351), .unset, .unset, .unset, .unset, .unset] [(.int (8 : Int32)), (.ref b351), (.ref b349)])
  obtain ⟨_, _, ⟨T364, L364, k364, n364⟩, -, X364, ⟨Lc364, hQ364, l364, y364, z364⟩, st364⟩ := Jvm.LawKit.callS X362 hx (y := (⟨"com/example/termvault/termvault/MarkArraysPositionsPinLaw", "four", "(Lcom/example/termvault/termvault/MarkArrays;[[JI)V"⟩ : MethodName)) hown (mvT hZ (hw _ (List.mem_of_getElem? (i := 20) rfl))) (mvT hZ (hw _ (List.mem_of_getElem? (i := 21) rfl))) (mvT hZ (hw _ (List.mem_of_getElem? (i := 22) rfl))) (mvT hZ (hw _ (List.mem_of_getElem? (i := 23) rfl))) (by decide) (backOf (W := 0) (rmFo8 l Z a0 hw [] b349 b351 ap_350 kp_350 (((((((((List.replicate 16 Value.null).set (0 : Int32).toNatClampNeg (.ref z0)).set (1 : Int32).toNatClampNeg (.ref z1)).set (2 : Int32).toNatClampNeg (.ref z2)).set (3 : Int32).toNatClampNeg (.ref z3)).set (4 : Int32).toNatClampNeg (.ref z4)).set (5 : Int32).toNatClampNeg (.ref z5)).set (6 : Int32).toNatClampNeg (.ref z6)).set (7 : Int32).toNatClampNeg (.ref z7)) k351 (((((((((List.replicate 18 .null).set 0 (.ref z0)).set 1 (.ref z1)).set 2 (.ref z2)).set 3 (.ref z3)).set 4 (.ref z4)).set 5 (.ref z5)).set 6 (.ref z6)).set 7 (.ref z7)) sp (0 : Int32) ac_350 (((((((([] ++ [z0]) ++ [z1]) ++ [z2]) ++ [z3]) ++ [z4]) ++ [z5]) ++ [z6]) ++ [z7]) h362 n0 Z362 E1_362 Fc1_362 Ft1_362 Fs1_362 Vc1_362 Fo1_362 Fq1_362 Vg1_362 P1_362 op_350 O351 g_b349 g_ap_350 g_b351 ne_b349_ap_350 ne_b349_b351 ne_ap_350_b351 (by simp only [List.length_set, List.length_replicate]; rfl) (by simp only [List.length_set, List.length_replicate]) ((own_n (by decide)).trans ((own_n (by decide)).trans ((own_n (by decide)).trans ((own_n (by decide)).trans ((own_n (by decide)).trans ((own_n (by decide)).trans ((own_n (by decide)).trans ((own_n (by decide)).trans own_rep)))))))) ((own_n (by decide)).trans ((own_n (by decide)).trans ((own_n (by decide)).trans ((own_n (by decide)).trans ((own_n (by decide)).trans ((own_n (by decide)).trans ((own_n (by decide)).trans ((own_n (by decide)).trans own_rep)))))))) ((own_n (by decide)).trans ((own_n (by decide)).trans ((own_n (by decide)).trans ((own_n (by decide)).trans ((own_n (by decide)).trans ((own_n (by decide)).trans ((own_n (by decide)).trans ((own_n (by decide)).trans own_rep)))))))) ((own_n (by decide)).trans ((own_n (by decide)).trans ((own_n (by decide)).trans ((own_n (by decide)).trans ((own_n (by decide)).trans ((own_n (by decide)).trans ((own_n (by decide)).trans ((own_n (by decide)).trans own_rep)))))))) hs0 hs1) hZ (hw _ (List.mem_of_getElem? (i := 23) rfl)) (hw _ (List.mem_of_getElem? (i := 22) rfl)) (by decide) (by decide)) (g := (mkF m 46 #[.val (.int ia), .val (.int ib), .val (.int ic), .val (.int id_), .val (.int sp), .val (.ref b349), .val (.ref b351), .unset, .unset, .unset, .unset, .unset] [(.int (8 : Int32)), (.ref b351), (.ref b349)])) rfl (by rw [hml]; rfl) (argsL := [(.ref b349), (.ref b351), (.int (8 : Int32))]) (rest := []) (lenOf pd__Lcom_example_termvault_termvault_MarkArrays___JI_V rfl) rfl (by show 2 * 0 + _ ≤ _; exact Nat.le_of_eq rfl) (hb hby at_46) (fun _ _ => ⟨rfl, e362, (by decide : 12 + 4 ≤ _), (by decide : 111 + 28 ≤ _)⟩)
  dsimp only [Pt.U, Pt.locs, Pt.cells, Pt.slots] at X364 l364 y364 z364 st364 hQ364
  subst l364 y364 z364
  obtain ⟨h364, e364⟩ : ∃ h, T364.heap = h := ⟨_, rfl⟩
  rw [e364] at hQ364
  have f365 : Arv Z h362 ac_350 kc_350 (.array .int) (16 : Int32) (List.replicate 16 Value.null) .null := (f363.keep Kq362 (ninS (Ne.symm ne_b349_ac_350) (ninS ne_350 (ninS ne_ac_350_b351 nin0))))
  have f366 : Exa Z h362 z0 "[J" := (Xe0_353.keep Kq362)
  have f367 : Exa Z h362 z1 "[J" := (Xe1_353.keep Kq362)
  have f368 : Exa Z h362 z2 "[J" := (Xe2_353.keep Kq362)
  have f369 : Exa Z h362 z3 "[J" := (Xe3_353.keep Kq362)
  obtain ⟨z8, z9, z10, z11, rfl, Nq364, Kq364, E1_364, Fc1_364, Ft1_364, Fs1_364, Vc1_364, Fo1_364, Fq1_364, Vg1_364, P1_364, Xe0_364, Xe1_364, Xe2_364, Xe3_364, sx0_364, sx1_364, sx2_364, sx3_364⟩ := hQ364
  have N364 := Fr.app N362 Nq364
  have Z364 : n0 ≤ h364.size := Nat.le_trans Z362 Kq364.1
  have Fo1_364 : Fld Z h364 b349 "com/example/termvault/termvault/MarkArrays" "countsTaken" "I" (.int (0 : Int32)) := Fo1_364
  have g_z8 : n0 ≤ z8 := Nat.le_trans Z362 sx0_364
  have ne_ac_350_z8 : ac_350 ≠ z8 := Nat.ne_of_lt (Nat.lt_of_lt_of_le f365.lt sx0_364)
  have ne_ap_350_z8 : ap_350 ≠ z8 := Nat.ne_of_lt (Nat.lt_of_lt_of_le Vc1_362.lt sx0_364)
  have ne_b349_z8 : b349 ≠ z8 := Nat.ne_of_lt (Nat.lt_of_lt_of_le E1_362.lt sx0_364)
  have ne_b351_z8 : b351 ≠ z8 := Nat.ne_of_lt (Nat.lt_of_lt_of_le Vg1_362.lt sx0_364)
  have ne_z0_z8 : z0 ≠ z8 := Nat.ne_of_lt (Nat.lt_of_lt_of_le f366.lt sx0_364)
  have ne_z1_z8 : z1 ≠ z8 := Nat.ne_of_lt (Nat.lt_of_lt_of_le f367.lt sx0_364)
  have ne_z2_z8 : z2 ≠ z8 := Nat.ne_of_lt (Nat.lt_of_lt_of_le f368.lt sx0_364)
  have ne_z3_z8 : z3 ≠ z8 := Nat.ne_of_lt (Nat.lt_of_lt_of_le f369.lt sx0_364)
  have ne_z4_z8 : z4 ≠ z8 := Nat.ne_of_lt (Nat.lt_of_lt_of_le Xe0_362.lt sx0_364)
  have ne_z5_z8 : z5 ≠ z8 := Nat.ne_of_lt (Nat.lt_of_lt_of_le Xe1_362.lt sx0_364)
  have ne_z6_z8 : z6 ≠ z8 := Nat.ne_of_lt (Nat.lt_of_lt_of_le Xe2_362.lt sx0_364)
  have ne_z7_z8 : z7 ≠ z8 := Nat.ne_of_lt (Nat.lt_of_lt_of_le Xe3_362.lt sx0_364)
  have g_z9 : n0 ≤ z9 := Nat.le_trans Z362 sx1_364
  have ne_ac_350_z9 : ac_350 ≠ z9 := Nat.ne_of_lt (Nat.lt_of_lt_of_le f365.lt sx1_364)
  have ne_ap_350_z9 : ap_350 ≠ z9 := Nat.ne_of_lt (Nat.lt_of_lt_of_le Vc1_362.lt sx1_364)
  have ne_b349_z9 : b349 ≠ z9 := Nat.ne_of_lt (Nat.lt_of_lt_of_le E1_362.lt sx1_364)
  have ne_b351_z9 : b351 ≠ z9 := Nat.ne_of_lt (Nat.lt_of_lt_of_le Vg1_362.lt sx1_364)
  have ne_z0_z9 : z0 ≠ z9 := Nat.ne_of_lt (Nat.lt_of_lt_of_le f366.lt sx1_364)
  have ne_z1_z9 : z1 ≠ z9 := Nat.ne_of_lt (Nat.lt_of_lt_of_le f367.lt sx1_364)
  have ne_z2_z9 : z2 ≠ z9 := Nat.ne_of_lt (Nat.lt_of_lt_of_le f368.lt sx1_364)
  have ne_z3_z9 : z3 ≠ z9 := Nat.ne_of_lt (Nat.lt_of_lt_of_le f369.lt sx1_364)
  have ne_z4_z9 : z4 ≠ z9 := Nat.ne_of_lt (Nat.lt_of_lt_of_le Xe0_362.lt sx1_364)
  have ne_z5_z9 : z5 ≠ z9 := Nat.ne_of_lt (Nat.lt_of_lt_of_le Xe1_362.lt sx1_364)
  have ne_z6_z9 : z6 ≠ z9 := Nat.ne_of_lt (Nat.lt_of_lt_of_le Xe2_362.lt sx1_364)
  have ne_z7_z9 : z7 ≠ z9 := Nat.ne_of_lt (Nat.lt_of_lt_of_le Xe3_362.lt sx1_364)
  have g_z10 : n0 ≤ z10 := Nat.le_trans Z362 sx2_364
  have ne_ac_350_z10 : ac_350 ≠ z10 := Nat.ne_of_lt (Nat.lt_of_lt_of_le f365.lt sx2_364)
  have ne_ap_350_z10 : ap_350 ≠ z10 := Nat.ne_of_lt (Nat.lt_of_lt_of_le Vc1_362.lt sx2_364)
  have ne_b349_z10 : b349 ≠ z10 := Nat.ne_of_lt (Nat.lt_of_lt_of_le E1_362.lt sx2_364)
  have ne_b351_z10 : b351 ≠ z10 := Nat.ne_of_lt (Nat.lt_of_lt_of_le Vg1_362.lt sx2_364)
  have ne_z0_z10 : z0 ≠ z10 := Nat.ne_of_lt (Nat.lt_of_lt_of_le f366.lt sx2_364)
  have ne_z1_z10 : z1 ≠ z10 := Nat.ne_of_lt (Nat.lt_of_lt_of_le f367.lt sx2_364)
  have ne_z2_z10 : z2 ≠ z10 := Nat.ne_of_lt (Nat.lt_of_lt_of_le f368.lt sx2_364)
  have ne_z3_z10 : z3 ≠ z10 := Nat.ne_of_lt (Nat.lt_of_lt_of_le f369.lt sx2_364)
  have ne_z4_z10 : z4 ≠ z10 := Nat.ne_of_lt (Nat.lt_of_lt_of_le Xe0_362.lt sx2_364)
  have ne_z5_z10 : z5 ≠ z10 := Nat.ne_of_lt (Nat.lt_of_lt_of_le Xe1_362.lt sx2_364)
  have ne_z6_z10 : z6 ≠ z10 := Nat.ne_of_lt (Nat.lt_of_lt_of_le Xe2_362.lt sx2_364)
  have ne_z7_z10 : z7 ≠ z10 := Nat.ne_of_lt (Nat.lt_of_lt_of_le Xe3_362.lt sx2_364)
  have g_z11 : n0 ≤ z11 := Nat.le_trans Z362 sx3_364
  have ne_ac_350_z11 : ac_350 ≠ z11 := Nat.ne_of_lt (Nat.lt_of_lt_of_le f365.lt sx3_364)
  have ne_ap_350_z11 : ap_350 ≠ z11 := Nat.ne_of_lt (Nat.lt_of_lt_of_le Vc1_362.lt sx3_364)
  have ne_b349_z11 : b349 ≠ z11 := Nat.ne_of_lt (Nat.lt_of_lt_of_le E1_362.lt sx3_364)
  have ne_b351_z11 : b351 ≠ z11 := Nat.ne_of_lt (Nat.lt_of_lt_of_le Vg1_362.lt sx3_364)
  have ne_z0_z11 : z0 ≠ z11 := Nat.ne_of_lt (Nat.lt_of_lt_of_le f366.lt sx3_364)
  have ne_z1_z11 : z1 ≠ z11 := Nat.ne_of_lt (Nat.lt_of_lt_of_le f367.lt sx3_364)
  have ne_z2_z11 : z2 ≠ z11 := Nat.ne_of_lt (Nat.lt_of_lt_of_le f368.lt sx3_364)
  have ne_z3_z11 : z3 ≠ z11 := Nat.ne_of_lt (Nat.lt_of_lt_of_le f369.lt sx3_364)
  have ne_z4_z11 : z4 ≠ z11 := Nat.ne_of_lt (Nat.lt_of_lt_of_le Xe0_362.lt sx3_364)
  have ne_z5_z11 : z5 ≠ z11 := Nat.ne_of_lt (Nat.lt_of_lt_of_le Xe1_362.lt sx3_364)
  have ne_z6_z11 : z6 ≠ z11 := Nat.ne_of_lt (Nat.lt_of_lt_of_le Xe2_362.lt sx3_364)
  have ne_z7_z11 : z7 ≠ z11 := Nat.ne_of_lt (Nat.lt_of_lt_of_le Xe3_362.lt sx3_364)
  refine Go.step st364 ?_
  show Go _ _ _ _ _ _ _ T364 (mkF m 49 #[.val (.int ia), .val (.int ib), .val (.int ic), .val (.int id_), .val (.int sp), .val (.ref b349), .val (.ref b351), .unset, .unset, .unset, .unset, .unset] [])
  refine Go.step (fun _ k => XS.aload X364.here hx rfl (hb hby at_49) rfl rfl k) ?_
  show Go _ _ _ _ _ _ _ T364 (mkF m 51 #[.val (.int ia), .val (.int ib), .val (.int ic), .val (.int id_), .val (.int sp), .val (.ref b349), .val (.ref b351), .unset, .unset, .unset, .unset, .unset] [(.ref b349)])
  refine Go.step (fun _ k => XS.aload X364.here hx rfl (hb hby at_51) rfl rfl k) ?_
  show Go _ _ _ _ _ _ _ T364 (mkF m 53 #[.val (.int ia), .val (.int ib), .val (.int ic), .val (.int id_), .val (.int sp), .val (.ref b349), .val (.ref b351), .unset, .unset, .unset, .unset, .unset] [(.ref b351), (.ref b349)])
  refine Go.step (fun _ k => XS.bipush X364.here hx rfl (hb hby at_53) k) ?_
  show Go _ _ _ _ _ _ _ T364 (mkF m 55 #[.val (.int ia), .val (.int ib), .val (.int ic), .val (.int id_), .val (.int sp), .val (.ref b349), .val (.ref b351), .unset, .unset, .unset, .unset, .unset] [(.int (12 : Int32)), (.ref b351), (.ref b349)])
  obtain ⟨_, _, ⟨T370, L370, k370, n370⟩, -, X370, ⟨Lc370, hQ370, l370, y370, z370⟩, st370⟩ := Jvm.LawKit.callS X364 hx (y := (⟨"com/example/termvault/termvault/MarkArraysPositionsPinLaw", "four", "(Lcom/example/termvault/termvault/MarkArrays;[[JI)V"⟩ : MethodName)) hown (mvT hZ (hw _ (List.mem_of_getElem? (i := 20) rfl))) (mvT hZ (hw _ (List.mem_of_getElem? (i := 21) rfl))) (mvT hZ (hw _ (List.mem_of_getElem? (i := 22) rfl))) (mvT hZ (hw _ (List.mem_of_getElem? (i := 23) rfl))) (by decide) (backOf (W := 0) (rmFo12 l Z a0 hw [] b349 b351 ap_350 kp_350 (((((((((((((List.replicate 16 Value.null).set (0 : Int32).toNatClampNeg (.ref z0)).set (1 : Int32).toNatClampNeg (.ref z1)).set (2 : Int32).toNatClampNeg (.ref z2)).set (3 : Int32).toNatClampNeg (.ref z3)).set (4 : Int32).toNatClampNeg (.ref z4)).set (5 : Int32).toNatClampNeg (.ref z5)).set (6 : Int32).toNatClampNeg (.ref z6)).set (7 : Int32).toNatClampNeg (.ref z7)).set (8 : Int32).toNatClampNeg (.ref z8)).set (9 : Int32).toNatClampNeg (.ref z9)).set (10 : Int32).toNatClampNeg (.ref z10)).set (11 : Int32).toNatClampNeg (.ref z11)) k351 (((((((((((((List.replicate 18 .null).set 0 (.ref z0)).set 1 (.ref z1)).set 2 (.ref z2)).set 3 (.ref z3)).set 4 (.ref z4)).set 5 (.ref z5)).set 6 (.ref z6)).set 7 (.ref z7)).set 8 (.ref z8)).set 9 (.ref z9)).set 10 (.ref z10)).set 11 (.ref z11)) sp (0 : Int32) ac_350 (((((((((((([] ++ [z0]) ++ [z1]) ++ [z2]) ++ [z3]) ++ [z4]) ++ [z5]) ++ [z6]) ++ [z7]) ++ [z8]) ++ [z9]) ++ [z10]) ++ [z11]) h364 n0 Z364 E1_364 Fc1_364 Ft1_364 Fs1_364 Vc1_364 Fo1_364 Fq1_364 Vg1_364 P1_364 op_350 O351 g_b349 g_ap_350 g_b351 ne_b349_ap_350 ne_b349_b351 ne_ap_350_b351 (by simp only [List.length_set, List.length_replicate]; rfl) (by simp only [List.length_set, List.length_replicate]) ((own_n (by decide)).trans ((own_n (by decide)).trans ((own_n (by decide)).trans ((own_n (by decide)).trans ((own_n (by decide)).trans ((own_n (by decide)).trans ((own_n (by decide)).trans ((own_n (by decide)).trans ((own_n (by decide)).trans ((own_n (by decide)).trans ((own_n (by decide)).trans ((own_n (by decide)).trans own_rep)))))))))))) ((own_n (by decide)).trans ((own_n (by decide)).trans ((own_n (by decide)).trans ((own_n (by decide)).trans ((own_n (by decide)).trans ((own_n (by decide)).trans ((own_n (by decide)).trans ((own_n (by decide)).trans ((own_n (by decide)).trans ((own_n (by decide)).trans ((own_n (by decide)).trans ((own_n (by decide)).trans own_rep)))))))))))) ((own_n (by decide)).trans ((own_n (by decide)).trans ((own_n (by decide)).trans ((own_n (by decide)).trans ((own_n (by decide)).trans ((own_n (by decide)).trans ((own_n (by decide)).trans ((own_n (by decide)).trans ((own_n (by decide)).trans ((own_n (by decide)).trans ((own_n (by decide)).trans ((own_n (by decide)).trans own_rep)))))))))))) ((own_n (by decide)).trans ((own_n (by decide)).trans ((own_n (by decide)).trans ((own_n (by decide)).trans ((own_n (by decide)).trans ((own_n (by decide)).trans ((own_n (by decide)).trans ((own_n (by decide)).trans ((own_n (by decide)).trans ((own_n (by decide)).trans ((own_n (by decide)).trans ((own_n (by decide)).trans own_rep)))))))))))) hs0 hs1) hZ (hw _ (List.mem_of_getElem? (i := 23) rfl)) (hw _ (List.mem_of_getElem? (i := 22) rfl)) (by decide) (by decide)) (g := (mkF m 55 #[.val (.int ia), .val (.int ib), .val (.int ic), .val (.int id_), .val (.int sp), .val (.ref b349), .val (.ref b351), .unset, .unset, .unset, .unset, .unset] [(.int (12 : Int32)), (.ref b351), (.ref b349)])) rfl (by rw [hml]; rfl) (argsL := [(.ref b349), (.ref b351), (.int (12 : Int32))]) (rest := []) (lenOf pd__Lcom_example_termvault_termvault_MarkArrays___JI_V rfl) rfl (by show 2 * 0 + _ ≤ _; exact Nat.le_of_eq rfl) (hb hby at_55) (fun _ _ => ⟨rfl, e364, (by decide : 16 + 4 ≤ _), (by decide : 139 + 28 ≤ _)⟩)
  dsimp only [Pt.U, Pt.locs, Pt.cells, Pt.slots] at X370 l370 y370 z370 st370 hQ370
  subst l370 y370 z370
  obtain ⟨h370, e370⟩ : ∃ h, T370.heap = h := ⟨_, rfl⟩
  rw [e370] at hQ370
  have f371 : Arv Z h364 ac_350 kc_350 (.array .int) (16 : Int32) (List.replicate 16 Value.null) .null := (f365.keep Kq364 (ninS (Ne.symm ne_b349_ac_350) (ninS ne_350 (ninS ne_ac_350_b351 nin0))))
  have f372 : Exa Z h364 z0 "[J" := (f366.keep Kq364)
  have f373 : Exa Z h364 z1 "[J" := (f367.keep Kq364)
  have f374 : Exa Z h364 z2 "[J" := (f368.keep Kq364)
  have f375 : Exa Z h364 z3 "[J" := (f369.keep Kq364)
  have f376 : Exa Z h364 z4 "[J" := (Xe0_362.keep Kq364)
  have f377 : Exa Z h364 z5 "[J" := (Xe1_362.keep Kq364)
  have f378 : Exa Z h364 z6 "[J" := (Xe2_362.keep Kq364)
  have f379 : Exa Z h364 z7 "[J" := (Xe3_362.keep Kq364)
  obtain ⟨z12, z13, z14, z15, rfl, Nq370, Kq370, E1_370, Fc1_370, Ft1_370, Fs1_370, Vc1_370, Fo1_370, Fq1_370, Vg1_370, P1_370, Xe0_370, Xe1_370, Xe2_370, Xe3_370, sx0_370, sx1_370, sx2_370, sx3_370⟩ := hQ370
  have N370 := Fr.app N364 Nq370
  have Z370 : n0 ≤ h370.size := Nat.le_trans Z364 Kq370.1
  have Fo1_370 : Fld Z h370 b349 "com/example/termvault/termvault/MarkArrays" "countsTaken" "I" (.int (0 : Int32)) := Fo1_370
  have g_z12 : n0 ≤ z12 := Nat.le_trans Z364 sx0_370
  have ne_ac_350_z12 : ac_350 ≠ z12 := Nat.ne_of_lt (Nat.lt_of_lt_of_le f371.lt sx0_370)
  have ne_ap_350_z12 : ap_350 ≠ z12 := Nat.ne_of_lt (Nat.lt_of_lt_of_le Vc1_364.lt sx0_370)
  have ne_b349_z12 : b349 ≠ z12 := Nat.ne_of_lt (Nat.lt_of_lt_of_le E1_364.lt sx0_370)
  have ne_b351_z12 : b351 ≠ z12 := Nat.ne_of_lt (Nat.lt_of_lt_of_le Vg1_364.lt sx0_370)
  have ne_z0_z12 : z0 ≠ z12 := Nat.ne_of_lt (Nat.lt_of_lt_of_le f372.lt sx0_370)
  have ne_z1_z12 : z1 ≠ z12 := Nat.ne_of_lt (Nat.lt_of_lt_of_le f373.lt sx0_370)
  have ne_z10_z12 : z10 ≠ z12 := Nat.ne_of_lt (Nat.lt_of_lt_of_le Xe2_364.lt sx0_370)
  have ne_z11_z12 : z11 ≠ z12 := Nat.ne_of_lt (Nat.lt_of_lt_of_le Xe3_364.lt sx0_370)
  have ne_z2_z12 : z2 ≠ z12 := Nat.ne_of_lt (Nat.lt_of_lt_of_le f374.lt sx0_370)
  have ne_z3_z12 : z3 ≠ z12 := Nat.ne_of_lt (Nat.lt_of_lt_of_le f375.lt sx0_370)
  have ne_z4_z12 : z4 ≠ z12 := Nat.ne_of_lt (Nat.lt_of_lt_of_le f376.lt sx0_370)
  have ne_z5_z12 : z5 ≠ z12 := Nat.ne_of_lt (Nat.lt_of_lt_of_le f377.lt sx0_370)
  have ne_z6_z12 : z6 ≠ z12 := Nat.ne_of_lt (Nat.lt_of_lt_of_le f378.lt sx0_370)
  have ne_z7_z12 : z7 ≠ z12 := Nat.ne_of_lt (Nat.lt_of_lt_of_le f379.lt sx0_370)
  have ne_z8_z12 : z8 ≠ z12 := Nat.ne_of_lt (Nat.lt_of_lt_of_le Xe0_364.lt sx0_370)
  have ne_z9_z12 : z9 ≠ z12 := Nat.ne_of_lt (Nat.lt_of_lt_of_le Xe1_364.lt sx0_370)
  have g_z13 : n0 ≤ z13 := Nat.le_trans Z364 sx1_370
  have ne_ac_350_z13 : ac_350 ≠ z13 := Nat.ne_of_lt (Nat.lt_of_lt_of_le f371.lt sx1_370)
  have ne_ap_350_z13 : ap_350 ≠ z13 := Nat.ne_of_lt (Nat.lt_of_lt_of_le Vc1_364.lt sx1_370)
  have ne_b349_z13 : b349 ≠ z13 := Nat.ne_of_lt (Nat.lt_of_lt_of_le E1_364.lt sx1_370)
  have ne_b351_z13 : b351 ≠ z13 := Nat.ne_of_lt (Nat.lt_of_lt_of_le Vg1_364.lt sx1_370)
  have ne_z0_z13 : z0 ≠ z13 := Nat.ne_of_lt (Nat.lt_of_lt_of_le f372.lt sx1_370)
  have ne_z1_z13 : z1 ≠ z13 := Nat.ne_of_lt (Nat.lt_of_lt_of_le f373.lt sx1_370)
  have ne_z10_z13 : z10 ≠ z13 := Nat.ne_of_lt (Nat.lt_of_lt_of_le Xe2_364.lt sx1_370)
  have ne_z11_z13 : z11 ≠ z13 := Nat.ne_of_lt (Nat.lt_of_lt_of_le Xe3_364.lt sx1_370)
  have ne_z2_z13 : z2 ≠ z13 := Nat.ne_of_lt (Nat.lt_of_lt_of_le f374.lt sx1_370)
  have ne_z3_z13 : z3 ≠ z13 := Nat.ne_of_lt (Nat.lt_of_lt_of_le f375.lt sx1_370)
  have ne_z4_z13 : z4 ≠ z13 := Nat.ne_of_lt (Nat.lt_of_lt_of_le f376.lt sx1_370)
  have ne_z5_z13 : z5 ≠ z13 := Nat.ne_of_lt (Nat.lt_of_lt_of_le f377.lt sx1_370)
  have ne_z6_z13 : z6 ≠ z13 := Nat.ne_of_lt (Nat.lt_of_lt_of_le f378.lt sx1_370)
  have ne_z7_z13 : z7 ≠ z13 := Nat.ne_of_lt (Nat.lt_of_lt_of_le f379.lt sx1_370)
  have ne_z8_z13 : z8 ≠ z13 := Nat.ne_of_lt (Nat.lt_of_lt_of_le Xe0_364.lt sx1_370)
  have ne_z9_z13 : z9 ≠ z13 := Nat.ne_of_lt (Nat.lt_of_lt_of_le Xe1_364.lt sx1_370)
  have g_z14 : n0 ≤ z14 := Nat.le_trans Z364 sx2_370
  have ne_ac_350_z14 : ac_350 ≠ z14 := Nat.ne_of_lt (Nat.lt_of_lt_of_le f371.lt sx2_370)
  have ne_ap_350_z14 : ap_350 ≠ z14 := Nat.ne_of_lt (Nat.lt_of_lt_of_le Vc1_364.lt sx2_370)
  have ne_b349_z14 : b349 ≠ z14 := Nat.ne_of_lt (Nat.lt_of_lt_of_le E1_364.lt sx2_370)
  have ne_b351_z14 : b351 ≠ z14 := Nat.ne_of_lt (Nat.lt_of_lt_of_le Vg1_364.lt sx2_370)
  have ne_z0_z14 : z0 ≠ z14 := Nat.ne_of_lt (Nat.lt_of_lt_of_le f372.lt sx2_370)
  have ne_z1_z14 : z1 ≠ z14 := Nat.ne_of_lt (Nat.lt_of_lt_of_le f373.lt sx2_370)
  have ne_z10_z14 : z10 ≠ z14 := Nat.ne_of_lt (Nat.lt_of_lt_of_le Xe2_364.lt sx2_370)
  have ne_z11_z14 : z11 ≠ z14 := Nat.ne_of_lt (Nat.lt_of_lt_of_le Xe3_364.lt sx2_370)
  have ne_z2_z14 : z2 ≠ z14 := Nat.ne_of_lt (Nat.lt_of_lt_of_le f374.lt sx2_370)
  have ne_z3_z14 : z3 ≠ z14 := Nat.ne_of_lt (Nat.lt_of_lt_of_le f375.lt sx2_370)
  have ne_z4_z14 : z4 ≠ z14 := Nat.ne_of_lt (Nat.lt_of_lt_of_le f376.lt sx2_370)
  have ne_z5_z14 : z5 ≠ z14 := Nat.ne_of_lt (Nat.lt_of_lt_of_le f377.lt sx2_370)
  have ne_z6_z14 : z6 ≠ z14 := Nat.ne_of_lt (Nat.lt_of_lt_of_le f378.lt sx2_370)
  have ne_z7_z14 : z7 ≠ z14 := Nat.ne_of_lt (Nat.lt_of_lt_of_le f379.lt sx2_370)
  have ne_z8_z14 : z8 ≠ z14 := Nat.ne_of_lt (Nat.lt_of_lt_of_le Xe0_364.lt sx2_370)
  have ne_z9_z14 : z9 ≠ z14 := Nat.ne_of_lt (Nat.lt_of_lt_of_le Xe1_364.lt sx2_370)
  have g_z15 : n0 ≤ z15 := Nat.le_trans Z364 sx3_370
  have ne_ac_350_z15 : ac_350 ≠ z15 := Nat.ne_of_lt (Nat.lt_of_lt_of_le f371.lt sx3_370)
  have ne_ap_350_z15 : ap_350 ≠ z15 := Nat.ne_of_lt (Nat.lt_of_lt_of_le Vc1_364.lt sx3_370)
  have ne_b349_z15 : b349 ≠ z15 := Nat.ne_of_lt (Nat.lt_of_lt_of_le E1_364.lt sx3_370)
  have ne_b351_z15 : b351 ≠ z15 := Nat.ne_of_lt (Nat.lt_of_lt_of_le Vg1_364.lt sx3_370)
  have ne_z0_z15 : z0 ≠ z15 := Nat.ne_of_lt (Nat.lt_of_lt_of_le f372.lt sx3_370)
  have ne_z1_z15 : z1 ≠ z15 := Nat.ne_of_lt (Nat.lt_of_lt_of_le f373.lt sx3_370)
  have ne_z10_z15 : z10 ≠ z15 := Nat.ne_of_lt (Nat.lt_of_lt_of_le Xe2_364.lt sx3_370)
  have ne_z11_z15 : z11 ≠ z15 := Nat.ne_of_lt (Nat.lt_of_lt_of_le Xe3_364.lt sx3_370)
  have ne_z2_z15 : z2 ≠ z15 := Nat.ne_of_lt (Nat.lt_of_lt_of_le f374.lt sx3_370)
  have ne_z3_z15 : z3 ≠ z15 := Nat.ne_of_lt (Nat.lt_of_lt_of_le f375.lt sx3_370)
  have ne_z4_z15 : z4 ≠ z15 := Nat.ne_of_lt (Nat.lt_of_lt_of_le f376.lt sx3_370)
  have ne_z5_z15 : z5 ≠ z15 := Nat.ne_of_lt (Nat.lt_of_lt_of_le f377.lt sx3_370)
  have ne_z6_z15 : z6 ≠ z15 := Nat.ne_of_lt (Nat.lt_of_lt_of_le f378.lt sx3_370)
  have ne_z7_z15 : z7 ≠ z15 := Nat.ne_of_lt (Nat.lt_of_lt_of_le f379.lt sx3_370)
  have ne_z8_z15 : z8 ≠ z15 := Nat.ne_of_lt (Nat.lt_of_lt_of_le Xe0_364.lt sx3_370)
  have ne_z9_z15 : z9 ≠ z15 := Nat.ne_of_lt (Nat.lt_of_lt_of_le Xe1_364.lt sx3_370)
  refine Go.step st370 ?_
  show Go _ _ _ _ _ _ _ T370 (mkF m 58 #[.val (.int ia), .val (.int ib), .val (.int ic), .val (.int id_), .val (.int sp), .val (.ref b349), .val (.ref b351), .unset, .unset, .unset, .unset, .unset] [])
  refine Go.step (fun _ k => XS.aload X370.here hx rfl (hb hby at_58) rfl rfl k) ?_
  show Go _ _ _ _ _ _ _ T370 (mkF m 60 #[.val (.int ia), .val (.int ib), .val (.int ic), .val (.int id_), .val (.int sp), .val (.ref b349), .val (.ref b351), .unset, .unset, .unset, .unset, .unset] [(.ref b351)])
  refine Go.step (fun _ k => XS.bipush X370.here hx rfl (hb hby at_60) k) ?_
  show Go _ _ _ _ _ _ _ T370 (mkF m 62 #[.val (.int ia), .val (.int ib), .val (.int ic), .val (.int id_), .val (.int sp), .val (.ref b349), .val (.ref b351), .unset, .unset, .unset, .unset, .unset] [(.int (16 : Int32)), (.ref b351)])
  refine Go.step (fun _ k => XS.aload X370.here hx rfl (hb hby at_62) rfl rfl k) ?_
  show Go _ _ _ _ _ _ _ T370 (mkF m 64 #[.val (.int ia), .val (.int ib), .val (.int ic), .val (.int id_), .val (.int sp), .val (.ref b349), .val (.ref b351), .unset, .unset, .unset, .unset, .unset] [(.ref b349), (.int (16 : Int32)), (.ref b351)])
  obtain ⟨cq380, kq380, q380a, q380b, q380c⟩ := isOf hZ e370 E1_370
  obtain ⟨_, _, ⟨T380, L380, k380, n380⟩, -, X380, ⟨Lc380, hQ380, l380, y380, z380⟩, st380⟩ := X370.virtualBack hx (y := (⟨"com/example/termvault/termvault/MarkArrays", "positions", "()[J"⟩ : MethodName)) (z := (⟨"com/example/termvault/termvault/MarkArrays", "positions", "()[J"⟩ : MethodName)) hown (mvT hZ (hw _ (List.mem_of_getElem? (i := 24) rfl))) (mvT hZ (hw _ (List.mem_of_getElem? (i := 25) rfl))) (notFace_of_selects (args := #[]) (mvT hZ (hw _ (List.mem_of_getElem? (i := 27) rfl)))) (mvT hZ (hw _ (List.mem_of_getElem? (i := 27) rfl))) (mvT hZ (hw _ (List.mem_of_getElem? (i := 26) rfl))) (by decide) (backOf (W := 2) (rmPf l Z a0 hw [] b349 sp h370 n0 Z370 E1_370 Ft1_370 Fs1_370 hs0 hs1) hZ (hw _ (List.mem_of_getElem? (i := 28) rfl)) (hw _ (List.mem_of_getElem? (i := 2) rfl)) (by decide) (by decide)) q380a q380c (g := (mkF m 64 #[.val (.int ia), .val (.int ib), .val (.int ic), .val (.int id_), .val (.int sp), .val (.ref b349), .val (.ref b351), .unset, .unset, .unset, .unset, .unset] [(.ref b349), (.int (16 : Int32)), (.ref b351)])) rfl (by rw [hml]; rfl) (Steps.refl _) (argsL := []) (rest := [(.int (16 : Int32)), (.ref b351)]) (lenOf pd____J rfl) rfl (by show 2 * 0 + _ ≤ _; exact Nat.le_of_eq rfl) (hb hby at_64) (fun _ _ => ⟨rfl, e370, (by decide : 20 + 1 ≤ _), (by decide : 167 + 7 ≤ _)⟩)
  dsimp only [Pt.U, Pt.locs, Pt.cells, Pt.slots] at X380 l380 y380 z380 st380 hQ380
  subst l380 y380 z380
  obtain ⟨h380, e380⟩ : ∃ h, T380.heap = h := ⟨_, rfl⟩
  rw [e380] at hQ380
  have f381 : Arv Z h370 ac_350 kc_350 (.array .int) (16 : Int32) (List.replicate 16 Value.null) .null := (f371.keep Kq370 (ninS (Ne.symm ne_b349_ac_350) (ninS ne_350 (ninS ne_ac_350_b351 nin0))))
  have f382 : Exa Z h370 z0 "[J" := (f372.keep Kq370)
  have f383 : Exa Z h370 z1 "[J" := (f373.keep Kq370)
  have f384 : Exa Z h370 z10 "[J" := (Xe2_364.keep Kq370)
  have f385 : Exa Z h370 z11 "[J" := (Xe3_364.keep Kq370)
  have f386 : Exa Z h370 z2 "[J" := (f374.keep Kq370)
  have f387 : Exa Z h370 z3 "[J" := (f375.keep Kq370)
  have f388 : Exa Z h370 z4 "[J" := (f376.keep Kq370)
  have f389 : Exa Z h370 z5 "[J" := (f377.keep Kq370)
  have f390 : Exa Z h370 z6 "[J" := (f378.keep Kq370)
  have f391 : Exa Z h370 z7 "[J" := (f379.keep Kq370)
  have f392 : Exa Z h370 z8 "[J" := (Xe0_364.keep Kq370)
  have f393 : Exa Z h370 z9 "[J" := (Xe1_364.keep Kq370)
  obtain ⟨ar_380, kr_380, rfl, Nq380, Kq380, sa_380, Vr_380, Er_380⟩ := hQ380
  have N380 := Fr.app N370 Nq380
  have Z380 : n0 ≤ h380.size := Nat.le_trans Z370 Kq380.1
  have g_ar_380 : n0 ≤ ar_380 := Nat.le_trans Z370 sa_380
  have ne_ac_350_ar_380 : ac_350 ≠ ar_380 := Nat.ne_of_lt (Nat.lt_of_lt_of_le f381.lt sa_380)
  have ne_ap_350_ar_380 : ap_350 ≠ ar_380 := Nat.ne_of_lt (Nat.lt_of_lt_of_le Vc1_370.lt sa_380)
  have ne_b349_ar_380 : b349 ≠ ar_380 := Nat.ne_of_lt (Nat.lt_of_lt_of_le E1_370.lt sa_380)
  have ne_b351_ar_380 : b351 ≠ ar_380 := Nat.ne_of_lt (Nat.lt_of_lt_of_le Vg1_370.lt sa_380)
  have ne_z0_ar_380 : z0 ≠ ar_380 := Nat.ne_of_lt (Nat.lt_of_lt_of_le f382.lt sa_380)
  have ne_z1_ar_380 : z1 ≠ ar_380 := Nat.ne_of_lt (Nat.lt_of_lt_of_le f383.lt sa_380)
  have ne_z10_ar_380 : z10 ≠ ar_380 := Nat.ne_of_lt (Nat.lt_of_lt_of_le f384.lt sa_380)
  have ne_z11_ar_380 : z11 ≠ ar_380 := Nat.ne_of_lt (Nat.lt_of_lt_of_le f385.lt sa_380)
  have ne_z12_ar_380 : z12 ≠ ar_380 := Nat.ne_of_lt (Nat.lt_of_lt_of_le Xe0_370.lt sa_380)
  have ne_z13_ar_380 : z13 ≠ ar_380 := Nat.ne_of_lt (Nat.lt_of_lt_of_le Xe1_370.lt sa_380)
  have ne_z14_ar_380 : z14 ≠ ar_380 := Nat.ne_of_lt (Nat.lt_of_lt_of_le Xe2_370.lt sa_380)
  have ne_z15_ar_380 : z15 ≠ ar_380 := Nat.ne_of_lt (Nat.lt_of_lt_of_le Xe3_370.lt sa_380)
  have ne_z2_ar_380 : z2 ≠ ar_380 := Nat.ne_of_lt (Nat.lt_of_lt_of_le f386.lt sa_380)
  have ne_z3_ar_380 : z3 ≠ ar_380 := Nat.ne_of_lt (Nat.lt_of_lt_of_le f387.lt sa_380)
  have ne_z4_ar_380 : z4 ≠ ar_380 := Nat.ne_of_lt (Nat.lt_of_lt_of_le f388.lt sa_380)
  have ne_z5_ar_380 : z5 ≠ ar_380 := Nat.ne_of_lt (Nat.lt_of_lt_of_le f389.lt sa_380)
  have ne_z6_ar_380 : z6 ≠ ar_380 := Nat.ne_of_lt (Nat.lt_of_lt_of_le f390.lt sa_380)
  have ne_z7_ar_380 : z7 ≠ ar_380 := Nat.ne_of_lt (Nat.lt_of_lt_of_le f391.lt sa_380)
  have ne_z8_ar_380 : z8 ≠ ar_380 := Nat.ne_of_lt (Nat.lt_of_lt_of_le f392.lt sa_380)
  have ne_z9_ar_380 : z9 ≠ ar_380 := Nat.ne_of_lt (Nat.lt_of_lt_of_le f393.lt sa_380)
  refine Go.trans st380 ?_
  have f394 : own_Pos Z h380 [b349, ap_350, b351] (((((((((((((((([] ++ [z0]) ++ [z1]) ++ [z2]) ++ [z3]) ++ [z4]) ++ [z5]) ++ [z6]) ++ [z7]) ++ [z8]) ++ [z9]) ++ [z10]) ++ [z11]) ++ [z12]) ++ [z13]) ++ [z14]) ++ [z15]) sp := (P1_370.keep Kq380 all0)
  have Ps380 : own_Pos Z h380 [b349, ap_350, b351] ((((((((((((((((([] ++ [z0]) ++ [z1]) ++ [z2]) ++ [z3]) ++ [z4]) ++ [z5]) ++ [z6]) ++ [z7]) ++ [z8]) ++ [z9]) ++ [z10]) ++ [z11]) ++ [z12]) ++ [z13]) ++ [z14]) ++ [z15]) ++ [ar_380]) sp := f394.snoc (fun y hy => Nat.ne_of_lt (Nat.lt_of_lt_of_le (P1_370.lt y hy) sa_380)) (ninS (Ne.symm ne_b349_ar_380) (ninS (Ne.symm ne_ap_350_ar_380) (ninS (Ne.symm ne_b351_ar_380) nin0))) Er_380 Vr_380
  show Go _ _ _ _ _ _ _ T380 (mkF m 67 #[.val (.int ia), .val (.int ib), .val (.int ic), .val (.int id_), .val (.int sp), .val (.ref b349), .val (.ref b351), .unset, .unset, .unset, .unset, .unset] [(.ref ar_380), (.int (16 : Int32)), (.ref b351)])
  have f395 : Arv Z h380 b351 k351 (.array .long) (18 : Int32) (((((((((((((((((List.replicate 18 .null).set 0 (.ref z0)).set 1 (.ref z1)).set 2 (.ref z2)).set 3 (.ref z3)).set 4 (.ref z4)).set 5 (.ref z5)).set 6 (.ref z6)).set 7 (.ref z7)).set 8 (.ref z8)).set 9 (.ref z9)).set 10 (.ref z10)).set 11 (.ref z11)).set 12 (.ref z12)).set 13 (.ref z13)).set 14 (.ref z14)).set 15 (.ref z15)) .null := (Vg1_370.keep Kq380 nin0)
  obtain ⟨cl396, Ar396, q396, S396, M396, H396, G396⟩ := id (f395)
  have hin396 : ¬ ((16 : Int32) < 0 ∨ cl396.slots.size ≤ ((16 : Int32)).toNatClampNeg) := inb_of S396 ⟨by decide, by decide⟩
  obtain ⟨T396, h396, X396, e396, W396, st396⟩ := stR X380 hx hZ e380 Ar396 (j := (16 : Int32)) hin396 rfl (Sto.ofVA Ar396 q396 O351 (Ins.self Er_380)) (g := (mkF m 67 #[.val (.int ia), .val (.int ib), .val (.int ic), .val (.int id_), .val (.int sp), .val (.ref b349), .val (.ref b351), .unset, .unset, .unset, .unset, .unset] [(.ref ar_380), (.int (16 : Int32)), (.ref b351)])) rfl rfl (hb hby at_67)
  refine Go.step st396 ?_
  have V396 : Arv Z h396 b351 k351 (.array .long) (18 : Int32) ((((((((((((((((((List.replicate 18 .null).set 0 (.ref z0)).set 1 (.ref z1)).set 2 (.ref z2)).set 3 (.ref z3)).set 4 (.ref z4)).set 5 (.ref z5)).set 6 (.ref z6)).set 7 (.ref z7)).set 8 (.ref z8)).set 9 (.ref z9)).set 10 (.ref z10)).set 11 (.ref z11)).set 12 (.ref z12)).set 13 (.ref z13)).set 14 (.ref z14)).set 15 (.ref z15)).set 16 (.ref ar_380)) .null := Arv.set Ar396 q396 S396 M396 H396 G396 rfl W396 16 rfl (by simp [List.length_set])
  have N396 := Fr.snoc X396 N380 g_b351
  have Z396 : n0 ≤ h396.size := Nat.le_trans Z380 (Keep.of_wr W396).1
  show Go _ _ _ _ _ _ _ T396 (mkF m 68 #[.val (.int ia), .val (.int ib), .val (.int ic), .val (.int id_), .val (.int sp), .val (.ref b349), .val (.ref b351), .unset, .unset, .unset, .unset, .unset] [])
  refine Go.step (fun _ k => XS.aload X396.here hx rfl (hb hby at_68) rfl rfl k) ?_
  show Go _ _ _ _ _ _ _ T396 (mkF m 70 #[.val (.int ia), .val (.int ib), .val (.int ic), .val (.int id_), .val (.int sp), .val (.ref b349), .val (.ref b351), .unset, .unset, .unset, .unset, .unset] [(.ref b351)])
  refine Go.step (fun _ k => XS.bipush X396.here hx rfl (hb hby at_70) k) ?_
  show Go _ _ _ _ _ _ _ T396 (mkF m 72 #[.val (.int ia), .val (.int ib), .val (.int ic), .val (.int id_), .val (.int sp), .val (.ref b349), .val (.ref b351), .unset, .unset, .unset, .unset, .unset] [(.int (17 : Int32)), (.ref b351)])
  refine Go.step (fun _ k => XS.aload X396.here hx rfl (hb hby at_72) rfl rfl k) ?_
  show Go _ _ _ _ _ _ _ T396 (mkF m 74 #[.val (.int ia), .val (.int ib), .val (.int ic), .val (.int id_), .val (.int sp), .val (.ref b349), .val (.ref b351), .unset, .unset, .unset, .unset, .unset] [(.ref b349), (.int (17 : Int32)), (.ref b351)])
  have f397 : own_Pos Z h396 [b349, ap_350, b351] ((((((((((((((((([] ++ [z0]) ++ [z1]) ++ [z2]) ++ [z3]) ++ [z4]) ++ [z5]) ++ [z6]) ++ [z7]) ++ [z8]) ++ [z9]) ++ [z10]) ++ [z11]) ++ [z12]) ++ [z13]) ++ [z14]) ++ [z15]) ++ [ar_380]) sp := (Ps380.keep (Keep.of_wr W396) (allS (List.mem_of_getElem? (i := 2) rfl) all0))
  have f399 : Exa Z h396 b349 "com/example/termvault/termvault/MarkArrays" := ((E1_370.keep Kq380).wr W396)
  have f400 : Fld Z h396 b349 "com/example/termvault/termvault/MarkArrays" "positionsTaken" "I" (.int (16 : Int32)) := ((Ft1_370.keep Kq380 nin0).other W396 (Or.inl ne_b349_b351))
  have f401 : Fld Z h396 b349 "com/example/termvault/termvault/MarkArrays" "span" "I" (.int sp) := ((Fs1_370.keep Kq380 nin0).other W396 (Or.inl ne_b349_b351))
  obtain ⟨cq398, kq398, q398a, q398b, q398c⟩ := isOf hZ e396 f399
  obtain ⟨_, _, ⟨T398, L398, k398, n398⟩, -, X398, ⟨Lc398, hQ398, l398, y398, z398⟩, st398⟩ := X396.virtualBack hx (y := (⟨"com/example/termvault/termvault/MarkArrays", "positions", "()[J"⟩ : MethodName)) (z := (⟨"com/example/termvault/termvault/MarkArrays", "positions", "()[J"⟩ : MethodName)) hown (mvT hZ (hw _ (List.mem_of_getElem? (i := 24) rfl))) (mvT hZ (hw _ (List.mem_of_getElem? (i := 25) rfl))) (notFace_of_selects (args := #[]) (mvT hZ (hw _ (List.mem_of_getElem? (i := 27) rfl)))) (mvT hZ (hw _ (List.mem_of_getElem? (i := 27) rfl))) (mvT hZ (hw _ (List.mem_of_getElem? (i := 26) rfl))) (by decide) (backOf (W := 2) (rmPf l Z a0 hw [] b349 sp h396 n0 Z396 f399 f400 f401 hs0 hs1) hZ (hw _ (List.mem_of_getElem? (i := 28) rfl)) (hw _ (List.mem_of_getElem? (i := 2) rfl)) (by decide) (by decide)) q398a q398c (g := (mkF m 74 #[.val (.int ia), .val (.int ib), .val (.int ic), .val (.int id_), .val (.int sp), .val (.ref b349), .val (.ref b351), .unset, .unset, .unset, .unset, .unset] [(.ref b349), (.int (17 : Int32)), (.ref b351)])) rfl (by rw [hml]; rfl) (Steps.refl _) (argsL := []) (rest := [(.int (17 : Int32)), (.ref b351)]) (lenOf pd____J rfl) rfl (by show 2 * 0 + _ ≤ _; exact Nat.le_of_eq rfl) (hb hby at_74) (fun _ _ => ⟨rfl, e396, (by decide : 21 + 1 ≤ _), (by decide : 174 + 7 ≤ _)⟩)
  dsimp only [Pt.U, Pt.locs, Pt.cells, Pt.slots] at X398 l398 y398 z398 st398 hQ398
  subst l398 y398 z398
  obtain ⟨h398, e398⟩ : ∃ h, T398.heap = h := ⟨_, rfl⟩
  rw [e398] at hQ398
  have f402 : Arv Z h396 ac_350 kc_350 (.array .int) (16 : Int32) (List.replicate 16 Value.null) .null := ((f381.keep Kq380 nin0).other W396 ne_ac_350_b351)
  have f403 : Arv Z h396 ap_350 kp_350 (.array .long) (16 : Int32) (((((((((((((((((List.replicate 16 Value.null).set (0 : Int32).toNatClampNeg (.ref z0)).set (1 : Int32).toNatClampNeg (.ref z1)).set (2 : Int32).toNatClampNeg (.ref z2)).set (3 : Int32).toNatClampNeg (.ref z3)).set (4 : Int32).toNatClampNeg (.ref z4)).set (5 : Int32).toNatClampNeg (.ref z5)).set (6 : Int32).toNatClampNeg (.ref z6)).set (7 : Int32).toNatClampNeg (.ref z7)).set (8 : Int32).toNatClampNeg (.ref z8)).set (9 : Int32).toNatClampNeg (.ref z9)).set (10 : Int32).toNatClampNeg (.ref z10)).set (11 : Int32).toNatClampNeg (.ref z11)).set (12 : Int32).toNatClampNeg (.ref z12)).set (13 : Int32).toNatClampNeg (.ref z13)).set (14 : Int32).toNatClampNeg (.ref z14)).set (15 : Int32).toNatClampNeg (.ref z15)) .null := ((Vc1_370.keep Kq380 nin0).other W396 ne_ap_350_b351)
  have f404 : Exa Z h396 ar_380 "[J" := (Er_380.wr W396)
  have f405 : Exa Z h396 z0 "[J" := ((f382.keep Kq380).wr W396)
  have f406 : Exa Z h396 z1 "[J" := ((f383.keep Kq380).wr W396)
  have f407 : Exa Z h396 z10 "[J" := ((f384.keep Kq380).wr W396)
  have f408 : Exa Z h396 z11 "[J" := ((f385.keep Kq380).wr W396)
  have f409 : Exa Z h396 z12 "[J" := ((Xe0_370.keep Kq380).wr W396)
  have f410 : Exa Z h396 z13 "[J" := ((Xe1_370.keep Kq380).wr W396)
  have f411 : Exa Z h396 z14 "[J" := ((Xe2_370.keep Kq380).wr W396)
  have f412 : Exa Z h396 z15 "[J" := ((Xe3_370.keep Kq380).wr W396)
  have f413 : Exa Z h396 z2 "[J" := ((f386.keep Kq380).wr W396)
  have f414 : Exa Z h396 z3 "[J" := ((f387.keep Kq380).wr W396)
  have f415 : Exa Z h396 z4 "[J" := ((f388.keep Kq380).wr W396)
  have f416 : Exa Z h396 z5 "[J" := ((f389.keep Kq380).wr W396)
  have f417 : Exa Z h396 z6 "[J" := ((f390.keep Kq380).wr W396)
  have f418 : Exa Z h396 z7 "[J" := ((f391.keep Kq380).wr W396)
  have f419 : Exa Z h396 z8 "[J" := ((f392.keep Kq380).wr W396)
  have f420 : Exa Z h396 z9 "[J" := ((f393.keep Kq380).wr W396)
  obtain ⟨ar_398, kr_398, rfl, Nq398, Kq398, sa_398, Vr_398, Er_398⟩ := hQ398
  have N398 := Fr.app N396 Nq398
  have Z398 : n0 ≤ h398.size := Nat.le_trans Z396 Kq398.1
  have g_ar_398 : n0 ≤ ar_398 := Nat.le_trans Z396 sa_398
  have ne_ac_350_ar_398 : ac_350 ≠ ar_398 := Nat.ne_of_lt (Nat.lt_of_lt_of_le f402.lt sa_398)
  have ne_ap_350_ar_398 : ap_350 ≠ ar_398 := Nat.ne_of_lt (Nat.lt_of_lt_of_le f403.lt sa_398)
  have ne_ar_380_ar_398 : ar_380 ≠ ar_398 := Nat.ne_of_lt (Nat.lt_of_lt_of_le f404.lt sa_398)
  have ne_b349_ar_398 : b349 ≠ ar_398 := Nat.ne_of_lt (Nat.lt_of_lt_of_le f399.lt sa_398)
  have ne_b351_ar_398 : b351 ≠ ar_398 := Nat.ne_of_lt (Nat.lt_of_lt_of_le V396.lt sa_398)
  have ne_z0_ar_398 : z0 ≠ ar_398 := Nat.ne_of_lt (Nat.lt_of_lt_of_le f405.lt sa_398)
  have ne_z1_ar_398 : z1 ≠ ar_398 := Nat.ne_of_lt (Nat.lt_of_lt_of_le f406.lt sa_398)
  have ne_z10_ar_398 : z10 ≠ ar_398 := Nat.ne_of_lt (Nat.lt_of_lt_of_le f407.lt sa_398)
  have ne_z11_ar_398 : z11 ≠ ar_398 := Nat.ne_of_lt (Nat.lt_of_lt_of_le f408.lt sa_398)
  have ne_z12_ar_398 : z12 ≠ ar_398 := Nat.ne_of_lt (Nat.lt_of_lt_of_le f409.lt sa_398)
  have ne_z13_ar_398 : z13 ≠ ar_398 := Nat.ne_of_lt (Nat.lt_of_lt_of_le f410.lt sa_398)
  have ne_z14_ar_398 : z14 ≠ ar_398 := Nat.ne_of_lt (Nat.lt_of_lt_of_le f411.lt sa_398)
  have ne_z15_ar_398 : z15 ≠ ar_398 := Nat.ne_of_lt (Nat.lt_of_lt_of_le f412.lt sa_398)
  have ne_z2_ar_398 : z2 ≠ ar_398 := Nat.ne_of_lt (Nat.lt_of_lt_of_le f413.lt sa_398)
  have ne_z3_ar_398 : z3 ≠ ar_398 := Nat.ne_of_lt (Nat.lt_of_lt_of_le f414.lt sa_398)
  have ne_z4_ar_398 : z4 ≠ ar_398 := Nat.ne_of_lt (Nat.lt_of_lt_of_le f415.lt sa_398)
  have ne_z5_ar_398 : z5 ≠ ar_398 := Nat.ne_of_lt (Nat.lt_of_lt_of_le f416.lt sa_398)
  have ne_z6_ar_398 : z6 ≠ ar_398 := Nat.ne_of_lt (Nat.lt_of_lt_of_le f417.lt sa_398)
  have ne_z7_ar_398 : z7 ≠ ar_398 := Nat.ne_of_lt (Nat.lt_of_lt_of_le f418.lt sa_398)
  have ne_z8_ar_398 : z8 ≠ ar_398 := Nat.ne_of_lt (Nat.lt_of_lt_of_le f419.lt sa_398)
  have ne_z9_ar_398 : z9 ≠ ar_398 := Nat.ne_of_lt (Nat.lt_of_lt_of_le f420.lt sa_398)
  refine Go.trans st398 ?_
  have f421 : own_Pos Z h398 [b349, ap_350, b351] ((((((((((((((((([] ++ [z0]) ++ [z1]) ++ [z2]) ++ [z3]) ++ [z4]) ++ [z5]) ++ [z6]) ++ [z7]) ++ [z8]) ++ [z9]) ++ [z10]) ++ [z11]) ++ [z12]) ++ [z13]) ++ [z14]) ++ [z15]) ++ [ar_380]) sp := (f397.keep Kq398 all0)
  have Ps398 : own_Pos Z h398 [b349, ap_350, b351] (((((((((((((((((([] ++ [z0]) ++ [z1]) ++ [z2]) ++ [z3]) ++ [z4]) ++ [z5]) ++ [z6]) ++ [z7]) ++ [z8]) ++ [z9]) ++ [z10]) ++ [z11]) ++ [z12]) ++ [z13]) ++ [z14]) ++ [z15]) ++ [ar_380]) ++ [ar_398]) sp := f421.snoc (fun y hy => Nat.ne_of_lt (Nat.lt_of_lt_of_le (f397.lt y hy) sa_398)) (ninS (Ne.symm ne_b349_ar_398) (ninS (Ne.symm ne_ap_350_ar_398) (ninS (Ne.symm ne_b351_ar_398) nin0))) Er_398 Vr_398
  show Go _ _ _ _ _ _ _ T398 (mkF m 77 #[.val (.int ia), .val (.int ib), .val (.int ic), .val (.int id_), .val (.int sp), .val (.ref b349), .val (.ref b351), .unset, .unset, .unset, .unset, .unset] [(.ref ar_398), (.int (17 : Int32)), (.ref b351)])
  have f422 : Arv Z h398 b351 k351 (.array .long) (18 : Int32) ((((((((((((((((((List.replicate 18 .null).set 0 (.ref z0)).set 1 (.ref z1)).set 2 (.ref z2)).set 3 (.ref z3)).set 4 (.ref z4)).set 5 (.ref z5)).set 6 (.ref z6)).set 7 (.ref z7)).set 8 (.ref z8)).set 9 (.ref z9)).set 10 (.ref z10)).set 11 (.ref z11)).set 12 (.ref z12)).set 13 (.ref z13)).set 14 (.ref z14)).set 15 (.ref z15)).set 16 (.ref ar_380)) .null := (V396.keep Kq398 nin0)
  obtain ⟨cl423, Ar423, q423, S423, M423, H423, G423⟩ := id (f422)
  have hin423 : ¬ ((17 : Int32) < 0 ∨ cl423.slots.size ≤ ((17 : Int32)).toNatClampNeg) := inb_of S423 ⟨by decide, by decide⟩
  obtain ⟨T423, h423, X423, e423, W423, st423⟩ := stR X398 hx hZ e398 Ar423 (j := (17 : Int32)) hin423 rfl (Sto.ofVA Ar423 q423 O351 (Ins.self Er_398)) (g := (mkF m 77 #[.val (.int ia), .val (.int ib), .val (.int ic), .val (.int id_), .val (.int sp), .val (.ref b349), .val (.ref b351), .unset, .unset, .unset, .unset, .unset] [(.ref ar_398), (.int (17 : Int32)), (.ref b351)])) rfl rfl (hb hby at_77)
  refine Go.step st423 ?_
  have V423 : Arv Z h423 b351 k351 (.array .long) (18 : Int32) (((((((((((((((((((List.replicate 18 .null).set 0 (.ref z0)).set 1 (.ref z1)).set 2 (.ref z2)).set 3 (.ref z3)).set 4 (.ref z4)).set 5 (.ref z5)).set 6 (.ref z6)).set 7 (.ref z7)).set 8 (.ref z8)).set 9 (.ref z9)).set 10 (.ref z10)).set 11 (.ref z11)).set 12 (.ref z12)).set 13 (.ref z13)).set 14 (.ref z14)).set 15 (.ref z15)).set 16 (.ref ar_380)).set 17 (.ref ar_398)) .null := Arv.set Ar423 q423 S423 M423 H423 G423 rfl W423 17 rfl (by simp [List.length_set])
  have N423 := Fr.snoc X423 N398 g_b351
  have Z423 : n0 ≤ h423.size := Nat.le_trans Z398 (Keep.of_wr W423).1
  show Go _ _ _ _ _ _ _ T423 (mkF m 78 #[.val (.int ia), .val (.int ib), .val (.int ic), .val (.int id_), .val (.int sp), .val (.ref b349), .val (.ref b351), .unset, .unset, .unset, .unset, .unset] [])
  refine Go.step (fun _ k => XS.iloadN X423.here hx rfl (hb hby at_78) rfl k) ?_
  show Go _ _ _ _ _ _ _ T423 (mkF m 79 #[.val (.int ia), .val (.int ib), .val (.int ic), .val (.int id_), .val (.int sp), .val (.ref b349), .val (.ref b351), .unset, .unset, .unset, .unset, .unset] [(.int ib)])
  refine Go.step (X423.ldcInt hx hown (mvT hZ (hw _ (List.mem_of_getElem? (i := 33) rfl))) (g := (mkF m 79 #[.val (.int ia), .val (.int ib), .val (.int ic), .val (.int id_), .val (.int sp), .val (.ref b349), .val (.ref b351), .unset, .unset, .unset, .unset, .unset] [(.int ib)])) rfl (hb hby at_79)) ?_
  show Go _ _ _ _ _ _ _ T423 (mkF m 81 #[.val (.int ia), .val (.int ib), .val (.int ic), .val (.int id_), .val (.int sp), .val (.ref b349), .val (.ref b351), .unset, .unset, .unset, .unset, .unset] [(.int (2147483647 : Int32)), (.int ib)])
  refine Go.step (fun _ k => XS.iand X423.here hx rfl (hb hby at_81) rfl k) ?_
  show Go _ _ _ _ _ _ _ T423 (mkF m 82 #[.val (.int ia), .val (.int ib), .val (.int ic), .val (.int id_), .val (.int sp), .val (.ref b349), .val (.ref b351), .unset, .unset, .unset, .unset, .unset] [(.int (ib &&& (2147483647 : Int32)))])
  refine Go.step (fun _ k => XS.bipush X423.here hx rfl (hb hby at_82) k) ?_
  show Go _ _ _ _ _ _ _ T423 (mkF m 84 #[.val (.int ia), .val (.int ib), .val (.int ic), .val (.int id_), .val (.int sp), .val (.ref b349), .val (.ref b351), .unset, .unset, .unset, .unset, .unset] [(.int (18 : Int32)), (.int (ib &&& (2147483647 : Int32)))])
  refine Go.step (fun _ k => iremM X423 hx rfl (hb hby at_84) rfl (by decide) k) ?_
  show Go _ _ _ _ _ _ _ T423 (mkF m 85 #[.val (.int ia), .val (.int ib), .val (.int ic), .val (.int id_), .val (.int sp), .val (.ref b349), .val (.ref b351), .unset, .unset, .unset, .unset, .unset] [(.int ((ib &&& (2147483647 : Int32)) % (18 : Int32)))])
  refine Go.step (fun _ k => XS.istore X423.here hx rfl (hb hby at_85) rfl (l' := #[.val (.int ia), .val (.int ib), .val (.int ic), .val (.int id_), .val (.int sp), .val (.ref b349), .val (.ref b351), .val (.int ((ib &&& (2147483647 : Int32)) % (18 : Int32))), .unset, .unset, .unset, .unset]) rfl k) ?_
  show Go _ _ _ _ _ _ _ T423 (mkF m 87 #[.val (.int ia), .val (.int ib), .val (.int ic), .val (.int id_), .val (.int sp), .val (.ref b349), .val (.ref b351), .val (.int ((ib &&& (2147483647 : Int32)) % (18 : Int32))), .unset, .unset, .unset, .unset] [])
  refine Go.step (fun _ k => XS.iloadN X423.here hx rfl (hb hby at_87) rfl k) ?_
  show Go _ _ _ _ _ _ _ T423 (mkF m 88 #[.val (.int ia), .val (.int ib), .val (.int ic), .val (.int id_), .val (.int sp), .val (.ref b349), .val (.ref b351), .val (.int ((ib &&& (2147483647 : Int32)) % (18 : Int32))), .unset, .unset, .unset, .unset] [(.int ic)])
  refine Go.step (X423.ldcInt hx hown (mvT hZ (hw _ (List.mem_of_getElem? (i := 33) rfl))) (g := (mkF m 88 #[.val (.int ia), .val (.int ib), .val (.int ic), .val (.int id_), .val (.int sp), .val (.ref b349), .val (.ref b351), .val (.int ((ib &&& (2147483647 : Int32)) % (18 : Int32))), .unset, .unset, .unset, .unset] [(.int ic)])) rfl (hb hby at_88)) ?_
  show Go _ _ _ _ _ _ _ T423 (mkF m 90 #[.val (.int ia), .val (.int ib), .val (.int ic), .val (.int id_), .val (.int sp), .val (.ref b349), .val (.ref b351), .val (.int ((ib &&& (2147483647 : Int32)) % (18 : Int32))), .unset, .unset, .unset, .unset] [(.int (2147483647 : Int32)), (.int ic)])
  refine Go.step (fun _ k => XS.iand X423.here hx rfl (hb hby at_90) rfl k) ?_
  show Go _ _ _ _ _ _ _ T423 (mkF m 91 #[.val (.int ia), .val (.int ib), .val (.int ic), .val (.int id_), .val (.int sp), .val (.ref b349), .val (.ref b351), .val (.int ((ib &&& (2147483647 : Int32)) % (18 : Int32))), .unset, .unset, .unset, .unset] [(.int (ic &&& (2147483647 : Int32)))])
  refine Go.step (fun _ k => XS.bipush X423.here hx rfl (hb hby at_91) k) ?_
  show Go _ _ _ _ _ _ _ T423 (mkF m 93 #[.val (.int ia), .val (.int ib), .val (.int ic), .val (.int id_), .val (.int sp), .val (.ref b349), .val (.ref b351), .val (.int ((ib &&& (2147483647 : Int32)) % (18 : Int32))), .unset, .unset, .unset, .unset] [(.int (18 : Int32)), (.int (ic &&& (2147483647 : Int32)))])
  refine Go.step (fun _ k => iremM X423 hx rfl (hb hby at_93) rfl (by decide) k) ?_
  show Go _ _ _ _ _ _ _ T423 (mkF m 94 #[.val (.int ia), .val (.int ib), .val (.int ic), .val (.int id_), .val (.int sp), .val (.ref b349), .val (.ref b351), .val (.int ((ib &&& (2147483647 : Int32)) % (18 : Int32))), .unset, .unset, .unset, .unset] [(.int ((ic &&& (2147483647 : Int32)) % (18 : Int32)))])
  refine Go.step (fun _ k => XS.istore X423.here hx rfl (hb hby at_94) rfl (l' := #[.val (.int ia), .val (.int ib), .val (.int ic), .val (.int id_), .val (.int sp), .val (.ref b349), .val (.ref b351), .val (.int ((ib &&& (2147483647 : Int32)) % (18 : Int32))), .val (.int ((ic &&& (2147483647 : Int32)) % (18 : Int32))), .unset, .unset, .unset]) rfl k) ?_
  show Go _ _ _ _ _ _ _ T423 (mkF m 96 #[.val (.int ia), .val (.int ib), .val (.int ic), .val (.int id_), .val (.int sp), .val (.ref b349), .val (.ref b351), .val (.int ((ib &&& (2147483647 : Int32)) % (18 : Int32))), .val (.int ((ic &&& (2147483647 : Int32)) % (18 : Int32))), .unset, .unset, .unset] [])
  have b_vi : 0 ≤ ((ib &&& (2147483647 : Int32)) % (18 : Int32)).toInt ∧ ((ib &&& (2147483647 : Int32)) % (18 : Int32)).toInt < 18 := (by have := rng32 ib; have : (2147483647 : Int32).toInt = 2147483647 := rfl; have := rng32 (ib &&& (2147483647 : Int32)); have := c_mask ib (2147483647 : Int32) 31 (by decide) (by decide); have : (18 : Int32).toInt = 18 := rfl; have := rng32 ((ib &&& (2147483647 : Int32)) % (18 : Int32)); have := c_irem (ib &&& (2147483647 : Int32)) (18 : Int32) 18 rfl; omega)
  generalize ((ib &&& (2147483647 : Int32)) % (18 : Int32)) = vi at b_vi ⊢
  show Go _ _ _ _ _ _ _ T423 (mkF m 96 #[.val (.int ia), .val (.int ib), .val (.int ic), .val (.int id_), .val (.int sp), .val (.ref b349), .val (.ref b351), .val (.int vi), .val (.int ((ic &&& (2147483647 : Int32)) % (18 : Int32))), .unset, .unset, .unset] [])
  have n_vi : ¬ (vi < (0 : Int32)) := (by have := rng32 vi; have : (0 : Int32).toInt = 0 := rfl; simp only [Int32.lt_iff_toInt_lt, Int32.le_iff_toInt_le, ← Int32.toInt_inj, Int64.lt_iff_toInt_lt, Int64.le_iff_toInt_le, ← Int64.toInt_inj]; omega)
  have m_vi : vi < (18 : Int32) := (by have := rng32 vi; have : (18 : Int32).toInt = 18 := rfl; simp only [Int32.lt_iff_toInt_lt, Int32.le_iff_toInt_le, ← Int32.toInt_inj, Int64.lt_iff_toInt_lt, Int64.le_iff_toInt_le, ← Int64.toInt_inj]; omega)
  have b_vj : 0 ≤ ((ic &&& (2147483647 : Int32)) % (18 : Int32)).toInt ∧ ((ic &&& (2147483647 : Int32)) % (18 : Int32)).toInt < 18 := (by have := rng32 ic; have : (2147483647 : Int32).toInt = 2147483647 := rfl; have := rng32 (ic &&& (2147483647 : Int32)); have := c_mask ic (2147483647 : Int32) 31 (by decide) (by decide); have : (18 : Int32).toInt = 18 := rfl; have := rng32 ((ic &&& (2147483647 : Int32)) % (18 : Int32)); have := c_irem (ic &&& (2147483647 : Int32)) (18 : Int32) 18 rfl; omega)
  generalize ((ic &&& (2147483647 : Int32)) % (18 : Int32)) = vj at b_vj ⊢
  show Go _ _ _ _ _ _ _ T423 (mkF m 96 #[.val (.int ia), .val (.int ib), .val (.int ic), .val (.int id_), .val (.int sp), .val (.ref b349), .val (.ref b351), .val (.int vi), .val (.int vj), .unset, .unset, .unset] [])
  have n_vj : ¬ (vj < (0 : Int32)) := (by have := rng32 vj; have : (0 : Int32).toInt = 0 := rfl; simp only [Int32.lt_iff_toInt_lt, Int32.le_iff_toInt_le, ← Int32.toInt_inj, Int64.lt_iff_toInt_lt, Int64.le_iff_toInt_le, ← Int64.toInt_inj]; omega)
  have m_vj : vj < (18 : Int32) := (by have := rng32 vj; have : (18 : Int32).toInt = 18 := rfl; simp only [Int32.lt_iff_toInt_lt, Int32.le_iff_toInt_le, ← Int32.toInt_inj, Int64.lt_iff_toInt_lt, Int64.le_iff_toInt_le, ← Int64.toInt_inj]; omega)
  obtain ⟨xs, exs⟩ : ∃ z : List Addr, z = [z0, z1, z2, z3, z4, z5, z6, z7, z8, z9, z10, z11, z12, z13, z14, z15, ar_380, ar_398] := ⟨_, rfl⟩
  have hxl : xs.length = 18 := by rw [exs]; rfl
  have VgA : Arv Z h423 b351 k351 (.array .long) (18 : Int32) (xs.map Value.ref) .null := by rw [exs]; exact V423
  have f424 : own_Pos Z h423 [b349, ap_350, b351] (((((((((((((((((([] ++ [z0]) ++ [z1]) ++ [z2]) ++ [z3]) ++ [z4]) ++ [z5]) ++ [z6]) ++ [z7]) ++ [z8]) ++ [z9]) ++ [z10]) ++ [z11]) ++ [z12]) ++ [z13]) ++ [z14]) ++ [z15]) ++ [ar_380]) ++ [ar_398]) sp := (Ps398.keep (Keep.of_wr W423) (allS (List.mem_of_getElem? (i := 2) rfl) all0))
  have PsA : own_Pos Z h423 [b349, ap_350, b351] xs sp := by rw [exs]; exact f424
  obtain ⟨lcA, elc⟩ : ∃ z : List Value, z = (((((((((((((((((List.replicate 16 Value.null).set (0 : Int32).toNatClampNeg (.ref z0)).set (1 : Int32).toNatClampNeg (.ref z1)).set (2 : Int32).toNatClampNeg (.ref z2)).set (3 : Int32).toNatClampNeg (.ref z3)).set (4 : Int32).toNatClampNeg (.ref z4)).set (5 : Int32).toNatClampNeg (.ref z5)).set (6 : Int32).toNatClampNeg (.ref z6)).set (7 : Int32).toNatClampNeg (.ref z7)).set (8 : Int32).toNatClampNeg (.ref z8)).set (9 : Int32).toNatClampNeg (.ref z9)).set (10 : Int32).toNatClampNeg (.ref z10)).set (11 : Int32).toNatClampNeg (.ref z11)).set (12 : Int32).toNatClampNeg (.ref z12)).set (13 : Int32).toNatClampNeg (.ref z13)).set (14 : Int32).toNatClampNeg (.ref z14)).set (15 : Int32).toNatClampNeg (.ref z15)) := ⟨_, rfl⟩
  have f425 : Arv Z h423 ap_350 kp_350 (.array .long) (16 : Int32) (((((((((((((((((List.replicate 16 Value.null).set (0 : Int32).toNatClampNeg (.ref z0)).set (1 : Int32).toNatClampNeg (.ref z1)).set (2 : Int32).toNatClampNeg (.ref z2)).set (3 : Int32).toNatClampNeg (.ref z3)).set (4 : Int32).toNatClampNeg (.ref z4)).set (5 : Int32).toNatClampNeg (.ref z5)).set (6 : Int32).toNatClampNeg (.ref z6)).set (7 : Int32).toNatClampNeg (.ref z7)).set (8 : Int32).toNatClampNeg (.ref z8)).set (9 : Int32).toNatClampNeg (.ref z9)).set (10 : Int32).toNatClampNeg (.ref z10)).set (11 : Int32).toNatClampNeg (.ref z11)).set (12 : Int32).toNatClampNeg (.ref z12)).set (13 : Int32).toNatClampNeg (.ref z13)).set (14 : Int32).toNatClampNeg (.ref z14)).set (15 : Int32).toNatClampNeg (.ref z15)) .null := ((f403.keep Kq398 nin0).other W423 ne_ap_350_b351)
  have VpA : Arv Z h423 ap_350 kp_350 (.array .long) (16 : Int32) lcA .null := by rw [elc]; exact f425
  have hq0 : lcA.getD (0 : Int32).toNatClampNeg .null = .ref z0 := by rw [elc]; rfl
  have hg0 : (xs.map Value.ref).getD (0 : Int32).toNatClampNeg .null = .ref z0 := by rw [exs]; rfl
  have hq1 : lcA.getD (1 : Int32).toNatClampNeg .null = .ref z1 := by rw [elc]; rfl
  have hg1 : (xs.map Value.ref).getD (1 : Int32).toNatClampNeg .null = .ref z1 := by rw [exs]; rfl
  have hq2 : lcA.getD (2 : Int32).toNatClampNeg .null = .ref z2 := by rw [elc]; rfl
  have hg2 : (xs.map Value.ref).getD (2 : Int32).toNatClampNeg .null = .ref z2 := by rw [exs]; rfl
  have hq3 : lcA.getD (3 : Int32).toNatClampNeg .null = .ref z3 := by rw [elc]; rfl
  have hg3 : (xs.map Value.ref).getD (3 : Int32).toNatClampNeg .null = .ref z3 := by rw [exs]; rfl
  obtain ⟨x_vi, e_vi, o_vi, g_vi⟩ := own_at (xs := xs) (i := vi.toNatClampNeg) (by rw [hxl]; exact own_tlt' n_vi b_vi.2)
  obtain ⟨-, Ex_vi, k_vi, Vx_vi⟩ := PsA.2 _ o_vi
  obtain ⟨x_vj, e_vj, o_vj, g_vj⟩ := own_at (xs := xs) (i := vj.toNatClampNeg) (by rw [hxl]; exact own_tlt' n_vj b_vj.2)
  obtain ⟨-, Ex_vj, k_vj, Vx_vj⟩ := PsA.2 _ o_vj
  have J : ∀ (TJ : State) (hJ : Heap) (LJ : List Loc), (Stand p l e room_1 s m #[(.int ia), (.int ib), (.int ic), (.int id_)] below meth c TJ LJ 22 181) → (TJ.heap = hJ) → (Fr n0 LJ) → (n0 ≤ hJ.size) → (Exa Z hJ b349 "com/example/termvault/termvault/MarkArrays") → (Fld Z hJ b349 "com/example/termvault/termvault/MarkArrays" "positions" "[[J" (.ref ap_350)) → (Fld Z hJ b349 "com/example/termvault/termvault/MarkArrays" "positionsTaken" "I" (.int (16 : Int32))) → (Fld Z hJ b349 "com/example/termvault/termvault/MarkArrays" "span" "I" (.int sp)) → (Fld Z hJ b349 "com/example/termvault/termvault/MarkArrays" "counts" "[[I" (.ref ac_350)) → (Fld Z hJ b349 "com/example/termvault/termvault/MarkArrays" "countsTaken" "I" (.int (0 : Int32))) → (Arv Z hJ ap_350 kp_350 (.array .long) (16 : Int32) lcA .null) → (Arv Z hJ b351 k351 (.array .long) (18 : Int32) (xs.map Value.ref) .null) → (Exa Z hJ z0 "[J") → (Exa Z hJ z1 "[J") → (Exa Z hJ z2 "[J") → (Exa Z hJ z3 "[J") → Go p e below s room_1.cells room_1.slots (Q_rm0 Z ia ib ic id_ h0 n0) TJ (mkF m 217 #[.val (.int ia), .val (.int ib), .val (.int ic), .val (.int id_), .val (.int sp), .val (.ref b349), .val (.ref b351), .val (.int vi), .val (.int vj), .val (.int (1 : Int32)), .unset, .unset] []) := by
    intro TJ hJ LJ  XJ eJ NJ ZJ Ej F1j F2j F3j F4j F5j Vaj Vbj Xj0 Xj1 Xj2 Xj3 
    refine Go.step (fun _ k => XS.aload XJ.here hx rfl (hb hby at_217) rfl rfl k) ?_
    show Go _ _ _ _ _ _ _ TJ (mkF m 219 #[.val (.int ia), .val (.int ib), .val (.int ic), .val (.int id_), .val (.int sp), .val (.ref b349), .val (.ref b351), .val (.int vi), .val (.int vj), .val (.int (1 : Int32)), .unset, .unset] [(.ref b349)])
    obtain ⟨cq426, kq426, q426a, q426b, q426c⟩ := isOf hZ eJ Ej
    obtain ⟨_, _, ⟨T426, L426, k426, n426⟩, -, X426, ⟨Lc426, hQ426, l426, y426, z426⟩, st426⟩ := XJ.virtualBack hx (y := (⟨"com/example/termvault/termvault/MarkArrays", "restart", "()V"⟩ : MethodName)) (z := (⟨"com/example/termvault/termvault/MarkArrays", "restart", "()V"⟩ : MethodName)) hown (mvT hZ (hw _ (List.mem_of_getElem? (i := 34) rfl))) (mvT hZ (hw _ (List.mem_of_getElem? (i := 35) rfl))) (notFace_of_selects (args := #[]) (mvT hZ (hw _ (List.mem_of_getElem? (i := 37) rfl)))) (mvT hZ (hw _ (List.mem_of_getElem? (i := 37) rfl))) (mvT hZ (hw _ (List.mem_of_getElem? (i := 36) rfl))) (by decide) (backOf (W := 0) (rmRe l Z a0 hw [] b349 (0 : Int32) (16 : Int32) sp ac_350 ap_350 hJ n0 ZJ Ej F5j F2j F3j F4j F1j g_b349) hZ (hw _ (List.mem_of_getElem? (i := 38) rfl)) (hw _ (List.mem_of_getElem? (i := 2) rfl)) (by decide) (by decide)) q426a q426c (g := (mkF m 219 #[.val (.int ia), .val (.int ib), .val (.int ic), .val (.int id_), .val (.int sp), .val (.ref b349), .val (.ref b351), .val (.int vi), .val (.int vj), .val (.int (1 : Int32)), .unset, .unset] [(.ref b349)])) rfl (by rw [hml]; rfl) (Steps.refl _) (argsL := []) (rest := []) (lenOf pd___V rfl) rfl (by show 2 * 0 + _ ≤ _; exact Nat.le_of_eq rfl) (hb hby at_219) (fun _ _ => ⟨rfl, eJ, (by decide : 22 + 0 ≤ _), (by decide : 181 + 0 ≤ _)⟩)
    dsimp only [Pt.U, Pt.locs, Pt.cells, Pt.slots] at X426 l426 y426 z426 st426 hQ426
    subst l426 y426 z426
    obtain ⟨h426, e426⟩ : ∃ h, T426.heap = h := ⟨_, rfl⟩
    rw [e426] at hQ426
    obtain ⟨rfl, Nq426, Kq426, E1_426, Ft1_426, Fu1_426, Fs1_426, Fc1_426, Fp1_426⟩ := hQ426
    have N426 := Fr.app NJ Nq426
    have Z426 : n0 ≤ h426.size := Nat.le_trans ZJ Kq426.1
    refine Go.trans st426 ?_
    show Go _ _ _ _ _ _ _ T426 (mkF m 222 #[.val (.int ia), .val (.int ib), .val (.int ic), .val (.int id_), .val (.int sp), .val (.ref b349), .val (.ref b351), .val (.int vi), .val (.int vj), .val (.int (1 : Int32)), .unset, .unset] [])
    refine Go.step (fun _ k => XS.iconst X426.here hx rfl (hb hby at_222) k) ?_
    show Go _ _ _ _ _ _ _ T426 (mkF m 223 #[.val (.int ia), .val (.int ib), .val (.int ic), .val (.int id_), .val (.int sp), .val (.ref b349), .val (.ref b351), .val (.int vi), .val (.int vj), .val (.int (1 : Int32)), .unset, .unset] [(.int (4 : Int32))])
    have f428 : Arv Z h426 ap_350 kp_350 (.array .long) (16 : Int32) lcA .null := (Vaj.keep Kq426 (ninS (Ne.symm ne_b349_ap_350) nin0))
    have f429 : Arv Z h426 b351 k351 (.array .long) (18 : Int32) (xs.map Value.ref) .null := (Vbj.keep Kq426 (ninS (Ne.symm ne_b349_b351) nin0))
    have f430 : Exa Z h426 z0 "[J" := (Xj0.keep Kq426)
    have f431 : Exa Z h426 z1 "[J" := (Xj1.keep Kq426)
    have f432 : Exa Z h426 z2 "[J" := (Xj2.keep Kq426)
    have f433 : Exa Z h426 z3 "[J" := (Xj3.keep Kq426)
    obtain ⟨T427, h427, k427, X427, e427, E427, A427, Xa427, O427, st427⟩ := newRA X426 hx hZ hown (C := "[J") (ty := .long) (by decide) (hw _ (List.mem_of_getElem? (i := 19) rfl)) (hw _ (List.mem_of_getElem? (i := 14) rfl)) e426 (g := (mkF m 223 #[.val (.int ia), .val (.int ib), .val (.int ic), .val (.int id_), .val (.int sp), .val (.ref b349), .val (.ref b351), .val (.int vi), .val (.int vj), .val (.int (1 : Int32)), .unset, .unset] [(.int (4 : Int32))])) rfl (hb hby at_223) rfl (by decide) (cap := 4) (by decide) (by decide) (by decide) (by decide) (ad := "[[J") (by decide)
    obtain ⟨b427, g427⟩ : ∃ z, z = h426.size := ⟨_, rfl⟩
    rw [← g427] at A427 st427
    refine Go.step st427 ?_
    have g_b427 : n0 ≤ b427 := Nat.le_trans Z426 (Nat.le_of_eq g427.symm)
    have ne_ap_350_b427 : ap_350 ≠ b427 := Nat.ne_of_lt (Nat.lt_of_lt_of_le f428.lt (Nat.le_of_eq g427.symm))
    have ne_b349_b427 : b349 ≠ b427 := Nat.ne_of_lt (Nat.lt_of_lt_of_le E1_426.lt (Nat.le_of_eq g427.symm))
    have ne_b351_b427 : b351 ≠ b427 := Nat.ne_of_lt (Nat.lt_of_lt_of_le f429.lt (Nat.le_of_eq g427.symm))
    have ne_z0_b427 : z0 ≠ b427 := Nat.ne_of_lt (Nat.lt_of_lt_of_le f430.lt (Nat.le_of_eq g427.symm))
    have ne_z1_b427 : z1 ≠ b427 := Nat.ne_of_lt (Nat.lt_of_lt_of_le f431.lt (Nat.le_of_eq g427.symm))
    have ne_z2_b427 : z2 ≠ b427 := Nat.ne_of_lt (Nat.lt_of_lt_of_le f432.lt (Nat.le_of_eq g427.symm))
    have ne_z3_b427 : z3 ≠ b427 := Nat.ne_of_lt (Nat.lt_of_lt_of_le f433.lt (Nat.le_of_eq g427.symm))
    have Z427 : n0 ≤ h427.size := Nat.le_trans Z426 E427.1
    have V427 : Arv Z h427 b427 k427 (.array .long) (4 : Int32) [] .null := Arv.new A427 (by decide)
    show Go _ _ _ _ _ _ _ T427 (mkF m 226 #[.val (.int ia), .val (.int ib), .val (.int ic), .val (.int id_), .val (.int sp), .val (.ref b349), .val (.ref b351), .val (.int vi), .val (.int vj), .val (.int (1 : Int32)), .unset, .unset] [(.ref b427)])
    have V434 : Arv Z h427 b427 k427 (.array .long) (4 : Int32) (List.replicate 4 .null) .null := (V427).pad (pad_rep [] .null 4)
    refine Go.step (fun _ k => XS.astore X427.here hx rfl (hb hby at_226) rfl rfl (l' := #[.val (.int ia), .val (.int ib), .val (.int ic), .val (.int id_), .val (.int sp), .val (.ref b349), .val (.ref b351), .val (.int vi), .val (.int vj), .val (.int (1 : Int32)), .val (.ref b427), .unset]) rfl k) ?_
    show Go _ _ _ _ _ _ _ T427 (mkF m 228 #[.val (.int ia), .val (.int ib), .val (.int ic), .val (.int id_), .val (.int sp), .val (.ref b349), .val (.ref b351), .val (.int vi), .val (.int vj), .val (.int (1 : Int32)), .val (.ref b427), .unset] [])
    refine Go.step (fun _ k => XS.aload X427.here hx rfl (hb hby at_228) rfl rfl k) ?_
    show Go _ _ _ _ _ _ _ T427 (mkF m 230 #[.val (.int ia), .val (.int ib), .val (.int ic), .val (.int id_), .val (.int sp), .val (.ref b349), .val (.ref b351), .val (.int vi), .val (.int vj), .val (.int (1 : Int32)), .val (.ref b427), .unset] [(.ref b349)])
    refine Go.step (fun _ k => XS.aload X427.here hx rfl (hb hby at_230) rfl rfl k) ?_
    show Go _ _ _ _ _ _ _ T427 (mkF m 232 #[.val (.int ia), .val (.int ib), .val (.int ic), .val (.int id_), .val (.int sp), .val (.ref b349), .val (.ref b351), .val (.int vi), .val (.int vj), .val (.int (1 : Int32)), .val (.ref b427), .unset] [(.ref b427), (.ref b349)])
    refine Go.step (fun _ k => XS.iconst X427.here hx rfl (hb hby at_232) k) ?_
    show Go _ _ _ _ _ _ _ T427 (mkF m 233 #[.val (.int ia), .val (.int ib), .val (.int ic), .val (.int id_), .val (.int sp), .val (.ref b349), .val (.ref b351), .val (.int vi), .val (.int vj), .val (.int (1 : Int32)), .val (.ref b427), .unset] [(.int (0 : Int32)), (.ref b427), (.ref b349)])
    have f436 : Exa Z h427 b349 "com/example/termvault/termvault/MarkArrays" := (E1_426.ext E427)
    have f437 : Fld Z h427 b349 "com/example/termvault/termvault/MarkArrays" "positions" "[[J" (.ref ap_350) := (Fp1_426.ext E427)
    have f438 : Fld Z h427 b349 "com/example/termvault/termvault/MarkArrays" "positionsTaken" "I" (.int (0 : Int32)) := (Fu1_426.ext E427)
    have f439 : Fld Z h427 b349 "com/example/termvault/termvault/MarkArrays" "span" "I" (.int sp) := (Fs1_426.ext E427)
    have f440 : Arv Z h427 ap_350 kp_350 (.array .long) (16 : Int32) lcA .null := (f428.ext E427)
    have f441 : Fld Z h427 b349 "com/example/termvault/termvault/MarkArrays" "countsTaken" "I" (.int (0 : Int32)) := (Ft1_426.ext E427)
    have f442 : Fld Z h427 b349 "com/example/termvault/termvault/MarkArrays" "counts" "[[I" (.ref ac_350) := (Fc1_426.ext E427)
    have f443 : Exa Z h427 z0 "[J" := (f430.ext E427)
    have f444 : Exa Z h427 z1 "[J" := (f431.ext E427)
    have f445 : Exa Z h427 z2 "[J" := (f432.ext E427)
    have f446 : Exa Z h427 z3 "[J" := (f433.ext E427)
    obtain ⟨_, _, ⟨T435, L435, k435, n435⟩, -, X435, ⟨Lc435, hQ435, l435, y435, z435⟩, st435⟩ := Jvm.LawKit.callS X427 hx (y := (⟨"com/example/termvault/termvault/MarkArraysPositionsPinLaw", "four", "(Lcom/example/termvault/termvault/MarkArrays;[[JI)V"⟩ : MethodName)) hown (mvT hZ (hw _ (List.mem_of_getElem? (i := 20) rfl))) (mvT hZ (hw _ (List.mem_of_getElem? (i := 21) rfl))) (mvT hZ (hw _ (List.mem_of_getElem? (i := 22) rfl))) (mvT hZ (hw _ (List.mem_of_getElem? (i := 23) rfl))) (by decide) (backOf (W := 0) (rmFa l Z a0 hw [] b349 b427 ap_350 kp_350 lcA k427 (List.replicate 4 .null) sp (0 : Int32) ac_350 z0 z1 z2 z3 h427 n0 Z427 f436 f437 f438 f439 f440 f441 f442 V434 f443 f444 f445 f446 O427 g_b349 g_b427 ne_b349_ap_350 ne_b349_b427 ne_ap_350_b427 (by simp) hq0 hq1 hq2 hq3) hZ (hw _ (List.mem_of_getElem? (i := 23) rfl)) (hw _ (List.mem_of_getElem? (i := 22) rfl)) (by decide) (by decide)) (g := (mkF m 233 #[.val (.int ia), .val (.int ib), .val (.int ic), .val (.int id_), .val (.int sp), .val (.ref b349), .val (.ref b351), .val (.int vi), .val (.int vj), .val (.int (1 : Int32)), .val (.ref b427), .unset] [(.int (0 : Int32)), (.ref b427), (.ref b349)])) rfl (by rw [hml]; rfl) (argsL := [(.ref b349), (.ref b427), (.int (0 : Int32))]) (rest := []) (lenOf pd__Lcom_example_termvault_termvault_MarkArrays___JI_V rfl) rfl (by show 2 * 0 + _ ≤ _; exact Nat.le_of_eq rfl) (hb hby at_233) (fun _ _ => ⟨rfl, e427, (by decide : 23 + 0 ≤ _), (by decide : 185 + 0 ≤ _)⟩)
    dsimp only [Pt.U, Pt.locs, Pt.cells, Pt.slots] at X435 l435 y435 z435 st435 hQ435
    subst l435 y435 z435
    obtain ⟨h435, e435⟩ : ∃ h, T435.heap = h := ⟨_, rfl⟩
    rw [e435] at hQ435
    obtain ⟨rfl, Nq435, Kq435, E1_435, Vg1_435⟩ := hQ435
    have N435 := Fr.app N426 Nq435
    have Z435 : n0 ≤ h435.size := Nat.le_trans Z427 Kq435.1
    refine Go.step st435 ?_
    show Go _ _ _ _ _ _ _ T435 (mkF m 236 #[.val (.int ia), .val (.int ib), .val (.int ic), .val (.int id_), .val (.int sp), .val (.ref b349), .val (.ref b351), .val (.int vi), .val (.int vj), .val (.int (1 : Int32)), .val (.ref b427), .unset] [])
    refine Go.step (fun _ k => XS.iloadN X435.here hx rfl (hb hby at_236) rfl k) ?_
    show Go _ _ _ _ _ _ _ T435 (mkF m 237 #[.val (.int ia), .val (.int ib), .val (.int ic), .val (.int id_), .val (.int sp), .val (.ref b349), .val (.ref b351), .val (.int vi), .val (.int vj), .val (.int (1 : Int32)), .val (.ref b427), .unset] [(.int id_)])
    refine Go.step (fun _ k => XS.iconst X435.here hx rfl (hb hby at_237) k) ?_
    show Go _ _ _ _ _ _ _ T435 (mkF m 238 #[.val (.int ia), .val (.int ib), .val (.int ic), .val (.int id_), .val (.int sp), .val (.ref b349), .val (.ref b351), .val (.int vi), .val (.int vj), .val (.int (1 : Int32)), .val (.ref b427), .unset] [(.int (3 : Int32)), (.int id_)])
    refine Go.step (fun _ k => XS.iand X435.here hx rfl (hb hby at_238) rfl k) ?_
    show Go _ _ _ _ _ _ _ T435 (mkF m 239 #[.val (.int ia), .val (.int ib), .val (.int ic), .val (.int id_), .val (.int sp), .val (.ref b349), .val (.ref b351), .val (.int vi), .val (.int vj), .val (.int (1 : Int32)), .val (.ref b427), .unset] [(.int (id_ &&& (3 : Int32)))])
    refine Go.step (fun _ k => XS.istore X435.here hx rfl (hb hby at_239) rfl (l' := #[.val (.int ia), .val (.int ib), .val (.int ic), .val (.int id_), .val (.int sp), .val (.ref b349), .val (.ref b351), .val (.int vi), .val (.int vj), .val (.int (1 : Int32)), .val (.ref b427), .val (.int (id_ &&& (3 : Int32)))]) rfl k) ?_
    show Go _ _ _ _ _ _ _ T435 (mkF m 241 #[.val (.int ia), .val (.int ib), .val (.int ic), .val (.int id_), .val (.int sp), .val (.ref b349), .val (.ref b351), .val (.int vi), .val (.int vj), .val (.int (1 : Int32)), .val (.ref b427), .val (.int (id_ &&& (3 : Int32)))] [])
    rcases own_and3 id_ with q3 | q3 | q3 | q3 <;> rw [q3]
    · show Go _ _ _ _ _ _ _ T435 (mkF m 241 #[.val (.int ia), .val (.int ib), .val (.int ic), .val (.int id_), .val (.int sp), .val (.ref b349), .val (.ref b351), .val (.int vi), .val (.int vj), .val (.int (1 : Int32)), .val (.ref b427), .val (.int (0 : Int32))] [])
      refine Go.step (fun _ k => XS.iload X435.here hx rfl (hb hby at_241) rfl k) ?_
      show Go _ _ _ _ _ _ _ T435 (mkF m 243 #[.val (.int ia), .val (.int ib), .val (.int ic), .val (.int id_), .val (.int sp), .val (.ref b349), .val (.ref b351), .val (.int vi), .val (.int vj), .val (.int (1 : Int32)), .val (.ref b427), .val (.int (0 : Int32))] [(.int (1 : Int32))])
      have hc243_447 : ¬ ((1 : Int32) = (0 : Int32)) := (by decide)
      refine Go.step (fun _ k => XS.ifNo X435.here hx rfl (hb hby at_243) rfl ((if0 _ _).trans (feq hc243_447).1) k) ?_
      show Go _ _ _ _ _ _ _ T435 (mkF m 246 #[.val (.int ia), .val (.int ib), .val (.int ic), .val (.int id_), .val (.int sp), .val (.ref b349), .val (.ref b351), .val (.int vi), .val (.int vj), .val (.int (1 : Int32)), .val (.ref b427), .val (.int (0 : Int32))] [])
      refine Go.step (fun _ k => XS.aload X435.here hx rfl (hb hby at_246) rfl rfl k) ?_
      show Go _ _ _ _ _ _ _ T435 (mkF m 248 #[.val (.int ia), .val (.int ib), .val (.int ic), .val (.int id_), .val (.int sp), .val (.ref b349), .val (.ref b351), .val (.int vi), .val (.int vj), .val (.int (1 : Int32)), .val (.ref b427), .val (.int (0 : Int32))] [(.ref b427)])
      refine Go.step (fun _ k => XS.iload X435.here hx rfl (hb hby at_248) rfl k) ?_
      show Go _ _ _ _ _ _ _ T435 (mkF m 250 #[.val (.int ia), .val (.int ib), .val (.int ic), .val (.int id_), .val (.int sp), .val (.ref b349), .val (.ref b351), .val (.int vi), .val (.int vj), .val (.int (1 : Int32)), .val (.ref b427), .val (.int (0 : Int32))] [(.int (0 : Int32)), (.ref b427)])
      obtain ⟨cl448, Ar448, q448, S448, M448, H448, G448⟩ := id (Vg1_435)
      have hin448 : ¬ ((0 : Int32) < 0 ∨ cl448.slots.size ≤ ((0 : Int32)).toNatClampNeg) := inb_of S448 ⟨by decide, by decide⟩
      have hat448 : cl448.slots[((0 : Int32)).toNatClampNeg]? = some (.ref z0) := H448.at hin448 rfl
      refine Go.step (X435.aaload hx (j := (0 : Int32)) (v := (.ref z0)) (by rw [e435]; exact Ar448.1) (State.isArrayOf_alike hZ.alike Ar448.2.1) rfl Ar448.2.2 hin448 hat448 (g := (mkF m 250 #[.val (.int ia), .val (.int ib), .val (.int ic), .val (.int id_), .val (.int sp), .val (.ref b349), .val (.ref b351), .val (.int vi), .val (.int vj), .val (.int (1 : Int32)), .val (.ref b427), .val (.int (0 : Int32))] [(.int (0 : Int32)), (.ref b427)])) rfl rfl (hb hby at_250)) ?_
      show Go _ _ _ _ _ _ _ T435 (mkF m 251 #[.val (.int ia), .val (.int ib), .val (.int ic), .val (.int id_), .val (.int sp), .val (.ref b349), .val (.ref b351), .val (.int vi), .val (.int vj), .val (.int (1 : Int32)), .val (.ref b427), .val (.int (0 : Int32))] [(.ref z0)])
      refine Go.step (fun _ k => XS.aload X435.here hx rfl (hb hby at_251) rfl rfl k) ?_
      show Go _ _ _ _ _ _ _ T435 (mkF m 253 #[.val (.int ia), .val (.int ib), .val (.int ic), .val (.int id_), .val (.int sp), .val (.ref b349), .val (.ref b351), .val (.int vi), .val (.int vj), .val (.int (1 : Int32)), .val (.ref b427), .val (.int (0 : Int32))] [(.ref b351), (.ref z0)])
      refine Go.step (fun _ k => XS.iload X435.here hx rfl (hb hby at_253) rfl k) ?_
      show Go _ _ _ _ _ _ _ T435 (mkF m 255 #[.val (.int ia), .val (.int ib), .val (.int ic), .val (.int id_), .val (.int sp), .val (.ref b349), .val (.ref b351), .val (.int vi), .val (.int vj), .val (.int (1 : Int32)), .val (.ref b427), .val (.int (0 : Int32))] [(.int (0 : Int32)), (.ref b351), (.ref z0)])
      have f449 : Arv Z h435 b351 k351 (.array .long) (18 : Int32) (xs.map Value.ref) .null := ((f429.ext E427).keep Kq435 (ninS (Ne.symm ne_b349_b351) (ninS ne_b351_b427 nin0)))
      obtain ⟨cl450, Ar450, q450, S450, M450, H450, G450⟩ := id (f449)
      have hin450 : ¬ ((0 : Int32) < 0 ∨ cl450.slots.size ≤ ((0 : Int32)).toNatClampNeg) := inb_of S450 ⟨by decide, by decide⟩
      have hat450 : cl450.slots[((0 : Int32)).toNatClampNeg]? = some (.ref z0) := H450.at hin450 hg0
      refine Go.step (X435.aaload hx (j := (0 : Int32)) (v := (.ref z0)) (by rw [e435]; exact Ar450.1) (State.isArrayOf_alike hZ.alike Ar450.2.1) rfl Ar450.2.2 hin450 hat450 (g := (mkF m 255 #[.val (.int ia), .val (.int ib), .val (.int ic), .val (.int id_), .val (.int sp), .val (.ref b349), .val (.ref b351), .val (.int vi), .val (.int vj), .val (.int (1 : Int32)), .val (.ref b427), .val (.int (0 : Int32))] [(.int (0 : Int32)), (.ref b351), (.ref z0)])) rfl rfl (hb hby at_255)) ?_
      show Go _ _ _ _ _ _ _ T435 (mkF m 256 #[.val (.int ia), .val (.int ib), .val (.int ic), .val (.int id_), .val (.int sp), .val (.ref b349), .val (.ref b351), .val (.int vi), .val (.int vj), .val (.int (1 : Int32)), .val (.ref b427), .val (.int (0 : Int32))] [(.ref z0), (.ref z0)])
      refine Go.step (fun _ k => Jvm.RoadKit.acmp (g := (mkF m 256 #[.val (.int ia), .val (.int ib), .val (.int ic), .val (.int id_), .val (.int sp), .val (.ref b349), .val (.ref b351), .val (.int vi), .val (.int vj), .val (.int (1 : Int32)), .val (.ref b427), .val (.int (0 : Int32))] [(.ref z0), (.ref z0)])) X435 hx rfl rfl rfl (pc0 := 256) (pc' := 259) (same := true) rfl (hb hby at_256) rfl (decide_eq_true rfl) (by decide) (by decide) k) ?_
      show Go _ _ _ _ _ _ _ T435 (mkF m 259 #[.val (.int ia), .val (.int ib), .val (.int ic), .val (.int id_), .val (.int sp), .val (.ref b349), .val (.ref b351), .val (.int vi), .val (.int vj), .val (.int (1 : Int32)), .val (.ref b427), .val (.int (0 : Int32))] [])
      refine Go.step (fun _ k => XS.iconst X435.here hx rfl (hb hby at_259) k) ?_
      show Go _ _ _ _ _ _ _ T435 (mkF m 260 #[.val (.int ia), .val (.int ib), .val (.int ic), .val (.int id_), .val (.int sp), .val (.ref b349), .val (.ref b351), .val (.int vi), .val (.int vj), .val (.int (1 : Int32)), .val (.ref b427), .val (.int (0 : Int32))] [(.int (1 : Int32))])
      refine Go.step (fun _ k => XS.goto X435.here hx rfl (pc0 := 260) (pc' := 264) rfl (hb hby at_260) (by decide) (by decide) k) ?_
      show Go _ _ _ _ _ _ _ T435 (mkF m 264 #[.val (.int ia), .val (.int ib), .val (.int ic), .val (.int id_), .val (.int sp), .val (.ref b349), .val (.ref b351), .val (.int vi), .val (.int vj), .val (.int (1 : Int32)), .val (.ref b427), .val (.int (0 : Int32))] [(.int (1 : Int32))])
      refine Go.step (fun _ k => XS.istore X435.here hx rfl (hb hby at_264) rfl (l' := #[.val (.int ia), .val (.int ib), .val (.int ic), .val (.int id_), .val (.int sp), .val (.ref b349), .val (.ref b351), .val (.int vi), .val (.int vj), .val (.int (1 : Int32)), .val (.ref b427), .val (.int (0 : Int32))]) rfl k) ?_
      show Go _ _ _ _ _ _ _ T435 (mkF m 266 #[.val (.int ia), .val (.int ib), .val (.int ic), .val (.int id_), .val (.int sp), .val (.ref b349), .val (.ref b351), .val (.int vi), .val (.int vj), .val (.int (1 : Int32)), .val (.ref b427), .val (.int (0 : Int32))] [])
      refine Go.step (fun _ k => XS.iload X435.here hx rfl (hb hby at_266) rfl k) ?_
      show Go _ _ _ _ _ _ _ T435 (mkF m 268 #[.val (.int ia), .val (.int ib), .val (.int ic), .val (.int id_), .val (.int sp), .val (.ref b349), .val (.ref b351), .val (.int vi), .val (.int vj), .val (.int (1 : Int32)), .val (.ref b427), .val (.int (0 : Int32))] [(.int (1 : Int32))])
      exact Go.retN X435 hx (t := .boolean) hret hlk (by simp) (hb hby at_268) e435 (by decide) (by decide) ⟨rfl, N435, trivial⟩
    · show Go _ _ _ _ _ _ _ T435 (mkF m 241 #[.val (.int ia), .val (.int ib), .val (.int ic), .val (.int id_), .val (.int sp), .val (.ref b349), .val (.ref b351), .val (.int vi), .val (.int vj), .val (.int (1 : Int32)), .val (.ref b427), .val (.int (1 : Int32))] [])
      refine Go.step (fun _ k => XS.iload X435.here hx rfl (hb hby at_241) rfl k) ?_
      show Go _ _ _ _ _ _ _ T435 (mkF m 243 #[.val (.int ia), .val (.int ib), .val (.int ic), .val (.int id_), .val (.int sp), .val (.ref b349), .val (.ref b351), .val (.int vi), .val (.int vj), .val (.int (1 : Int32)), .val (.ref b427), .val (.int (1 : Int32))] [(.int (1 : Int32))])
      have hc243_451 : ¬ ((1 : Int32) = (0 : Int32)) := (by decide)
      refine Go.step (fun _ k => XS.ifNo X435.here hx rfl (hb hby at_243) rfl ((if0 _ _).trans (feq hc243_451).1) k) ?_
      show Go _ _ _ _ _ _ _ T435 (mkF m 246 #[.val (.int ia), .val (.int ib), .val (.int ic), .val (.int id_), .val (.int sp), .val (.ref b349), .val (.ref b351), .val (.int vi), .val (.int vj), .val (.int (1 : Int32)), .val (.ref b427), .val (.int (1 : Int32))] [])
      refine Go.step (fun _ k => XS.aload X435.here hx rfl (hb hby at_246) rfl rfl k) ?_
      show Go _ _ _ _ _ _ _ T435 (mkF m 248 #[.val (.int ia), .val (.int ib), .val (.int ic), .val (.int id_), .val (.int sp), .val (.ref b349), .val (.ref b351), .val (.int vi), .val (.int vj), .val (.int (1 : Int32)), .val (.ref b427), .val (.int (1 : Int32))] [(.ref b427)])
      refine Go.step (fun _ k => XS.iload X435.here hx rfl (hb hby at_248) rfl k) ?_
      show Go _ _ _ _ _ _ _ T435 (mkF m 250 #[.val (.int ia), .val (.int ib), .val (.int ic), .val (.int id_), .val (.int sp), .val (.ref b349), .val (.ref b351), .val (.int vi), .val (.int vj), .val (.int (1 : Int32)), .val (.ref b427), .val (.int (1 : Int32))] [(.int (1 : Int32)), (.ref b427)])
      obtain ⟨cl452, Ar452, q452, S452, M452, H452, G452⟩ := id (Vg1_435)
      have hin452 : ¬ ((1 : Int32) < 0 ∨ cl452.slots.size ≤ ((1 : Int32)).toNatClampNeg) := inb_of S452 ⟨by decide, by decide⟩
      have hat452 : cl452.slots[((1 : Int32)).toNatClampNeg]? = some (.ref z1) := H452.at hin452 rfl
      refine Go.step (X435.aaload hx (j := (1 : Int32)) (v := (.ref z1)) (by rw [e435]; exact Ar452.1) (State.isArrayOf_alike hZ.alike Ar452.2.1) rfl Ar452.2.2 hin452 hat452 (g := (mkF m 250 #[.val (.int ia), .val (.int ib), .val (.int ic), .val (.int id_), .val (.int sp), .val (.ref b349), .val (.ref b351), .val (.int vi), .val (.int vj), .val (.int (1 : Int32)), .val (.ref b427), .val (.int (1 : Int32))] [(.int (1 : Int32)), (.ref b427)])) rfl rfl (hb hby at_250)) ?_
      show Go _ _ _ _ _ _ _ T435 (mkF m 251 #[.val (.int ia), .val (.int ib), .val (.int ic), .val (.int id_), .val (.int sp), .val (.ref b349), .val (.ref b351), .val (.int vi), .val (.int vj), .val (.int (1 : Int32)), .val (.ref b427), .val (.int (1 : Int32))] [(.ref z1)])
      refine Go.step (fun _ k => XS.aload X435.here hx rfl (hb hby at_251) rfl rfl k) ?_
      show Go _ _ _ _ _ _ _ T435 (mkF m 253 #[.val (.int ia), .val (.int ib), .val (.int ic), .val (.int id_), .val (.int sp), .val (.ref b349), .val (.ref b351), .val (.int vi), .val (.int vj), .val (.int (1 : Int32)), .val (.ref b427), .val (.int (1 : Int32))] [(.ref b351), (.ref z1)])
      refine Go.step (fun _ k => XS.iload X435.here hx rfl (hb hby at_253) rfl k) ?_
      show Go _ _ _ _ _ _ _ T435 (mkF m 255 #[.val (.int ia), .val (.int ib), .val (.int ic), .val (.int id_), .val (.int sp), .val (.ref b349), .val (.ref b351), .val (.int vi), .val (.int vj), .val (.int (1 : Int32)), .val (.ref b427), .val (.int (1 : Int32))] [(.int (1 : Int32)), (.ref b351), (.ref z1)])
      have f453 : Arv Z h435 b351 k351 (.array .long) (18 : Int32) (xs.map Value.ref) .null := ((f429.ext E427).keep Kq435 (ninS (Ne.symm ne_b349_b351) (ninS ne_b351_b427 nin0)))
      obtain ⟨cl454, Ar454, q454, S454, M454, H454, G454⟩ := id (f453)
      have hin454 : ¬ ((1 : Int32) < 0 ∨ cl454.slots.size ≤ ((1 : Int32)).toNatClampNeg) := inb_of S454 ⟨by decide, by decide⟩
      have hat454 : cl454.slots[((1 : Int32)).toNatClampNeg]? = some (.ref z1) := H454.at hin454 hg1
      refine Go.step (X435.aaload hx (j := (1 : Int32)) (v := (.ref z1)) (by rw [e435]; exact Ar454.1) (State.isArrayOf_alike hZ.alike Ar454.2.1) rfl Ar454.2.2 hin454 hat454 (g := (mkF m 255 #[.val (.int ia), .val (.int ib), .val (.int ic), .val (.int id_), .val (.int sp), .val (.ref b349), .val (.ref b351), .val (.int vi), .val (.int vj), .val (.int (1 : Int32)), .val (.ref b427), .val (.int (1 : Int32))] [(.int (1 : Int32)), (.ref b351), (.ref z1)])) rfl rfl (hb hby at_255)) ?_
      show Go _ _ _ _ _ _ _ T435 (mkF m 256 #[.val (.int ia), .val (.int ib), .val (.int ic), .val (.int id_), .val (.int sp), .val (.ref b349), .val (.ref b351), .val (.int vi), .val (.int vj), .val (.int (1 : Int32)), .val (.ref b427), .val (.int (1 : Int32))] [(.ref z1), (.ref z1)])
      refine Go.step (fun _ k => Jvm.RoadKit.acmp (g := (mkF m 256 #[.val (.int ia), .val (.int ib), .val (.int ic), .val (.int id_), .val (.int sp), .val (.ref b349), .val (.ref b351), .val (.int vi), .val (.int vj), .val (.int (1 : Int32)), .val (.ref b427), .val (.int (1 : Int32))] [(.ref z1), (.ref z1)])) X435 hx rfl rfl rfl (pc0 := 256) (pc' := 259) (same := true) rfl (hb hby at_256) rfl (decide_eq_true rfl) (by decide) (by decide) k) ?_
      show Go _ _ _ _ _ _ _ T435 (mkF m 259 #[.val (.int ia), .val (.int ib), .val (.int ic), .val (.int id_), .val (.int sp), .val (.ref b349), .val (.ref b351), .val (.int vi), .val (.int vj), .val (.int (1 : Int32)), .val (.ref b427), .val (.int (1 : Int32))] [])
      refine Go.step (fun _ k => XS.iconst X435.here hx rfl (hb hby at_259) k) ?_
      show Go _ _ _ _ _ _ _ T435 (mkF m 260 #[.val (.int ia), .val (.int ib), .val (.int ic), .val (.int id_), .val (.int sp), .val (.ref b349), .val (.ref b351), .val (.int vi), .val (.int vj), .val (.int (1 : Int32)), .val (.ref b427), .val (.int (1 : Int32))] [(.int (1 : Int32))])
      refine Go.step (fun _ k => XS.goto X435.here hx rfl (pc0 := 260) (pc' := 264) rfl (hb hby at_260) (by decide) (by decide) k) ?_
      show Go _ _ _ _ _ _ _ T435 (mkF m 264 #[.val (.int ia), .val (.int ib), .val (.int ic), .val (.int id_), .val (.int sp), .val (.ref b349), .val (.ref b351), .val (.int vi), .val (.int vj), .val (.int (1 : Int32)), .val (.ref b427), .val (.int (1 : Int32))] [(.int (1 : Int32))])
      refine Go.step (fun _ k => XS.istore X435.here hx rfl (hb hby at_264) rfl (l' := #[.val (.int ia), .val (.int ib), .val (.int ic), .val (.int id_), .val (.int sp), .val (.ref b349), .val (.ref b351), .val (.int vi), .val (.int vj), .val (.int (1 : Int32)), .val (.ref b427), .val (.int (1 : Int32))]) rfl k) ?_
      show Go _ _ _ _ _ _ _ T435 (mkF m 266 #[.val (.int ia), .val (.int ib), .val (.int ic), .val (.int id_), .val (.int sp), .val (.ref b349), .val (.ref b351), .val (.int vi), .val (.int vj), .val (.int (1 : Int32)), .val (.ref b427), .val (.int (1 : Int32))] [])
      refine Go.step (fun _ k => XS.iload X435.here hx rfl (hb hby at_266) rfl k) ?_
      show Go _ _ _ _ _ _ _ T435 (mkF m 268 #[.val (.int ia), .val (.int ib), .val (.int ic), .val (.int id_), .val (.int sp), .val (.ref b349), .val (.ref b351), .val (.int vi), .val (.int vj), .val (.int (1 : Int32)), .val (.ref b427), .val (.int (1 : Int32))] [(.int (1 : Int32))])
      exact Go.retN X435 hx (t := .boolean) hret hlk (by simp) (hb hby at_268) e435 (by decide) (by decide) ⟨rfl, N435, trivial⟩
    · show Go _ _ _ _ _ _ _ T435 (mkF m 241 #[.val (.int ia), .val (.int ib), .val (.int ic), .val (.int id_), .val (.int sp), .val (.ref b349), .val (.ref b351), .val (.int vi), .val (.int vj), .val (.int (1 : Int32)), .val (.ref b427), .val (.int (2 : Int32))] [])
      refine Go.step (fun _ k => XS.iload X435.here hx rfl (hb hby at_241) rfl k) ?_
      show Go _ _ _ _ _ _ _ T435 (mkF m 243 #[.val (.int ia), .val (.int ib), .val (.int ic), .val (.int id_), .val (.int sp), .val (.ref b349), .val (.ref b351), .val (.int vi), .val (.int vj), .val (.int (1 : Int32)), .val (.ref b427), .val (.int (2 : Int32))] [(.int (1 : Int32))])
      have hc243_455 : ¬ ((1 : Int32) = (0 : Int32)) := (by decide)
      refine Go.step (fun _ k => XS.ifNo X435.here hx rfl (hb hby at_243) rfl ((if0 _ _).trans (feq hc243_455).1) k) ?_
      show Go _ _ _ _ _ _ _ T435 (mkF m 246 #[.val (.int ia), .val (.int ib), .val (.int ic), .val (.int id_), .val (.int sp), .val (.ref b349), .val (.ref b351), .val (.int vi), .val (.int vj), .val (.int (1 : Int32)), .val (.ref b427), .val (.int (2 : Int32))] [])
      refine Go.step (fun _ k => XS.aload X435.here hx rfl (hb hby at_246) rfl rfl k) ?_
      show Go _ _ _ _ _ _ _ T435 (mkF m 248 #[.val (.int ia), .val (.int ib), .val (.int ic), .val (.int id_), .val (.int sp), .val (.ref b349), .val (.ref b351), .val (.int vi), .val (.int vj), .val (.int (1 : Int32)), .val (.ref b427), .val (.int (2 : Int32))] [(.ref b427)])
      refine Go.step (fun _ k => XS.iload X435.here hx rfl (hb hby at_248) rfl k) ?_
      show Go _ _ _ _ _ _ _ T435 (mkF m 250 #[.val (.int ia), .val (.int ib), .val (.int ic), .val (.int id_), .val (.int sp), .val (.ref b349), .val (.ref b351), .val (.int vi), .val (.int vj), .val (.int (1 : Int32)), .val (.ref b427), .val (.int (2 : Int32))] [(.int (2 : Int32)), (.ref b427)])
      obtain ⟨cl456, Ar456, q456, S456, M456, H456, G456⟩ := id (Vg1_435)
      have hin456 : ¬ ((2 : Int32) < 0 ∨ cl456.slots.size ≤ ((2 : Int32)).toNatClampNeg) := inb_of S456 ⟨by decide, by decide⟩
      have hat456 : cl456.slots[((2 : Int32)).toNatClampNeg]? = some (.ref z2) := H456.at hin456 rfl
      refine Go.step (X435.aaload hx (j := (2 : Int32)) (v := (.ref z2)) (by rw [e435]; exact Ar456.1) (State.isArrayOf_alike hZ.alike Ar456.2.1) rfl Ar456.2.2 hin456 hat456 (g := (mkF m 250 #[.val (.int ia), .val (.int ib), .val (.int ic), .val (.int id_), .val (.int sp), .val (.ref b349), .val (.ref b351), .val (.int vi), .val (.int vj), .val (.int (1 : Int32)), .val (.ref b427), .val (.int (2 : Int32))] [(.int (2 : Int32)), (.ref b427)])) rfl rfl (hb hby at_250)) ?_
      show Go _ _ _ _ _ _ _ T435 (mkF m 251 #[.val (.int ia), .val (.int ib), .val (.int ic), .val (.int id_), .val (.int sp), .val (.ref b349), .val (.ref b351), .val (.int vi), .val (.int vj), .val (.int (1 : Int32)), .val (.ref b427), .val (.int (2 : Int32))] [(.ref z2)])
      refine Go.step (fun _ k => XS.aload X435.here hx rfl (hb hby at_251) rfl rfl k) ?_
      show Go _ _ _ _ _ _ _ T435 (mkF m 253 #[.val (.int ia), .val (.int ib), .val (.int ic), .val (.int id_), .val (.int sp), .val (.ref b349), .val (.ref b351), .val (.int vi), .val (.int vj), .val (.int (1 : Int32)), .val (.ref b427), .val (.int (2 : Int32))] [(.ref b351), (.ref z2)])
      refine Go.step (fun _ k => XS.iload X435.here hx rfl (hb hby at_253) rfl k) ?_
      show Go _ _ _ _ _ _ _ T435 (mkF m 255 #[.val (.int ia), .val (.int ib), .val (.int ic), .val (.int id_), .val (.int sp), .val (.ref b349), .val (.ref b351), .val (.int vi), .val (.int vj), .val (.int (1 : Int32)), .val (.ref b427), .val (.int (2 : Int32))] [(.int (2 : Int32)), (.ref b351), (.ref z2)])
      have f457 : Arv Z h435 b351 k351 (.array .long) (18 : Int32) (xs.map Value.ref) .null := ((f429.ext E427).keep Kq435 (ninS (Ne.symm ne_b349_b351) (ninS ne_b351_b427 nin0)))
      obtain ⟨cl458, Ar458, q458, S458, M458, H458, G458⟩ := id (f457)
      have hin458 : ¬ ((2 : Int32) < 0 ∨ cl458.slots.size ≤ ((2 : Int32)).toNatClampNeg) := inb_of S458 ⟨by decide, by decide⟩
      have hat458 : cl458.slots[((2 : Int32)).toNatClampNeg]? = some (.ref z2) := H458.at hin458 hg2
      refine Go.step (X435.aaload hx (j := (2 : Int32)) (v := (.ref z2)) (by rw [e435]; exact Ar458.1) (State.isArrayOf_alike hZ.alike Ar458.2.1) rfl Ar458.2.2 hin458 hat458 (g := (mkF m 255 #[.val (.int ia), .val (.int ib), .val (.int ic), .val (.int id_), .val (.int sp), .val (.ref b349), .val (.ref b351), .val (.int vi), .val (.int vj), .val (.int (1 : Int32)), .val (.ref b427), .val (.int (2 : Int32))] [(.int (2 : Int32)), (.ref b351), (.ref z2)])) rfl rfl (hb hby at_255)) ?_
      show Go _ _ _ _ _ _ _ T435 (mkF m 256 #[.val (.int ia), .val (.int ib), .val (.int ic), .val (.int id_), .val (.int sp), .val (.ref b349), .val (.ref b351), .val (.int vi), .val (.int vj), .val (.int (1 : Int32)), .val (.ref b427), .val (.int (2 : Int32))] [(.ref z2), (.ref z2)])
      refine Go.step (fun _ k => Jvm.RoadKit.acmp (g := (mkF m 256 #[.val (.int ia), .val (.int ib), .val (.int ic), .val (.int id_), .val (.int sp), .val (.ref b349), .val (.ref b351), .val (.int vi), .val (.int vj), .val (.int (1 : Int32)), .val (.ref b427), .val (.int (2 : Int32))] [(.ref z2), (.ref z2)])) X435 hx rfl rfl rfl (pc0 := 256) (pc' := 259) (same := true) rfl (hb hby at_256) rfl (decide_eq_true rfl) (by decide) (by decide) k) ?_
      show Go _ _ _ _ _ _ _ T435 (mkF m 259 #[.val (.int ia), .val (.int ib), .val (.int ic), .val (.int id_), .val (.int sp), .val (.ref b349), .val (.ref b351), .val (.int vi), .val (.int vj), .val (.int (1 : Int32)), .val (.ref b427), .val (.int (2 : Int32))] [])
      refine Go.step (fun _ k => XS.iconst X435.here hx rfl (hb hby at_259) k) ?_
      show Go _ _ _ _ _ _ _ T435 (mkF m 260 #[.val (.int ia), .val (.int ib), .val (.int ic), .val (.int id_), .val (.int sp), .val (.ref b349), .val (.ref b351), .val (.int vi), .val (.int vj), .val (.int (1 : Int32)), .val (.ref b427), .val (.int (2 : Int32))] [(.int (1 : Int32))])
      refine Go.step (fun _ k => XS.goto X435.here hx rfl (pc0 := 260) (pc' := 264) rfl (hb hby at_260) (by decide) (by decide) k) ?_
      show Go _ _ _ _ _ _ _ T435 (mkF m 264 #[.val (.int ia), .val (.int ib), .val (.int ic), .val (.int id_), .val (.int sp), .val (.ref b349), .val (.ref b351), .val (.int vi), .val (.int vj), .val (.int (1 : Int32)), .val (.ref b427), .val (.int (2 : Int32))] [(.int (1 : Int32))])
      refine Go.step (fun _ k => XS.istore X435.here hx rfl (hb hby at_264) rfl (l' := #[.val (.int ia), .val (.int ib), .val (.int ic), .val (.int id_), .val (.int sp), .val (.ref b349), .val (.ref b351), .val (.int vi), .val (.int vj), .val (.int (1 : Int32)), .val (.ref b427), .val (.int (2 : Int32))]) rfl k) ?_
      show Go _ _ _ _ _ _ _ T435 (mkF m 266 #[.val (.int ia), .val (.int ib), .val (.int ic), .val (.int id_), .val (.int sp), .val (.ref b349), .val (.ref b351), .val (.int vi), .val (.int vj), .val (.int (1 : Int32)), .val (.ref b427), .val (.int (2 : Int32))] [])
      refine Go.step (fun _ k => XS.iload X435.here hx rfl (hb hby at_266) rfl k) ?_
      show Go _ _ _ _ _ _ _ T435 (mkF m 268 #[.val (.int ia), .val (.int ib), .val (.int ic), .val (.int id_), .val (.int sp), .val (.ref b349), .val (.ref b351), .val (.int vi), .val (.int vj), .val (.int (1 : Int32)), .val (.ref b427), .val (.int (2 : Int32))] [(.int (1 : Int32))])
      exact Go.retN X435 hx (t := .boolean) hret hlk (by simp) (hb hby at_268) e435 (by decide) (by decide) ⟨rfl, N435, trivial⟩
    · show Go _ _ _ _ _ _ _ T435 (mkF m 241 #[.val (.int ia), .val (.int ib), .val (.int ic), .val (.int id_), .val (.int sp), .val (.ref b349), .val (.ref b351), .val (.int vi), .val (.int vj), .val (.int (1 : Int32)), .val (.ref b427), .val (.int (3 : Int32))] [])
      refine Go.step (fun _ k => XS.iload X435.here hx rfl (hb hby at_241) rfl k) ?_
      show Go _ _ _ _ _ _ _ T435 (mkF m 243 #[.val (.int ia), .val (.int ib), .val (.int ic), .val (.int id_), .val (.int sp), .val (.ref b349), .val (.ref b351), .val (.int vi), .val (.int vj), .val (.int (1 : Int32)), .val (.ref b427), .val (.int (3 : Int32))] [(.int (1 : Int32))])
      have hc243_459 : ¬ ((1 : Int32) = (0 : Int32)) := (by decide)
      refine Go.step (fun _ k => XS.ifNo X435.here hx rfl (hb hby at_243) rfl ((if0 _ _).trans (feq hc243_459).1) k) ?_
      show Go _ _ _ _ _ _ _ T435 (mkF m 246 #[.val (.int ia), .val (.int ib), .val (.int ic), .val (.int id_), .val (.int sp), .val (.ref b349), .val (.ref b351), .val (.int vi), .val (.int vj), .val (.int (1 : Int32)), .val (.ref b427), .val (.int (3 : Int32))] [])
      refine Go.step (fun _ k => XS.aload X435.here hx rfl (hb hby at_246) rfl rfl k) ?_
      show Go _ _ _ _ _ _ _ T435 (mkF m 248 #[.val (.int ia), .val (.int ib), .val (.int ic), .val (.int id_), .val (.int sp), .val (.ref b349), .val (.ref b351), .val (.int vi), .val (.int vj), .val (.int (1 : Int32)), .val (.ref b427), .val (.int (3 : Int32))] [(.ref b427)])
      refine Go.step (fun _ k => XS.iload X435.here hx rfl (hb hby at_248) rfl k) ?_
      show Go _ _ _ _ _ _ _ T435 (mkF m 250 #[.val (.int ia), .val (.int ib), .val (.int ic), .val (.int id_), .val (.int sp), .val (.ref b349), .val (.ref b351), .val (.int vi), .val (.int vj), .val (.int (1 : Int32)), .val (.ref b427), .val (.int (3 : Int32))] [(.int (3 : Int32)), (.ref b427)])
      obtain ⟨cl460, Ar460, q460, S460, M460, H460, G460⟩ := id (Vg1_435)
      have hin460 : ¬ ((3 : Int32) < 0 ∨ cl460.slots.size ≤ ((3 : Int32)).toNatClampNeg) := inb_of S460 ⟨by decide, by decide⟩
      have hat460 : cl460.slots[((3 : Int32)).toNatClampNeg]? = some (.ref z3) := H460.at hin460 rfl
      refine Go.step (X435.aaload hx (j := (3 : Int32)) (v := (.ref z3)) (by rw [e435]; exact Ar460.1) (State.isArrayOf_alike hZ.alike Ar460.2.1) rfl Ar460.2.2 hin460 hat460 (g := (mkF m 250 #[.val (.int ia), .val (.int ib), .val (.int ic), .val (.int id_), .val (.int sp), .val (.ref b349), .val (.ref b351), .val (.int vi), .val (.int vj), .val (.int (1 : Int32)), .val (.ref b427), .val (.int (3 : Int32))] [(.int (3 : Int32)), (.ref b427)])) rfl rfl (hb hby at_250)) ?_
      show Go _ _ _ _ _ _ _ T435 (mkF m 251 #[.val (.int ia), .val (.int ib), .val (.int ic), .val (.int id_), .val (.int sp), .val (.ref b349), .val (.ref b351), .val (.int vi), .val (.int vj), .val (.int (1 : Int32)), .val (.ref b427), .val (.int (3 : Int32))] [(.ref z3)])
      refine Go.step (fun _ k => XS.aload X435.here hx rfl (hb hby at_251) rfl rfl k) ?_
      show Go _ _ _ _ _ _ _ T435 (mkF m 253 #[.val (.int ia), .val (.int ib), .val (.int ic), .val (.int id_), .val (.int sp), .val (.ref b349), .val (.ref b351), .val (.int vi), .val (.int vj), .val (.int (1 : Int32)), .val (.ref b427), .val (.int (3 : Int32))] [(.ref b351), (.ref z3)])
      refine Go.step (fun _ k => XS.iload X435.here hx rfl (hb hby at_253) rfl k) ?_
      show Go _ _ _ _ _ _ _ T435 (mkF m 255 #[.val (.int ia), .val (.int ib), .val (.int ic), .val (.int id_), .val (.int sp), .val (.ref b349), .val (.ref b351), .val (.int vi), .val (.int vj), .val (.int (1 : Int32)), .val (.ref b427), .val (.int (3 : Int32))] [(.int (3 : Int32)), (.ref b351), (.ref z3)])
      have f461 : Arv Z h435 b351 k351 (.array .long) (18 : Int32) (xs.map Value.ref) .null := ((f429.ext E427).keep Kq435 (ninS (Ne.symm ne_b349_b351) (ninS ne_b351_b427 nin0)))
      obtain ⟨cl462, Ar462, q462, S462, M462, H462, G462⟩ := id (f461)
      have hin462 : ¬ ((3 : Int32) < 0 ∨ cl462.slots.size ≤ ((3 : Int32)).toNatClampNeg) := inb_of S462 ⟨by decide, by decide⟩
      have hat462 : cl462.slots[((3 : Int32)).toNatClampNeg]? = some (.ref z3) := H462.at hin462 hg3
      refine Go.step (X435.aaload hx (j := (3 : Int32)) (v := (.ref z3)) (by rw [e435]; exact Ar462.1) (State.isArrayOf_alike hZ.alike Ar462.2.1) rfl Ar462.2.2 hin462 hat462 (g := (mkF m 255 #[.val (.int ia), .val (.int ib), .val (.int ic), .val (.int id_), .val (.int sp), .val (.ref b349), .val (.ref b351), .val (.int vi), .val (.int vj), .val (.int (1 : Int32)), .val (.ref b427), .val (.int (3 : Int32))] [(.int (3 : Int32)), (.ref b351), (.ref z3)])) rfl rfl (hb hby at_255)) ?_
      show Go _ _ _ _ _ _ _ T435 (mkF m 256 #[.val (.int ia), .val (.int ib), .val (.int ic), .val (.int id_), .val (.int sp), .val (.ref b349), .val (.ref b351), .val (.int vi), .val (.int vj), .val (.int (1 : Int32)), .val (.ref b427), .val (.int (3 : Int32))] [(.ref z3), (.ref z3)])
      refine Go.step (fun _ k => Jvm.RoadKit.acmp (g := (mkF m 256 #[.val (.int ia), .val (.int ib), .val (.int ic), .val (.int id_), .val (.int sp), .val (.ref b349), .val (.ref b351), .val (.int vi), .val (.int vj), .val (.int (1 : Int32)), .val (.ref b427), .val (.int (3 : Int32))] [(.ref z3), (.ref z3)])) X435 hx rfl rfl rfl (pc0 := 256) (pc' := 259) (same := true) rfl (hb hby at_256) rfl (decide_eq_true rfl) (by decide) (by decide) k) ?_
      show Go _ _ _ _ _ _ _ T435 (mkF m 259 #[.val (.int ia), .val (.int ib), .val (.int ic), .val (.int id_), .val (.int sp), .val (.ref b349), .val (.ref b351), .val (.int vi), .val (.int vj), .val (.int (1 : Int32)), .val (.ref b427), .val (.int (3 : Int32))] [])
      refine Go.step (fun _ k => XS.iconst X435.here hx rfl (hb hby at_259) k) ?_
      show Go _ _ _ _ _ _ _ T435 (mkF m 260 #[.val (.int ia), .val (.int ib), .val (.int ic), .val (.int id_), .val (.int sp), .val (.ref b349), .val (.ref b351), .val (.int vi), .val (.int vj), .val (.int (1 : Int32)), .val (.ref b427), .val (.int (3 : Int32))] [(.int (1 : Int32))])
      refine Go.step (fun _ k => XS.goto X435.here hx rfl (pc0 := 260) (pc' := 264) rfl (hb hby at_260) (by decide) (by decide) k) ?_
      show Go _ _ _ _ _ _ _ T435 (mkF m 264 #[.val (.int ia), .val (.int ib), .val (.int ic), .val (.int id_), .val (.int sp), .val (.ref b349), .val (.ref b351), .val (.int vi), .val (.int vj), .val (.int (1 : Int32)), .val (.ref b427), .val (.int (3 : Int32))] [(.int (1 : Int32))])
      refine Go.step (fun _ k => XS.istore X435.here hx rfl (hb hby at_264) rfl (l' := #[.val (.int ia), .val (.int ib), .val (.int ic), .val (.int id_), .val (.int sp), .val (.ref b349), .val (.ref b351), .val (.int vi), .val (.int vj), .val (.int (1 : Int32)), .val (.ref b427), .val (.int (3 : Int32))]) rfl k) ?_
      show Go _ _ _ _ _ _ _ T435 (mkF m 266 #[.val (.int ia), .val (.int ib), .val (.int ic), .val (.int id_), .val (.int sp), .val (.ref b349), .val (.ref b351), .val (.int vi), .val (.int vj), .val (.int (1 : Int32)), .val (.ref b427), .val (.int (3 : Int32))] [])
      refine Go.step (fun _ k => XS.iload X435.here hx rfl (hb hby at_266) rfl k) ?_
      show Go _ _ _ _ _ _ _ T435 (mkF m 268 #[.val (.int ia), .val (.int ib), .val (.int ic), .val (.int id_), .val (.int sp), .val (.ref b349), .val (.ref b351), .val (.int vi), .val (.int vj), .val (.int (1 : Int32)), .val (.ref b427), .val (.int (3 : Int32))] [(.int (1 : Int32))])
      exact Go.retN X435 hx (t := .boolean) hret hlk (by simp) (hb hby at_268) e435 (by decide) (by decide) ⟨rfl, N435, trivial⟩
  show Go _ _ _ _ _ _ _ T423 (mkF m 96 #[.val (.int ia), .val (.int ib), .val (.int ic), .val (.int id_), .val (.int sp), .val (.ref b349), .val (.ref b351), .val (.int vi), .val (.int vj), .unset, .unset, .unset] [])
  refine Go.step (fun _ k => XS.aload X423.here hx rfl (hb hby at_96) rfl rfl k) ?_
  show Go _ _ _ _ _ _ _ T423 (mkF m 98 #[.val (.int ia), .val (.int ib), .val (.int ic), .val (.int id_), .val (.int sp), .val (.ref b349), .val (.ref b351), .val (.int vi), .val (.int vj), .unset, .unset, .unset] [(.ref b351)])
  refine Go.step (fun _ k => XS.iload X423.here hx rfl (hb hby at_98) rfl k) ?_
  show Go _ _ _ _ _ _ _ T423 (mkF m 100 #[.val (.int ia), .val (.int ib), .val (.int ic), .val (.int id_), .val (.int sp), .val (.ref b349), .val (.ref b351), .val (.int vi), .val (.int vj), .unset, .unset, .unset] [(.int vi), (.ref b351)])
  obtain ⟨cl463, Ar463, q463, S463, M463, H463, G463⟩ := id (VgA)
  have hin463 : ¬ (vi < 0 ∨ cl463.slots.size ≤ (vi).toNatClampNeg) := inb_of S463 ⟨n_vi, m_vi⟩
  have hat463 : cl463.slots[(vi).toNatClampNeg]? = some (.ref x_vi) := H463.at hin463 g_vi
  refine Go.step (X423.aaload hx (j := vi) (v := (.ref x_vi)) (by rw [e423]; exact Ar463.1) (State.isArrayOf_alike hZ.alike Ar463.2.1) rfl Ar463.2.2 hin463 hat463 (g := (mkF m 100 #[.val (.int ia), .val (.int ib), .val (.int ic), .val (.int id_), .val (.int sp), .val (.ref b349), .val (.ref b351), .val (.int vi), .val (.int vj), .unset, .unset, .unset] [(.int vi), (.ref b351)])) rfl rfl (hb hby at_100)) ?_
  show Go _ _ _ _ _ _ _ T423 (mkF m 101 #[.val (.int ia), .val (.int ib), .val (.int ic), .val (.int id_), .val (.int sp), .val (.ref b349), .val (.ref b351), .val (.int vi), .val (.int vj), .unset, .unset, .unset] [(.ref x_vi)])
  refine Go.step (fun _ k => XS.ifnullNo X423.here hx rfl (hb hby at_101) rfl k) ?_
  show Go _ _ _ _ _ _ _ T423 (mkF m 104 #[.val (.int ia), .val (.int ib), .val (.int ic), .val (.int id_), .val (.int sp), .val (.ref b349), .val (.ref b351), .val (.int vi), .val (.int vj), .unset, .unset, .unset] [])
  refine Go.step (fun _ k => XS.aload X423.here hx rfl (hb hby at_104) rfl rfl k) ?_
  show Go _ _ _ _ _ _ _ T423 (mkF m 106 #[.val (.int ia), .val (.int ib), .val (.int ic), .val (.int id_), .val (.int sp), .val (.ref b349), .val (.ref b351), .val (.int vi), .val (.int vj), .unset, .unset, .unset] [(.ref b351)])
  refine Go.step (fun _ k => XS.iload X423.here hx rfl (hb hby at_106) rfl k) ?_
  show Go _ _ _ _ _ _ _ T423 (mkF m 108 #[.val (.int ia), .val (.int ib), .val (.int ic), .val (.int id_), .val (.int sp), .val (.ref b349), .val (.ref b351), .val (.int vi), .val (.int vj), .unset, .unset, .unset] [(.int vj), (.ref b351)])
  obtain ⟨cl464, Ar464, q464, S464, M464, H464, G464⟩ := id (VgA)
  have hin464 : ¬ (vj < 0 ∨ cl464.slots.size ≤ (vj).toNatClampNeg) := inb_of S464 ⟨n_vj, m_vj⟩
  have hat464 : cl464.slots[(vj).toNatClampNeg]? = some (.ref x_vj) := H464.at hin464 g_vj
  refine Go.step (X423.aaload hx (j := vj) (v := (.ref x_vj)) (by rw [e423]; exact Ar464.1) (State.isArrayOf_alike hZ.alike Ar464.2.1) rfl Ar464.2.2 hin464 hat464 (g := (mkF m 108 #[.val (.int ia), .val (.int ib), .val (.int ic), .val (.int id_), .val (.int sp), .val (.ref b349), .val (.ref b351), .val (.int vi), .val (.int vj), .unset, .unset, .unset] [(.int vj), (.ref b351)])) rfl rfl (hb hby at_108)) ?_
  show Go _ _ _ _ _ _ _ T423 (mkF m 109 #[.val (.int ia), .val (.int ib), .val (.int ic), .val (.int id_), .val (.int sp), .val (.ref b349), .val (.ref b351), .val (.int vi), .val (.int vj), .unset, .unset, .unset] [(.ref x_vj)])
  refine Go.step (fun _ k => XS.ifnullNo X423.here hx rfl (hb hby at_109) rfl k) ?_
  show Go _ _ _ _ _ _ _ T423 (mkF m 112 #[.val (.int ia), .val (.int ib), .val (.int ic), .val (.int id_), .val (.int sp), .val (.ref b349), .val (.ref b351), .val (.int vi), .val (.int vj), .unset, .unset, .unset] [])
  refine Go.step (fun _ k => XS.aload X423.here hx rfl (hb hby at_112) rfl rfl k) ?_
  show Go _ _ _ _ _ _ _ T423 (mkF m 114 #[.val (.int ia), .val (.int ib), .val (.int ic), .val (.int id_), .val (.int sp), .val (.ref b349), .val (.ref b351), .val (.int vi), .val (.int vj), .unset, .unset, .unset] [(.ref b351)])
  refine Go.step (fun _ k => XS.iload X423.here hx rfl (hb hby at_114) rfl k) ?_
  show Go _ _ _ _ _ _ _ T423 (mkF m 116 #[.val (.int ia), .val (.int ib), .val (.int ic), .val (.int id_), .val (.int sp), .val (.ref b349), .val (.ref b351), .val (.int vi), .val (.int vj), .unset, .unset, .unset] [(.int vi), (.ref b351)])
  obtain ⟨cl465, Ar465, q465, S465, M465, H465, G465⟩ := id (VgA)
  have hin465 : ¬ (vi < 0 ∨ cl465.slots.size ≤ (vi).toNatClampNeg) := inb_of S465 ⟨n_vi, m_vi⟩
  have hat465 : cl465.slots[(vi).toNatClampNeg]? = some (.ref x_vi) := H465.at hin465 g_vi
  refine Go.step (X423.aaload hx (j := vi) (v := (.ref x_vi)) (by rw [e423]; exact Ar465.1) (State.isArrayOf_alike hZ.alike Ar465.2.1) rfl Ar465.2.2 hin465 hat465 (g := (mkF m 116 #[.val (.int ia), .val (.int ib), .val (.int ic), .val (.int id_), .val (.int sp), .val (.ref b349), .val (.ref b351), .val (.int vi), .val (.int vj), .unset, .unset, .unset] [(.int vi), (.ref b351)])) rfl rfl (hb hby at_116)) ?_
  show Go _ _ _ _ _ _ _ T423 (mkF m 117 #[.val (.int ia), .val (.int ib), .val (.int ic), .val (.int id_), .val (.int sp), .val (.ref b349), .val (.ref b351), .val (.int vi), .val (.int vj), .unset, .unset, .unset] [(.ref x_vi)])
  obtain ⟨cl466, Ar466, -, S466, M466, -, -⟩ := id (Vx_vi)
  have al466 := X423.arraylength hx (by rw [e423]; exact Ar466.1) (State.isArrayOf_alike hZ.alike Ar466.2.1) (g := (mkF m 117 #[.val (.int ia), .val (.int ib), .val (.int ic), .val (.int id_), .val (.int sp), .val (.ref b349), .val (.ref b351), .val (.int vi), .val (.int vj), .unset, .unset, .unset] [(.ref x_vi)])) rfl rfl (hb hby at_117)
  rw [len_of S466 M466] at al466
  refine Go.step al466 ?_
  show Go _ _ _ _ _ _ _ T423 (mkF m 118 #[.val (.int ia), .val (.int ib), .val (.int ic), .val (.int id_), .val (.int sp), .val (.ref b349), .val (.ref b351), .val (.int vi), .val (.int vj), .unset, .unset, .unset] [(.int sp)])
  refine Go.step (fun _ k => XS.iload X423.here hx rfl (hb hby at_118) rfl k) ?_
  show Go _ _ _ _ _ _ _ T423 (mkF m 120 #[.val (.int ia), .val (.int ib), .val (.int ic), .val (.int id_), .val (.int sp), .val (.ref b349), .val (.ref b351), .val (.int vi), .val (.int vj), .unset, .unset, .unset] [(.int sp), (.int sp)])
  have hc120_467 : sp = sp := rfl
  refine Go.step (fun _ k => XS.icmpNo X423.here hx rfl (hb hby at_120) rfl (teq hc120_467).2 k) ?_
  show Go _ _ _ _ _ _ _ T423 (mkF m 123 #[.val (.int ia), .val (.int ib), .val (.int ic), .val (.int id_), .val (.int sp), .val (.ref b349), .val (.ref b351), .val (.int vi), .val (.int vj), .unset, .unset, .unset] [])
  refine Go.step (fun _ k => XS.aload X423.here hx rfl (hb hby at_123) rfl rfl k) ?_
  show Go _ _ _ _ _ _ _ T423 (mkF m 125 #[.val (.int ia), .val (.int ib), .val (.int ic), .val (.int id_), .val (.int sp), .val (.ref b349), .val (.ref b351), .val (.int vi), .val (.int vj), .unset, .unset, .unset] [(.ref b351)])
  refine Go.step (fun _ k => XS.iload X423.here hx rfl (hb hby at_125) rfl k) ?_
  show Go _ _ _ _ _ _ _ T423 (mkF m 127 #[.val (.int ia), .val (.int ib), .val (.int ic), .val (.int id_), .val (.int sp), .val (.ref b349), .val (.ref b351), .val (.int vi), .val (.int vj), .unset, .unset, .unset] [(.int vj), (.ref b351)])
  obtain ⟨cl468, Ar468, q468, S468, M468, H468, G468⟩ := id (VgA)
  have hin468 : ¬ (vj < 0 ∨ cl468.slots.size ≤ (vj).toNatClampNeg) := inb_of S468 ⟨n_vj, m_vj⟩
  have hat468 : cl468.slots[(vj).toNatClampNeg]? = some (.ref x_vj) := H468.at hin468 g_vj
  refine Go.step (X423.aaload hx (j := vj) (v := (.ref x_vj)) (by rw [e423]; exact Ar468.1) (State.isArrayOf_alike hZ.alike Ar468.2.1) rfl Ar468.2.2 hin468 hat468 (g := (mkF m 127 #[.val (.int ia), .val (.int ib), .val (.int ic), .val (.int id_), .val (.int sp), .val (.ref b349), .val (.ref b351), .val (.int vi), .val (.int vj), .unset, .unset, .unset] [(.int vj), (.ref b351)])) rfl rfl (hb hby at_127)) ?_
  show Go _ _ _ _ _ _ _ T423 (mkF m 128 #[.val (.int ia), .val (.int ib), .val (.int ic), .val (.int id_), .val (.int sp), .val (.ref b349), .val (.ref b351), .val (.int vi), .val (.int vj), .unset, .unset, .unset] [(.ref x_vj)])
  obtain ⟨cl469, Ar469, -, S469, M469, -, -⟩ := id (Vx_vj)
  have al469 := X423.arraylength hx (by rw [e423]; exact Ar469.1) (State.isArrayOf_alike hZ.alike Ar469.2.1) (g := (mkF m 128 #[.val (.int ia), .val (.int ib), .val (.int ic), .val (.int id_), .val (.int sp), .val (.ref b349), .val (.ref b351), .val (.int vi), .val (.int vj), .unset, .unset, .unset] [(.ref x_vj)])) rfl rfl (hb hby at_128)
  rw [len_of S469 M469] at al469
  refine Go.step al469 ?_
  show Go _ _ _ _ _ _ _ T423 (mkF m 129 #[.val (.int ia), .val (.int ib), .val (.int ic), .val (.int id_), .val (.int sp), .val (.ref b349), .val (.ref b351), .val (.int vi), .val (.int vj), .unset, .unset, .unset] [(.int sp)])
  refine Go.step (fun _ k => XS.iload X423.here hx rfl (hb hby at_129) rfl k) ?_
  show Go _ _ _ _ _ _ _ T423 (mkF m 131 #[.val (.int ia), .val (.int ib), .val (.int ic), .val (.int id_), .val (.int sp), .val (.ref b349), .val (.ref b351), .val (.int vi), .val (.int vj), .unset, .unset, .unset] [(.int sp), (.int sp)])
  have hc131_470 : sp = sp := rfl
  refine Go.step (fun _ k => XS.icmpNo X423.here hx rfl (hb hby at_131) rfl (teq hc131_470).2 k) ?_
  show Go _ _ _ _ _ _ _ T423 (mkF m 134 #[.val (.int ia), .val (.int ib), .val (.int ic), .val (.int id_), .val (.int sp), .val (.ref b349), .val (.ref b351), .val (.int vi), .val (.int vj), .unset, .unset, .unset] [])
  refine Go.step (fun _ k => XS.iconst X423.here hx rfl (hb hby at_134) k) ?_
  show Go _ _ _ _ _ _ _ T423 (mkF m 135 #[.val (.int ia), .val (.int ib), .val (.int ic), .val (.int id_), .val (.int sp), .val (.ref b349), .val (.ref b351), .val (.int vi), .val (.int vj), .unset, .unset, .unset] [(.int (1 : Int32))])
  refine Go.step (fun _ k => XS.goto X423.here hx rfl (pc0 := 135) (pc' := 139) rfl (hb hby at_135) (by decide) (by decide) k) ?_
  show Go _ _ _ _ _ _ _ T423 (mkF m 139 #[.val (.int ia), .val (.int ib), .val (.int ic), .val (.int id_), .val (.int sp), .val (.ref b349), .val (.ref b351), .val (.int vi), .val (.int vj), .unset, .unset, .unset] [(.int (1 : Int32))])
  refine Go.step (fun _ k => XS.istore X423.here hx rfl (hb hby at_139) rfl (l' := #[.val (.int ia), .val (.int ib), .val (.int ic), .val (.int id_), .val (.int sp), .val (.ref b349), .val (.ref b351), .val (.int vi), .val (.int vj), .val (.int (1 : Int32)), .unset, .unset]) rfl k) ?_
  show Go _ _ _ _ _ _ _ T423 (mkF m 141 #[.val (.int ia), .val (.int ib), .val (.int ic), .val (.int id_), .val (.int sp), .val (.ref b349), .val (.ref b351), .val (.int vi), .val (.int vj), .val (.int (1 : Int32)), .unset, .unset] [])
  refine Go.step (fun _ k => XS.iload X423.here hx rfl (hb hby at_141) rfl k) ?_
  show Go _ _ _ _ _ _ _ T423 (mkF m 143 #[.val (.int ia), .val (.int ib), .val (.int ic), .val (.int id_), .val (.int sp), .val (.ref b349), .val (.ref b351), .val (.int vi), .val (.int vj), .val (.int (1 : Int32)), .unset, .unset] [(.int (1 : Int32))])
  have hc143_471 : ¬ ((1 : Int32) = (0 : Int32)) := (by decide)
  refine Go.step (fun _ k => XS.ifNo X423.here hx rfl (hb hby at_143) rfl ((if0 _ _).trans (feq hc143_471).1) k) ?_
  show Go _ _ _ _ _ _ _ T423 (mkF m 146 #[.val (.int ia), .val (.int ib), .val (.int ic), .val (.int id_), .val (.int sp), .val (.ref b349), .val (.ref b351), .val (.int vi), .val (.int vj), .val (.int (1 : Int32)), .unset, .unset] [])
  refine Go.step (fun _ k => XS.iload X423.here hx rfl (hb hby at_146) rfl k) ?_
  show Go _ _ _ _ _ _ _ T423 (mkF m 148 #[.val (.int ia), .val (.int ib), .val (.int ic), .val (.int id_), .val (.int sp), .val (.ref b349), .val (.ref b351), .val (.int vi), .val (.int vj), .val (.int (1 : Int32)), .unset, .unset] [(.int sp)])
  by_cases hc148_472 : (0 : Int32) < sp
  · refine Go.step (fun _ k => XS.ifNo X423.here hx rfl (hb hby at_148) rfl ((if0 _ _).trans (tlt hc148_472).2.2.2) k) ?_
    show Go _ _ _ _ _ _ _ T423 (mkF m 151 #[.val (.int ia), .val (.int ib), .val (.int ic), .val (.int id_), .val (.int sp), .val (.ref b349), .val (.ref b351), .val (.int vi), .val (.int vj), .val (.int (1 : Int32)), .unset, .unset] [])
    refine Go.step (fun _ k => XS.aload X423.here hx rfl (hb hby at_151) rfl rfl k) ?_
    show Go _ _ _ _ _ _ _ T423 (mkF m 153 #[.val (.int ia), .val (.int ib), .val (.int ic), .val (.int id_), .val (.int sp), .val (.ref b349), .val (.ref b351), .val (.int vi), .val (.int vj), .val (.int (1 : Int32)), .unset, .unset] [(.ref b351)])
    refine Go.step (fun _ k => XS.iload X423.here hx rfl (hb hby at_153) rfl k) ?_
    show Go _ _ _ _ _ _ _ T423 (mkF m 155 #[.val (.int ia), .val (.int ib), .val (.int ic), .val (.int id_), .val (.int sp), .val (.ref b349), .val (.ref b351), .val (.int vi), .val (.int vj), .val (.int (1 : Int32)), .unset, .unset] [(.int vi), (.ref b351)])
    obtain ⟨cl473, Ar473, q473, S473, M473, H473, G473⟩ := id (VgA)
    have hin473 : ¬ (vi < 0 ∨ cl473.slots.size ≤ (vi).toNatClampNeg) := inb_of S473 ⟨n_vi, m_vi⟩
    have hat473 : cl473.slots[(vi).toNatClampNeg]? = some (.ref x_vi) := H473.at hin473 g_vi
    refine Go.step (X423.aaload hx (j := vi) (v := (.ref x_vi)) (by rw [e423]; exact Ar473.1) (State.isArrayOf_alike hZ.alike Ar473.2.1) rfl Ar473.2.2 hin473 hat473 (g := (mkF m 155 #[.val (.int ia), .val (.int ib), .val (.int ic), .val (.int id_), .val (.int sp), .val (.ref b349), .val (.ref b351), .val (.int vi), .val (.int vj), .val (.int (1 : Int32)), .unset, .unset] [(.int vi), (.ref b351)])) rfl rfl (hb hby at_155)) ?_
    show Go _ _ _ _ _ _ _ T423 (mkF m 156 #[.val (.int ia), .val (.int ib), .val (.int ic), .val (.int id_), .val (.int sp), .val (.ref b349), .val (.ref b351), .val (.int vi), .val (.int vj), .val (.int (1 : Int32)), .unset, .unset] [(.ref x_vi)])
    refine Go.step (fun _ k => XS.iload X423.here hx rfl (hb hby at_156) rfl k) ?_
    show Go _ _ _ _ _ _ _ T423 (mkF m 158 #[.val (.int ia), .val (.int ib), .val (.int ic), .val (.int id_), .val (.int sp), .val (.ref b349), .val (.ref b351), .val (.int vi), .val (.int vj), .val (.int (1 : Int32)), .unset, .unset] [(.int sp), (.ref x_vi)])
    refine Go.step (fun _ k => XS.iconst X423.here hx rfl (hb hby at_158) k) ?_
    show Go _ _ _ _ _ _ _ T423 (mkF m 159 #[.val (.int ia), .val (.int ib), .val (.int ic), .val (.int id_), .val (.int sp), .val (.ref b349), .val (.ref b351), .val (.int vi), .val (.int vj), .val (.int (1 : Int32)), .unset, .unset] [(.int (1 : Int32)), (.int sp), (.ref x_vi)])
    refine Go.step (fun _ k => XS.isub X423.here hx rfl (hb hby at_159) rfl k) ?_
    show Go _ _ _ _ _ _ _ T423 (mkF m 160 #[.val (.int ia), .val (.int ib), .val (.int ic), .val (.int id_), .val (.int sp), .val (.ref b349), .val (.ref b351), .val (.int vi), .val (.int vj), .val (.int (1 : Int32)), .unset, .unset] [(.int (sp - (1 : Int32))), (.ref x_vi)])
    obtain ⟨cl474, Ar474, q474, S474, M474, H474, G474⟩ := id (Vx_vi)
    have hin474 : ¬ ((sp - (1 : Int32)) < 0 ∨ cl474.slots.size ≤ ((sp - (1 : Int32))).toNatClampNeg) := inb_of S474 ⟨(by have := rng32 sp; have : (1 : Int32).toInt = 1 := rfl; have := rng32 (sp - (1 : Int32)); have := c_isub sp (1 : Int32); have : (0 : Int32).toInt = 0 := rfl; simp only [Int32.lt_iff_toInt_lt, Int32.le_iff_toInt_le, ← Int32.toInt_inj, Int64.lt_iff_toInt_lt, Int64.le_iff_toInt_le, ← Int64.toInt_inj] at hc148_472 ⊢; omega), (by have := rng32 sp; have : (1 : Int32).toInt = 1 := rfl; have := rng32 (sp - (1 : Int32)); have := c_isub sp (1 : Int32); have : (0 : Int32).toInt = 0 := rfl; simp only [Int32.lt_iff_toInt_lt, Int32.le_iff_toInt_le, ← Int32.toInt_inj, Int64.lt_iff_toInt_lt, Int64.le_iff_toInt_le, ← Int64.toInt_inj] at hc148_472 ⊢; omega)⟩
    have hat474 : cl474.slots[((sp - (1 : Int32))).toNatClampNeg]? = some (.long (0 : Int64)) := H474.at hin474 rfl
    refine Go.step (X423.laload hx (j := (sp - (1 : Int32))) (v := (.long (0 : Int64))) (by rw [e423]; exact Ar474.1) (State.isArrayOf_alike hZ.alike Ar474.2.1) Ar474.2.2 hin474 hat474 (g := (mkF m 160 #[.val (.int ia), .val (.int ib), .val (.int ic), .val (.int id_), .val (.int sp), .val (.ref b349), .val (.ref b351), .val (.int vi), .val (.int vj), .val (.int (1 : Int32)), .unset, .unset] [(.int (sp - (1 : Int32))), (.ref x_vi)])) rfl rfl (hb hby at_160)) ?_
    show Go _ _ _ _ _ _ _ T423 (mkF m 161 #[.val (.int ia), .val (.int ib), .val (.int ic), .val (.int id_), .val (.int sp), .val (.ref b349), .val (.ref b351), .val (.int vi), .val (.int vj), .val (.int (1 : Int32)), .unset, .unset] [(.long (0 : Int64))])
    refine Go.step (fun _ k => XS.lconst X423.here hx rfl (hb hby at_161) k) ?_
    show Go _ _ _ _ _ _ _ T423 (mkF m 162 #[.val (.int ia), .val (.int ib), .val (.int ic), .val (.int id_), .val (.int sp), .val (.ref b349), .val (.ref b351), .val (.int vi), .val (.int vj), .val (.int (1 : Int32)), .unset, .unset] [(.long (0 : Int64)), (.long (0 : Int64))])
    refine Go.step (fun _ k => XS.lcmp X423.here hx rfl (hb hby at_162) rfl k) ?_
    show Go _ _ _ _ _ _ _ T423 (mkF m 163 #[.val (.int ia), .val (.int ib), .val (.int ic), .val (.int id_), .val (.int sp), .val (.ref b349), .val (.ref b351), .val (.int vi), .val (.int vj), .val (.int (1 : Int32)), .unset, .unset] [(.int (lcmpW (0 : Int64) (0 : Int64)))])
    have hc163_475 : (0 : Int64) = (0 : Int64) := (by decide)
    refine Go.step (fun _ k => XS.ifNo X423.here hx rfl (hb hby at_163) rfl ((if0 _ _).trans (teq ((lw_eq _ _).mpr hc163_475)).2) k) ?_
    show Go _ _ _ _ _ _ _ T423 (mkF m 166 #[.val (.int ia), .val (.int ib), .val (.int ic), .val (.int id_), .val (.int sp), .val (.ref b349), .val (.ref b351), .val (.int vi), .val (.int vj), .val (.int (1 : Int32)), .unset, .unset] [])
    refine Go.step (fun _ k => XS.aload X423.here hx rfl (hb hby at_166) rfl rfl k) ?_
    show Go _ _ _ _ _ _ _ T423 (mkF m 168 #[.val (.int ia), .val (.int ib), .val (.int ic), .val (.int id_), .val (.int sp), .val (.ref b349), .val (.ref b351), .val (.int vi), .val (.int vj), .val (.int (1 : Int32)), .unset, .unset] [(.ref b351)])
    refine Go.step (fun _ k => XS.iload X423.here hx rfl (hb hby at_168) rfl k) ?_
    show Go _ _ _ _ _ _ _ T423 (mkF m 170 #[.val (.int ia), .val (.int ib), .val (.int ic), .val (.int id_), .val (.int sp), .val (.ref b349), .val (.ref b351), .val (.int vi), .val (.int vj), .val (.int (1 : Int32)), .unset, .unset] [(.int vj), (.ref b351)])
    obtain ⟨cl476, Ar476, q476, S476, M476, H476, G476⟩ := id (VgA)
    have hin476 : ¬ (vj < 0 ∨ cl476.slots.size ≤ (vj).toNatClampNeg) := inb_of S476 ⟨n_vj, m_vj⟩
    have hat476 : cl476.slots[(vj).toNatClampNeg]? = some (.ref x_vj) := H476.at hin476 g_vj
    refine Go.step (X423.aaload hx (j := vj) (v := (.ref x_vj)) (by rw [e423]; exact Ar476.1) (State.isArrayOf_alike hZ.alike Ar476.2.1) rfl Ar476.2.2 hin476 hat476 (g := (mkF m 170 #[.val (.int ia), .val (.int ib), .val (.int ic), .val (.int id_), .val (.int sp), .val (.ref b349), .val (.ref b351), .val (.int vi), .val (.int vj), .val (.int (1 : Int32)), .unset, .unset] [(.int vj), (.ref b351)])) rfl rfl (hb hby at_170)) ?_
    show Go _ _ _ _ _ _ _ T423 (mkF m 171 #[.val (.int ia), .val (.int ib), .val (.int ic), .val (.int id_), .val (.int sp), .val (.ref b349), .val (.ref b351), .val (.int vi), .val (.int vj), .val (.int (1 : Int32)), .unset, .unset] [(.ref x_vj)])
    refine Go.step (fun _ k => XS.iconst X423.here hx rfl (hb hby at_171) k) ?_
    show Go _ _ _ _ _ _ _ T423 (mkF m 172 #[.val (.int ia), .val (.int ib), .val (.int ic), .val (.int id_), .val (.int sp), .val (.ref b349), .val (.ref b351), .val (.int vi), .val (.int vj), .val (.int (1 : Int32)), .unset, .unset] [(.int (0 : Int32)), (.ref x_vj)])
    obtain ⟨cl477, Ar477, q477, S477, M477, H477, G477⟩ := id (Vx_vj)
    have hin477 : ¬ ((0 : Int32) < 0 ∨ cl477.slots.size ≤ ((0 : Int32)).toNatClampNeg) := inb_of S477 ⟨(by have : (0 : Int32).toInt = 0 := rfl; have := rng32 sp; simp only [Int32.lt_iff_toInt_lt, Int32.le_iff_toInt_le, ← Int32.toInt_inj, Int64.lt_iff_toInt_lt, Int64.le_iff_toInt_le, ← Int64.toInt_inj] at hc148_472 ⊢; omega), (by have : (0 : Int32).toInt = 0 := rfl; have := rng32 sp; simp only [Int32.lt_iff_toInt_lt, Int32.le_iff_toInt_le, ← Int32.toInt_inj, Int64.lt_iff_toInt_lt, Int64.le_iff_toInt_le, ← Int64.toInt_inj] at hc148_472 ⊢; omega)⟩
    have hat477 : cl477.slots[((0 : Int32)).toNatClampNeg]? = some (.long (0 : Int64)) := H477.at hin477 rfl
    refine Go.step (X423.laload hx (j := (0 : Int32)) (v := (.long (0 : Int64))) (by rw [e423]; exact Ar477.1) (State.isArrayOf_alike hZ.alike Ar477.2.1) Ar477.2.2 hin477 hat477 (g := (mkF m 172 #[.val (.int ia), .val (.int ib), .val (.int ic), .val (.int id_), .val (.int sp), .val (.ref b349), .val (.ref b351), .val (.int vi), .val (.int vj), .val (.int (1 : Int32)), .unset, .unset] [(.int (0 : Int32)), (.ref x_vj)])) rfl rfl (hb hby at_172)) ?_
    show Go _ _ _ _ _ _ _ T423 (mkF m 173 #[.val (.int ia), .val (.int ib), .val (.int ic), .val (.int id_), .val (.int sp), .val (.ref b349), .val (.ref b351), .val (.int vi), .val (.int vj), .val (.int (1 : Int32)), .unset, .unset] [(.long (0 : Int64))])
    refine Go.step (fun _ k => XS.lconst X423.here hx rfl (hb hby at_173) k) ?_
    show Go _ _ _ _ _ _ _ T423 (mkF m 174 #[.val (.int ia), .val (.int ib), .val (.int ic), .val (.int id_), .val (.int sp), .val (.ref b349), .val (.ref b351), .val (.int vi), .val (.int vj), .val (.int (1 : Int32)), .unset, .unset] [(.long (0 : Int64)), (.long (0 : Int64))])
    refine Go.step (fun _ k => XS.lcmp X423.here hx rfl (hb hby at_174) rfl k) ?_
    show Go _ _ _ _ _ _ _ T423 (mkF m 175 #[.val (.int ia), .val (.int ib), .val (.int ic), .val (.int id_), .val (.int sp), .val (.ref b349), .val (.ref b351), .val (.int vi), .val (.int vj), .val (.int (1 : Int32)), .unset, .unset] [(.int (lcmpW (0 : Int64) (0 : Int64)))])
    have hc175_478 : (0 : Int64) = (0 : Int64) := (by decide)
    refine Go.step (fun _ k => XS.ifNo X423.here hx rfl (hb hby at_175) rfl ((if0 _ _).trans (teq ((lw_eq _ _).mpr hc175_478)).2) k) ?_
    show Go _ _ _ _ _ _ _ T423 (mkF m 178 #[.val (.int ia), .val (.int ib), .val (.int ic), .val (.int id_), .val (.int sp), .val (.ref b349), .val (.ref b351), .val (.int vi), .val (.int vj), .val (.int (1 : Int32)), .unset, .unset] [])
    refine Go.step (fun _ k => XS.iconst X423.here hx rfl (hb hby at_178) k) ?_
    show Go _ _ _ _ _ _ _ T423 (mkF m 179 #[.val (.int ia), .val (.int ib), .val (.int ic), .val (.int id_), .val (.int sp), .val (.ref b349), .val (.ref b351), .val (.int vi), .val (.int vj), .val (.int (1 : Int32)), .unset, .unset] [(.int (1 : Int32))])
    refine Go.step (fun _ k => XS.goto X423.here hx rfl (pc0 := 179) (pc' := 183) rfl (hb hby at_179) (by decide) (by decide) k) ?_
    show Go _ _ _ _ _ _ _ T423 (mkF m 183 #[.val (.int ia), .val (.int ib), .val (.int ic), .val (.int id_), .val (.int sp), .val (.ref b349), .val (.ref b351), .val (.int vi), .val (.int vj), .val (.int (1 : Int32)), .unset, .unset] [(.int (1 : Int32))])
    refine Go.step (fun _ k => XS.istore X423.here hx rfl (hb hby at_183) rfl (l' := #[.val (.int ia), .val (.int ib), .val (.int ic), .val (.int id_), .val (.int sp), .val (.ref b349), .val (.ref b351), .val (.int vi), .val (.int vj), .val (.int (1 : Int32)), .unset, .unset]) rfl k) ?_
    show Go _ _ _ _ _ _ _ T423 (mkF m 185 #[.val (.int ia), .val (.int ib), .val (.int ic), .val (.int id_), .val (.int sp), .val (.ref b349), .val (.ref b351), .val (.int vi), .val (.int vj), .val (.int (1 : Int32)), .unset, .unset] [])
    refine Go.step (fun _ k => XS.iload X423.here hx rfl (hb hby at_185) rfl k) ?_
    show Go _ _ _ _ _ _ _ T423 (mkF m 187 #[.val (.int ia), .val (.int ib), .val (.int ic), .val (.int id_), .val (.int sp), .val (.ref b349), .val (.ref b351), .val (.int vi), .val (.int vj), .val (.int (1 : Int32)), .unset, .unset] [(.int vi)])
    refine Go.step (fun _ k => XS.iload X423.here hx rfl (hb hby at_187) rfl k) ?_
    show Go _ _ _ _ _ _ _ T423 (mkF m 189 #[.val (.int ia), .val (.int ib), .val (.int ic), .val (.int id_), .val (.int sp), .val (.ref b349), .val (.ref b351), .val (.int vi), .val (.int vj), .val (.int (1 : Int32)), .unset, .unset] [(.int vj), (.int vi)])
    by_cases hc189_479 : vi = vj
    · refine Go.step (fun _ k => XS.icmpYes X423.here hx rfl (pc0 := 189) (pc' := 217) rfl (hb hby at_189) rfl (teq hc189_479).1 (by decide) (by decide) k) ?_
      show Go _ _ _ _ _ _ _ T423 (mkF m 217 #[.val (.int ia), .val (.int ib), .val (.int ic), .val (.int id_), .val (.int sp), .val (.ref b349), .val (.ref b351), .val (.int vi), .val (.int vj), .val (.int (1 : Int32)), .unset, .unset] [])
      have f480 : Exa Z h423 b349 "com/example/termvault/termvault/MarkArrays" := ((f399.keep Kq398).wr W423)
      have f481 : Fld Z h423 b349 "com/example/termvault/termvault/MarkArrays" "positions" "[[J" (.ref ap_350) := ((((Fc1_370.keep Kq380 nin0).other W396 (Or.inl ne_b349_b351)).keep Kq398 nin0).other W423 (Or.inl ne_b349_b351))
      have f482 : Fld Z h423 b349 "com/example/termvault/termvault/MarkArrays" "positionsTaken" "I" (.int (16 : Int32)) := ((f400.keep Kq398 nin0).other W423 (Or.inl ne_b349_b351))
      have f483 : Fld Z h423 b349 "com/example/termvault/termvault/MarkArrays" "span" "I" (.int sp) := ((f401.keep Kq398 nin0).other W423 (Or.inl ne_b349_b351))
      have f484 : Fld Z h423 b349 "com/example/termvault/termvault/MarkArrays" "counts" "[[I" (.ref ac_350) := ((((Fq1_370.keep Kq380 nin0).other W396 (Or.inl ne_b349_b351)).keep Kq398 nin0).other W423 (Or.inl ne_b349_b351))
      have f485 : Fld Z h423 b349 "com/example/termvault/termvault/MarkArrays" "countsTaken" "I" (.int (0 : Int32)) := ((((Fo1_370.keep Kq380 nin0).other W396 (Or.inl ne_b349_b351)).keep Kq398 nin0).other W423 (Or.inl ne_b349_b351))
      have f486 : Exa Z h423 z0 "[J" := ((f405.keep Kq398).wr W423)
      have f487 : Exa Z h423 z1 "[J" := ((f406.keep Kq398).wr W423)
      have f488 : Exa Z h423 z2 "[J" := ((f413.keep Kq398).wr W423)
      have f489 : Exa Z h423 z3 "[J" := ((f414.keep Kq398).wr W423)
      exact J T423 h423 _  (X423.more (by decide) (by decide)) e423 N423 Z423 f480 f481 f482 f483 f484 f485 VpA VgA f486 f487 f488 f489
    · refine Go.step (fun _ k => XS.icmpNo X423.here hx rfl (hb hby at_189) rfl (feq hc189_479).1 k) ?_
      show Go _ _ _ _ _ _ _ T423 (mkF m 192 #[.val (.int ia), .val (.int ib), .val (.int ic), .val (.int id_), .val (.int sp), .val (.ref b349), .val (.ref b351), .val (.int vi), .val (.int vj), .val (.int (1 : Int32)), .unset, .unset] [])
      refine Go.step (fun _ k => XS.iload X423.here hx rfl (hb hby at_192) rfl k) ?_
      show Go _ _ _ _ _ _ _ T423 (mkF m 194 #[.val (.int ia), .val (.int ib), .val (.int ic), .val (.int id_), .val (.int sp), .val (.ref b349), .val (.ref b351), .val (.int vi), .val (.int vj), .val (.int (1 : Int32)), .unset, .unset] [(.int (1 : Int32))])
      have hc194_490 : ¬ ((1 : Int32) = (0 : Int32)) := (by decide)
      refine Go.step (fun _ k => XS.ifNo X423.here hx rfl (hb hby at_194) rfl ((if0 _ _).trans (feq hc194_490).1) k) ?_
      show Go _ _ _ _ _ _ _ T423 (mkF m 197 #[.val (.int ia), .val (.int ib), .val (.int ic), .val (.int id_), .val (.int sp), .val (.ref b349), .val (.ref b351), .val (.int vi), .val (.int vj), .val (.int (1 : Int32)), .unset, .unset] [])
      refine Go.step (fun _ k => XS.aload X423.here hx rfl (hb hby at_197) rfl rfl k) ?_
      show Go _ _ _ _ _ _ _ T423 (mkF m 199 #[.val (.int ia), .val (.int ib), .val (.int ic), .val (.int id_), .val (.int sp), .val (.ref b349), .val (.ref b351), .val (.int vi), .val (.int vj), .val (.int (1 : Int32)), .unset, .unset] [(.ref b351)])
      refine Go.step (fun _ k => XS.iload X423.here hx rfl (hb hby at_199) rfl k) ?_
      show Go _ _ _ _ _ _ _ T423 (mkF m 201 #[.val (.int ia), .val (.int ib), .val (.int ic), .val (.int id_), .val (.int sp), .val (.ref b349), .val (.ref b351), .val (.int vi), .val (.int vj), .val (.int (1 : Int32)), .unset, .unset] [(.int vi), (.ref b351)])
      obtain ⟨cl491, Ar491, q491, S491, M491, H491, G491⟩ := id (VgA)
      have hin491 : ¬ (vi < 0 ∨ cl491.slots.size ≤ (vi).toNatClampNeg) := inb_of S491 ⟨n_vi, m_vi⟩
      have hat491 : cl491.slots[(vi).toNatClampNeg]? = some (.ref x_vi) := H491.at hin491 g_vi
      refine Go.step (X423.aaload hx (j := vi) (v := (.ref x_vi)) (by rw [e423]; exact Ar491.1) (State.isArrayOf_alike hZ.alike Ar491.2.1) rfl Ar491.2.2 hin491 hat491 (g := (mkF m 201 #[.val (.int ia), .val (.int ib), .val (.int ic), .val (.int id_), .val (.int sp), .val (.ref b349), .val (.ref b351), .val (.int vi), .val (.int vj), .val (.int (1 : Int32)), .unset, .unset] [(.int vi), (.ref b351)])) rfl rfl (hb hby at_201)) ?_
      show Go _ _ _ _ _ _ _ T423 (mkF m 202 #[.val (.int ia), .val (.int ib), .val (.int ic), .val (.int id_), .val (.int sp), .val (.ref b349), .val (.ref b351), .val (.int vi), .val (.int vj), .val (.int (1 : Int32)), .unset, .unset] [(.ref x_vi)])
      refine Go.step (fun _ k => XS.aload X423.here hx rfl (hb hby at_202) rfl rfl k) ?_
      show Go _ _ _ _ _ _ _ T423 (mkF m 204 #[.val (.int ia), .val (.int ib), .val (.int ic), .val (.int id_), .val (.int sp), .val (.ref b349), .val (.ref b351), .val (.int vi), .val (.int vj), .val (.int (1 : Int32)), .unset, .unset] [(.ref b351), (.ref x_vi)])
      refine Go.step (fun _ k => XS.iload X423.here hx rfl (hb hby at_204) rfl k) ?_
      show Go _ _ _ _ _ _ _ T423 (mkF m 206 #[.val (.int ia), .val (.int ib), .val (.int ic), .val (.int id_), .val (.int sp), .val (.ref b349), .val (.ref b351), .val (.int vi), .val (.int vj), .val (.int (1 : Int32)), .unset, .unset] [(.int vj), (.ref b351), (.ref x_vi)])
      obtain ⟨cl492, Ar492, q492, S492, M492, H492, G492⟩ := id (VgA)
      have hin492 : ¬ (vj < 0 ∨ cl492.slots.size ≤ (vj).toNatClampNeg) := inb_of S492 ⟨n_vj, m_vj⟩
      have hat492 : cl492.slots[(vj).toNatClampNeg]? = some (.ref x_vj) := H492.at hin492 g_vj
      refine Go.step (X423.aaload hx (j := vj) (v := (.ref x_vj)) (by rw [e423]; exact Ar492.1) (State.isArrayOf_alike hZ.alike Ar492.2.1) rfl Ar492.2.2 hin492 hat492 (g := (mkF m 206 #[.val (.int ia), .val (.int ib), .val (.int ic), .val (.int id_), .val (.int sp), .val (.ref b349), .val (.ref b351), .val (.int vi), .val (.int vj), .val (.int (1 : Int32)), .unset, .unset] [(.int vj), (.ref b351), (.ref x_vi)])) rfl rfl (hb hby at_206)) ?_
      show Go _ _ _ _ _ _ _ T423 (mkF m 207 #[.val (.int ia), .val (.int ib), .val (.int ic), .val (.int id_), .val (.int sp), .val (.ref b349), .val (.ref b351), .val (.int vi), .val (.int vj), .val (.int (1 : Int32)), .unset, .unset] [(.ref x_vj), (.ref x_vi)])
      refine Go.step (fun _ k => Jvm.RoadKit.acmp (g := (mkF m 207 #[.val (.int ia), .val (.int ib), .val (.int ic), .val (.int id_), .val (.int sp), .val (.ref b349), .val (.ref b351), .val (.int vi), .val (.int vj), .val (.int (1 : Int32)), .unset, .unset] [(.ref x_vj), (.ref x_vi)])) X423 hx rfl rfl rfl (pc0 := 207) (pc' := 210) (same := false) rfl (hb hby at_207) rfl (decide_eq_false fun q => own_inj PsA.1 e_vi e_vj (own_tne n_vi n_vj hc189_479) (Value.ref.inj q)) (by decide) (by decide) k) ?_
      show Go _ _ _ _ _ _ _ T423 (mkF m 210 #[.val (.int ia), .val (.int ib), .val (.int ic), .val (.int id_), .val (.int sp), .val (.ref b349), .val (.ref b351), .val (.int vi), .val (.int vj), .val (.int (1 : Int32)), .unset, .unset] [])
      refine Go.step (fun _ k => XS.iconst X423.here hx rfl (hb hby at_210) k) ?_
      show Go _ _ _ _ _ _ _ T423 (mkF m 211 #[.val (.int ia), .val (.int ib), .val (.int ic), .val (.int id_), .val (.int sp), .val (.ref b349), .val (.ref b351), .val (.int vi), .val (.int vj), .val (.int (1 : Int32)), .unset, .unset] [(.int (1 : Int32))])
      refine Go.step (fun _ k => XS.goto X423.here hx rfl (pc0 := 211) (pc' := 215) rfl (hb hby at_211) (by decide) (by decide) k) ?_
      show Go _ _ _ _ _ _ _ T423 (mkF m 215 #[.val (.int ia), .val (.int ib), .val (.int ic), .val (.int id_), .val (.int sp), .val (.ref b349), .val (.ref b351), .val (.int vi), .val (.int vj), .val (.int (1 : Int32)), .unset, .unset] [(.int (1 : Int32))])
      refine Go.step (fun _ k => XS.istore X423.here hx rfl (hb hby at_215) rfl (l' := #[.val (.int ia), .val (.int ib), .val (.int ic), .val (.int id_), .val (.int sp), .val (.ref b349), .val (.ref b351), .val (.int vi), .val (.int vj), .val (.int (1 : Int32)), .unset, .unset]) rfl k) ?_
      show Go _ _ _ _ _ _ _ T423 (mkF m 217 #[.val (.int ia), .val (.int ib), .val (.int ic), .val (.int id_), .val (.int sp), .val (.ref b349), .val (.ref b351), .val (.int vi), .val (.int vj), .val (.int (1 : Int32)), .unset, .unset] [])
      have f493 : Exa Z h423 b349 "com/example/termvault/termvault/MarkArrays" := ((f399.keep Kq398).wr W423)
      have f494 : Fld Z h423 b349 "com/example/termvault/termvault/MarkArrays" "positions" "[[J" (.ref ap_350) := ((((Fc1_370.keep Kq380 nin0).other W396 (Or.inl ne_b349_b351)).keep Kq398 nin0).other W423 (Or.inl ne_b349_b351))
      have f495 : Fld Z h423 b349 "com/example/termvault/termvault/MarkArrays" "positionsTaken" "I" (.int (16 : Int32)) := ((f400.keep Kq398 nin0).other W423 (Or.inl ne_b349_b351))
      have f496 : Fld Z h423 b349 "com/example/termvault/termvault/MarkArrays" "span" "I" (.int sp) := ((f401.keep Kq398 nin0).other W423 (Or.inl ne_b349_b351))
      have f497 : Fld Z h423 b349 "com/example/termvault/termvault/MarkArrays" "counts" "[[I" (.ref ac_350) := ((((Fq1_370.keep Kq380 nin0).other W396 (Or.inl ne_b349_b351)).keep Kq398 nin0).other W423 (Or.inl ne_b349_b351))
      have f498 : Fld Z h423 b349 "com/example/termvault/termvault/MarkArrays" "countsTaken" "I" (.int (0 : Int32)) := ((((Fo1_370.keep Kq380 nin0).other W396 (Or.inl ne_b349_b351)).keep Kq398 nin0).other W423 (Or.inl ne_b349_b351))
      have f499 : Exa Z h423 z0 "[J" := ((f405.keep Kq398).wr W423)
      have f500 : Exa Z h423 z1 "[J" := ((f406.keep Kq398).wr W423)
      have f501 : Exa Z h423 z2 "[J" := ((f413.keep Kq398).wr W423)
      have f502 : Exa Z h423 z3 "[J" := ((f414.keep Kq398).wr W423)
      exact J T423 h423 _  (X423.more (by decide) (by decide)) e423 N423 Z423 f493 f494 f495 f496 f497 f498 VpA VgA f499 f500 f501 f502
  · refine Go.step (fun _ k => XS.ifYes X423.here hx rfl (pc0 := 148) (pc' := 185) rfl (hb hby at_148) rfl ((if0 _ _).trans (flt hc148_472).2.2.2) (by decide) (by decide) k) ?_
    show Go _ _ _ _ _ _ _ T423 (mkF m 185 #[.val (.int ia), .val (.int ib), .val (.int ic), .val (.int id_), .val (.int sp), .val (.ref b349), .val (.ref b351), .val (.int vi), .val (.int vj), .val (.int (1 : Int32)), .unset, .unset] [])
    refine Go.step (fun _ k => XS.iload X423.here hx rfl (hb hby at_185) rfl k) ?_
    show Go _ _ _ _ _ _ _ T423 (mkF m 187 #[.val (.int ia), .val (.int ib), .val (.int ic), .val (.int id_), .val (.int sp), .val (.ref b349), .val (.ref b351), .val (.int vi), .val (.int vj), .val (.int (1 : Int32)), .unset, .unset] [(.int vi)])
    refine Go.step (fun _ k => XS.iload X423.here hx rfl (hb hby at_187) rfl k) ?_
    show Go _ _ _ _ _ _ _ T423 (mkF m 189 #[.val (.int ia), .val (.int ib), .val (.int ic), .val (.int id_), .val (.int sp), .val (.ref b349), .val (.ref b351), .val (.int vi), .val (.int vj), .val (.int (1 : Int32)), .unset, .unset] [(.int vj), (.int vi)])
    by_cases hc189_503 : vi = vj
    · refine Go.step (fun _ k => XS.icmpYes X423.here hx rfl (pc0 := 189) (pc' := 217) rfl (hb hby at_189) rfl (teq hc189_503).1 (by decide) (by decide) k) ?_
      show Go _ _ _ _ _ _ _ T423 (mkF m 217 #[.val (.int ia), .val (.int ib), .val (.int ic), .val (.int id_), .val (.int sp), .val (.ref b349), .val (.ref b351), .val (.int vi), .val (.int vj), .val (.int (1 : Int32)), .unset, .unset] [])
      have f504 : Exa Z h423 b349 "com/example/termvault/termvault/MarkArrays" := ((f399.keep Kq398).wr W423)
      have f505 : Fld Z h423 b349 "com/example/termvault/termvault/MarkArrays" "positions" "[[J" (.ref ap_350) := ((((Fc1_370.keep Kq380 nin0).other W396 (Or.inl ne_b349_b351)).keep Kq398 nin0).other W423 (Or.inl ne_b349_b351))
      have f506 : Fld Z h423 b349 "com/example/termvault/termvault/MarkArrays" "positionsTaken" "I" (.int (16 : Int32)) := ((f400.keep Kq398 nin0).other W423 (Or.inl ne_b349_b351))
      have f507 : Fld Z h423 b349 "com/example/termvault/termvault/MarkArrays" "span" "I" (.int sp) := ((f401.keep Kq398 nin0).other W423 (Or.inl ne_b349_b351))
      have f508 : Fld Z h423 b349 "com/example/termvault/termvault/MarkArrays" "counts" "[[I" (.ref ac_350) := ((((Fq1_370.keep Kq380 nin0).other W396 (Or.inl ne_b349_b351)).keep Kq398 nin0).other W423 (Or.inl ne_b349_b351))
      have f509 : Fld Z h423 b349 "com/example/termvault/termvault/MarkArrays" "countsTaken" "I" (.int (0 : Int32)) := ((((Fo1_370.keep Kq380 nin0).other W396 (Or.inl ne_b349_b351)).keep Kq398 nin0).other W423 (Or.inl ne_b349_b351))
      have f510 : Exa Z h423 z0 "[J" := ((f405.keep Kq398).wr W423)
      have f511 : Exa Z h423 z1 "[J" := ((f406.keep Kq398).wr W423)
      have f512 : Exa Z h423 z2 "[J" := ((f413.keep Kq398).wr W423)
      have f513 : Exa Z h423 z3 "[J" := ((f414.keep Kq398).wr W423)
      exact J T423 h423 _  (X423.more (by decide) (by decide)) e423 N423 Z423 f504 f505 f506 f507 f508 f509 VpA VgA f510 f511 f512 f513
    · refine Go.step (fun _ k => XS.icmpNo X423.here hx rfl (hb hby at_189) rfl (feq hc189_503).1 k) ?_
      show Go _ _ _ _ _ _ _ T423 (mkF m 192 #[.val (.int ia), .val (.int ib), .val (.int ic), .val (.int id_), .val (.int sp), .val (.ref b349), .val (.ref b351), .val (.int vi), .val (.int vj), .val (.int (1 : Int32)), .unset, .unset] [])
      refine Go.step (fun _ k => XS.iload X423.here hx rfl (hb hby at_192) rfl k) ?_
      show Go _ _ _ _ _ _ _ T423 (mkF m 194 #[.val (.int ia), .val (.int ib), .val (.int ic), .val (.int id_), .val (.int sp), .val (.ref b349), .val (.ref b351), .val (.int vi), .val (.int vj), .val (.int (1 : Int32)), .unset, .unset] [(.int (1 : Int32))])
      have hc194_514 : ¬ ((1 : Int32) = (0 : Int32)) := (by decide)
      refine Go.step (fun _ k => XS.ifNo X423.here hx rfl (hb hby at_194) rfl ((if0 _ _).trans (feq hc194_514).1) k) ?_
      show Go _ _ _ _ _ _ _ T423 (mkF m 197 #[.val (.int ia), .val (.int ib), .val (.int ic), .val (.int id_), .val (.int sp), .val (.ref b349), .val (.ref b351), .val (.int vi), .val (.int vj), .val (.int (1 : Int32)), .unset, .unset] [])
      refine Go.step (fun _ k => XS.aload X423.here hx rfl (hb hby at_197) rfl rfl k) ?_
      show Go _ _ _ _ _ _ _ T423 (mkF m 199 #[.val (.int ia), .val (.int ib), .val (.int ic), .val (.int id_), .val (.int sp), .val (.ref b349), .val (.ref b351), .val (.int vi), .val (.int vj), .val (.int (1 : Int32)), .unset, .unset] [(.ref b351)])
      refine Go.step (fun _ k => XS.iload X423.here hx rfl (hb hby at_199) rfl k) ?_
      show Go _ _ _ _ _ _ _ T423 (mkF m 201 #[.val (.int ia), .val (.int ib), .val (.int ic), .val (.int id_), .val (.int sp), .val (.ref b349), .val (.ref b351), .val (.int vi), .val (.int vj), .val (.int (1 : Int32)), .unset, .unset] [(.int vi), (.ref b351)])
      obtain ⟨cl515, Ar515, q515, S515, M515, H515, G515⟩ := id (VgA)
      have hin515 : ¬ (vi < 0 ∨ cl515.slots.size ≤ (vi).toNatClampNeg) := inb_of S515 ⟨n_vi, m_vi⟩
      have hat515 : cl515.slots[(vi).toNatClampNeg]? = some (.ref x_vi) := H515.at hin515 g_vi
      refine Go.step (X423.aaload hx (j := vi) (v := (.ref x_vi)) (by rw [e423]; exact Ar515.1) (State.isArrayOf_alike hZ.alike Ar515.2.1) rfl Ar515.2.2 hin515 hat515 (g := (mkF m 201 #[.val (.int ia), .val (.int ib), .val (.int ic), .val (.int id_), .val (.int sp), .val (.ref b349), .val (.ref b351), .val (.int vi), .val (.int vj), .val (.int (1 : Int32)), .unset, .unset] [(.int vi), (.ref b351)])) rfl rfl (hb hby at_201)) ?_
      show Go _ _ _ _ _ _ _ T423 (mkF m 202 #[.val (.int ia), .val (.int ib), .val (.int ic), .val (.int id_), .val (.int sp), .val (.ref b349), .val (.ref b351), .val (.int vi), .val (.int vj), .val (.int (1 : Int32)), .unset, .unset] [(.ref x_vi)])
      refine Go.step (fun _ k => XS.aload X423.here hx rfl (hb hby at_202) rfl rfl k) ?_
      show Go _ _ _ _ _ _ _ T423 (mkF m 204 #[.val (.int ia), .val (.int ib), .val (.int ic), .val (.int id_), .val (.int sp), .val (.ref b349), .val (.ref b351), .val (.int vi), .val (.int vj), .val (.int (1 : Int32)), .unset, .unset] [(.ref b351), (.ref x_vi)])
      refine Go.step (fun _ k => XS.iload X423.here hx rfl (hb hby at_204) rfl k) ?_
      show Go _ _ _ _ _ _ _ T423 (mkF m 206 #[.val (.int ia), .val (.int ib), .val (.int ic), .val (.int id_), .val (.int sp), .val (.ref b349), .val (.ref b351), .val (.int vi), .val (.int vj), .val (.int (1 : Int32)), .unset, .unset] [(.int vj), (.ref b351), (.ref x_vi)])
      obtain ⟨cl516, Ar516, q516, S516, M516, H516, G516⟩ := id (VgA)
      have hin516 : ¬ (vj < 0 ∨ cl516.slots.size ≤ (vj).toNatClampNeg) := inb_of S516 ⟨n_vj, m_vj⟩
      have hat516 : cl516.slots[(vj).toNatClampNeg]? = some (.ref x_vj) := H516.at hin516 g_vj
      refine Go.step (X423.aaload hx (j := vj) (v := (.ref x_vj)) (by rw [e423]; exact Ar516.1) (State.isArrayOf_alike hZ.alike Ar516.2.1) rfl Ar516.2.2 hin516 hat516 (g := (mkF m 206 #[.val (.int ia), .val (.int ib), .val (.int ic), .val (.int id_), .val (.int sp), .val (.ref b349), .val (.ref b351), .val (.int vi), .val (.int vj), .val (.int (1 : Int32)), .unset, .unset] [(.int vj), (.ref b351), (.ref x_vi)])) rfl rfl (hb hby at_206)) ?_
      show Go _ _ _ _ _ _ _ T423 (mkF m 207 #[.val (.int ia), .val (.int ib), .val (.int ic), .val (.int id_), .val (.int sp), .val (.ref b349), .val (.ref b351), .val (.int vi), .val (.int vj), .val (.int (1 : Int32)), .unset, .unset] [(.ref x_vj), (.ref x_vi)])
      refine Go.step (fun _ k => Jvm.RoadKit.acmp (g := (mkF m 207 #[.val (.int ia), .val (.int ib), .val (.int ic), .val (.int id_), .val (.int sp), .val (.ref b349), .val (.ref b351), .val (.int vi), .val (.int vj), .val (.int (1 : Int32)), .unset, .unset] [(.ref x_vj), (.ref x_vi)])) X423 hx rfl rfl rfl (pc0 := 207) (pc' := 210) (same := false) rfl (hb hby at_207) rfl (decide_eq_false fun q => own_inj PsA.1 e_vi e_vj (own_tne n_vi n_vj hc189_503) (Value.ref.inj q)) (by decide) (by decide) k) ?_
      show Go _ _ _ _ _ _ _ T423 (mkF m 210 #[.val (.int ia), .val (.int ib), .val (.int ic), .val (.int id_), .val (.int sp), .val (.ref b349), .val (.ref b351), .val (.int vi), .val (.int vj), .val (.int (1 : Int32)), .unset, .unset] [])
      refine Go.step (fun _ k => XS.iconst X423.here hx rfl (hb hby at_210) k) ?_
      show Go _ _ _ _ _ _ _ T423 (mkF m 211 #[.val (.int ia), .val (.int ib), .val (.int ic), .val (.int id_), .val (.int sp), .val (.ref b349), .val (.ref b351), .val (.int vi), .val (.int vj), .val (.int (1 : Int32)), .unset, .unset] [(.int (1 : Int32))])
      refine Go.step (fun _ k => XS.goto X423.here hx rfl (pc0 := 211) (pc' := 215) rfl (hb hby at_211) (by decide) (by decide) k) ?_
      show Go _ _ _ _ _ _ _ T423 (mkF m 215 #[.val (.int ia), .val (.int ib), .val (.int ic), .val (.int id_), .val (.int sp), .val (.ref b349), .val (.ref b351), .val (.int vi), .val (.int vj), .val (.int (1 : Int32)), .unset, .unset] [(.int (1 : Int32))])
      refine Go.step (fun _ k => XS.istore X423.here hx rfl (hb hby at_215) rfl (l' := #[.val (.int ia), .val (.int ib), .val (.int ic), .val (.int id_), .val (.int sp), .val (.ref b349), .val (.ref b351), .val (.int vi), .val (.int vj), .val (.int (1 : Int32)), .unset, .unset]) rfl k) ?_
      show Go _ _ _ _ _ _ _ T423 (mkF m 217 #[.val (.int ia), .val (.int ib), .val (.int ic), .val (.int id_), .val (.int sp), .val (.ref b349), .val (.ref b351), .val (.int vi), .val (.int vj), .val (.int (1 : Int32)), .unset, .unset] [])
      have f517 : Exa Z h423 b349 "com/example/termvault/termvault/MarkArrays" := ((f399.keep Kq398).wr W423)
      have f518 : Fld Z h423 b349 "com/example/termvault/termvault/MarkArrays" "positions" "[[J" (.ref ap_350) := ((((Fc1_370.keep Kq380 nin0).other W396 (Or.inl ne_b349_b351)).keep Kq398 nin0).other W423 (Or.inl ne_b349_b351))
      have f519 : Fld Z h423 b349 "com/example/termvault/termvault/MarkArrays" "positionsTaken" "I" (.int (16 : Int32)) := ((f400.keep Kq398 nin0).other W423 (Or.inl ne_b349_b351))
      have f520 : Fld Z h423 b349 "com/example/termvault/termvault/MarkArrays" "span" "I" (.int sp) := ((f401.keep Kq398 nin0).other W423 (Or.inl ne_b349_b351))
      have f521 : Fld Z h423 b349 "com/example/termvault/termvault/MarkArrays" "counts" "[[I" (.ref ac_350) := ((((Fq1_370.keep Kq380 nin0).other W396 (Or.inl ne_b349_b351)).keep Kq398 nin0).other W423 (Or.inl ne_b349_b351))
      have f522 : Fld Z h423 b349 "com/example/termvault/termvault/MarkArrays" "countsTaken" "I" (.int (0 : Int32)) := ((((Fo1_370.keep Kq380 nin0).other W396 (Or.inl ne_b349_b351)).keep Kq398 nin0).other W423 (Or.inl ne_b349_b351))
      have f523 : Exa Z h423 z0 "[J" := ((f405.keep Kq398).wr W423)
      have f524 : Exa Z h423 z1 "[J" := ((f406.keep Kq398).wr W423)
      have f525 : Exa Z h423 z2 "[J" := ((f413.keep Kq398).wr W423)
      have f526 : Exa Z h423 z3 "[J" := ((f414.keep Kq398).wr W423)
      exact J T423 h423 _  (X423.more (by decide) (by decide)) e423 N423 Z423 f517 f518 f519 f520 f521 f522 VpA VgA f523 f524 f525 f526
set_option maxRecDepth 65536 in
set_option maxHeartbeats 40000000 in
theorem comes_1 {Post : Tables → Env → Array Value → State → Outcome → State → Prop} (hpost : ∀ tb e args s v u, (limb_1_1.after args s (.returned v) u = true ∧ limb_1_2.after args s (.returned v) u = true ∧ True) → FrameEnd s (.returned v) u (Jvm.fieldLocs frame_1_writes args s ++ Jvm.arrayLocs frame_1_arrays args s ++ Jvm.staticLocs frame_1_statics s) 56 448 → Post tb e args s (.returned v) u) :
    ArmFor flags0 classFile x code maxLocals ret World_1 tables_1 room_1 Calls_1 rest_1 Pre_1 Post := by
  intro l hfl _ _ p e ha hc hk s m args below hf hA hF happ hP
  obtain ⟨hcalls, hrest, hpre⟩ := hP
  obtain ⟨-, -, -, hnamed, -, -, -, hat⟩ := (Spec.applies_iff hf).mp happ
  obtain ⟨hg, hn⟩ := and_e (Cond.before_iff.mp (show (Jvm.Cond.and given_1 narrow_1).before args s = true from hpre))
  obtain ⟨gg1, gg2⟩ := and_e hg
  obtain ⟨gg3, gg4⟩ := and_e gg2
  obtain ⟨gg5, gg6⟩ := and_e gg4
  obtain ⟨gg7, gg8⟩ := and_e gg6
  obtain ⟨w0, w1, w2, w3, rfl⟩ : ∃ w0 w1 w2 w3 : Value, args = #[w0, w1, w2, w3] := by
    have hs : args.size = 4 := by simpa [Cond.value, given_1] using gg1
    obtain ⟨L⟩ := args
    match L, hs with
    | [w0, w1, w2, w3], _ => exact ⟨w0, w1, w2, w3, rfl⟩
  have hw := fun d (hd : d ∈ tables_1) => atoms_spec (ws := Jvm.Cond.code x code maxLocals ret :: tables_1) hat d (List.mem_cons_of_mem _ hd)
  have hfit : Fit s := fun {y c} hc i hi => by
    obtain ⟨ha, rfl⟩ := Array.getElem?_eq_some_iff.mp hc
    have q := List.all_eq_true.mp ((Array.all_eq_true_iff_forall_mem.mp hF) _ (Array.getElem_mem ha)) i (List.mem_range.mpr hi)
    simpa [Array.getElem?_eq_getElem hi] using q
  obtain ⟨ia, ei0⟩ := is_v gg3
  obtain rfl : w0 = (.int ia) := Option.some.inj ei0
  obtain ⟨ib, ei1⟩ := is_v gg5
  obtain rfl : w1 = (.int ib) := Option.some.inj ei1
  obtain ⟨ic, ei2⟩ := is_v gg7
  obtain rfl : w2 = (.int ic) := Option.some.inj ei2
  obtain ⟨id_, ei3⟩ := is_v gg8
  obtain rfl : w3 = (.int id_) := Option.some.inj ei3
  obtain ⟨n, o, h1, h2, h3, _, L, rfl, ⟨rfl, N, -⟩, hq⟩ := rm0 l s _ hw tables_1 ia ib ic id_ s.heap s.heap.size (Nat.le_refl _)  p e ha hc hk s m _ below hf ((Spec.applies_iff_loose hf).mp happ).1 ⟨rfl, State.Warmed39.refl s, rfl⟩ trivial
  refine ⟨n, _, h1, h2, h3, hpost _ _ _ _ _ _ ⟨Cond.after_iff.mpr rfl, Cond.after_iff.mpr (eq_i res_at (Term.int_eval (1)) rfl), trivial⟩ ⟨hq.1, hq.2.1, (hq.2.2.sift fun y hy => Or.inr (N y hy)).mono (by decide) (by decide)⟩⟩
theorem main_1_1 : Claimed_1_1 := comes_1 fun _ _ _ _ _ _ h hF => ⟨h.1, hF⟩
theorem main_1_2 : Claimed_1_2 := comes_1 fun _ _ _ _ _ _ h hF => ⟨h.2.1, hF⟩
end Jvm.Pilot.@@N@@
namespace Jvm.Pilot.@@N@@
open Jvm Jvm.ClassFile Sem Op Lib Jvm.Free Jvm.Stand Jvm.Pilot.@@N@@.Jvm.D
/-! MADE BY PROGRAM (witnessworld.py) out of the Statement's table words and the real class files: 11 classes; the members and pool entries that the words name. The judged class is class 1, her method 2. -/
namespace start1
open Jvm.ClassFile
def u (s : String) : CpInfo := .utf8 (stringToUtf16 s)
/-- a pool by its gaps: so many unusable entries, then the entry; so many at the end -/
def gap : Nat → List CpInfo → List CpInfo
  | 0, r => r
  | n + 1, r => .unusable :: gap n r
def poolList (es : List (Nat × CpInfo)) (last : Nat) : List CpInfo := es.foldr (fun e r => gap e.1 (e.2 :: r)) (gap last [])
def pool (es : List (Nat × CpInfo)) (last : Nat) : Array CpInfo := ⟨poolList es last⟩
def fileOf (pool : Array CpInfo) (this : Nat) (attrs : Array Attribute := #[]) (ms : Array MethodInfo := #[]) (fl : Nat := 33) (sup : Nat := 0) (ifs : Array Nat := #[]) (fds : Array FieldInfo := #[]) : ClassFile where
  minorVersion := 0
  majorVersion := 65
  constantPool := pool
  accessFlags := fl
  thisClass := this
  superClass := sup
  interfaces := ifs
  fields := fds
  methods := ms
  attributes := attrs
def plain (name : String) (sup : Option ClassId) : Class where
  name := name
  kind := .ordinary
  loader := none
  accessFlags := 33
  super := sup
  interfaces := #[]
  cf := none
  fields := #[]
  methods := #[]
  instanceTypes := #[]
  staticTypes := #[]
  resolved := #[]
  callSites := []
  init := .initialized
  statics := none
  mirror := none

def pool0 : Array CpInfo := pool [(5, u "<init>"), (0, u "()V"), (1, .class_ 10), (1, u "java/lang/Object")] 113

def k0c0 : Code := { maxStack := 0, maxLocals := 1, code := object_method_1_code, exceptionTable := #[], attributes := #[] }
def k0m0 : Method := { name := "<init>", desc := "()V", sig := { parameters := [], returnType := none }, accessFlags := 1, code := some k0c0 }
/-- java/lang/Object -/
def k0 : Class := { plain "java/lang/Object" none with
  accessFlags := 33
  interfaces := #[]
  cf := some (fileOf pool0 8 #[] #[{ accessFlags := 1, nameIndex := 5, descriptorIndex := 6, attributes := #[] }] 33 0 #[] #[])
  fields := #[]
  methods := #[k0m0]
  instanceTypes := #[]
  staticTypes := #[]
  resolved := Array.replicate 124 none
  statics := none }

def pool1 : Array CpInfo := pool [(2, .class_ 4), (1, u "java/lang/Object"), (0, u "<init>"), (0, u "()V"), (0, .methodref 8 9), (0, .class_ 10), (0, .nameAndType 11 12), (0, u "com/example/termvault/termvault/MarkArrays"), (0, u "positions"), (0, u "()[J"), (0, .methodref 8 14), (0, .nameAndType 5 15), (0, u "(I)V"), (0, .class_ 17), (0, u "[J"), (0, .methodref 19 20), (0, .class_ 21), (0, .nameAndType 22 23), (0, u "com/example/termvault/termvault/MarkArraysPositionsPinLaw"), (0, u "four"), (0, u "(Lcom/example/termvault/termvault/MarkArrays;[[JI)V"), (0, .integer 2147483647), (0, .methodref 8 26), (0, .nameAndType 27 6), (0, u "restart"), (2, u "law"), (0, u "(IIII)Z")] 5

def k1m0 : Method := { name := "<init>", desc := "()V", sig := { parameters := [], returnType := none }, accessFlags := 1, code := none }
def k1c1 : Code := { maxStack := 3, maxLocals := 3, code := method_2_code, exceptionTable := #[], attributes := #[] }
def k1m1 : Method := { name := "four", desc := "(Lcom/example/termvault/termvault/MarkArrays;[[JI)V", sig := { parameters := [(.object "com/example/termvault/termvault/MarkArrays"), (.array (.array .long)), .int], returnType := none }, accessFlags := 10, code := some k1c1 }
def k1c2 : Code := { maxStack := 4, maxLocals := 12, code := code, exceptionTable := #[], attributes := #[] }
def k1m2 : Method := { name := "law", desc := "(IIII)Z", sig := { parameters := [.int, .int, .int, .int], returnType := some .boolean }, accessFlags := 9, code := some k1c2 }
/-- com/example/termvault/termvault/MarkArraysPositionsPinLaw -/
def k1 : Class := { plain "com/example/termvault/termvault/MarkArraysPositionsPinLaw" (some 0) with
  accessFlags := 49
  interfaces := #[]
  cf := some (fileOf pool1 19 #[] #[{ accessFlags := 1, nameIndex := 5, descriptorIndex := 6, attributes := #[] }, { accessFlags := 10, nameIndex := 22, descriptorIndex := 23, attributes := #[] }, { accessFlags := 9, nameIndex := 30, descriptorIndex := 31, attributes := #[] }] 49 2 #[] #[])
  fields := #[]
  methods := #[k1m0, k1m1, k1m2]
  instanceTypes := #[]
  staticTypes := #[]
  resolved := Array.replicate 37 none
  statics := none }

def pool2 : Array CpInfo := pool [(1, .methodref 2 3), (0, .class_ 4), (0, .nameAndType 5 6), (0, u "java/lang/Object"), (0, u "<init>"), (0, u "()V"), (0, .class_ 8), (0, u "com/example/termvault/termvault/MarkArrays"), (0, .class_ 10), (0, u "[I"), (0, .fieldref 7 12), (0, .nameAndType 13 14), (0, u "counts"), (0, u "[[I"), (0, .class_ 16), (0, u "[J"), (0, .fieldref 7 18), (0, .nameAndType 19 20), (0, u "positions"), (0, u "[[J"), (0, .fieldref 7 22), (0, .nameAndType 23 24), (0, u "span"), (0, u "I"), (0, .fieldref 7 26), (0, .nameAndType 27 24), (0, u "countsTaken"), (0, .fieldref 7 29), (0, .nameAndType 30 24), (0, u "positionsTaken"), (0, u "MOST_KEPT"), (2, u "(I)V"), (5, u "()[J"), (0, u "restart")] 2

def k2c0 : Code := { maxStack := 2, maxLocals := 2, code := prog_85_method_1_code, exceptionTable := #[], attributes := #[] }
def k2m0 : Method := { name := "<init>", desc := "(I)V", sig := { parameters := [.int], returnType := none }, accessFlags := 0, code := some k2c0 }
def k2c1 : Code := { maxStack := 3, maxLocals := 1, code := prog_85_method_4_code, exceptionTable := #[], attributes := #[] }
def k2m1 : Method := { name := "positions", desc := "()[J", sig := { parameters := [], returnType := some (.array .long) }, accessFlags := 0, code := some k2c1 }
def k2c2 : Code := { maxStack := 2, maxLocals := 1, code := prog_85_method_5_code, exceptionTable := #[], attributes := #[] }
def k2m2 : Method := { name := "restart", desc := "()V", sig := { parameters := [], returnType := none }, accessFlags := 0, code := some k2c2 }
/-- com/example/termvault/termvault/MarkArrays -/
def k2 : Class := { plain "com/example/termvault/termvault/MarkArrays" (some 0) with
  accessFlags := 48
  interfaces := #[]
  cf := some (fileOf pool2 7 #[] #[{ accessFlags := 0, nameIndex := 5, descriptorIndex := 34, attributes := #[] }, { accessFlags := 0, nameIndex := 19, descriptorIndex := 40, attributes := #[] }, { accessFlags := 0, nameIndex := 41, descriptorIndex := 6, attributes := #[] }] 48 2 #[] #[{ accessFlags := 26, nameIndex := 31, descriptorIndex := 24, attributes := #[] }, { accessFlags := 18, nameIndex := 23, descriptorIndex := 24, attributes := #[] }, { accessFlags := 18, nameIndex := 13, descriptorIndex := 14, attributes := #[] }, { accessFlags := 18, nameIndex := 19, descriptorIndex := 20, attributes := #[] }, { accessFlags := 2, nameIndex := 27, descriptorIndex := 24, attributes := #[] }, { accessFlags := 2, nameIndex := 30, descriptorIndex := 24, attributes := #[] }])
  fields := #[{ name := "MOST_KEPT", type := .int, accessFlags := 26, slot := 0, constantValue := 0 }, { name := "span", type := .int, accessFlags := 18, slot := 0, constantValue := 0 }, { name := "counts", type := (.array (.array .int)), accessFlags := 18, slot := 1, constantValue := 0 }, { name := "positions", type := (.array (.array .long)), accessFlags := 18, slot := 2, constantValue := 0 }, { name := "countsTaken", type := .int, accessFlags := 2, slot := 3, constantValue := 0 }, { name := "positionsTaken", type := .int, accessFlags := 2, slot := 4, constantValue := 0 }]
  methods := #[k2m0, k2m1, k2m2]
  instanceTypes := #[.int, (.array (.array .int)), (.array (.array .long)), .int, .int]
  staticTypes := #[.int]
  resolved := Array.replicate 44 none
  statics := none }

def pool3 : Array CpInfo := pool [(1, u "java/lang/Cloneable"), (0, .class_ 1), (0, u "java/lang/Object"), (0, .class_ 3)] 3

/-- java/lang/Cloneable -/
def k3 : Class := { plain "java/lang/Cloneable" (some 0) with
  accessFlags := 1537
  interfaces := #[]
  cf := some (fileOf pool3 2 #[] #[] 1537 4 #[] #[])
  fields := #[]
  methods := #[]
  instanceTypes := #[]
  staticTypes := #[]
  resolved := Array.replicate 8 none
  statics := none }

def pool4 : Array CpInfo := pool [(1, u "java/io/Serializable"), (0, .class_ 1), (0, u "java/lang/Object"), (0, .class_ 3)] 3

/-- java/io/Serializable -/
def k4 : Class := { plain "java/io/Serializable" (some 0) with
  accessFlags := 1537
  interfaces := #[]
  cf := some (fileOf pool4 2 #[] #[] 1537 4 #[] #[])
  fields := #[]
  methods := #[]
  instanceTypes := #[]
  staticTypes := #[]
  resolved := Array.replicate 8 none
  statics := none }

/-- the primitive byte -/
def k5 : Class := { plain "byte" none with kind := .primitive 'B', accessFlags := 0x411 }
/-- [B -/
def k6 : Class := { plain "[B" (some 0) with kind := .array 5 .byte, interfaces := #[3, 4], accessFlags := 1041 }

/-- the primitive int -/
def k7 : Class := { plain "int" none with kind := .primitive 'I', accessFlags := 0x411 }
/-- [I -/
def k8 : Class := { plain "[I" (some 0) with kind := .array 7 .int, interfaces := #[3, 4], accessFlags := 1041 }

/-- the primitive long -/
def k9 : Class := { plain "long" none with kind := .primitive 'J', accessFlags := 0x411 }
/-- [J -/
def k10 : Class := { plain "[J" (some 0) with kind := .array 9 .long, interfaces := #[3, 4], accessFlags := 1041 }

def heap : Heap := #[]
def k11 : Class := { plain "[[I" (some 0) with kind := .array 8 (.array .int), interfaces := #[3, 4], accessFlags := 1041 }
def k12 : Class := { plain "[[J" (some 0) with kind := .array 10 (.array .long), interfaces := #[3, 4], accessFlags := 1041 }
def classes : Array Class := #[k0, k1, k2, k3, k4, k5, k6, k7, k8, k9, k10, k11, k12]
def interned : List (Array UInt16 × Addr) := []
def slotsUsed : Nat := 0
def theMethod : MethodId := ⟨1, 2⟩
def args0 : Array Value := #[.int 5, .int 7, .int 3, .int 2]
def aboutOver (below : List Frame) : State where
  vm := { classes := classes, interned := interned.toArray }
  heap := heap
  slotsUsed := slotsUsed
  threads := #[{ frames := .invoking theMethod args0 :: below }]
def below0 : List Frame := [.native { method := ⟨0, 0⟩, args := #[] }]
def about1 : State := aboutOver below0
def p0 : Program := .bare "" "" ""
def e0 : Env := launch0.env 0 0 0
theorem w_frames : about1.frames = Frame.invoking theMethod args0 :: below0 := rfl
set_option maxRecDepth 65536 in
theorem w_args : argsFit about1.vm theMethod args0 = true := by decide +kernel
set_option maxRecDepth 65536 in
theorem w_heap : heapFits about1 = true := by decide +kernel
set_option maxRecDepth 65536 in
theorem w_runnable : about1.curStatus? = some .runnable := by decide +kernel
set_option maxRecDepth 65536 in
theorem w_alone : about1.alone = true := by decide +kernel
set_option maxRecDepth 65536 in
theorem w_named : about1.methodNamed? x = some theMethod := by decide +kernel
set_option maxRecDepth 65536 in
theorem w_hears : about1.hears theMethod below0 = true := by decide +kernel
set_option maxRecDepth 65536 in
theorem w_ripe : about1.ripe theMethod args0 below0 = true := by decide +kernel
theorem w_running : about1.status = .running := rfl
set_option maxRecDepth 65536 in
theorem w_room : about1.hasRoom e0.platform room_1 = true :=
  launch0.hasRoom_least _ room_1 (by decide +kernel) (by decide +kernel) (by decide +kernel) (by decide +kernel) (by decide +kernel) (by decide +kernel)
theorem allAtoms_all (ts : List Jvm.Cond) (a : Array Jvm.Value) (st : Jvm.State) : (allAtoms ts).before a st = ts.all (fun c => c.before a st) := by
  induction ts with
  | nil => rfl
  | cons c t ih =>
    show (Jvm.Cond.and c (allAtoms t)).before a st = _
    rw [Jvm.Cond.before_and, ih, List.all_cons]
def words1 : List Jvm.Cond := Jvm.Cond.code x code maxLocals ret :: tables_1
/-- a 'code' word, met by the world's own term for the bytes: nothing is compared byte by byte -/
theorem code_word {y : MethodName} {bytes : ByteArray} {mx : Nat} {rt : Option FieldType} {a : Array Value} {s : State} {m : MethodId} {meth : Method} {c : Code} (h1 : s.methodNamed? y = some m) (h2 : s.vm.method? m = some meth) (h3 : meth.code = some c) (h4 : c.code = bytes)
    (h5 : (c.maxLocals == mx && c.exceptionTable.isEmpty && decide (c.maxStack ≤ mostOperands) && decide (meth.sig.returnType = rt) && !meth.locks && decide (parseMethodDescriptor y.desc = some meth.sig)) = true) : (Jvm.Cond.code y bytes mx rt).before a s = true := by
  simp only [Bool.and_eq_true, beq_iff_eq, Bool.not_eq_true', decide_eq_true_eq] at h5
  obtain ⟨⟨⟨⟨⟨g1, g2⟩, g3⟩, g4⟩, g5⟩, g6⟩ := h5
  simp [Cond.before, Cond.holds, Cond.value, h1, h2, h3, h4, g1, g2, g3, g4, g5, g6]
def isCode : Jvm.Cond → Bool
  | .code _ _ _ _ => true
  | _ => false
theorem all_split {L : List Jvm.Cond} {P : Jvm.Cond → Bool} (h1 : L.all (fun c => isCode c || P c) = true) (h2 : ∀ c ∈ L.filter isCode, P c = true) : L.all P = true := by
  refine List.all_eq_true.mpr fun c hc => ?_
  have h := List.all_eq_true.mp h1 c hc
  rcases Bool.eq_false_or_eq_true (isCode c) with hi | hi
  · exact h2 c (List.mem_filter.mpr ⟨hc, hi⟩)
  · simpa [hi] using h
set_option maxRecDepth 65536 in
theorem w_c0 : (Jvm.Cond.code x code maxLocals ret).before args0 about1 = true := code_word (m := ⟨1, 2⟩) (meth := k1m2) (c := k1c2) (by decide +kernel) rfl rfl rfl (by decide +kernel)
set_option maxRecDepth 65536 in
theorem w_c1 : (Jvm.Cond.code ({ cls := "com/example/termvault/termvault/MarkArrays", name := "<init>", desc := "(I)V" } : Jvm.MethodName) prog_85_method_1_code (2 : Nat) (Option.none : Option Jvm.ClassFile.FieldType)).before args0 about1 = true := code_word (m := ⟨2, 0⟩) (meth := k2m0) (c := k2c0) (by decide +kernel) rfl rfl rfl (by decide +kernel)
set_option maxRecDepth 65536 in
theorem w_c2 : (Jvm.Cond.code ({ cls := "java/lang/Object", name := "<init>", desc := "()V" } : Jvm.MethodName) object_method_1_code (1 : Nat) (Option.none : Option Jvm.ClassFile.FieldType)).before args0 about1 = true := code_word (m := ⟨0, 0⟩) (meth := k0m0) (c := k0c0) (by decide +kernel) rfl rfl rfl (by decide +kernel)
set_option maxRecDepth 65536 in
theorem w_c3 : (Jvm.Cond.code ({ cls := "com/example/termvault/termvault/MarkArraysPositionsPinLaw", name := "four", desc := "(Lcom/example/termvault/termvault/MarkArrays;[[JI)V" } : Jvm.MethodName) method_2_code (3 : Nat) (Option.none : Option Jvm.ClassFile.FieldType)).before args0 about1 = true := code_word (m := ⟨1, 1⟩) (meth := k1m1) (c := k1c1) (by decide +kernel) rfl rfl rfl (by decide +kernel)
set_option maxRecDepth 65536 in
theorem w_c4 : (Jvm.Cond.code ({ cls := "com/example/termvault/termvault/MarkArrays", name := "positions", desc := "()[J" } : Jvm.MethodName) prog_85_method_4_code (1 : Nat) (Option.some (Jvm.ClassFile.FieldType.array Jvm.ClassFile.FieldType.long))).before args0 about1 = true := code_word (m := ⟨2, 1⟩) (meth := k2m1) (c := k2c1) (by decide +kernel) rfl rfl rfl (by decide +kernel)
set_option maxRecDepth 65536 in
theorem w_c5 : (Jvm.Cond.code ({ cls := "com/example/termvault/termvault/MarkArrays", name := "restart", desc := "()V" } : Jvm.MethodName) prog_85_method_5_code (1 : Nat) (Option.none : Option Jvm.ClassFile.FieldType)).before args0 about1 = true := code_word (m := ⟨2, 2⟩) (meth := k2m2) (c := k2c2) (by decide +kernel) rfl rfl rfl (by decide +kernel)
def codes1 : List Jvm.Cond := [Jvm.Cond.code x code maxLocals ret, Jvm.Cond.code ({ cls := "com/example/termvault/termvault/MarkArrays", name := "<init>", desc := "(I)V" } : Jvm.MethodName) prog_85_method_1_code (2 : Nat) (Option.none : Option Jvm.ClassFile.FieldType), Jvm.Cond.code ({ cls := "java/lang/Object", name := "<init>", desc := "()V" } : Jvm.MethodName) object_method_1_code (1 : Nat) (Option.none : Option Jvm.ClassFile.FieldType), Jvm.Cond.code ({ cls := "com/example/termvault/termvault/MarkArraysPositionsPinLaw", name := "four", desc := "(Lcom/example/termvault/termvault/MarkArrays;[[JI)V" } : Jvm.MethodName) method_2_code (3 : Nat) (Option.none : Option Jvm.ClassFile.FieldType), Jvm.Cond.code ({ cls := "com/example/termvault/termvault/MarkArrays", name := "positions", desc := "()[J" } : Jvm.MethodName) prog_85_method_4_code (1 : Nat) (Option.some (Jvm.ClassFile.FieldType.array Jvm.ClassFile.FieldType.long)), Jvm.Cond.code ({ cls := "com/example/termvault/termvault/MarkArrays", name := "restart", desc := "()V" } : Jvm.MethodName) prog_85_method_5_code (1 : Nat) (Option.none : Option Jvm.ClassFile.FieldType)]
set_option maxRecDepth 65536 in
theorem codes_eq : words1.filter isCode = codes1 := rfl
theorem w_codes : ∀ c ∈ words1.filter isCode, c.before args0 about1 = true := by
  rw [codes_eq]
  intro c hc
  simp only [codes1, List.mem_cons, List.not_mem_nil, or_false] at hc
  rcases hc with rfl | rfl | rfl | rfl | rfl | rfl
  · exact w_c0
  · exact w_c1
  · exact w_c2
  · exact w_c3
  · exact w_c4
  · exact w_c5
set_option maxRecDepth 65536 in
theorem w_t1 : (words1.take 24).all (fun c => isCode c || c.before args0 about1) = true := by decide +kernel
set_option maxRecDepth 65536 in
theorem w_t2 : (words1.drop 24).all (fun c => isCode c || c.before args0 about1) = true := by decide +kernel
theorem w_tables : (allAtoms (Jvm.Cond.code x code maxLocals ret :: tables_1)).before args0 about1 = true := by
  rw [allAtoms_all]
  show words1.all (fun c => c.before args0 about1) = true
  refine all_split ?_ w_codes
  rw [← List.take_append_drop 24 words1, List.all_append, w_t1, w_t2]
  rfl
set_option maxRecDepth 65536 in
theorem w_case : (Jvm.Cond.and given_1 narrow_1).before args0 about1 = true := by decide +kernel
theorem w_applies : (headSpec (Jvm.Cond.code x code maxLocals ret :: tables_1) room_1).applies x e0.platform about1 = true :=
  (Spec.applies_iff w_frames).mpr ⟨w_running, w_runnable, w_alone, w_named, w_hears, w_ripe, w_room, w_tables⟩
theorem atStart : AtStart classFile x code maxLocals ret World_1 tables_1 room_1 Calls_1 rest_1 Pre_1 launch0 p0 e0 about1 theMethod args0 below0 :=
  ⟨lists_1, trivial, launch0.admits_env _ _ _, launch0.least_env, fairChoices_fair.cas, fairChoices_fair.clock, w_frames, w_args, w_heap, w_applies, trivial, trivial, w_case⟩
end start1
theorem witness_1 : WitnessClaimed_1 := ⟨start1.p0, start1.e0, start1.about1, start1.theMethod, start1.args0, start1.below0, start1.atStart⟩
end Jvm.Pilot.@@N@@
