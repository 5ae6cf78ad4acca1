import JvmDerived
import JvmDerived.Pilot.@@N@@Statement
import JvmDerived.Pilot.@@N@@Code
set_option linter.unusedVariables false
set_option linter.unusedSimpArgs false
namespace Jvm.RoadKit
open Sem ClassFile Op Lib Jvm.Stand Jvm.Free Jvm.LawKit
section OwnGo
variable {p : Program} {l : Launch} {e : Env} {R : Room} {s : State} {m : MethodId} {args : Array Value} {below : List Frame} {meth : Method} {c : Code} {T T' : State} {locs : List Loc} {cells slots kc ks : Nat} {Q : Option Value → Heap → List Loc → Prop} {f f' : JFrame} {h : Heap}
/-- from the state T with the top frame f the body comes to its end, and what it leaves meets Q -/
def Go (p : Program) (e : Env) (below : List Frame) (s : State) (kc ks : Nat) (Q : Option Value → Heap → List Loc → Prop) (T : State) (f : JFrame) : Prop :=
  ∃ (s₂ : State) (o : Outcome), Steps p.tables e below (T.setTop f) s₂ ∧ s₂.status = .running ∧ Ended s₂ below o ∧ ∃ v L, o = .returned v ∧ Q v s₂.heap L ∧ FrameEnd s o s₂ L kc ks
theorem Go.step (h : ∀ target, Steps p.tables e below (T'.setTop f') target → Steps p.tables e below (T.setTop f) target) (k : Go p e below s kc ks Q T' f') : Go p e below s kc ks Q T f := by
  obtain ⟨s₂, o, h1, r⟩ := k
  exact ⟨s₂, o, h _ h1, r⟩
theorem Go.trans (h : Steps p.tables e below (T.setTop f) (T'.setTop f')) (k : Go p e below s kc ks Q T' f') : Go p e below s kc ks Q T f := by
  obtain ⟨s₂, o, h1, r⟩ := k
  exact ⟨s₂, o, h.trans h1, r⟩
theorem Go.cast (q : f = f') (k : Go p e below s kc ks Q T f') : Go p e below s kc ks Q T f := q ▸ k
theorem Go.enter {g : JFrame} {s₁ : State} (k : Go p e below s kc ks Q s₁ f) (q : g = f) :
    ∃ s₂ o, Steps p.tables e below (s₁.setTop g) s₂ ∧ s₂.status = .running ∧ Ended s₂ below o ∧ ∃ v L, o = .returned v ∧ Q v s₂.heap L ∧ FrameEnd s o s₂ L kc ks := by
  subst q; exact k
theorem Go.ret (X : Stand p l e R s m args below meth c T locs cells slots) (hx : p.tables.exec = Jvm.exec) {pc : Nat} {Ls : Array Slot} {w : Value} {t : FieldType} {i : Instr} {rest : List Value} (hret : meth.sig.returnType = some t) (hlk : meth.locks = false) (hn : narrow t w = w)
    (hi : (i = .ireturn ∧ (t = .int ∨ t = .boolean ∨ t = .byte ∨ t = .char ∨ t = .short) ∧ ∃ z, w = .int z) ∨ (i = .lreturn ∧ t = .long ∧ ∃ z, w = .long z) ∨ (i = .dreturn ∧ t = .double ∧ ∃ z, w = .double z) ∨ (i = .freturn ∧ t = .float ∧ ∃ z, w = .float z) ∨ (i = .areturn ∧ t.isReference = true ∧ w.isRef = true))
    (hd : decode c.code pc = .ok (i, 1)) (eT : T.heap = h) (hc : cells ≤ kc) (hs : slots ≤ ks) (hQ : Q (some w) h locs) : Go p e below s kc ks Q T (mkF m pc Ls (w :: rest)) := by
  obtain ⟨fs, hr, hrun, hended, hW, hsame⟩ := X.leave (v := some w) (fun q => by rw [hret] at q; cases q) hlk
  exact ⟨_, _, retOut X hx hret hn hi hd hr, hrun, hended, _, _, rfl, (by subst eT; exact hQ), ⟨_, rfl⟩, hW, hsame.mono hc hs⟩
theorem Go.retI (X : Stand p l e R s m args below meth c T locs cells slots) (hx : p.tables.exec = Jvm.exec) {pc : Nat} {Ls : Array Slot} {z : Int32} {rest : List Value} (hret : meth.sig.returnType = some .int) (hlk : meth.locks = false)
    (hd : decode c.code pc = .ok (.ireturn, 1)) (eT : T.heap = h) (hc : cells ≤ kc) (hs : slots ≤ ks) (hQ : Q (some (.int z)) h locs) : Go p e below s kc ks Q T (mkF m pc Ls (.int z :: rest)) :=
  Go.ret X hx hret hlk rfl (Or.inl ⟨rfl, Or.inl rfl, _, rfl⟩) hd eT hc hs hQ
theorem Go.retJ (X : Stand p l e R s m args below meth c T locs cells slots) (hx : p.tables.exec = Jvm.exec) {pc : Nat} {Ls : Array Slot} {z : Int64} {rest : List Value} (hret : meth.sig.returnType = some .long) (hlk : meth.locks = false)
    (hd : decode c.code pc = .ok (.lreturn, 1)) (eT : T.heap = h) (hc : cells ≤ kc) (hs : slots ≤ ks) (hQ : Q (some (.long z)) h locs) : Go p e below s kc ks Q T (mkF m pc Ls (.long z :: rest)) :=
  Go.ret X hx hret hlk rfl (Or.inr (Or.inl ⟨rfl, rfl, _, rfl⟩)) hd eT hc hs hQ
theorem Go.retA (X : Stand p l e R s m args below meth c T locs cells slots) (hx : p.tables.exec = Jvm.exec) {pc : Nat} {Ls : Array Slot} {w : Value} {t : FieldType} {rest : List Value} (hret : meth.sig.returnType = some t) (hlk : meth.locks = false) (ht : t.isReference = true) (hv : w.isRef = true)
    (hd : decode c.code pc = .ok (.areturn, 1)) (eT : T.heap = h) (hc : cells ≤ kc) (hs : slots ≤ ks) (hQ : Q (some w) h locs) : Go p e below s kc ks Q T (mkF m pc Ls (w :: rest)) :=
  Go.ret X hx hret hlk (by cases t <;> first | (cases ht; done) | (cases w <;> first | (cases hv; done) | rfl)) (Or.inr (Or.inr (Or.inr (Or.inr ⟨rfl, ht, hv⟩)))) hd eT hc hs hQ
theorem Go.retN (X : Stand p l e R s m args below meth c T locs cells slots) (hx : p.tables.exec = Jvm.exec) {pc : Nat} {Ls : Array Slot} {z : Int32} {t : FieldType} {rest : List Value} (hret : meth.sig.returnType = some t) (hlk : meth.locks = false) (ht : t = .boolean ∨ t = .byte ∨ t = .char ∨ t = .short)
    (hd : decode c.code pc = .ok (.ireturn, 1)) (eT : T.heap = h) (hc : cells ≤ kc) (hs : slots ≤ ks) (hQ : Q (some (.int (nar t z))) h locs) : Go p e below s kc ks Q T (mkF m pc Ls (.int z :: rest)) := by
  obtain ⟨fs, hr, hrun, hended, hW, hsame⟩ := X.leave (v := some (.int (nar t z))) (fun q => by rw [hret] at q; cases q) hlk
  exact ⟨_, _, Jvm.RoadKit.retN X hx hret ht hd hr, hrun, hended, _, _, rfl, (by subst eT; exact hQ), ⟨_, rfl⟩, hW, hsame.mono hc hs⟩
theorem Go.ret0 (X : Stand p l e R s m args below meth c T locs cells slots) (hx : p.tables.exec = Jvm.exec) {pc : Nat} {Ls : Array Slot} (hret : meth.sig.returnType = none) (hlk : meth.locks = false)
    (hd : decode c.code pc = .ok (.return_, 1)) (eT : T.heap = h) (hc : cells ≤ kc) (hs : slots ≤ ks) (hQ : Q none h locs) : Go p e below s kc ks Q T (mkF m pc Ls []) := by
  obtain ⟨fs, hr, hrun, hended, hW, hsame⟩ := X.leave (v := none) (fun _ => rfl) hlk
  exact ⟨_, _, X.returnOut hx hret hd hr, hrun, hended, _, _, rfl, (by subst eT; exact hQ), ⟨_, rfl⟩, hW, hsame.mono hc hs⟩
theorem own_selp {args' : Array Value} {y : MethodName} {n : Nat} (wi : (Cond.instantiable y.cls n).before args' s = true) (hpriv : s.PrivateAt y) (hinst : (Cond.instanceMethod y).before args' s = true) (hy : y.cls ≠ "java/lang/invoke/MethodHandle" ∧ y.cls ≠ "java/lang/invoke/VarHandle") : (Cond.selects y.cls y y).before args' s = true := by
  obtain ⟨c, k, h1, h2, -, h4, -⟩ := Cond.instantiable_spec wi
  exact selects_self_of_private h1 h2 (by simp only [Bool.or_eq_false_iff] at h4; exact h4.1) hpriv hinst hy
theorem own_mvMN {Z : State} {a0 args' : Array Value} {own host : String} {y : MethodName} {index : Nat} (hZ : Z.Warmed39 s.vm) (w : (Cond.methodLinkNest own index y host).before a0 Z = true) : (Cond.methodLinkNest own index y host).before args' s = true := (Cond.methodLinkNest_wide hZ w :)
theorem own_nar01 {z : Int32} (h : z = 0 ∨ z = 1) : nar .boolean z = z := by rcases h with rfl | rfl <;> decide
end OwnGo
end Jvm.RoadKit
namespace Jvm.Pilot.@@N@@
open Jvm Jvm.ClassFile Sem Op Lib Jvm.Free Jvm.Stand Jvm.LawKit Jvm.RoadKit Bundle Jvm.Pilot.@@N@@.Jvm.D
theorem own_tn {j : Int32} {n : Nat} (h0 : 0 ≤ j.toInt) (h1 : j.toInt < n) : j.toNatClampNeg < n := by simp only [Int32.toNatClampNeg]; omega
theorem own_as (a : Int32) : a + 1 - 1 = a := by
  have := c_iadd a 1; have := c_isub (a + 1) 1; have : (1 : Int32).toInt = 1 := rfl; have := rng32 a; have := rng32 (a + 1); have := rng32 (a + 1 - 1)
  rw [← Int32.toInt_inj]; omega
theorem own_last {l : List Value} {k : Int32} {x d : Value} (h : k.toNatClampNeg < l.length) : (l.set k.toNatClampNeg x).getD ((k + 1) - 1).toNatClampNeg d = x := by
  rw [own_as]; simp [List.getD_eq_getElem?_getD, h]
theorem own_neg (x : Int32) : ((128 : Int32) ||| (x &&& 63)).toInt8.toInt32 ≠ 10 := by
  intro h
  have e1 := c_i2b ((128 : Int32) ||| (x &&& 63)); rw [h] at e1
  have e2 := c_mask x 63 6 (by decide) (by decide)
  have e3 := c_or0 (128 : Int32) (x &&& 63)
  have : (128 : Int32).toInt = 128 := rfl; have : (10 : Int32).toInt = 10 := rfl
  have e4 := c_or (128 : Int32) (x &&& 63) 7 (by decide) 128 rfl
  omega
theorem d2_0 : decode prog_43_method_2_code 0 = .ok (.aload_n 0, 1) := by decide +kernel
theorem d2_1 : decode prog_43_method_2_code 1 = .ok (.invokespecial 7, 3) := by decide +kernel
theorem d2_4 : decode prog_43_method_2_code 4 = .ok (.aload_n 0, 1) := by decide +kernel
theorem d2_5 : decode prog_43_method_2_code 5 = .ok (.aload_n 1, 1) := by decide +kernel
theorem d2_6 : decode prog_43_method_2_code 6 = .ok (.putfield 12, 3) := by decide +kernel
theorem d2_9 : decode prog_43_method_2_code 9 = .ok (.aload_n 0, 1) := by decide +kernel
theorem d2_10 : decode prog_43_method_2_code 10 = .ok (.aload_n 2, 1) := by decide +kernel
theorem d2_11 : decode prog_43_method_2_code 11 = .ok (.putfield 16, 3) := by decide +kernel
theorem d2_14 : decode prog_43_method_2_code 14 = .ok (.return_, 1) := by decide +kernel
theorem pd___V : parseMethodDescriptor "()V" = some ⟨[], none⟩ := by decide +kernel
theorem pn_com_example_hearthlog_hearthlog_Utf8Line : plainName "com/example/hearthlog/hearthlog/Utf8Line" = true := by first | (simp [plainName, overriddenIn]; done) | decide +kernel
theorem ef_rmI2 (m : MethodId) (ao : Addr) (ab : Addr) : entryFrame m #[(.ref ao), .null, (.ref ab)] 3 = mkF m 0 #[.val (.ref ao), .val .null, .val (.ref ab)] [] := by first | (simp [entryFrame, mkF, argsToLocals, Value.category]; done) | rfl
def Q_rmI2 (Z : State) (ao : Addr) (ab : Addr) (h0 : Heap) (n0 : Nat) (v : Option Value) (h : Heap) (L : List Loc) : Prop := (v = none) ∧ (Fr n0 L) ∧ (Keep h0 h [ao]) ∧ (Exa Z h ao "com/example/hearthlog/hearthlog/Utf8Line") ∧ (Fld Z h ao "com/example/hearthlog/hearthlog/Utf8Line" "bytes" "[B" (.ref ab)) ∧ (Fld Z h ao "com/example/hearthlog/hearthlog/Utf8Line" "length" "I" (.int (0 : Int32)))
set_option maxRecDepth 65536 in
set_option maxHeartbeats 40000000 in
theorem rmI2 (l : Launch) (Z : State) (a0 : Array Value) (hw : ∀ d ∈ tables_1, d.before a0 Z = true) (ws : List Jvm.Cond) (ao : Addr) (ab : Addr) (h0 : Heap) (n0 : Nat) (Z0 : n0 ≤ h0.size) (E0 : Exa Z h0 ao "com/example/hearthlog/hearthlog/Utf8Line") (Fs : Fld Z h0 ao "com/example/hearthlog/hearthlog/Utf8Line" "spare" "[[B" .null) (Fb : Fld Z h0 ao "com/example/hearthlog/hearthlog/Utf8Line" "bytes" "[B" .null) (Fl : Fld Z h0 ao "com/example/hearthlog/hearthlog/Utf8Line" "length" "I" (.int (0 : Int32))) (g0 : n0 ≤ ao) :
    MetFree l (⟨"com/example/hearthlog/hearthlog/Utf8Line", "<init>", "([[B[B)V"⟩ : MethodName) (head1 (Jvm.Cond.code (⟨"com/example/hearthlog/hearthlog/Utf8Line", "<init>", "([[B[B)V"⟩ : MethodName) prog_43_method_2_code 3 none :: ws) ({ frames := 1, cells := 0, slots := 0, locals := 12 } : Room)) (fun aA U => aA = #[(.ref ao), .null, (.ref ab)] ∧ Z.Warmed39 U.vm ∧ U.heap = h0) (fun _ _ _ _ _ => True) (fun _ U o U' => ∃ v L, o = .returned v ∧ Q_rmI2 Z ao ab h0 n0 v U'.heap L ∧ FrameEnd U o U' L ({ frames := 1, cells := 0, slots := 0, locals := 12 } : Room).cells ({ frames := 1, cells := 0, slots := 0, locals := 12 } : Room).slots) := by
  refine MetFree.of_bodySF (plainFor_of_name pn_com_example_hearthlog_hearthlog_Utf8Line) hisR ?_
  intro p e s m args below meth c s₁ Bd hml0 hP hK
  obtain ⟨rfl, hZ, hh⟩ := hP
  have hx := Bd.exec
  have hby := Bd.bytes
  have hml : c.maxLocals = 3 := hml0
  have hown : s.vm.findClass "com/example/hearthlog/hearthlog/Utf8Line" = some m.cls := findClass_of_methodNamed Bd.named
  have hnm := (name_of_methodNamed Bd.named Bd.method).1
  have hret := Bd.returns
  have hlk : meth.locks = false := BodyLoose.notSynchronized Bd
  have X0 : Stand p l e ({ frames := 1, cells := 0, slots := 0, locals := 12 } : Room) s m #[(.ref ao), .null, (.ref ab)] below meth c s₁ [] 0 0 := Stand.of_body Bd
  have e0 : s₁.heap = h0 := by rw [← hh, Bd.state]; rfl
  have N0 := Fr.nil n0
  suffices hgo : Go p e below s ({ frames := 1, cells := 0, slots := 0, locals := 12 } : Room).cells ({ frames := 1, cells := 0, slots := 0, locals := 12 } : Room).slots (Q_rmI2 Z ao ab h0 n0) s₁ (mkF m 0 #[.val (.ref ao), .val .null, .val (.ref ab)] []) from hgo.enter (ef_rmI2 m ao ab)
  refine Go.step (fun _ k => XS.aloadN X0.here hx rfl (hb hby d2_0) rfl rfl k) ?_
  show Go _ _ _ _ _ _ _ s₁ (mkF m 1 #[.val (.ref ao), .val .null, .val (.ref ab)] [(.ref ao)])
  obtain ⟨T1, X1, e1, st1⟩ := initO X0 hx hZ hown (hw _ (List.mem_of_getElem? (i := 12) rfl)) (hw _ (List.mem_of_getElem? (i := 13) rfl)) (hw _ (List.mem_of_getElem? (i := 14) rfl)) e0 (g := (mkF m 1 #[.val (.ref ao), .val .null, .val (.ref ab)] [(.ref ao)])) rfl (by rw [hml]; rfl) rfl (hb hby d2_1) (by decide) (W := 0) (by show 2 * 0 + _ ≤ _; exact Nat.le_of_eq rfl) (by decide)
  refine Go.step st1 ?_
  show Go _ _ _ _ _ _ _ T1 (mkF m 4 #[.val (.ref ao), .val .null, .val (.ref ab)] [])
  refine Go.step (fun _ k => XS.aloadN X1.here hx rfl (hb hby d2_4) rfl rfl k) ?_
  show Go _ _ _ _ _ _ _ T1 (mkF m 5 #[.val (.ref ao), .val .null, .val (.ref ab)] [(.ref ao)])
  refine Go.step (fun _ k => XS.aloadN X1.here hx rfl (hb hby d2_5) rfl rfl k) ?_
  show Go _ _ _ _ _ _ _ T1 (mkF m 6 #[.val (.ref ao), .val .null, .val (.ref ab)] [.null, (.ref ao)])
  obtain ⟨T2, h2, X2, e2, W2, st2⟩ := putF X1 hx hZ hown (host := "") (Or.inl (hw _ (List.mem_of_getElem? (i := 15) rfl))) Via.refl e1 Fs E0 (Or.inr ⟨(hw _ (List.mem_of_getElem? (i := 16) rfl)), rfl, hnm⟩) (hw _ (List.mem_of_getElem? (i := 3) rfl)) (ty := (.array (.array .byte))) (by decide) rfl rfl (g := (mkF m 6 #[.val (.ref ao), .val .null, .val (.ref ab)] [.null, (.ref ao)])) rfl rfl (hb hby d2_6)
  refine Go.step st2 ?_
  have Fw2 := Fs.same W2
  have N2 := Fr.snoc X2 N0 g0
  have Z2 : n0 ≤ h2.size := Nat.le_trans Z0 (Keep.of_wr W2).1
  have KK2 : Keep h0 h2 [ao] := (Keep.refl h0 [ao]).wr W2 (Or.inl (List.mem_of_getElem? (i := 0) rfl))
  show Go _ _ _ _ _ _ _ T2 (mkF m 9 #[.val (.ref ao), .val .null, .val (.ref ab)] [])
  refine Go.step (fun _ k => XS.aloadN X2.here hx rfl (hb hby d2_9) rfl rfl k) ?_
  show Go _ _ _ _ _ _ _ T2 (mkF m 10 #[.val (.ref ao), .val .null, .val (.ref ab)] [(.ref ao)])
  refine Go.step (fun _ k => XS.aloadN X2.here hx rfl (hb hby d2_10) rfl rfl k) ?_
  show Go _ _ _ _ _ _ _ T2 (mkF m 11 #[.val (.ref ao), .val .null, .val (.ref ab)] [(.ref ab), (.ref ao)])
  have f3 : Fld Z h2 ao "com/example/hearthlog/hearthlog/Utf8Line" "bytes" "[B" .null := (Fb.other W2 (Or.inr (slot_ne (a0 := a0) (C := "com/example/hearthlog/hearthlog/Utf8Line") (Or.inl (hw _ (List.mem_of_getElem? (i := 18) rfl))) (Or.inr (hw _ (List.mem_of_getElem? (i := 16) rfl))) (by decide) (t := (.array .byte)) (t' := (.array (.array .byte))) (by decide) (by decide))))
  have f4 : Exa Z h2 ao "com/example/hearthlog/hearthlog/Utf8Line" := (E0.wr W2)
  obtain ⟨T5, h5, X5, e5, W5, st5⟩ := putF X2 hx hZ hown (host := "") (Or.inl (hw _ (List.mem_of_getElem? (i := 17) rfl))) Via.refl e2 f3 f4 (Or.inl (hw _ (List.mem_of_getElem? (i := 18) rfl))) (hw _ (List.mem_of_getElem? (i := 3) rfl)) (ty := (.array .byte)) (by decide) rfl rfl (g := (mkF m 11 #[.val (.ref ao), .val .null, .val (.ref ab)] [(.ref ab), (.ref ao)])) rfl rfl (hb hby d2_11)
  refine Go.step st5 ?_
  have Fw5 := f3.same W5
  have N5 := Fr.snoc X5 N2 g0
  have Z5 : n0 ≤ h5.size := Nat.le_trans Z2 (Keep.of_wr W5).1
  have KK5 : Keep h0 h5 [ao] := KK2.wr W5 (Or.inl (List.mem_of_getElem? (i := 0) rfl))
  show Go _ _ _ _ _ _ _ T5 (mkF m 14 #[.val (.ref ao), .val .null, .val (.ref ab)] [])
  have f6 : Exa Z h5 ao "com/example/hearthlog/hearthlog/Utf8Line" := (f4.wr W5)
  have f7 : Fld Z h5 ao "com/example/hearthlog/hearthlog/Utf8Line" "length" "I" (.int (0 : Int32)) := ((Fl.other W2 (Or.inr (slot_ne (a0 := a0) (C := "com/example/hearthlog/hearthlog/Utf8Line") (Or.inl (hw _ (List.mem_of_getElem? (i := 25) rfl))) (Or.inr (hw _ (List.mem_of_getElem? (i := 16) rfl))) (by decide) (t := .int) (t' := (.array (.array .byte))) (by decide) (by decide)))).other W5 (Or.inr (slot_ne (a0 := a0) (C := "com/example/hearthlog/hearthlog/Utf8Line") (Or.inl (hw _ (List.mem_of_getElem? (i := 25) rfl))) (Or.inl (hw _ (List.mem_of_getElem? (i := 18) rfl))) (by decide) (t := .int) (t' := (.array .byte)) (by decide) (by decide))))
  exact Go.ret0 X5 hx hret hlk (hb hby d2_14) e5 (by decide) (by decide) ⟨rfl, N5, KK5, f6, Fw5, f7⟩
theorem d1_0 : decode prog_43_method_1_code 0 = .ok (.aload_n 0, 1) := by decide +kernel
theorem d1_1 : decode prog_43_method_1_code 1 = .ok (.aconst_null, 1) := by decide +kernel
theorem d1_2 : decode prog_43_method_1_code 2 = .ok (.sipush 256, 3) := by decide +kernel
theorem d1_5 : decode prog_43_method_1_code 5 = .ok (.newarray .byte, 2) := by decide +kernel
theorem d1_7 : decode prog_43_method_1_code 7 = .ok (.invokespecial 3, 3) := by decide +kernel
theorem d1_10 : decode prog_43_method_1_code 10 = .ok (.return_, 1) := by decide +kernel
theorem pd____B_B_V : parseMethodDescriptor "([[B[B)V" = some ⟨[(.array (.array .byte)), (.array .byte)], none⟩ := by decide +kernel
theorem ef_rmI1 (m : MethodId) (ao : Addr) : entryFrame m #[(.ref ao)] 1 = mkF m 0 #[.val (.ref ao)] [] := by first | (simp [entryFrame, mkF, argsToLocals, Value.category]; done) | rfl
def Q_rmI1 (Z : State) (ao : Addr) (h0 : Heap) (n0 : Nat) (v : Option Value) (h : Heap) (L : List Loc) : Prop := ∃ ab : Addr, ∃ kb : ClassId, (v = none) ∧ (Fr n0 L) ∧ (Keep h0 h [ao]) ∧ (h0.size ≤ ab) ∧ (Exa Z h ao "com/example/hearthlog/hearthlog/Utf8Line") ∧ (Fld Z h ao "com/example/hearthlog/hearthlog/Utf8Line" "bytes" "[B" (.ref ab)) ∧ (Fld Z h ao "com/example/hearthlog/hearthlog/Utf8Line" "length" "I" (.int (0 : Int32))) ∧ (Arv Z h ab kb .byte (256 : Int32) (List.replicate 256 (.int (0 : Int32))) (.int (0 : Int32)))
set_option maxRecDepth 65536 in
set_option maxHeartbeats 40000000 in
theorem rmI1 (l : Launch) (Z : State) (a0 : Array Value) (hw : ∀ d ∈ tables_1, d.before a0 Z = true) (ws : List Jvm.Cond) (ao : Addr) (h0 : Heap) (n0 : Nat) (Z0 : n0 ≤ h0.size) (E0 : Exa Z h0 ao "com/example/hearthlog/hearthlog/Utf8Line") (Fs : Fld Z h0 ao "com/example/hearthlog/hearthlog/Utf8Line" "spare" "[[B" .null) (Fb : Fld Z h0 ao "com/example/hearthlog/hearthlog/Utf8Line" "bytes" "[B" .null) (Fl : Fld Z h0 ao "com/example/hearthlog/hearthlog/Utf8Line" "length" "I" (.int (0 : Int32))) (g0 : n0 ≤ ao) :
    MetFree l (⟨"com/example/hearthlog/hearthlog/Utf8Line", "<init>", "()V"⟩ : MethodName) (head1 (Jvm.Cond.code (⟨"com/example/hearthlog/hearthlog/Utf8Line", "<init>", "()V"⟩ : MethodName) prog_43_method_1_code 1 none :: ws) ({ frames := 2, cells := 1, slots := 256, locals := 26 } : Room)) (fun aA U => aA = #[(.ref ao)] ∧ Z.Warmed39 U.vm ∧ U.heap = h0) (fun _ _ _ _ _ => True) (fun _ U o U' => ∃ v L, o = .returned v ∧ Q_rmI1 Z ao h0 n0 v U'.heap L ∧ FrameEnd U o U' L ({ frames := 2, cells := 1, slots := 256, locals := 26 } : Room).cells ({ frames := 2, cells := 1, slots := 256, locals := 26 } : Room).slots) := by
  refine MetFree.of_bodySF (plainFor_of_name pn_com_example_hearthlog_hearthlog_Utf8Line) hisR ?_
  intro p e s m args below meth c s₁ Bd hml0 hP hK
  obtain ⟨rfl, hZ, hh⟩ := hP
  have hx := Bd.exec
  have hby := Bd.bytes
  have hml : c.maxLocals = 1 := hml0
  have hown : s.vm.findClass "com/example/hearthlog/hearthlog/Utf8Line" = some m.cls := findClass_of_methodNamed Bd.named
  have hnm := (name_of_methodNamed Bd.named Bd.method).1
  have hret := Bd.returns
  have hlk : meth.locks = false := BodyLoose.notSynchronized Bd
  have X0 : Stand p l e ({ frames := 2, cells := 1, slots := 256, locals := 26 } : Room) s m #[(.ref ao)] below meth c s₁ [] 0 0 := Stand.of_body Bd
  have e0 : s₁.heap = h0 := by rw [← hh, Bd.state]; rfl
  have N0 := Fr.nil n0
  suffices hgo : Go p e below s ({ frames := 2, cells := 1, slots := 256, locals := 26 } : Room).cells ({ frames := 2, cells := 1, slots := 256, locals := 26 } : Room).slots (Q_rmI1 Z ao h0 n0) s₁ (mkF m 0 #[.val (.ref ao)] []) from hgo.enter (ef_rmI1 m ao)
  refine Go.step (fun _ k => XS.aloadN X0.here hx rfl (hb hby d1_0) rfl rfl k) ?_
  show Go _ _ _ _ _ _ _ s₁ (mkF m 1 #[.val (.ref ao)] [(.ref ao)])
  refine Go.step (fun _ k => XS.aconstNull X0.here hx rfl (hb hby d1_1) k) ?_
  show Go _ _ _ _ _ _ _ s₁ (mkF m 2 #[.val (.ref ao)] [.null, (.ref ao)])
  refine Go.step (fun _ k => XS.sipush X0.here hx rfl (hb hby d1_2) k) ?_
  show Go _ _ _ _ _ _ _ s₁ (mkF m 5 #[.val (.ref ao)] [(.int (256 : Int32)), .null, (.ref ao)])
  obtain ⟨T8, h8, k8, X8, e8, E8, A8, st8⟩ := newP X0 hx hZ (hw _ (List.mem_of_getElem? (i := 8) rfl)) e0 (g := (mkF m 5 #[.val (.ref ao)] [(.int (256 : Int32)), .null, (.ref ao)])) rfl (hb hby d1_5) rfl (by decide) (cap := 256) (by decide) (by decide) (by decide) (by decide)
  obtain ⟨b8, g8⟩ : ∃ z, z = h0.size := ⟨_, rfl⟩
  rw [← g8] at A8 st8
  refine Go.step st8 ?_
  have g_b8 : n0 ≤ b8 := Nat.le_trans Z0 (Nat.le_of_eq g8.symm)
  have sz_b8 : h0.size ≤ b8 := Nat.le_trans (Keep.refl h0 [ao]).1 (Nat.le_of_eq g8.symm)
  have ne_ao_b8 : ao ≠ b8 := Nat.ne_of_lt (Nat.lt_of_lt_of_le E0.lt (Nat.le_of_eq g8.symm))
  have Z8 : n0 ≤ h8.size := Nat.le_trans Z0 E8.1
  have KK8 : Keep h0 h8 [ao] := (Keep.refl h0 [ao]).ext E8
  have V8 : Arv Z h8 b8 k8 .byte (256 : Int32) [] (.int (0 : Int32)) := Arv.new A8 (by decide)
  have V9 : Arv Z h8 b8 k8 .byte (256 : Int32) (List.replicate 256 (.int (0 : Int32))) (.int (0 : Int32)) := (V8).pad (pad_rep [] (.int (0 : Int32)) 256)
  show Go _ _ _ _ _ _ _ T8 (mkF m 7 #[.val (.ref ao)] [(.ref b8), .null, (.ref ao)])
  have f11 : Exa Z h8 ao "com/example/hearthlog/hearthlog/Utf8Line" := (E0.ext E8)
  have f12 : Fld Z h8 ao "com/example/hearthlog/hearthlog/Utf8Line" "spare" "[[B" .null := (Fs.ext E8)
  have f13 : Fld Z h8 ao "com/example/hearthlog/hearthlog/Utf8Line" "bytes" "[B" .null := (Fb.ext E8)
  have f14 : Fld Z h8 ao "com/example/hearthlog/hearthlog/Utf8Line" "length" "I" (.int (0 : Int32)) := (Fl.ext E8)
  obtain ⟨_, _, ⟨T10, L10, k10, n10⟩, -, X10, ⟨Lc10, hQ10, l10, y10, z10⟩, st10⟩ := X8.specialBack hx (y := (⟨"com/example/hearthlog/hearthlog/Utf8Line", "<init>", "([[B[B)V"⟩ : MethodName)) rfl hown (mvT hZ (hw _ (List.mem_of_getElem? (i := 9) rfl))) (mvT hZ (hw _ (List.mem_of_getElem? (i := 10) rfl))) (mvT hZ (hw _ (List.mem_of_getElem? (i := 11) rfl))) (by decide) (backOf (W := 0) (rmI2 l Z a0 hw [] ao b8 h8 n0 Z8 f11 f12 f13 f14 g0) hZ (hw _ (List.mem_of_getElem? (i := 11) rfl)) (hw _ (List.mem_of_getElem? (i := 4) rfl)) (by decide) (by decide)) (g := (mkF m 7 #[.val (.ref ao)] [(.ref b8), .null, (.ref ao)])) rfl (by rw [hml]; rfl) (Steps.refl _) (a := ao) (argsL := [.null, (.ref b8)]) (rest := []) (lenOf pd____B_B_V rfl) rfl (by show 2 * 0 + _ ≤ _; exact Nat.le_of_eq rfl) (hb hby d1_7) (fun _ _ => ⟨rfl, e8, (by decide : 1 + 0 ≤ _), (by decide : 256 + 0 ≤ _)⟩)
  dsimp only [Pt.U, Pt.locs, Pt.cells, Pt.slots] at X10 l10 y10 z10 st10 hQ10
  subst l10 y10 z10
  obtain ⟨h10, e10⟩ : ∃ h, T10.heap = h := ⟨_, rfl⟩
  rw [e10] at hQ10
  obtain ⟨rfl, Nq10, Kq10, E1_10, Fb1_10, Fl1_10⟩ := hQ10
  have N10 := Fr.app N0 Nq10
  have Z10 : n0 ≤ h10.size := Nat.le_trans Z8 Kq10.1
  have KK10 : Keep h0 h10 [ao] := KK8.trans Kq10 (allS (Or.inl (List.mem_of_getElem? (i := 0) rfl)) all0)
  refine Go.trans st10 ?_
  show Go _ _ _ _ _ _ _ T10 (mkF m 10 #[.val (.ref ao)] [])
  have f15 : Arv Z h10 b8 k8 .byte (256 : Int32) (List.replicate 256 (.int (0 : Int32))) (.int (0 : Int32)) := (V9.keep Kq10 (ninS (Ne.symm ne_ao_b8) nin0))
  exact Go.ret0 X10 hx hret hlk (hb hby d1_10) e10 (by decide) (by decide) ⟨b8, k8, rfl, N10, KK10, sz_b8, E1_10, Fb1_10, Fl1_10, f15⟩
theorem d8_0 : decode prog_43_method_26_code 0 = .ok (.iload_n 1, 1) := by decide +kernel
theorem d8_1 : decode prog_43_method_26_code 1 = .ok (.aload_n 0, 1) := by decide +kernel
theorem d8_2 : decode prog_43_method_26_code 2 = .ok (.getfield 16, 3) := by decide +kernel
theorem d8_5 : decode prog_43_method_26_code 5 = .ok (.arraylength, 1) := by decide +kernel
theorem d8_6 : decode prog_43_method_26_code 6 = .ok (.isub, 1) := by decide +kernel
theorem d8_7 : decode prog_43_method_26_code 7 = .ok (.ifCond .le 8, 3) := by decide +kernel
theorem d8_10 : decode prog_43_method_26_code 10 = .ok (.aload_n 0, 1) := by decide +kernel
theorem d8_11 : decode prog_43_method_26_code 11 = .ok (.iload_n 1, 1) := by decide +kernel
theorem d8_12 : decode prog_43_method_26_code 12 = .ok (.invokevirtual 177, 3) := by decide +kernel
theorem d8_15 : decode prog_43_method_26_code 15 = .ok (.return_, 1) := by decide +kernel
theorem ef_rmEn (m : MethodId) (ao : Addr) (nd : Int32) : entryFrame m #[(.ref ao), (.int nd)] 2 = mkF m 0 #[.val (.ref ao), .val (.int nd)] [] := by first | (simp [entryFrame, mkF, argsToLocals, Value.category]; done) | rfl
def Q_rmEn (Z : State) (ao : Addr) (nd : Int32) (ab : Addr) (kb : ClassId) (vs : List Value) (h0 : Heap) (n0 : Nat) (v : Option Value) (h : Heap) (L : List Loc) : Prop := (v = none) ∧ (Fr n0 L) ∧ (h = h0)
set_option maxRecDepth 65536 in
set_option maxHeartbeats 40000000 in
theorem rmEn (l : Launch) (Z : State) (a0 : Array Value) (hw : ∀ d ∈ tables_1, d.before a0 Z = true) (ws : List Jvm.Cond) (ao : Addr) (nd : Int32) (ab : Addr) (kb : ClassId) (vs : List Value) (h0 : Heap) (n0 : Nat) (Z0 : n0 ≤ h0.size) (E0 : Exa Z h0 ao "com/example/hearthlog/hearthlog/Utf8Line") (Fb : Fld Z h0 ao "com/example/hearthlog/hearthlog/Utf8Line" "bytes" "[B" (.ref ab)) (V0 : Arv Z h0 ab kb .byte (256 : Int32) vs (.int (0 : Int32))) (hn : ¬ ((0 : Int32) < (nd - (256 : Int32)))) :
    MetFree l (⟨"com/example/hearthlog/hearthlog/Utf8Line", "ensureRoom", "(I)V"⟩ : MethodName) (head1 (Jvm.Cond.code (⟨"com/example/hearthlog/hearthlog/Utf8Line", "ensureRoom", "(I)V"⟩ : MethodName) prog_43_method_26_code 2 none :: ws) ({ frames := 0, cells := 0, slots := 0, locals := 0 } : Room)) (fun aA U => aA = #[(.ref ao), (.int nd)] ∧ Z.Warmed39 U.vm ∧ U.heap = h0) (fun _ _ _ _ _ => True) (fun _ U o U' => ∃ v L, o = .returned v ∧ Q_rmEn Z ao nd ab kb vs h0 n0 v U'.heap L ∧ FrameEnd U o U' L ({ frames := 0, cells := 0, slots := 0, locals := 0 } : Room).cells ({ frames := 0, cells := 0, slots := 0, locals := 0 } : Room).slots) := by
  refine MetFree.of_bodySF (plainFor_of_name pn_com_example_hearthlog_hearthlog_Utf8Line) hisR ?_
  intro p e s m args below meth c s₁ Bd hml0 hP hK
  obtain ⟨rfl, hZ, hh⟩ := hP
  have hx := Bd.exec
  have hby := Bd.bytes
  have hml : c.maxLocals = 2 := hml0
  have hown : s.vm.findClass "com/example/hearthlog/hearthlog/Utf8Line" = some m.cls := findClass_of_methodNamed Bd.named
  have hnm := (name_of_methodNamed Bd.named Bd.method).1
  have hret := Bd.returns
  have hlk : meth.locks = false := BodyLoose.notSynchronized Bd
  have X0 : Stand p l e ({ frames := 0, cells := 0, slots := 0, locals := 0 } : Room) s m #[(.ref ao), (.int nd)] below meth c s₁ [] 0 0 := Stand.of_body Bd
  have e0 : s₁.heap = h0 := by rw [← hh, Bd.state]; rfl
  have N0 := Fr.nil n0
  suffices hgo : Go p e below s ({ frames := 0, cells := 0, slots := 0, locals := 0 } : Room).cells ({ frames := 0, cells := 0, slots := 0, locals := 0 } : Room).slots (Q_rmEn Z ao nd ab kb vs h0 n0) s₁ (mkF m 0 #[.val (.ref ao), .val (.int nd)] []) from hgo.enter (ef_rmEn m ao nd)
  refine Go.step (fun _ k => XS.iloadN X0.here hx rfl (hb hby d8_0) rfl k) ?_
  show Go _ _ _ _ _ _ _ s₁ (mkF m 1 #[.val (.ref ao), .val (.int nd)] [(.int nd)])
  refine Go.step (fun _ k => XS.aloadN X0.here hx rfl (hb hby d8_1) rfl rfl k) ?_
  show Go _ _ _ _ _ _ _ s₁ (mkF m 2 #[.val (.ref ao), .val (.int nd)] [(.ref ao), (.int nd)])
  obtain ⟨T16, X16, e16, st16⟩ := getF X0 hx hZ hown (host := "") (Or.inl (hw _ (List.mem_of_getElem? (i := 17) rfl))) Via.refl e0 Fb (g := (mkF m 2 #[.val (.ref ao), .val (.int nd)] [(.ref ao), (.int nd)])) rfl rfl (hb hby d8_2)
  refine Go.step st16 ?_
  show Go _ _ _ _ _ _ _ T16 (mkF m 5 #[.val (.ref ao), .val (.int nd)] [(.ref ab), (.int nd)])
  obtain ⟨cl17, Ar17, -, S17, M17, -, -⟩ := id (V0)
  have al17 := X16.arraylength hx (by rw [e16]; exact Ar17.1) (State.isArrayOf_alike hZ.alike Ar17.2.1) (g := (mkF m 5 #[.val (.ref ao), .val (.int nd)] [(.ref ab), (.int nd)])) rfl rfl (hb hby d8_5)
  rw [len_of S17 M17] at al17
  refine Go.step al17 ?_
  show Go _ _ _ _ _ _ _ T16 (mkF m 6 #[.val (.ref ao), .val (.int nd)] [(.int (256 : Int32)), (.int nd)])
  refine Go.step (fun _ k => XS.isub X16.here hx rfl (hb hby d8_6) rfl k) ?_
  show Go _ _ _ _ _ _ _ T16 (mkF m 7 #[.val (.ref ao), .val (.int nd)] [(.int (nd - (256 : Int32)))])
  have hc7_18 : ¬ ((0 : Int32) < (nd - (256 : Int32))) := hn
  refine Go.step (fun _ k => XS.ifYes X16.here hx rfl (pc0 := 7) (pc' := 15) rfl (hb hby d8_7) rfl ((if0 _ _).trans (flt hc7_18).2.2.2) (by decide) (by decide) k) ?_
  show Go _ _ _ _ _ _ _ T16 (mkF m 15 #[.val (.ref ao), .val (.int nd)] [])
  exact Go.ret0 X16 hx hret hlk (hb hby d8_15) e16 (by decide) (by decide) ⟨rfl, N0, rfl⟩
def own_sur (c : Int32) : Int32 := if ¬ c < 55296 ∧ c < 57344 then 1 else 0
theorem d6_0 : decode jdk_89_method_16_code 0 = .ok (.iload_n 0, 1) := by decide +kernel
theorem d6_1 : decode jdk_89_method_16_code 1 = .ok (.ldc 75, 2) := by decide +kernel
theorem d6_3 : decode jdk_89_method_16_code 3 = .ok (.if_icmp .lt 13, 3) := by decide +kernel
theorem d6_6 : decode jdk_89_method_16_code 6 = .ok (.iload_n 0, 1) := by decide +kernel
theorem d6_7 : decode jdk_89_method_16_code 7 = .ok (.ldc 77, 2) := by decide +kernel
theorem d6_9 : decode jdk_89_method_16_code 9 = .ok (.if_icmp .ge 7, 3) := by decide +kernel
theorem d6_12 : decode jdk_89_method_16_code 12 = .ok (.iconst 1, 1) := by decide +kernel
theorem d6_13 : decode jdk_89_method_16_code 13 = .ok (.goto 4, 3) := by decide +kernel
theorem d6_16 : decode jdk_89_method_16_code 16 = .ok (.iconst 0, 1) := by decide +kernel
theorem d6_17 : decode jdk_89_method_16_code 17 = .ok (.ireturn, 1) := by decide +kernel
theorem pn_java_lang_Character : plainName "java/lang/Character" = true := by first | (simp [plainName, overriddenIn]; done) | decide +kernel
theorem ef_rmSu (m : MethodId) (ci : Int32) : entryFrame m #[(.int ci)] 1 = mkF m 0 #[.val (.int ci)] [] := by first | (simp [entryFrame, mkF, argsToLocals, Value.category]; done) | rfl
def Q_rmSu (Z : State) (ci : Int32) (h0 : Heap) (n0 : Nat) (v : Option Value) (h : Heap) (L : List Loc) : Prop := (v = some (.int (own_sur ci))) ∧ (Fr n0 L) ∧ (h = h0)
set_option maxRecDepth 65536 in
set_option maxHeartbeats 40000000 in
theorem rmSu (l : Launch) (Z : State) (a0 : Array Value) (hw : ∀ d ∈ tables_1, d.before a0 Z = true) (ws : List Jvm.Cond) (ci : Int32) (h0 : Heap) (n0 : Nat) (Z0 : n0 ≤ h0.size) :
    MetFree l (⟨"java/lang/Character", "isSurrogate", "(C)Z"⟩ : MethodName) (head1 (Jvm.Cond.code (⟨"java/lang/Character", "isSurrogate", "(C)Z"⟩ : MethodName) jdk_89_method_16_code 1 (some .boolean) :: ws) ({ frames := 0, cells := 0, slots := 0, locals := 0 } : Room)) (fun aA U => aA = #[(.int ci)] ∧ Z.Warmed39 U.vm ∧ U.heap = h0) (fun _ _ _ _ _ => True) (fun _ U o U' => ∃ v L, o = .returned v ∧ Q_rmSu Z ci h0 n0 v U'.heap L ∧ FrameEnd U o U' L ({ frames := 0, cells := 0, slots := 0, locals := 0 } : Room).cells ({ frames := 0, cells := 0, slots := 0, locals := 0 } : Room).slots) := by
  refine MetFree.of_bodySF (plainFor_of_name pn_java_lang_Character) hisR ?_
  intro p e s m args below meth c s₁ Bd hml0 hP hK
  obtain ⟨rfl, hZ, hh⟩ := hP
  have hx := Bd.exec
  have hby := Bd.bytes
  have hml : c.maxLocals = 1 := hml0
  have hown : s.vm.findClass "java/lang/Character" = some m.cls := findClass_of_methodNamed Bd.named
  have hnm := (name_of_methodNamed Bd.named Bd.method).1
  have hret := Bd.returns
  have hlk : meth.locks = false := BodyLoose.notSynchronized Bd
  have X0 : Stand p l e ({ frames := 0, cells := 0, slots := 0, locals := 0 } : Room) s m #[(.int ci)] below meth c s₁ [] 0 0 := Stand.of_body Bd
  have e0 : s₁.heap = h0 := by rw [← hh, Bd.state]; rfl
  have N0 := Fr.nil n0
  suffices hgo : Go p e below s ({ frames := 0, cells := 0, slots := 0, locals := 0 } : Room).cells ({ frames := 0, cells := 0, slots := 0, locals := 0 } : Room).slots (Q_rmSu Z ci h0 n0) s₁ (mkF m 0 #[.val (.int ci)] []) from hgo.enter (ef_rmSu m ci)
  refine Go.step (fun _ k => XS.iloadN X0.here hx rfl (hb hby d6_0) rfl k) ?_
  show Go _ _ _ _ _ _ _ s₁ (mkF m 1 #[.val (.int ci)] [(.int ci)])
  refine Go.step (X0.ldcInt hx hown (mvT hZ (hw _ (List.mem_of_getElem? (i := 35) rfl))) (g := (mkF m 1 #[.val (.int ci)] [(.int ci)])) rfl (hb hby d6_1)) ?_
  show Go _ _ _ _ _ _ _ s₁ (mkF m 3 #[.val (.int ci)] [(.int (55296 : Int32)), (.int ci)])
  by_cases hc3_19 : ci < (55296 : Int32)
  · refine Go.step (fun _ k => XS.icmpYes X0.here hx rfl (pc0 := 3) (pc' := 16) rfl (hb hby d6_3) rfl (tlt hc3_19).1 (by decide) (by decide) k) ?_
    show Go _ _ _ _ _ _ _ s₁ (mkF m 16 #[.val (.int ci)] [])
    refine Go.step (fun _ k => XS.iconst X0.here hx rfl (hb hby d6_16) k) ?_
    show Go _ _ _ _ _ _ _ s₁ (mkF m 17 #[.val (.int ci)] [(.int (0 : Int32))])
    exact Go.retN X0 hx (t := .boolean) hret hlk (by simp) (hb hby d6_17) e0 (by decide) (by decide) ⟨(congrArg (fun z => some (Value.int z)) (by simp [own_sur, hc3_19] <;> rfl)), N0, rfl⟩
  · refine Go.step (fun _ k => XS.icmpNo X0.here hx rfl (hb hby d6_3) rfl (flt hc3_19).1 k) ?_
    show Go _ _ _ _ _ _ _ s₁ (mkF m 6 #[.val (.int ci)] [])
    refine Go.step (fun _ k => XS.iloadN X0.here hx rfl (hb hby d6_6) rfl k) ?_
    show Go _ _ _ _ _ _ _ s₁ (mkF m 7 #[.val (.int ci)] [(.int ci)])
    refine Go.step (X0.ldcInt hx hown (mvT hZ (hw _ (List.mem_of_getElem? (i := 45) rfl))) (g := (mkF m 7 #[.val (.int ci)] [(.int ci)])) rfl (hb hby d6_7)) ?_
    show Go _ _ _ _ _ _ _ s₁ (mkF m 9 #[.val (.int ci)] [(.int (57344 : Int32)), (.int ci)])
    by_cases hc9_20 : ci < (57344 : Int32)
    · refine Go.step (fun _ k => XS.icmpNo X0.here hx rfl (hb hby d6_9) rfl (tlt hc9_20).2.1 k) ?_
      show Go _ _ _ _ _ _ _ s₁ (mkF m 12 #[.val (.int ci)] [])
      refine Go.step (fun _ k => XS.iconst X0.here hx rfl (hb hby d6_12) k) ?_
      show Go _ _ _ _ _ _ _ s₁ (mkF m 13 #[.val (.int ci)] [(.int (1 : Int32))])
      refine Go.step (fun _ k => XS.goto X0.here hx rfl (pc0 := 13) (pc' := 17) rfl (hb hby d6_13) (by decide) (by decide) k) ?_
      show Go _ _ _ _ _ _ _ s₁ (mkF m 17 #[.val (.int ci)] [(.int (1 : Int32))])
      exact Go.retN X0 hx (t := .boolean) hret hlk (by simp) (hb hby d6_17) e0 (by decide) (by decide) ⟨(congrArg (fun z => some (Value.int z)) (by simp [own_sur, hc3_19, hc9_20] <;> rfl)), N0, rfl⟩
    · refine Go.step (fun _ k => XS.icmpYes X0.here hx rfl (pc0 := 9) (pc' := 16) rfl (hb hby d6_9) rfl (flt hc9_20).2.1 (by decide) (by decide) k) ?_
      show Go _ _ _ _ _ _ _ s₁ (mkF m 16 #[.val (.int ci)] [])
      refine Go.step (fun _ k => XS.iconst X0.here hx rfl (hb hby d6_16) k) ?_
      show Go _ _ _ _ _ _ _ s₁ (mkF m 17 #[.val (.int ci)] [(.int (0 : Int32))])
      exact Go.retN X0 hx (t := .boolean) hret hlk (by simp) (hb hby d6_17) e0 (by decide) (by decide) ⟨(congrArg (fun z => some (Value.int z)) (by simp [own_sur, hc3_19, hc9_20] <;> rfl)), N0, rfl⟩
theorem own_i2b2 (x : Int32) : x.toInt8.toInt32.toInt8.toInt32 = x.toInt8.toInt32 := by
  have := c_i2b x; have := c_i2b x.toInt8.toInt32
  rw [← Int32.toInt_inj]; omega
theorem d7_0 : decode prog_43_method_22_code 0 = .ok (.aload_n 0, 1) := by decide +kernel
theorem d7_1 : decode prog_43_method_22_code 1 = .ok (.aload_n 0, 1) := by decide +kernel
theorem d7_2 : decode prog_43_method_22_code 2 = .ok (.getfield 32, 3) := by decide +kernel
theorem d7_5 : decode prog_43_method_22_code 5 = .ok (.iconst 4, 1) := by decide +kernel
theorem d7_6 : decode prog_43_method_22_code 6 = .ok (.iadd, 1) := by decide +kernel
theorem d7_7 : decode prog_43_method_22_code 7 = .ok (.invokevirtual 40, 3) := by decide +kernel
theorem d7_10 : decode prog_43_method_22_code 10 = .ok (.iload_n 1, 1) := by decide +kernel
theorem d7_11 : decode prog_43_method_22_code 11 = .ok (.sipush 128, 3) := by decide +kernel
theorem d7_14 : decode prog_43_method_22_code 14 = .ok (.if_icmp .ge 24, 3) := by decide +kernel
theorem d7_17 : decode prog_43_method_22_code 17 = .ok (.aload_n 0, 1) := by decide +kernel
theorem d7_18 : decode prog_43_method_22_code 18 = .ok (.getfield 16, 3) := by decide +kernel
theorem d7_21 : decode prog_43_method_22_code 21 = .ok (.aload_n 0, 1) := by decide +kernel
theorem d7_22 : decode prog_43_method_22_code 22 = .ok (.dup, 1) := by decide +kernel
theorem d7_23 : decode prog_43_method_22_code 23 = .ok (.getfield 32, 3) := by decide +kernel
theorem d7_26 : decode prog_43_method_22_code 26 = .ok (.dup_x1, 1) := by decide +kernel
theorem d7_27 : decode prog_43_method_22_code 27 = .ok (.iconst 1, 1) := by decide +kernel
theorem d7_28 : decode prog_43_method_22_code 28 = .ok (.iadd, 1) := by decide +kernel
theorem d7_29 : decode prog_43_method_22_code 29 = .ok (.putfield 32, 3) := by decide +kernel
theorem d7_32 : decode prog_43_method_22_code 32 = .ok (.iload_n 1, 1) := by decide +kernel
theorem d7_33 : decode prog_43_method_22_code 33 = .ok (.i2b, 1) := by decide +kernel
theorem d7_34 : decode prog_43_method_22_code 34 = .ok (.bastore, 1) := by decide +kernel
theorem d7_35 : decode prog_43_method_22_code 35 = .ok (.goto 256, 3) := by decide +kernel
theorem d7_38 : decode prog_43_method_22_code 38 = .ok (.iload_n 1, 1) := by decide +kernel
theorem d7_39 : decode prog_43_method_22_code 39 = .ok (.sipush 2048, 3) := by decide +kernel
theorem d7_42 : decode prog_43_method_22_code 42 = .ok (.if_icmp .ge 56, 3) := by decide +kernel
theorem d7_45 : decode prog_43_method_22_code 45 = .ok (.aload_n 0, 1) := by decide +kernel
theorem d7_46 : decode prog_43_method_22_code 46 = .ok (.getfield 16, 3) := by decide +kernel
theorem d7_49 : decode prog_43_method_22_code 49 = .ok (.aload_n 0, 1) := by decide +kernel
theorem d7_50 : decode prog_43_method_22_code 50 = .ok (.dup, 1) := by decide +kernel
theorem d7_51 : decode prog_43_method_22_code 51 = .ok (.getfield 32, 3) := by decide +kernel
theorem d7_54 : decode prog_43_method_22_code 54 = .ok (.dup_x1, 1) := by decide +kernel
theorem d7_55 : decode prog_43_method_22_code 55 = .ok (.iconst 1, 1) := by decide +kernel
theorem d7_56 : decode prog_43_method_22_code 56 = .ok (.iadd, 1) := by decide +kernel
theorem d7_57 : decode prog_43_method_22_code 57 = .ok (.putfield 32, 3) := by decide +kernel
theorem d7_60 : decode prog_43_method_22_code 60 = .ok (.sipush 192, 3) := by decide +kernel
theorem d7_63 : decode prog_43_method_22_code 63 = .ok (.iload_n 1, 1) := by decide +kernel
theorem d7_64 : decode prog_43_method_22_code 64 = .ok (.bipush 6, 2) := by decide +kernel
theorem d7_66 : decode prog_43_method_22_code 66 = .ok (.ishr, 1) := by decide +kernel
theorem d7_67 : decode prog_43_method_22_code 67 = .ok (.ior, 1) := by decide +kernel
theorem d7_68 : decode prog_43_method_22_code 68 = .ok (.i2b, 1) := by decide +kernel
theorem d7_69 : decode prog_43_method_22_code 69 = .ok (.bastore, 1) := by decide +kernel
theorem d7_70 : decode prog_43_method_22_code 70 = .ok (.aload_n 0, 1) := by decide +kernel
theorem d7_71 : decode prog_43_method_22_code 71 = .ok (.getfield 16, 3) := by decide +kernel
theorem d7_74 : decode prog_43_method_22_code 74 = .ok (.aload_n 0, 1) := by decide +kernel
theorem d7_75 : decode prog_43_method_22_code 75 = .ok (.dup, 1) := by decide +kernel
theorem d7_76 : decode prog_43_method_22_code 76 = .ok (.getfield 32, 3) := by decide +kernel
theorem d7_79 : decode prog_43_method_22_code 79 = .ok (.dup_x1, 1) := by decide +kernel
theorem d7_80 : decode prog_43_method_22_code 80 = .ok (.iconst 1, 1) := by decide +kernel
theorem d7_81 : decode prog_43_method_22_code 81 = .ok (.iadd, 1) := by decide +kernel
theorem d7_82 : decode prog_43_method_22_code 82 = .ok (.putfield 32, 3) := by decide +kernel
theorem d7_85 : decode prog_43_method_22_code 85 = .ok (.sipush 128, 3) := by decide +kernel
theorem d7_88 : decode prog_43_method_22_code 88 = .ok (.iload_n 1, 1) := by decide +kernel
theorem d7_89 : decode prog_43_method_22_code 89 = .ok (.bipush 63, 2) := by decide +kernel
theorem d7_91 : decode prog_43_method_22_code 91 = .ok (.iand, 1) := by decide +kernel
theorem d7_92 : decode prog_43_method_22_code 92 = .ok (.ior, 1) := by decide +kernel
theorem d7_93 : decode prog_43_method_22_code 93 = .ok (.i2b, 1) := by decide +kernel
theorem d7_94 : decode prog_43_method_22_code 94 = .ok (.bastore, 1) := by decide +kernel
theorem d7_95 : decode prog_43_method_22_code 95 = .ok (.goto 196, 3) := by decide +kernel
theorem d7_98 : decode prog_43_method_22_code 98 = .ok (.iload_n 1, 1) := by decide +kernel
theorem d7_99 : decode prog_43_method_22_code 99 = .ok (.ldc 176, 2) := by decide +kernel
theorem d7_101 : decode prog_43_method_22_code 101 = .ok (.if_icmp .ge 84, 3) := by decide +kernel
theorem d7_104 : decode prog_43_method_22_code 104 = .ok (.aload_n 0, 1) := by decide +kernel
theorem d7_105 : decode prog_43_method_22_code 105 = .ok (.getfield 16, 3) := by decide +kernel
theorem d7_108 : decode prog_43_method_22_code 108 = .ok (.aload_n 0, 1) := by decide +kernel
theorem d7_109 : decode prog_43_method_22_code 109 = .ok (.dup, 1) := by decide +kernel
theorem d7_110 : decode prog_43_method_22_code 110 = .ok (.getfield 32, 3) := by decide +kernel
theorem d7_113 : decode prog_43_method_22_code 113 = .ok (.dup_x1, 1) := by decide +kernel
theorem d7_114 : decode prog_43_method_22_code 114 = .ok (.iconst 1, 1) := by decide +kernel
theorem d7_115 : decode prog_43_method_22_code 115 = .ok (.iadd, 1) := by decide +kernel
theorem d7_116 : decode prog_43_method_22_code 116 = .ok (.putfield 32, 3) := by decide +kernel
theorem d7_119 : decode prog_43_method_22_code 119 = .ok (.sipush 224, 3) := by decide +kernel
theorem d7_122 : decode prog_43_method_22_code 122 = .ok (.iload_n 1, 1) := by decide +kernel
theorem d7_123 : decode prog_43_method_22_code 123 = .ok (.bipush 12, 2) := by decide +kernel
theorem d7_125 : decode prog_43_method_22_code 125 = .ok (.ishr, 1) := by decide +kernel
theorem d7_126 : decode prog_43_method_22_code 126 = .ok (.ior, 1) := by decide +kernel
theorem d7_127 : decode prog_43_method_22_code 127 = .ok (.i2b, 1) := by decide +kernel
theorem d7_128 : decode prog_43_method_22_code 128 = .ok (.bastore, 1) := by decide +kernel
theorem d7_129 : decode prog_43_method_22_code 129 = .ok (.aload_n 0, 1) := by decide +kernel
theorem d7_130 : decode prog_43_method_22_code 130 = .ok (.getfield 16, 3) := by decide +kernel
theorem d7_133 : decode prog_43_method_22_code 133 = .ok (.aload_n 0, 1) := by decide +kernel
theorem d7_134 : decode prog_43_method_22_code 134 = .ok (.dup, 1) := by decide +kernel
theorem d7_135 : decode prog_43_method_22_code 135 = .ok (.getfield 32, 3) := by decide +kernel
theorem d7_138 : decode prog_43_method_22_code 138 = .ok (.dup_x1, 1) := by decide +kernel
theorem d7_139 : decode prog_43_method_22_code 139 = .ok (.iconst 1, 1) := by decide +kernel
theorem d7_140 : decode prog_43_method_22_code 140 = .ok (.iadd, 1) := by decide +kernel
theorem d7_141 : decode prog_43_method_22_code 141 = .ok (.putfield 32, 3) := by decide +kernel
theorem d7_144 : decode prog_43_method_22_code 144 = .ok (.sipush 128, 3) := by decide +kernel
theorem d7_147 : decode prog_43_method_22_code 147 = .ok (.iload_n 1, 1) := by decide +kernel
theorem d7_148 : decode prog_43_method_22_code 148 = .ok (.bipush 6, 2) := by decide +kernel
theorem d7_150 : decode prog_43_method_22_code 150 = .ok (.ishr, 1) := by decide +kernel
theorem d7_151 : decode prog_43_method_22_code 151 = .ok (.bipush 63, 2) := by decide +kernel
theorem d7_153 : decode prog_43_method_22_code 153 = .ok (.iand, 1) := by decide +kernel
theorem d7_154 : decode prog_43_method_22_code 154 = .ok (.ior, 1) := by decide +kernel
theorem d7_155 : decode prog_43_method_22_code 155 = .ok (.i2b, 1) := by decide +kernel
theorem d7_156 : decode prog_43_method_22_code 156 = .ok (.bastore, 1) := by decide +kernel
theorem d7_157 : decode prog_43_method_22_code 157 = .ok (.aload_n 0, 1) := by decide +kernel
theorem d7_158 : decode prog_43_method_22_code 158 = .ok (.getfield 16, 3) := by decide +kernel
theorem d7_161 : decode prog_43_method_22_code 161 = .ok (.aload_n 0, 1) := by decide +kernel
theorem d7_162 : decode prog_43_method_22_code 162 = .ok (.dup, 1) := by decide +kernel
theorem d7_163 : decode prog_43_method_22_code 163 = .ok (.getfield 32, 3) := by decide +kernel
theorem d7_166 : decode prog_43_method_22_code 166 = .ok (.dup_x1, 1) := by decide +kernel
theorem d7_167 : decode prog_43_method_22_code 167 = .ok (.iconst 1, 1) := by decide +kernel
theorem d7_168 : decode prog_43_method_22_code 168 = .ok (.iadd, 1) := by decide +kernel
theorem d7_169 : decode prog_43_method_22_code 169 = .ok (.putfield 32, 3) := by decide +kernel
theorem d7_172 : decode prog_43_method_22_code 172 = .ok (.sipush 128, 3) := by decide +kernel
theorem d7_175 : decode prog_43_method_22_code 175 = .ok (.iload_n 1, 1) := by decide +kernel
theorem d7_176 : decode prog_43_method_22_code 176 = .ok (.bipush 63, 2) := by decide +kernel
theorem d7_178 : decode prog_43_method_22_code 178 = .ok (.iand, 1) := by decide +kernel
theorem d7_179 : decode prog_43_method_22_code 179 = .ok (.ior, 1) := by decide +kernel
theorem d7_180 : decode prog_43_method_22_code 180 = .ok (.i2b, 1) := by decide +kernel
theorem d7_181 : decode prog_43_method_22_code 181 = .ok (.bastore, 1) := by decide +kernel
theorem d7_182 : decode prog_43_method_22_code 182 = .ok (.goto 109, 3) := by decide +kernel
theorem d7_185 : decode prog_43_method_22_code 185 = .ok (.aload_n 0, 1) := by decide +kernel
theorem d7_186 : decode prog_43_method_22_code 186 = .ok (.getfield 16, 3) := by decide +kernel
theorem d7_189 : decode prog_43_method_22_code 189 = .ok (.aload_n 0, 1) := by decide +kernel
theorem d7_190 : decode prog_43_method_22_code 190 = .ok (.dup, 1) := by decide +kernel
theorem d7_191 : decode prog_43_method_22_code 191 = .ok (.getfield 32, 3) := by decide +kernel
theorem d7_194 : decode prog_43_method_22_code 194 = .ok (.dup_x1, 1) := by decide +kernel
theorem d7_195 : decode prog_43_method_22_code 195 = .ok (.iconst 1, 1) := by decide +kernel
theorem d7_196 : decode prog_43_method_22_code 196 = .ok (.iadd, 1) := by decide +kernel
theorem d7_197 : decode prog_43_method_22_code 197 = .ok (.putfield 32, 3) := by decide +kernel
theorem d7_200 : decode prog_43_method_22_code 200 = .ok (.sipush 240, 3) := by decide +kernel
theorem d7_203 : decode prog_43_method_22_code 203 = .ok (.iload_n 1, 1) := by decide +kernel
theorem d7_204 : decode prog_43_method_22_code 204 = .ok (.bipush 18, 2) := by decide +kernel
theorem d7_206 : decode prog_43_method_22_code 206 = .ok (.ishr, 1) := by decide +kernel
theorem d7_207 : decode prog_43_method_22_code 207 = .ok (.ior, 1) := by decide +kernel
theorem d7_208 : decode prog_43_method_22_code 208 = .ok (.i2b, 1) := by decide +kernel
theorem d7_209 : decode prog_43_method_22_code 209 = .ok (.bastore, 1) := by decide +kernel
theorem d7_210 : decode prog_43_method_22_code 210 = .ok (.aload_n 0, 1) := by decide +kernel
theorem d7_211 : decode prog_43_method_22_code 211 = .ok (.getfield 16, 3) := by decide +kernel
theorem d7_214 : decode prog_43_method_22_code 214 = .ok (.aload_n 0, 1) := by decide +kernel
theorem d7_215 : decode prog_43_method_22_code 215 = .ok (.dup, 1) := by decide +kernel
theorem d7_216 : decode prog_43_method_22_code 216 = .ok (.getfield 32, 3) := by decide +kernel
theorem d7_219 : decode prog_43_method_22_code 219 = .ok (.dup_x1, 1) := by decide +kernel
theorem d7_220 : decode prog_43_method_22_code 220 = .ok (.iconst 1, 1) := by decide +kernel
theorem d7_221 : decode prog_43_method_22_code 221 = .ok (.iadd, 1) := by decide +kernel
theorem d7_222 : decode prog_43_method_22_code 222 = .ok (.putfield 32, 3) := by decide +kernel
theorem d7_225 : decode prog_43_method_22_code 225 = .ok (.sipush 128, 3) := by decide +kernel
theorem d7_228 : decode prog_43_method_22_code 228 = .ok (.iload_n 1, 1) := by decide +kernel
theorem d7_229 : decode prog_43_method_22_code 229 = .ok (.bipush 12, 2) := by decide +kernel
theorem d7_231 : decode prog_43_method_22_code 231 = .ok (.ishr, 1) := by decide +kernel
theorem d7_232 : decode prog_43_method_22_code 232 = .ok (.bipush 63, 2) := by decide +kernel
theorem d7_234 : decode prog_43_method_22_code 234 = .ok (.iand, 1) := by decide +kernel
theorem d7_235 : decode prog_43_method_22_code 235 = .ok (.ior, 1) := by decide +kernel
theorem d7_236 : decode prog_43_method_22_code 236 = .ok (.i2b, 1) := by decide +kernel
theorem d7_237 : decode prog_43_method_22_code 237 = .ok (.bastore, 1) := by decide +kernel
theorem d7_238 : decode prog_43_method_22_code 238 = .ok (.aload_n 0, 1) := by decide +kernel
theorem d7_239 : decode prog_43_method_22_code 239 = .ok (.getfield 16, 3) := by decide +kernel
theorem d7_242 : decode prog_43_method_22_code 242 = .ok (.aload_n 0, 1) := by decide +kernel
theorem d7_243 : decode prog_43_method_22_code 243 = .ok (.dup, 1) := by decide +kernel
theorem d7_244 : decode prog_43_method_22_code 244 = .ok (.getfield 32, 3) := by decide +kernel
theorem d7_247 : decode prog_43_method_22_code 247 = .ok (.dup_x1, 1) := by decide +kernel
theorem d7_248 : decode prog_43_method_22_code 248 = .ok (.iconst 1, 1) := by decide +kernel
theorem d7_249 : decode prog_43_method_22_code 249 = .ok (.iadd, 1) := by decide +kernel
theorem d7_250 : decode prog_43_method_22_code 250 = .ok (.putfield 32, 3) := by decide +kernel
theorem d7_253 : decode prog_43_method_22_code 253 = .ok (.sipush 128, 3) := by decide +kernel
theorem d7_256 : decode prog_43_method_22_code 256 = .ok (.iload_n 1, 1) := by decide +kernel
theorem d7_257 : decode prog_43_method_22_code 257 = .ok (.bipush 6, 2) := by decide +kernel
theorem d7_259 : decode prog_43_method_22_code 259 = .ok (.ishr, 1) := by decide +kernel
theorem d7_260 : decode prog_43_method_22_code 260 = .ok (.bipush 63, 2) := by decide +kernel
theorem d7_262 : decode prog_43_method_22_code 262 = .ok (.iand, 1) := by decide +kernel
theorem d7_263 : decode prog_43_method_22_code 263 = .ok (.ior, 1) := by decide +kernel
theorem d7_264 : decode prog_43_method_22_code 264 = .ok (.i2b, 1) := by decide +kernel
theorem d7_265 : decode prog_43_method_22_code 265 = .ok (.bastore, 1) := by decide +kernel
theorem d7_266 : decode prog_43_method_22_code 266 = .ok (.aload_n 0, 1) := by decide +kernel
theorem d7_267 : decode prog_43_method_22_code 267 = .ok (.getfield 16, 3) := by decide +kernel
theorem d7_270 : decode prog_43_method_22_code 270 = .ok (.aload_n 0, 1) := by decide +kernel
theorem d7_271 : decode prog_43_method_22_code 271 = .ok (.dup, 1) := by decide +kernel
theorem d7_272 : decode prog_43_method_22_code 272 = .ok (.getfield 32, 3) := by decide +kernel
theorem d7_275 : decode prog_43_method_22_code 275 = .ok (.dup_x1, 1) := by decide +kernel
theorem d7_276 : decode prog_43_method_22_code 276 = .ok (.iconst 1, 1) := by decide +kernel
theorem d7_277 : decode prog_43_method_22_code 277 = .ok (.iadd, 1) := by decide +kernel
theorem d7_278 : decode prog_43_method_22_code 278 = .ok (.putfield 32, 3) := by decide +kernel
theorem d7_281 : decode prog_43_method_22_code 281 = .ok (.sipush 128, 3) := by decide +kernel
theorem d7_284 : decode prog_43_method_22_code 284 = .ok (.iload_n 1, 1) := by decide +kernel
theorem d7_285 : decode prog_43_method_22_code 285 = .ok (.bipush 63, 2) := by decide +kernel
theorem d7_287 : decode prog_43_method_22_code 287 = .ok (.iand, 1) := by decide +kernel
theorem d7_288 : decode prog_43_method_22_code 288 = .ok (.ior, 1) := by decide +kernel
theorem d7_289 : decode prog_43_method_22_code 289 = .ok (.i2b, 1) := by decide +kernel
theorem d7_290 : decode prog_43_method_22_code 290 = .ok (.bastore, 1) := by decide +kernel
theorem d7_291 : decode prog_43_method_22_code 291 = .ok (.return_, 1) := by decide +kernel
theorem pd__I_V : parseMethodDescriptor "(I)V" = some ⟨[.int], none⟩ := by decide +kernel
theorem ef_rmCp (m : MethodId) (ao : Addr) (ci : Int32) : entryFrame m #[(.ref ao), (.int ci)] 2 = mkF m 0 #[.val (.ref ao), .val (.int ci)] [] := by first | (simp [entryFrame, mkF, argsToLocals, Value.category]; done) | rfl
def Q_rmCp (Z : State) (ao : Addr) (ci : Int32) (ab : Addr) (kb : ClassId) (ln : Int32) (vs : List Value) (h0 : Heap) (n0 : Nat) (v : Option Value) (h : Heap) (L : List Loc) : Prop := ∃ lq : Int32, ∃ vq : List Value, ∃ bq : Int32, (v = none) ∧ (Fr n0 L) ∧ (Keep h0 h [ao, ab]) ∧ (Exa Z h ao "com/example/hearthlog/hearthlog/Utf8Line") ∧ (Fld Z h ao "com/example/hearthlog/hearthlog/Utf8Line" "bytes" "[B" (.ref ab)) ∧ (Fld Z h ao "com/example/hearthlog/hearthlog/Utf8Line" "length" "I" (.int lq)) ∧ (Arv Z h ab kb .byte (256 : Int32) vq (.int (0 : Int32))) ∧ (vq.length = 256) ∧ (0 < lq.toInt ∧ lq.toInt ≤ ln.toInt + 4) ∧ (vq.getD (lq - (1 : Int32)).toNatClampNeg (.int (0 : Int32)) = .int bq) ∧ (bq = 10 ↔ ci = 10)
set_option maxRecDepth 65536 in
set_option maxHeartbeats 40000000 in
theorem rmCp (l : Launch) (Z : State) (a0 : Array Value) (hw : ∀ d ∈ tables_1, d.before a0 Z = true) (ws : List Jvm.Cond) (ao : Addr) (ci : Int32) (ab : Addr) (kb : ClassId) (ln : Int32) (vs : List Value) (h0 : Heap) (n0 : Nat) (Z0 : n0 ≤ h0.size) (E0 : Exa Z h0 ao "com/example/hearthlog/hearthlog/Utf8Line") (Fb : Fld Z h0 ao "com/example/hearthlog/hearthlog/Utf8Line" "bytes" "[B" (.ref ab)) (Fl : Fld Z h0 ao "com/example/hearthlog/hearthlog/Utf8Line" "length" "I" (.int ln)) (V0 : Arv Z h0 ab kb .byte (256 : Int32) vs (.int (0 : Int32))) (g0 : n0 ≤ ao) (g1 : n0 ≤ ab) (ne0 : ao ≠ ab) (hl0 : ¬ (ln < (0 : Int32))) (hl1 : ln < (200 : Int32)) (hlen : vs.length = 256) (hc0 : ¬ (ci < (0 : Int32))) (hc1 : ¬ ((65535 : Int32) < ci)) :
    MetFree l (⟨"com/example/hearthlog/hearthlog/Utf8Line", "appendCodePoint", "(I)V"⟩ : MethodName) (head1 (Jvm.Cond.code (⟨"com/example/hearthlog/hearthlog/Utf8Line", "appendCodePoint", "(I)V"⟩ : MethodName) prog_43_method_22_code 2 none :: ws) ({ frames := 1, cells := 0, slots := 0, locals := 13 } : Room)) (fun aA U => aA = #[(.ref ao), (.int ci)] ∧ Z.Warmed39 U.vm ∧ U.heap = h0) (fun _ _ _ _ _ => True) (fun _ U o U' => ∃ v L, o = .returned v ∧ Q_rmCp Z ao ci ab kb ln vs h0 n0 v U'.heap L ∧ FrameEnd U o U' L ({ frames := 1, cells := 0, slots := 0, locals := 13 } : Room).cells ({ frames := 1, cells := 0, slots := 0, locals := 13 } : Room).slots) := by
  refine MetFree.of_bodySF (plainFor_of_name pn_com_example_hearthlog_hearthlog_Utf8Line) hisR ?_
  intro p e s m args below meth c s₁ Bd hml0 hP hK
  obtain ⟨rfl, hZ, hh⟩ := hP
  have hx := Bd.exec
  have hby := Bd.bytes
  have hml : c.maxLocals = 2 := hml0
  have hown : s.vm.findClass "com/example/hearthlog/hearthlog/Utf8Line" = some m.cls := findClass_of_methodNamed Bd.named
  have hnm := (name_of_methodNamed Bd.named Bd.method).1
  have hret := Bd.returns
  have hlk : meth.locks = false := BodyLoose.notSynchronized Bd
  have X0 : Stand p l e ({ frames := 1, cells := 0, slots := 0, locals := 13 } : Room) s m #[(.ref ao), (.int ci)] below meth c s₁ [] 0 0 := Stand.of_body Bd
  have e0 : s₁.heap = h0 := by rw [← hh, Bd.state]; rfl
  have N0 := Fr.nil n0
  suffices hgo : Go p e below s ({ frames := 1, cells := 0, slots := 0, locals := 13 } : Room).cells ({ frames := 1, cells := 0, slots := 0, locals := 13 } : Room).slots (Q_rmCp Z ao ci ab kb ln vs h0 n0) s₁ (mkF m 0 #[.val (.ref ao), .val (.int ci)] []) from hgo.enter (ef_rmCp m ao ci)
  refine Go.step (fun _ k => XS.aloadN X0.here hx rfl (hb hby d7_0) rfl rfl k) ?_
  show Go _ _ _ _ _ _ _ s₁ (mkF m 1 #[.val (.ref ao), .val (.int ci)] [(.ref ao)])
  refine Go.step (fun _ k => XS.aloadN X0.here hx rfl (hb hby d7_1) rfl rfl k) ?_
  show Go _ _ _ _ _ _ _ s₁ (mkF m 2 #[.val (.ref ao), .val (.int ci)] [(.ref ao), (.ref ao)])
  obtain ⟨T21, X21, e21, st21⟩ := getF X0 hx hZ hown (host := "") (Or.inl (hw _ (List.mem_of_getElem? (i := 24) rfl))) Via.refl e0 Fl (g := (mkF m 2 #[.val (.ref ao), .val (.int ci)] [(.ref ao), (.ref ao)])) rfl rfl (hb hby d7_2)
  refine Go.step st21 ?_
  show Go _ _ _ _ _ _ _ T21 (mkF m 5 #[.val (.ref ao), .val (.int ci)] [(.int ln), (.ref ao)])
  refine Go.step (fun _ k => XS.iconst X21.here hx rfl (hb hby d7_5) k) ?_
  show Go _ _ _ _ _ _ _ T21 (mkF m 6 #[.val (.ref ao), .val (.int ci)] [(.int (4 : Int32)), (.int ln), (.ref ao)])
  refine Go.step (fun _ k => XS.iadd X21.here hx rfl (hb hby d7_6) rfl k) ?_
  show Go _ _ _ _ _ _ _ T21 (mkF m 7 #[.val (.ref ao), .val (.int ci)] [(.int (ln + (4 : Int32))), (.ref ao)])
  obtain ⟨cq22, q22, q22'⟩ := E0.cell
  obtain ⟨_, _, ⟨T22, L22, k22, n22⟩, -, X22, ⟨Lc22, hQ22, l22, y22, z22⟩, st22⟩ := X21.privateBack hx (y := (⟨"com/example/hearthlog/hearthlog/Utf8Line", "ensureRoom", "(I)V"⟩ : MethodName)) hown (mvT hZ (hw _ (List.mem_of_getElem? (i := 40) rfl))) (mvT hZ (hw _ (List.mem_of_getElem? (i := 41) rfl))) (own_selp (mvT hZ (hw _ (List.mem_of_getElem? (i := 3) rfl))) (Cond.privateMethod_at (mvP hZ (hw _ (List.mem_of_getElem? (i := 42) rfl)) (args := #[]))) (mvT hZ (hw _ (List.mem_of_getElem? (i := 41) rfl))) (by decide)) (Cond.privateMethod_at (mvP hZ (hw _ (List.mem_of_getElem? (i := 42) rfl)) (args := #[]))) (mvT hZ (hw _ (List.mem_of_getElem? (i := 43) rfl))) (by decide) (backOf (W := 0) (rmEn l Z a0 hw [] ao (ln + (4 : Int32)) ab kb vs h0 n0 Z0 E0 Fb V0 (by have := rng32 ln; have : (4 : Int32).toInt = 4 := rfl; have := rng32 (ln + (4 : Int32)); have := c_iadd ln (4 : Int32); have : (256 : Int32).toInt = 256 := rfl; have := rng32 ((ln + (4 : Int32)) - (256 : Int32)); have := c_isub (ln + (4 : Int32)) (256 : Int32); have : (0 : Int32).toInt = 0 := rfl; have : (200 : Int32).toInt = 200 := rfl; simp only [Int32.lt_iff_toInt_lt, Int32.le_iff_toInt_le, ← Int32.toInt_inj, Int64.lt_iff_toInt_lt, Int64.le_iff_toInt_le, ← Int64.toInt_inj] at hl0 hl1 ⊢; omega)) hZ (hw _ (List.mem_of_getElem? (i := 43) rfl)) (hw _ (List.mem_of_getElem? (i := 4) rfl)) (by decide) (by decide)) (g := (mkF m 7 #[.val (.ref ao), .val (.int ci)] [(.int (ln + (4 : Int32))), (.ref ao)])) rfl (by rw [hml]; rfl) (Steps.refl _) (a := ao) (by rw [e21]; exact q22) q22' (argsL := [(.int (ln + (4 : Int32)))]) (rest := []) (lenOf pd__I_V rfl) rfl (by show 2 * 0 + _ ≤ _; exact Nat.le_of_eq rfl) (hb hby d7_7) (fun _ _ => ⟨rfl, e21, (by decide : 0 + 0 ≤ _), (by decide : 0 + 0 ≤ _)⟩)
  dsimp only [Pt.U, Pt.locs, Pt.cells, Pt.slots] at X22 l22 y22 z22 st22 hQ22
  subst l22 y22 z22
  obtain ⟨h22, e22⟩ : ∃ h, T22.heap = h := ⟨_, rfl⟩
  rw [e22] at hQ22
  obtain ⟨rfl, Nq22, hs22⟩ := hQ22
  have N22 := Fr.app N0 Nq22
  rw [hs22] at e22
  refine Go.trans st22 ?_
  show Go _ _ _ _ _ _ _ T22 (mkF m 10 #[.val (.ref ao), .val (.int ci)] [])
  refine Go.step (fun _ k => XS.iloadN X22.here hx rfl (hb hby d7_10) rfl k) ?_
  show Go _ _ _ _ _ _ _ T22 (mkF m 11 #[.val (.ref ao), .val (.int ci)] [(.int ci)])
  refine Go.step (fun _ k => XS.sipush X22.here hx rfl (hb hby d7_11) k) ?_
  show Go _ _ _ _ _ _ _ T22 (mkF m 14 #[.val (.ref ao), .val (.int ci)] [(.int (128 : Int32)), (.int ci)])
  by_cases hc14_23 : ci < (128 : Int32)
  · refine Go.step (fun _ k => XS.icmpNo X22.here hx rfl (hb hby d7_14) rfl (tlt hc14_23).2.1 k) ?_
    show Go _ _ _ _ _ _ _ T22 (mkF m 17 #[.val (.ref ao), .val (.int ci)] [])
    refine Go.step (fun _ k => XS.aloadN X22.here hx rfl (hb hby d7_17) rfl rfl k) ?_
    show Go _ _ _ _ _ _ _ T22 (mkF m 18 #[.val (.ref ao), .val (.int ci)] [(.ref ao)])
    obtain ⟨T24, X24, e24, st24⟩ := getF X22 hx hZ hown (host := "") (Or.inl (hw _ (List.mem_of_getElem? (i := 17) rfl))) Via.refl e22 Fb (g := (mkF m 18 #[.val (.ref ao), .val (.int ci)] [(.ref ao)])) rfl rfl (hb hby d7_18)
    refine Go.step st24 ?_
    show Go _ _ _ _ _ _ _ T24 (mkF m 21 #[.val (.ref ao), .val (.int ci)] [(.ref ab)])
    refine Go.step (fun _ k => XS.aloadN X24.here hx rfl (hb hby d7_21) rfl rfl k) ?_
    show Go _ _ _ _ _ _ _ T24 (mkF m 22 #[.val (.ref ao), .val (.int ci)] [(.ref ao), (.ref ab)])
    refine Go.step (fun _ k => XS.dup X24.here hx rfl (hb hby d7_22) rfl rfl k) ?_
    show Go _ _ _ _ _ _ _ T24 (mkF m 23 #[.val (.ref ao), .val (.int ci)] [(.ref ao), (.ref ao), (.ref ab)])
    obtain ⟨T25, X25, e25, st25⟩ := getF X24 hx hZ hown (host := "") (Or.inl (hw _ (List.mem_of_getElem? (i := 24) rfl))) Via.refl e24 Fl (g := (mkF m 23 #[.val (.ref ao), .val (.int ci)] [(.ref ao), (.ref ao), (.ref ab)])) rfl rfl (hb hby d7_23)
    refine Go.step st25 ?_
    show Go _ _ _ _ _ _ _ T25 (mkF m 26 #[.val (.ref ao), .val (.int ci)] [(.int ln), (.ref ao), (.ref ab)])
    refine Go.step (fun _ k => XS.dupX1 X25.here hx rfl (hb hby d7_26) rfl rfl rfl k) ?_
    show Go _ _ _ _ _ _ _ T25 (mkF m 27 #[.val (.ref ao), .val (.int ci)] [(.int ln), (.ref ao), (.int ln), (.ref ab)])
    refine Go.step (fun _ k => XS.iconst X25.here hx rfl (hb hby d7_27) k) ?_
    show Go _ _ _ _ _ _ _ T25 (mkF m 28 #[.val (.ref ao), .val (.int ci)] [(.int (1 : Int32)), (.int ln), (.ref ao), (.int ln), (.ref ab)])
    refine Go.step (fun _ k => XS.iadd X25.here hx rfl (hb hby d7_28) rfl k) ?_
    show Go _ _ _ _ _ _ _ T25 (mkF m 29 #[.val (.ref ao), .val (.int ci)] [(.int (ln + (1 : Int32))), (.ref ao), (.int ln), (.ref ab)])
    obtain ⟨T26, h26, X26, e26, W26, st26⟩ := putF X25 hx hZ hown (host := "") (Or.inl (hw _ (List.mem_of_getElem? (i := 24) rfl))) Via.refl e25 Fl E0 (Or.inl (hw _ (List.mem_of_getElem? (i := 25) rfl))) (hw _ (List.mem_of_getElem? (i := 3) rfl)) (ty := .int) (by decide) rfl rfl (g := (mkF m 29 #[.val (.ref ao), .val (.int ci)] [(.int (ln + (1 : Int32))), (.ref ao), (.int ln), (.ref ab)])) rfl rfl (hb hby d7_29)
    refine Go.step st26 ?_
    have Fw26 := Fl.same W26
    have N26 := Fr.snoc X26 N22 g0
    have Z26 : n0 ≤ h26.size := Nat.le_trans Z0 (Keep.of_wr W26).1
    have KK26 : Keep h0 h26 [ao, ab] := (Keep.refl h0 [ao, ab]).wr W26 (Or.inl (List.mem_of_getElem? (i := 0) rfl))
    show Go _ _ _ _ _ _ _ T26 (mkF m 32 #[.val (.ref ao), .val (.int ci)] [(.int ln), (.ref ab)])
    refine Go.step (fun _ k => XS.iloadN X26.here hx rfl (hb hby d7_32) rfl k) ?_
    show Go _ _ _ _ _ _ _ T26 (mkF m 33 #[.val (.ref ao), .val (.int ci)] [(.int ci), (.int ln), (.ref ab)])
    refine Go.step (fun _ k => XS.i2b X26.here hx rfl (hb hby d7_33) rfl k) ?_
    show Go _ _ _ _ _ _ _ T26 (mkF m 34 #[.val (.ref ao), .val (.int ci)] [(.int (ci.toInt8.toInt32)), (.int ln), (.ref ab)])
    have f27 : Arv Z h26 ab kb .byte (256 : Int32) vs (.int (0 : Int32)) := (V0.other W26 (Ne.symm ne0))
    obtain ⟨cl28, Ar28, q28, S28, M28, H28, G28⟩ := id (f27)
    have hin28 : ¬ (ln < 0 ∨ cl28.slots.size ≤ (ln).toNatClampNeg) := inb_of S28 ⟨(by have := rng32 ln; have : (0 : Int32).toInt = 0 := rfl; have : (256 : Int32).toInt = 256 := rfl; have : (200 : Int32).toInt = 200 := rfl; simp only [Int32.lt_iff_toInt_lt, Int32.le_iff_toInt_le, ← Int32.toInt_inj, Int64.lt_iff_toInt_lt, Int64.le_iff_toInt_le, ← Int64.toInt_inj] at hl0 hl1 ⊢; omega), (by have := rng32 ln; have : (0 : Int32).toInt = 0 := rfl; have : (256 : Int32).toInt = 256 := rfl; have : (200 : Int32).toInt = 200 := rfl; simp only [Int32.lt_iff_toInt_lt, Int32.le_iff_toInt_le, ← Int32.toInt_inj, Int64.lt_iff_toInt_lt, Int64.le_iff_toInt_le, ← Int64.toInt_inj] at hl0 hl1 ⊢; omega)⟩
    obtain ⟨T28, h28, X28, e28, W28, st28⟩ := stB X26 hx hZ e26 Ar28 (j := ln) hin28 (g := (mkF m 34 #[.val (.ref ao), .val (.int ci)] [(.int (ci.toInt8.toInt32)), (.int ln), (.ref ab)])) rfl rfl (hb hby d7_34)
    refine Go.step st28 ?_
    have V28 : Arv Z h28 ab kb .byte (256 : Int32) (vs.set (ln).toNatClampNeg (.int (nar .byte (ci.toInt8.toInt32)))) (.int (0 : Int32)) := Arv.set Ar28 q28 S28 M28 H28 G28 (fits_nar_byte _) W28 (ln).toNatClampNeg rfl (own_tn (n := (vs).length) (by have := rng32 ln; have : (0 : Int32).toInt = 0 := rfl; have : (256 : Int32).toInt = 256 := rfl; have : (200 : Int32).toInt = 200 := rfl; simp only [Int32.lt_iff_toInt_lt, Int32.le_iff_toInt_le, ← Int32.toInt_inj, Int64.lt_iff_toInt_lt, Int64.le_iff_toInt_le, ← Int64.toInt_inj] at hl0 hl1; omega) (by simp only [List.length_set, hlen]; exact (by have := rng32 ln; have : (0 : Int32).toInt = 0 := rfl; have : (256 : Int32).toInt = 256 := rfl; have : (200 : Int32).toInt = 200 := rfl; simp only [Int32.lt_iff_toInt_lt, Int32.le_iff_toInt_le, ← Int32.toInt_inj, Int64.lt_iff_toInt_lt, Int64.le_iff_toInt_le, ← Int64.toInt_inj] at hl0 hl1; omega)))
    have N28 := Fr.snoc X28 N26 g1
    have Z28 : n0 ≤ h28.size := Nat.le_trans Z26 (Keep.of_wr W28).1
    have KK28 : Keep h0 h28 [ao, ab] := KK26.wr W28 (Or.inl (List.mem_of_getElem? (i := 1) rfl))
    show Go _ _ _ _ _ _ _ T28 (mkF m 35 #[.val (.ref ao), .val (.int ci)] [])
    refine Go.step (fun _ k => XS.goto X28.here hx rfl (pc0 := 35) (pc' := 291) rfl (hb hby d7_35) (by decide) (by decide) k) ?_
    show Go _ _ _ _ _ _ _ T28 (mkF m 291 #[.val (.ref ao), .val (.int ci)] [])
    -- (ln + (1 : Int32))
    have f29 : Exa Z h28 ao "com/example/hearthlog/hearthlog/Utf8Line" := ((E0.wr W26).wr W28)
    have f30 : Fld Z h28 ao "com/example/hearthlog/hearthlog/Utf8Line" "bytes" "[B" (.ref ab) := ((Fb.other W26 (Or.inr (slot_ne (a0 := a0) (C := "com/example/hearthlog/hearthlog/Utf8Line") (Or.inl (hw _ (List.mem_of_getElem? (i := 18) rfl))) (Or.inl (hw _ (List.mem_of_getElem? (i := 25) rfl))) (by decide) (t := (.array .byte)) (t' := .int) (by decide) (by decide)))).other W28 (Or.inl ne0))
    have f31 : Fld Z h28 ao "com/example/hearthlog/hearthlog/Utf8Line" "length" "I" (.int (ln + (1 : Int32))) := (Fw26.other W28 (Or.inl ne0))
    exact Go.ret0 X28 hx hret hlk (hb hby d7_291) e28 (by decide) (by decide) ⟨(ln + (1 : Int32)), (vs.set (ln).toNatClampNeg (.int (nar .byte (ci.toInt8.toInt32)))), (nar .byte (ci.toInt8.toInt32)), rfl, N28, KK28, f29, f30, f31, V28, (by simp only [List.length_set, hlen]), (by have := rng32 ln; have : (1 : Int32).toInt = 1 := rfl; have := rng32 (ln + (1 : Int32)); have := c_iadd ln (1 : Int32); have : (0 : Int32).toInt = 0 := rfl; have : (200 : Int32).toInt = 200 := rfl; simp only [Int32.lt_iff_toInt_lt, Int32.le_iff_toInt_le, ← Int32.toInt_inj, Int64.lt_iff_toInt_lt, Int64.le_iff_toInt_le, ← Int64.toInt_inj] at hl0 hl1; omega), (own_last (own_tn (n := (vs).length) (by have := rng32 ln; have : (0 : Int32).toInt = 0 := rfl; have : (256 : Int32).toInt = 256 := rfl; have : (200 : Int32).toInt = 200 := rfl; simp only [Int32.lt_iff_toInt_lt, Int32.le_iff_toInt_le, ← Int32.toInt_inj, Int64.lt_iff_toInt_lt, Int64.le_iff_toInt_le, ← Int64.toInt_inj] at hl0 hl1; omega) (by simp only [List.length_set, hlen]; exact (by have := rng32 ln; have : (0 : Int32).toInt = 0 := rfl; have : (256 : Int32).toInt = 256 := rfl; have : (200 : Int32).toInt = 200 := rfl; simp only [Int32.lt_iff_toInt_lt, Int32.le_iff_toInt_le, ← Int32.toInt_inj, Int64.lt_iff_toInt_lt, Int64.le_iff_toInt_le, ← Int64.toInt_inj] at hl0 hl1; omega)))), (show ((ci.toInt8.toInt32)).toInt8.toInt32 = 10 ↔ ci = 10 from (by have := rng32 ci; have := rng32 ci.toInt8.toInt32; have := c_i2b ci; have := rng32 (ci.toInt8.toInt32).toInt8.toInt32; have := c_i2b ci.toInt8.toInt32; have : (10 : Int32).toInt = 10 := rfl; have : (128 : Int32).toInt = 128 := rfl; have : (0 : Int32).toInt = 0 := rfl; simp only [Int32.lt_iff_toInt_lt, Int32.le_iff_toInt_le, ← Int32.toInt_inj, Int64.lt_iff_toInt_lt, Int64.le_iff_toInt_le, ← Int64.toInt_inj] at hc0 hc14_23 ⊢; omega))⟩
  · refine Go.step (fun _ k => XS.icmpYes X22.here hx rfl (pc0 := 14) (pc' := 38) rfl (hb hby d7_14) rfl (flt hc14_23).2.1 (by decide) (by decide) k) ?_
    show Go _ _ _ _ _ _ _ T22 (mkF m 38 #[.val (.ref ao), .val (.int ci)] [])
    refine Go.step (fun _ k => XS.iloadN X22.here hx rfl (hb hby d7_38) rfl k) ?_
    show Go _ _ _ _ _ _ _ T22 (mkF m 39 #[.val (.ref ao), .val (.int ci)] [(.int ci)])
    refine Go.step (fun _ k => XS.sipush X22.here hx rfl (hb hby d7_39) k) ?_
    show Go _ _ _ _ _ _ _ T22 (mkF m 42 #[.val (.ref ao), .val (.int ci)] [(.int (2048 : Int32)), (.int ci)])
    by_cases hc42_32 : ci < (2048 : Int32)
    · refine Go.step (fun _ k => XS.icmpNo X22.here hx rfl (hb hby d7_42) rfl (tlt hc42_32).2.1 k) ?_
      show Go _ _ _ _ _ _ _ T22 (mkF m 45 #[.val (.ref ao), .val (.int ci)] [])
      refine Go.step (fun _ k => XS.aloadN X22.here hx rfl (hb hby d7_45) rfl rfl k) ?_
      show Go _ _ _ _ _ _ _ T22 (mkF m 46 #[.val (.ref ao), .val (.int ci)] [(.ref ao)])
      obtain ⟨T33, X33, e33, st33⟩ := getF X22 hx hZ hown (host := "") (Or.inl (hw _ (List.mem_of_getElem? (i := 17) rfl))) Via.refl e22 Fb (g := (mkF m 46 #[.val (.ref ao), .val (.int ci)] [(.ref ao)])) rfl rfl (hb hby d7_46)
      refine Go.step st33 ?_
      show Go _ _ _ _ _ _ _ T33 (mkF m 49 #[.val (.ref ao), .val (.int ci)] [(.ref ab)])
      refine Go.step (fun _ k => XS.aloadN X33.here hx rfl (hb hby d7_49) rfl rfl k) ?_
      show Go _ _ _ _ _ _ _ T33 (mkF m 50 #[.val (.ref ao), .val (.int ci)] [(.ref ao), (.ref ab)])
      refine Go.step (fun _ k => XS.dup X33.here hx rfl (hb hby d7_50) rfl rfl k) ?_
      show Go _ _ _ _ _ _ _ T33 (mkF m 51 #[.val (.ref ao), .val (.int ci)] [(.ref ao), (.ref ao), (.ref ab)])
      obtain ⟨T34, X34, e34, st34⟩ := getF X33 hx hZ hown (host := "") (Or.inl (hw _ (List.mem_of_getElem? (i := 24) rfl))) Via.refl e33 Fl (g := (mkF m 51 #[.val (.ref ao), .val (.int ci)] [(.ref ao), (.ref ao), (.ref ab)])) rfl rfl (hb hby d7_51)
      refine Go.step st34 ?_
      show Go _ _ _ _ _ _ _ T34 (mkF m 54 #[.val (.ref ao), .val (.int ci)] [(.int ln), (.ref ao), (.ref ab)])
      refine Go.step (fun _ k => XS.dupX1 X34.here hx rfl (hb hby d7_54) rfl rfl rfl k) ?_
      show Go _ _ _ _ _ _ _ T34 (mkF m 55 #[.val (.ref ao), .val (.int ci)] [(.int ln), (.ref ao), (.int ln), (.ref ab)])
      refine Go.step (fun _ k => XS.iconst X34.here hx rfl (hb hby d7_55) k) ?_
      show Go _ _ _ _ _ _ _ T34 (mkF m 56 #[.val (.ref ao), .val (.int ci)] [(.int (1 : Int32)), (.int ln), (.ref ao), (.int ln), (.ref ab)])
      refine Go.step (fun _ k => XS.iadd X34.here hx rfl (hb hby d7_56) rfl k) ?_
      show Go _ _ _ _ _ _ _ T34 (mkF m 57 #[.val (.ref ao), .val (.int ci)] [(.int (ln + (1 : Int32))), (.ref ao), (.int ln), (.ref ab)])
      obtain ⟨T35, h35, X35, e35, W35, st35⟩ := putF X34 hx hZ hown (host := "") (Or.inl (hw _ (List.mem_of_getElem? (i := 24) rfl))) Via.refl e34 Fl E0 (Or.inl (hw _ (List.mem_of_getElem? (i := 25) rfl))) (hw _ (List.mem_of_getElem? (i := 3) rfl)) (ty := .int) (by decide) rfl rfl (g := (mkF m 57 #[.val (.ref ao), .val (.int ci)] [(.int (ln + (1 : Int32))), (.ref ao), (.int ln), (.ref ab)])) rfl rfl (hb hby d7_57)
      refine Go.step st35 ?_
      have Fw35 := Fl.same W35
      have N35 := Fr.snoc X35 N22 g0
      have Z35 : n0 ≤ h35.size := Nat.le_trans Z0 (Keep.of_wr W35).1
      have KK35 : Keep h0 h35 [ao, ab] := (Keep.refl h0 [ao, ab]).wr W35 (Or.inl (List.mem_of_getElem? (i := 0) rfl))
      show Go _ _ _ _ _ _ _ T35 (mkF m 60 #[.val (.ref ao), .val (.int ci)] [(.int ln), (.ref ab)])
      refine Go.step (fun _ k => XS.sipush X35.here hx rfl (hb hby d7_60) k) ?_
      show Go _ _ _ _ _ _ _ T35 (mkF m 63 #[.val (.ref ao), .val (.int ci)] [(.int (192 : Int32)), (.int ln), (.ref ab)])
      refine Go.step (fun _ k => XS.iloadN X35.here hx rfl (hb hby d7_63) rfl k) ?_
      show Go _ _ _ _ _ _ _ T35 (mkF m 64 #[.val (.ref ao), .val (.int ci)] [(.int ci), (.int (192 : Int32)), (.int ln), (.ref ab)])
      refine Go.step (fun _ k => XS.bipush X35.here hx rfl (hb hby d7_64) k) ?_
      show Go _ _ _ _ _ _ _ T35 (mkF m 66 #[.val (.ref ao), .val (.int ci)] [(.int (6 : Int32)), (.int ci), (.int (192 : Int32)), (.int ln), (.ref ab)])
      refine Go.step (fun _ k => XS.ishr X35.here hx rfl (hb hby d7_66) rfl k) ?_
      show Go _ _ _ _ _ _ _ T35 (mkF m 67 #[.val (.ref ao), .val (.int ci)] [(.int (ci >>> ((6 : Int32) &&& 31))), (.int (192 : Int32)), (.int ln), (.ref ab)])
      refine Go.step (fun _ k => XS.ior X35.here hx rfl (hb hby d7_67) rfl k) ?_
      show Go _ _ _ _ _ _ _ T35 (mkF m 68 #[.val (.ref ao), .val (.int ci)] [(.int ((192 : Int32) ||| (ci >>> ((6 : Int32) &&& 31)))), (.int ln), (.ref ab)])
      refine Go.step (fun _ k => XS.i2b X35.here hx rfl (hb hby d7_68) rfl k) ?_
      show Go _ _ _ _ _ _ _ T35 (mkF m 69 #[.val (.ref ao), .val (.int ci)] [(.int (((192 : Int32) ||| (ci >>> ((6 : Int32) &&& 31))).toInt8.toInt32)), (.int ln), (.ref ab)])
      have f36 : Arv Z h35 ab kb .byte (256 : Int32) vs (.int (0 : Int32)) := (V0.other W35 (Ne.symm ne0))
      obtain ⟨cl37, Ar37, q37, S37, M37, H37, G37⟩ := id (f36)
      have hin37 : ¬ (ln < 0 ∨ cl37.slots.size ≤ (ln).toNatClampNeg) := inb_of S37 ⟨(by have := rng32 ln; have : (0 : Int32).toInt = 0 := rfl; have : (256 : Int32).toInt = 256 := rfl; have : (200 : Int32).toInt = 200 := rfl; simp only [Int32.lt_iff_toInt_lt, Int32.le_iff_toInt_le, ← Int32.toInt_inj, Int64.lt_iff_toInt_lt, Int64.le_iff_toInt_le, ← Int64.toInt_inj] at hl0 hl1 ⊢; omega), (by have := rng32 ln; have : (0 : Int32).toInt = 0 := rfl; have : (256 : Int32).toInt = 256 := rfl; have : (200 : Int32).toInt = 200 := rfl; simp only [Int32.lt_iff_toInt_lt, Int32.le_iff_toInt_le, ← Int32.toInt_inj, Int64.lt_iff_toInt_lt, Int64.le_iff_toInt_le, ← Int64.toInt_inj] at hl0 hl1 ⊢; omega)⟩
      obtain ⟨T37, h37, X37, e37, W37, st37⟩ := stB X35 hx hZ e35 Ar37 (j := ln) hin37 (g := (mkF m 69 #[.val (.ref ao), .val (.int ci)] [(.int (((192 : Int32) ||| (ci >>> ((6 : Int32) &&& 31))).toInt8.toInt32)), (.int ln), (.ref ab)])) rfl rfl (hb hby d7_69)
      refine Go.step st37 ?_
      have V37 : Arv Z h37 ab kb .byte (256 : Int32) (vs.set (ln).toNatClampNeg (.int (nar .byte (((192 : Int32) ||| (ci >>> ((6 : Int32) &&& 31))).toInt8.toInt32)))) (.int (0 : Int32)) := Arv.set Ar37 q37 S37 M37 H37 G37 (fits_nar_byte _) W37 (ln).toNatClampNeg rfl (own_tn (n := (vs).length) (by have := rng32 ln; have : (0 : Int32).toInt = 0 := rfl; have : (256 : Int32).toInt = 256 := rfl; have : (200 : Int32).toInt = 200 := rfl; simp only [Int32.lt_iff_toInt_lt, Int32.le_iff_toInt_le, ← Int32.toInt_inj, Int64.lt_iff_toInt_lt, Int64.le_iff_toInt_le, ← Int64.toInt_inj] at hl0 hl1; omega) (by simp only [List.length_set, hlen]; exact (by have := rng32 ln; have : (0 : Int32).toInt = 0 := rfl; have : (256 : Int32).toInt = 256 := rfl; have : (200 : Int32).toInt = 200 := rfl; simp only [Int32.lt_iff_toInt_lt, Int32.le_iff_toInt_le, ← Int32.toInt_inj, Int64.lt_iff_toInt_lt, Int64.le_iff_toInt_le, ← Int64.toInt_inj] at hl0 hl1; omega)))
      have N37 := Fr.snoc X37 N35 g1
      have Z37 : n0 ≤ h37.size := Nat.le_trans Z35 (Keep.of_wr W37).1
      have KK37 : Keep h0 h37 [ao, ab] := KK35.wr W37 (Or.inl (List.mem_of_getElem? (i := 1) rfl))
      show Go _ _ _ _ _ _ _ T37 (mkF m 70 #[.val (.ref ao), .val (.int ci)] [])
      refine Go.step (fun _ k => XS.aloadN X37.here hx rfl (hb hby d7_70) rfl rfl k) ?_
      show Go _ _ _ _ _ _ _ T37 (mkF m 71 #[.val (.ref ao), .val (.int ci)] [(.ref ao)])
      have f38 : Fld Z h37 ao "com/example/hearthlog/hearthlog/Utf8Line" "bytes" "[B" (.ref ab) := ((Fb.other W35 (Or.inr (slot_ne (a0 := a0) (C := "com/example/hearthlog/hearthlog/Utf8Line") (Or.inl (hw _ (List.mem_of_getElem? (i := 18) rfl))) (Or.inl (hw _ (List.mem_of_getElem? (i := 25) rfl))) (by decide) (t := (.array .byte)) (t' := .int) (by decide) (by decide)))).other W37 (Or.inl ne0))
      obtain ⟨T39, X39, e39, st39⟩ := getF X37 hx hZ hown (host := "") (Or.inl (hw _ (List.mem_of_getElem? (i := 17) rfl))) Via.refl e37 f38 (g := (mkF m 71 #[.val (.ref ao), .val (.int ci)] [(.ref ao)])) rfl rfl (hb hby d7_71)
      refine Go.step st39 ?_
      show Go _ _ _ _ _ _ _ T39 (mkF m 74 #[.val (.ref ao), .val (.int ci)] [(.ref ab)])
      refine Go.step (fun _ k => XS.aloadN X39.here hx rfl (hb hby d7_74) rfl rfl k) ?_
      show Go _ _ _ _ _ _ _ T39 (mkF m 75 #[.val (.ref ao), .val (.int ci)] [(.ref ao), (.ref ab)])
      refine Go.step (fun _ k => XS.dup X39.here hx rfl (hb hby d7_75) rfl rfl k) ?_
      show Go _ _ _ _ _ _ _ T39 (mkF m 76 #[.val (.ref ao), .val (.int ci)] [(.ref ao), (.ref ao), (.ref ab)])
      have f40 : Fld Z h37 ao "com/example/hearthlog/hearthlog/Utf8Line" "length" "I" (.int (ln + (1 : Int32))) := (Fw35.other W37 (Or.inl ne0))
      obtain ⟨T41, X41, e41, st41⟩ := getF X39 hx hZ hown (host := "") (Or.inl (hw _ (List.mem_of_getElem? (i := 24) rfl))) Via.refl e39 f40 (g := (mkF m 76 #[.val (.ref ao), .val (.int ci)] [(.ref ao), (.ref ao), (.ref ab)])) rfl rfl (hb hby d7_76)
      refine Go.step st41 ?_
      show Go _ _ _ _ _ _ _ T41 (mkF m 79 #[.val (.ref ao), .val (.int ci)] [(.int (ln + (1 : Int32))), (.ref ao), (.ref ab)])
      refine Go.step (fun _ k => XS.dupX1 X41.here hx rfl (hb hby d7_79) rfl rfl rfl k) ?_
      show Go _ _ _ _ _ _ _ T41 (mkF m 80 #[.val (.ref ao), .val (.int ci)] [(.int (ln + (1 : Int32))), (.ref ao), (.int (ln + (1 : Int32))), (.ref ab)])
      refine Go.step (fun _ k => XS.iconst X41.here hx rfl (hb hby d7_80) k) ?_
      show Go _ _ _ _ _ _ _ T41 (mkF m 81 #[.val (.ref ao), .val (.int ci)] [(.int (1 : Int32)), (.int (ln + (1 : Int32))), (.ref ao), (.int (ln + (1 : Int32))), (.ref ab)])
      refine Go.step (fun _ k => XS.iadd X41.here hx rfl (hb hby d7_81) rfl k) ?_
      show Go _ _ _ _ _ _ _ T41 (mkF m 82 #[.val (.ref ao), .val (.int ci)] [(.int ((ln + (1 : Int32)) + (1 : Int32))), (.ref ao), (.int (ln + (1 : Int32))), (.ref ab)])
      have f42 : Exa Z h37 ao "com/example/hearthlog/hearthlog/Utf8Line" := ((E0.wr W35).wr W37)
      obtain ⟨T43, h43, X43, e43, W43, st43⟩ := putF X41 hx hZ hown (host := "") (Or.inl (hw _ (List.mem_of_getElem? (i := 24) rfl))) Via.refl e41 f40 f42 (Or.inl (hw _ (List.mem_of_getElem? (i := 25) rfl))) (hw _ (List.mem_of_getElem? (i := 3) rfl)) (ty := .int) (by decide) rfl rfl (g := (mkF m 82 #[.val (.ref ao), .val (.int ci)] [(.int ((ln + (1 : Int32)) + (1 : Int32))), (.ref ao), (.int (ln + (1 : Int32))), (.ref ab)])) rfl rfl (hb hby d7_82)
      refine Go.step st43 ?_
      have Fw43 := f40.same W43
      have N43 := Fr.snoc X43 N37 g0
      have Z43 : n0 ≤ h43.size := Nat.le_trans Z37 (Keep.of_wr W43).1
      have KK43 : Keep h0 h43 [ao, ab] := KK37.wr W43 (Or.inl (List.mem_of_getElem? (i := 0) rfl))
      show Go _ _ _ _ _ _ _ T43 (mkF m 85 #[.val (.ref ao), .val (.int ci)] [(.int (ln + (1 : Int32))), (.ref ab)])
      refine Go.step (fun _ k => XS.sipush X43.here hx rfl (hb hby d7_85) k) ?_
      show Go _ _ _ _ _ _ _ T43 (mkF m 88 #[.val (.ref ao), .val (.int ci)] [(.int (128 : Int32)), (.int (ln + (1 : Int32))), (.ref ab)])
      refine Go.step (fun _ k => XS.iloadN X43.here hx rfl (hb hby d7_88) rfl k) ?_
      show Go _ _ _ _ _ _ _ T43 (mkF m 89 #[.val (.ref ao), .val (.int ci)] [(.int ci), (.int (128 : Int32)), (.int (ln + (1 : Int32))), (.ref ab)])
      refine Go.step (fun _ k => XS.bipush X43.here hx rfl (hb hby d7_89) k) ?_
      show Go _ _ _ _ _ _ _ T43 (mkF m 91 #[.val (.ref ao), .val (.int ci)] [(.int (63 : Int32)), (.int ci), (.int (128 : Int32)), (.int (ln + (1 : Int32))), (.ref ab)])
      refine Go.step (fun _ k => XS.iand X43.here hx rfl (hb hby d7_91) rfl k) ?_
      show Go _ _ _ _ _ _ _ T43 (mkF m 92 #[.val (.ref ao), .val (.int ci)] [(.int (ci &&& (63 : Int32))), (.int (128 : Int32)), (.int (ln + (1 : Int32))), (.ref ab)])
      refine Go.step (fun _ k => XS.ior X43.here hx rfl (hb hby d7_92) rfl k) ?_
      show Go _ _ _ _ _ _ _ T43 (mkF m 93 #[.val (.ref ao), .val (.int ci)] [(.int ((128 : Int32) ||| (ci &&& (63 : Int32)))), (.int (ln + (1 : Int32))), (.ref ab)])
      refine Go.step (fun _ k => XS.i2b X43.here hx rfl (hb hby d7_93) rfl k) ?_
      show Go _ _ _ _ _ _ _ T43 (mkF m 94 #[.val (.ref ao), .val (.int ci)] [(.int (((128 : Int32) ||| (ci &&& (63 : Int32))).toInt8.toInt32)), (.int (ln + (1 : Int32))), (.ref ab)])
      have f44 : Arv Z h43 ab kb .byte (256 : Int32) (vs.set (ln).toNatClampNeg (.int (nar .byte (((192 : Int32) ||| (ci >>> ((6 : Int32) &&& 31))).toInt8.toInt32)))) (.int (0 : Int32)) := (V37.other W43 (Ne.symm ne0))
      obtain ⟨cl45, Ar45, q45, S45, M45, H45, G45⟩ := id (f44)
      have hin45 : ¬ ((ln + (1 : Int32)) < 0 ∨ cl45.slots.size ≤ ((ln + (1 : Int32))).toNatClampNeg) := inb_of S45 ⟨(by have := rng32 ln; have : (1 : Int32).toInt = 1 := rfl; have := rng32 (ln + (1 : Int32)); have := c_iadd ln (1 : Int32); have : (0 : Int32).toInt = 0 := rfl; have : (256 : Int32).toInt = 256 := rfl; have : (200 : Int32).toInt = 200 := rfl; simp only [Int32.lt_iff_toInt_lt, Int32.le_iff_toInt_le, ← Int32.toInt_inj, Int64.lt_iff_toInt_lt, Int64.le_iff_toInt_le, ← Int64.toInt_inj] at hl0 hl1 ⊢; omega), (by have := rng32 ln; have : (1 : Int32).toInt = 1 := rfl; have := rng32 (ln + (1 : Int32)); have := c_iadd ln (1 : Int32); have : (0 : Int32).toInt = 0 := rfl; have : (256 : Int32).toInt = 256 := rfl; have : (200 : Int32).toInt = 200 := rfl; simp only [Int32.lt_iff_toInt_lt, Int32.le_iff_toInt_le, ← Int32.toInt_inj, Int64.lt_iff_toInt_lt, Int64.le_iff_toInt_le, ← Int64.toInt_inj] at hl0 hl1 ⊢; omega)⟩
      obtain ⟨T45, h45, X45, e45, W45, st45⟩ := stB X43 hx hZ e43 Ar45 (j := (ln + (1 : Int32))) hin45 (g := (mkF m 94 #[.val (.ref ao), .val (.int ci)] [(.int (((128 : Int32) ||| (ci &&& (63 : Int32))).toInt8.toInt32)), (.int (ln + (1 : Int32))), (.ref ab)])) rfl rfl (hb hby d7_94)
      refine Go.step st45 ?_
      have V45 : Arv Z h45 ab kb .byte (256 : Int32) ((vs.set (ln).toNatClampNeg (.int (nar .byte (((192 : Int32) ||| (ci >>> ((6 : Int32) &&& 31))).toInt8.toInt32)))).set ((ln + (1 : Int32))).toNatClampNeg (.int (nar .byte (((128 : Int32) ||| (ci &&& (63 : Int32))).toInt8.toInt32)))) (.int (0 : Int32)) := Arv.set Ar45 q45 S45 M45 H45 G45 (fits_nar_byte _) W45 ((ln + (1 : Int32))).toNatClampNeg rfl (own_tn (n := ((vs.set (ln).toNatClampNeg (.int (nar .byte (((192 : Int32) ||| (ci >>> ((6 : Int32) &&& 31))).toInt8.toInt32))))).length) (by have := rng32 ln; have : (1 : Int32).toInt = 1 := rfl; have := rng32 (ln + (1 : Int32)); have := c_iadd ln (1 : Int32); have : (0 : Int32).toInt = 0 := rfl; have : (256 : Int32).toInt = 256 := rfl; have : (200 : Int32).toInt = 200 := rfl; simp only [Int32.lt_iff_toInt_lt, Int32.le_iff_toInt_le, ← Int32.toInt_inj, Int64.lt_iff_toInt_lt, Int64.le_iff_toInt_le, ← Int64.toInt_inj] at hl0 hl1; omega) (by simp only [List.length_set, hlen]; exact (by have := rng32 ln; have : (1 : Int32).toInt = 1 := rfl; have := rng32 (ln + (1 : Int32)); have := c_iadd ln (1 : Int32); have : (0 : Int32).toInt = 0 := rfl; have : (256 : Int32).toInt = 256 := rfl; have : (200 : Int32).toInt = 200 := rfl; simp only [Int32.lt_iff_toInt_lt, Int32.le_iff_toInt_le, ← Int32.toInt_inj, Int64.lt_iff_toInt_lt, Int64.le_iff_toInt_le, ← Int64.toInt_inj] at hl0 hl1; omega)))
      have N45 := Fr.snoc X45 N43 g1
      have Z45 : n0 ≤ h45.size := Nat.le_trans Z43 (Keep.of_wr W45).1
      have KK45 : Keep h0 h45 [ao, ab] := KK43.wr W45 (Or.inl (List.mem_of_getElem? (i := 1) rfl))
      show Go _ _ _ _ _ _ _ T45 (mkF m 95 #[.val (.ref ao), .val (.int ci)] [])
      refine Go.step (fun _ k => XS.goto X45.here hx rfl (pc0 := 95) (pc' := 291) rfl (hb hby d7_95) (by decide) (by decide) k) ?_
      show Go _ _ _ _ _ _ _ T45 (mkF m 291 #[.val (.ref ao), .val (.int ci)] [])
      -- ((ln + (1 : Int32)) + (1 : Int32))
      have f46 : Exa Z h45 ao "com/example/hearthlog/hearthlog/Utf8Line" := ((f42.wr W43).wr W45)
      have f47 : Fld Z h45 ao "com/example/hearthlog/hearthlog/Utf8Line" "bytes" "[B" (.ref ab) := ((f38.other W43 (Or.inr (slot_ne (a0 := a0) (C := "com/example/hearthlog/hearthlog/Utf8Line") (Or.inl (hw _ (List.mem_of_getElem? (i := 18) rfl))) (Or.inl (hw _ (List.mem_of_getElem? (i := 25) rfl))) (by decide) (t := (.array .byte)) (t' := .int) (by decide) (by decide)))).other W45 (Or.inl ne0))
      have f48 : Fld Z h45 ao "com/example/hearthlog/hearthlog/Utf8Line" "length" "I" (.int ((ln + (1 : Int32)) + (1 : Int32))) := (Fw43.other W45 (Or.inl ne0))
      exact Go.ret0 X45 hx hret hlk (hb hby d7_291) e45 (by decide) (by decide) ⟨((ln + (1 : Int32)) + (1 : Int32)), ((vs.set (ln).toNatClampNeg (.int (nar .byte (((192 : Int32) ||| (ci >>> ((6 : Int32) &&& 31))).toInt8.toInt32)))).set ((ln + (1 : Int32))).toNatClampNeg (.int (nar .byte (((128 : Int32) ||| (ci &&& (63 : Int32))).toInt8.toInt32)))), (nar .byte (((128 : Int32) ||| (ci &&& (63 : Int32))).toInt8.toInt32)), rfl, N45, KK45, f46, f47, f48, V45, (by simp only [List.length_set, hlen]), (by have := rng32 ln; have : (1 : Int32).toInt = 1 := rfl; have := rng32 (ln + (1 : Int32)); have := c_iadd ln (1 : Int32); have := rng32 ((ln + (1 : Int32)) + (1 : Int32)); have := c_iadd (ln + (1 : Int32)) (1 : Int32); have : (0 : Int32).toInt = 0 := rfl; have : (200 : Int32).toInt = 200 := rfl; simp only [Int32.lt_iff_toInt_lt, Int32.le_iff_toInt_le, ← Int32.toInt_inj, Int64.lt_iff_toInt_lt, Int64.le_iff_toInt_le, ← Int64.toInt_inj] at hl0 hl1; omega), (own_last (own_tn (n := ((vs.set (ln).toNatClampNeg (.int (nar .byte (((192 : Int32) ||| (ci >>> ((6 : Int32) &&& 31))).toInt8.toInt32))))).length) (by have := rng32 ln; have : (1 : Int32).toInt = 1 := rfl; have := rng32 (ln + (1 : Int32)); have := c_iadd ln (1 : Int32); have : (0 : Int32).toInt = 0 := rfl; have : (256 : Int32).toInt = 256 := rfl; have : (200 : Int32).toInt = 200 := rfl; simp only [Int32.lt_iff_toInt_lt, Int32.le_iff_toInt_le, ← Int32.toInt_inj, Int64.lt_iff_toInt_lt, Int64.le_iff_toInt_le, ← Int64.toInt_inj] at hl0 hl1; omega) (by simp only [List.length_set, hlen]; exact (by have := rng32 ln; have : (1 : Int32).toInt = 1 := rfl; have := rng32 (ln + (1 : Int32)); have := c_iadd ln (1 : Int32); have : (0 : Int32).toInt = 0 := rfl; have : (256 : Int32).toInt = 256 := rfl; have : (200 : Int32).toInt = 200 := rfl; simp only [Int32.lt_iff_toInt_lt, Int32.le_iff_toInt_le, ← Int32.toInt_inj, Int64.lt_iff_toInt_lt, Int64.le_iff_toInt_le, ← Int64.toInt_inj] at hl0 hl1; omega)))), (show (((128 : Int32) ||| (ci &&& (63 : Int32))).toInt8.toInt32).toInt8.toInt32 = 10 ↔ ci = 10 from ⟨fun q => absurd q (by rw [own_i2b2]; exact own_neg ci), fun q => absurd q (by have := rng32 ci; have : (10 : Int32).toInt = 10 := rfl; have : (128 : Int32).toInt = 128 := rfl; simp only [ne_eq, Int32.lt_iff_toInt_lt, Int32.le_iff_toInt_le, ← Int32.toInt_inj, Int64.lt_iff_toInt_lt, Int64.le_iff_toInt_le, ← Int64.toInt_inj] at hc14_23 ⊢; omega)⟩)⟩
    · refine Go.step (fun _ k => XS.icmpYes X22.here hx rfl (pc0 := 42) (pc' := 98) rfl (hb hby d7_42) rfl (flt hc42_32).2.1 (by decide) (by decide) k) ?_
      show Go _ _ _ _ _ _ _ T22 (mkF m 98 #[.val (.ref ao), .val (.int ci)] [])
      refine Go.step (fun _ k => XS.iloadN X22.here hx rfl (hb hby d7_98) rfl k) ?_
      show Go _ _ _ _ _ _ _ T22 (mkF m 99 #[.val (.ref ao), .val (.int ci)] [(.int ci)])
      refine Go.step (X22.ldcInt hx hown (mvT hZ (hw _ (List.mem_of_getElem? (i := 44) rfl))) (g := (mkF m 99 #[.val (.ref ao), .val (.int ci)] [(.int ci)])) rfl (hb hby d7_99)) ?_
      show Go _ _ _ _ _ _ _ T22 (mkF m 101 #[.val (.ref ao), .val (.int ci)] [(.int (65536 : Int32)), (.int ci)])
      have hc101_49 : ci < (65536 : Int32) := (by have := rng32 ci; have : (65535 : Int32).toInt = 65535 := rfl; have : (65536 : Int32).toInt = 65536 := rfl; simp only [Int32.lt_iff_toInt_lt, Int32.le_iff_toInt_le, ← Int32.toInt_inj, Int64.lt_iff_toInt_lt, Int64.le_iff_toInt_le, ← Int64.toInt_inj] at hc1 ⊢; omega)
      refine Go.step (fun _ k => XS.icmpNo X22.here hx rfl (hb hby d7_101) rfl (tlt hc101_49).2.1 k) ?_
      show Go _ _ _ _ _ _ _ T22 (mkF m 104 #[.val (.ref ao), .val (.int ci)] [])
      refine Go.step (fun _ k => XS.aloadN X22.here hx rfl (hb hby d7_104) rfl rfl k) ?_
      show Go _ _ _ _ _ _ _ T22 (mkF m 105 #[.val (.ref ao), .val (.int ci)] [(.ref ao)])
      obtain ⟨T50, X50, e50, st50⟩ := getF X22 hx hZ hown (host := "") (Or.inl (hw _ (List.mem_of_getElem? (i := 17) rfl))) Via.refl e22 Fb (g := (mkF m 105 #[.val (.ref ao), .val (.int ci)] [(.ref ao)])) rfl rfl (hb hby d7_105)
      refine Go.step st50 ?_
      show Go _ _ _ _ _ _ _ T50 (mkF m 108 #[.val (.ref ao), .val (.int ci)] [(.ref ab)])
      refine Go.step (fun _ k => XS.aloadN X50.here hx rfl (hb hby d7_108) rfl rfl k) ?_
      show Go _ _ _ _ _ _ _ T50 (mkF m 109 #[.val (.ref ao), .val (.int ci)] [(.ref ao), (.ref ab)])
      refine Go.step (fun _ k => XS.dup X50.here hx rfl (hb hby d7_109) rfl rfl k) ?_
      show Go _ _ _ _ _ _ _ T50 (mkF m 110 #[.val (.ref ao), .val (.int ci)] [(.ref ao), (.ref ao), (.ref ab)])
      obtain ⟨T51, X51, e51, st51⟩ := getF X50 hx hZ hown (host := "") (Or.inl (hw _ (List.mem_of_getElem? (i := 24) rfl))) Via.refl e50 Fl (g := (mkF m 110 #[.val (.ref ao), .val (.int ci)] [(.ref ao), (.ref ao), (.ref ab)])) rfl rfl (hb hby d7_110)
      refine Go.step st51 ?_
      show Go _ _ _ _ _ _ _ T51 (mkF m 113 #[.val (.ref ao), .val (.int ci)] [(.int ln), (.ref ao), (.ref ab)])
      refine Go.step (fun _ k => XS.dupX1 X51.here hx rfl (hb hby d7_113) rfl rfl rfl k) ?_
      show Go _ _ _ _ _ _ _ T51 (mkF m 114 #[.val (.ref ao), .val (.int ci)] [(.int ln), (.ref ao), (.int ln), (.ref ab)])
      refine Go.step (fun _ k => XS.iconst X51.here hx rfl (hb hby d7_114) k) ?_
      show Go _ _ _ _ _ _ _ T51 (mkF m 115 #[.val (.ref ao), .val (.int ci)] [(.int (1 : Int32)), (.int ln), (.ref ao), (.int ln), (.ref ab)])
      refine Go.step (fun _ k => XS.iadd X51.here hx rfl (hb hby d7_115) rfl k) ?_
      show Go _ _ _ _ _ _ _ T51 (mkF m 116 #[.val (.ref ao), .val (.int ci)] [(.int (ln + (1 : Int32))), (.ref ao), (.int ln), (.ref ab)])
      obtain ⟨T52, h52, X52, e52, W52, st52⟩ := putF X51 hx hZ hown (host := "") (Or.inl (hw _ (List.mem_of_getElem? (i := 24) rfl))) Via.refl e51 Fl E0 (Or.inl (hw _ (List.mem_of_getElem? (i := 25) rfl))) (hw _ (List.mem_of_getElem? (i := 3) rfl)) (ty := .int) (by decide) rfl rfl (g := (mkF m 116 #[.val (.ref ao), .val (.int ci)] [(.int (ln + (1 : Int32))), (.ref ao), (.int ln), (.ref ab)])) rfl rfl (hb hby d7_116)
      refine Go.step st52 ?_
      have Fw52 := Fl.same W52
      have N52 := Fr.snoc X52 N22 g0
      have Z52 : n0 ≤ h52.size := Nat.le_trans Z0 (Keep.of_wr W52).1
      have KK52 : Keep h0 h52 [ao, ab] := (Keep.refl h0 [ao, ab]).wr W52 (Or.inl (List.mem_of_getElem? (i := 0) rfl))
      show Go _ _ _ _ _ _ _ T52 (mkF m 119 #[.val (.ref ao), .val (.int ci)] [(.int ln), (.ref ab)])
      refine Go.step (fun _ k => XS.sipush X52.here hx rfl (hb hby d7_119) k) ?_
      show Go _ _ _ _ _ _ _ T52 (mkF m 122 #[.val (.ref ao), .val (.int ci)] [(.int (224 : Int32)), (.int ln), (.ref ab)])
      refine Go.step (fun _ k => XS.iloadN X52.here hx rfl (hb hby d7_122) rfl k) ?_
      show Go _ _ _ _ _ _ _ T52 (mkF m 123 #[.val (.ref ao), .val (.int ci)] [(.int ci), (.int (224 : Int32)), (.int ln), (.ref ab)])
      refine Go.step (fun _ k => XS.bipush X52.here hx rfl (hb hby d7_123) k) ?_
      show Go _ _ _ _ _ _ _ T52 (mkF m 125 #[.val (.ref ao), .val (.int ci)] [(.int (12 : Int32)), (.int ci), (.int (224 : Int32)), (.int ln), (.ref ab)])
      refine Go.step (fun _ k => XS.ishr X52.here hx rfl (hb hby d7_125) rfl k) ?_
      show Go _ _ _ _ _ _ _ T52 (mkF m 126 #[.val (.ref ao), .val (.int ci)] [(.int (ci >>> ((12 : Int32) &&& 31))), (.int (224 : Int32)), (.int ln), (.ref ab)])
      refine Go.step (fun _ k => XS.ior X52.here hx rfl (hb hby d7_126) rfl k) ?_
      show Go _ _ _ _ _ _ _ T52 (mkF m 127 #[.val (.ref ao), .val (.int ci)] [(.int ((224 : Int32) ||| (ci >>> ((12 : Int32) &&& 31)))), (.int ln), (.ref ab)])
      refine Go.step (fun _ k => XS.i2b X52.here hx rfl (hb hby d7_127) rfl k) ?_
      show Go _ _ _ _ _ _ _ T52 (mkF m 128 #[.val (.ref ao), .val (.int ci)] [(.int (((224 : Int32) ||| (ci >>> ((12 : Int32) &&& 31))).toInt8.toInt32)), (.int ln), (.ref ab)])
      have f53 : Arv Z h52 ab kb .byte (256 : Int32) vs (.int (0 : Int32)) := (V0.other W52 (Ne.symm ne0))
      obtain ⟨cl54, Ar54, q54, S54, M54, H54, G54⟩ := id (f53)
      have hin54 : ¬ (ln < 0 ∨ cl54.slots.size ≤ (ln).toNatClampNeg) := inb_of S54 ⟨(by have := rng32 ln; have : (0 : Int32).toInt = 0 := rfl; have : (256 : Int32).toInt = 256 := rfl; have : (200 : Int32).toInt = 200 := rfl; simp only [Int32.lt_iff_toInt_lt, Int32.le_iff_toInt_le, ← Int32.toInt_inj, Int64.lt_iff_toInt_lt, Int64.le_iff_toInt_le, ← Int64.toInt_inj] at hl0 hl1 ⊢; omega), (by have := rng32 ln; have : (0 : Int32).toInt = 0 := rfl; have : (256 : Int32).toInt = 256 := rfl; have : (200 : Int32).toInt = 200 := rfl; simp only [Int32.lt_iff_toInt_lt, Int32.le_iff_toInt_le, ← Int32.toInt_inj, Int64.lt_iff_toInt_lt, Int64.le_iff_toInt_le, ← Int64.toInt_inj] at hl0 hl1 ⊢; omega)⟩
      obtain ⟨T54, h54, X54, e54, W54, st54⟩ := stB X52 hx hZ e52 Ar54 (j := ln) hin54 (g := (mkF m 128 #[.val (.ref ao), .val (.int ci)] [(.int (((224 : Int32) ||| (ci >>> ((12 : Int32) &&& 31))).toInt8.toInt32)), (.int ln), (.ref ab)])) rfl rfl (hb hby d7_128)
      refine Go.step st54 ?_
      have V54 : Arv Z h54 ab kb .byte (256 : Int32) (vs.set (ln).toNatClampNeg (.int (nar .byte (((224 : Int32) ||| (ci >>> ((12 : Int32) &&& 31))).toInt8.toInt32)))) (.int (0 : Int32)) := Arv.set Ar54 q54 S54 M54 H54 G54 (fits_nar_byte _) W54 (ln).toNatClampNeg rfl (own_tn (n := (vs).length) (by have := rng32 ln; have : (0 : Int32).toInt = 0 := rfl; have : (256 : Int32).toInt = 256 := rfl; have : (200 : Int32).toInt = 200 := rfl; simp only [Int32.lt_iff_toInt_lt, Int32.le_iff_toInt_le, ← Int32.toInt_inj, Int64.lt_iff_toInt_lt, Int64.le_iff_toInt_le, ← Int64.toInt_inj] at hl0 hl1; omega) (by simp only [List.length_set, hlen]; exact (by have := rng32 ln; have : (0 : Int32).toInt = 0 := rfl; have : (256 : Int32).toInt = 256 := rfl; have : (200 : Int32).toInt = 200 := rfl; simp only [Int32.lt_iff_toInt_lt, Int32.le_iff_toInt_le, ← Int32.toInt_inj, Int64.lt_iff_toInt_lt, Int64.le_iff_toInt_le, ← Int64.toInt_inj] at hl0 hl1; omega)))
      have N54 := Fr.snoc X54 N52 g1
      have Z54 : n0 ≤ h54.size := Nat.le_trans Z52 (Keep.of_wr W54).1
      have KK54 : Keep h0 h54 [ao, ab] := KK52.wr W54 (Or.inl (List.mem_of_getElem? (i := 1) rfl))
      show Go _ _ _ _ _ _ _ T54 (mkF m 129 #[.val (.ref ao), .val (.int ci)] [])
      refine Go.step (fun _ k => XS.aloadN X54.here hx rfl (hb hby d7_129) rfl rfl k) ?_
      show Go _ _ _ _ _ _ _ T54 (mkF m 130 #[.val (.ref ao), .val (.int ci)] [(.ref ao)])
      have f55 : Fld Z h54 ao "com/example/hearthlog/hearthlog/Utf8Line" "bytes" "[B" (.ref ab) := ((Fb.other W52 (Or.inr (slot_ne (a0 := a0) (C := "com/example/hearthlog/hearthlog/Utf8Line") (Or.inl (hw _ (List.mem_of_getElem? (i := 18) rfl))) (Or.inl (hw _ (List.mem_of_getElem? (i := 25) rfl))) (by decide) (t := (.array .byte)) (t' := .int) (by decide) (by decide)))).other W54 (Or.inl ne0))
      obtain ⟨T56, X56, e56, st56⟩ := getF X54 hx hZ hown (host := "") (Or.inl (hw _ (List.mem_of_getElem? (i := 17) rfl))) Via.refl e54 f55 (g := (mkF m 130 #[.val (.ref ao), .val (.int ci)] [(.ref ao)])) rfl rfl (hb hby d7_130)
      refine Go.step st56 ?_
      show Go _ _ _ _ _ _ _ T56 (mkF m 133 #[.val (.ref ao), .val (.int ci)] [(.ref ab)])
      refine Go.step (fun _ k => XS.aloadN X56.here hx rfl (hb hby d7_133) rfl rfl k) ?_
      show Go _ _ _ _ _ _ _ T56 (mkF m 134 #[.val (.ref ao), .val (.int ci)] [(.ref ao), (.ref ab)])
      refine Go.step (fun _ k => XS.dup X56.here hx rfl (hb hby d7_134) rfl rfl k) ?_
      show Go _ _ _ _ _ _ _ T56 (mkF m 135 #[.val (.ref ao), .val (.int ci)] [(.ref ao), (.ref ao), (.ref ab)])
      have f57 : Fld Z h54 ao "com/example/hearthlog/hearthlog/Utf8Line" "length" "I" (.int (ln + (1 : Int32))) := (Fw52.other W54 (Or.inl ne0))
      obtain ⟨T58, X58, e58, st58⟩ := getF X56 hx hZ hown (host := "") (Or.inl (hw _ (List.mem_of_getElem? (i := 24) rfl))) Via.refl e56 f57 (g := (mkF m 135 #[.val (.ref ao), .val (.int ci)] [(.ref ao), (.ref ao), (.ref ab)])) rfl rfl (hb hby d7_135)
      refine Go.step st58 ?_
      show Go _ _ _ _ _ _ _ T58 (mkF m 138 #[.val (.ref ao), .val (.int ci)] [(.int (ln + (1 : Int32))), (.ref ao), (.ref ab)])
      refine Go.step (fun _ k => XS.dupX1 X58.here hx rfl (hb hby d7_138) rfl rfl rfl k) ?_
      show Go _ _ _ _ _ _ _ T58 (mkF m 139 #[.val (.ref ao), .val (.int ci)] [(.int (ln + (1 : Int32))), (.ref ao), (.int (ln + (1 : Int32))), (.ref ab)])
      refine Go.step (fun _ k => XS.iconst X58.here hx rfl (hb hby d7_139) k) ?_
      show Go _ _ _ _ _ _ _ T58 (mkF m 140 #[.val (.ref ao), .val (.int ci)] [(.int (1 : Int32)), (.int (ln + (1 : Int32))), (.ref ao), (.int (ln + (1 : Int32))), (.ref ab)])
      refine Go.step (fun _ k => XS.iadd X58.here hx rfl (hb hby d7_140) rfl k) ?_
      show Go _ _ _ _ _ _ _ T58 (mkF m 141 #[.val (.ref ao), .val (.int ci)] [(.int ((ln + (1 : Int32)) + (1 : Int32))), (.ref ao), (.int (ln + (1 : Int32))), (.ref ab)])
      have f59 : Exa Z h54 ao "com/example/hearthlog/hearthlog/Utf8Line" := ((E0.wr W52).wr W54)
      obtain ⟨T60, h60, X60, e60, W60, st60⟩ := putF X58 hx hZ hown (host := "") (Or.inl (hw _ (List.mem_of_getElem? (i := 24) rfl))) Via.refl e58 f57 f59 (Or.inl (hw _ (List.mem_of_getElem? (i := 25) rfl))) (hw _ (List.mem_of_getElem? (i := 3) rfl)) (ty := .int) (by decide) rfl rfl (g := (mkF m 141 #[.val (.ref ao), .val (.int ci)] [(.int ((ln + (1 : Int32)) + (1 : Int32))), (.ref ao), (.int (ln + (1 : Int32))), (.ref ab)])) rfl rfl (hb hby d7_141)
      refine Go.step st60 ?_
      have Fw60 := f57.same W60
      have N60 := Fr.snoc X60 N54 g0
      have Z60 : n0 ≤ h60.size := Nat.le_trans Z54 (Keep.of_wr W60).1
      have KK60 : Keep h0 h60 [ao, ab] := KK54.wr W60 (Or.inl (List.mem_of_getElem? (i := 0) rfl))
      show Go _ _ _ _ _ _ _ T60 (mkF m 144 #[.val (.ref ao), .val (.int ci)] [(.int (ln + (1 : Int32))), (.ref ab)])
      refine Go.step (fun _ k => XS.sipush X60.here hx rfl (hb hby d7_144) k) ?_
      show Go _ _ _ _ _ _ _ T60 (mkF m 147 #[.val (.ref ao), .val (.int ci)] [(.int (128 : Int32)), (.int (ln + (1 : Int32))), (.ref ab)])
      refine Go.step (fun _ k => XS.iloadN X60.here hx rfl (hb hby d7_147) rfl k) ?_
      show Go _ _ _ _ _ _ _ T60 (mkF m 148 #[.val (.ref ao), .val (.int ci)] [(.int ci), (.int (128 : Int32)), (.int (ln + (1 : Int32))), (.ref ab)])
      refine Go.step (fun _ k => XS.bipush X60.here hx rfl (hb hby d7_148) k) ?_
      show Go _ _ _ _ _ _ _ T60 (mkF m 150 #[.val (.ref ao), .val (.int ci)] [(.int (6 : Int32)), (.int ci), (.int (128 : Int32)), (.int (ln + (1 : Int32))), (.ref ab)])
      refine Go.step (fun _ k => XS.ishr X60.here hx rfl (hb hby d7_150) rfl k) ?_
      show Go _ _ _ _ _ _ _ T60 (mkF m 151 #[.val (.ref ao), .val (.int ci)] [(.int (ci >>> ((6 : Int32) &&& 31))), (.int (128 : Int32)), (.int (ln + (1 : Int32))), (.ref ab)])
      refine Go.step (fun _ k => XS.bipush X60.here hx rfl (hb hby d7_151) k) ?_
      show Go _ _ _ _ _ _ _ T60 (mkF m 153 #[.val (.ref ao), .val (.int ci)] [(.int (63 : Int32)), (.int (ci >>> ((6 : Int32) &&& 31))), (.int (128 : Int32)), (.int (ln + (1 : Int32))), (.ref ab)])
      refine Go.step (fun _ k => XS.iand X60.here hx rfl (hb hby d7_153) rfl k) ?_
      show Go _ _ _ _ _ _ _ T60 (mkF m 154 #[.val (.ref ao), .val (.int ci)] [(.int ((ci >>> ((6 : Int32) &&& 31)) &&& (63 : Int32))), (.int (128 : Int32)), (.int (ln + (1 : Int32))), (.ref ab)])
      refine Go.step (fun _ k => XS.ior X60.here hx rfl (hb hby d7_154) rfl k) ?_
      show Go _ _ _ _ _ _ _ T60 (mkF m 155 #[.val (.ref ao), .val (.int ci)] [(.int ((128 : Int32) ||| ((ci >>> ((6 : Int32) &&& 31)) &&& (63 : Int32)))), (.int (ln + (1 : Int32))), (.ref ab)])
      refine Go.step (fun _ k => XS.i2b X60.here hx rfl (hb hby d7_155) rfl k) ?_
      show Go _ _ _ _ _ _ _ T60 (mkF m 156 #[.val (.ref ao), .val (.int ci)] [(.int (((128 : Int32) ||| ((ci >>> ((6 : Int32) &&& 31)) &&& (63 : Int32))).toInt8.toInt32)), (.int (ln + (1 : Int32))), (.ref ab)])
      have f61 : Arv Z h60 ab kb .byte (256 : Int32) (vs.set (ln).toNatClampNeg (.int (nar .byte (((224 : Int32) ||| (ci >>> ((12 : Int32) &&& 31))).toInt8.toInt32)))) (.int (0 : Int32)) := (V54.other W60 (Ne.symm ne0))
      obtain ⟨cl62, Ar62, q62, S62, M62, H62, G62⟩ := id (f61)
      have hin62 : ¬ ((ln + (1 : Int32)) < 0 ∨ cl62.slots.size ≤ ((ln + (1 : Int32))).toNatClampNeg) := inb_of S62 ⟨(by have := rng32 ln; have : (1 : Int32).toInt = 1 := rfl; have := rng32 (ln + (1 : Int32)); have := c_iadd ln (1 : Int32); have : (0 : Int32).toInt = 0 := rfl; have : (256 : Int32).toInt = 256 := rfl; have : (200 : Int32).toInt = 200 := rfl; simp only [Int32.lt_iff_toInt_lt, Int32.le_iff_toInt_le, ← Int32.toInt_inj, Int64.lt_iff_toInt_lt, Int64.le_iff_toInt_le, ← Int64.toInt_inj] at hl0 hl1 ⊢; omega), (by have := rng32 ln; have : (1 : Int32).toInt = 1 := rfl; have := rng32 (ln + (1 : Int32)); have := c_iadd ln (1 : Int32); have : (0 : Int32).toInt = 0 := rfl; have : (256 : Int32).toInt = 256 := rfl; have : (200 : Int32).toInt = 200 := rfl; simp only [Int32.lt_iff_toInt_lt, Int32.le_iff_toInt_le, ← Int32.toInt_inj, Int64.lt_iff_toInt_lt, Int64.le_iff_toInt_le, ← Int64.toInt_inj] at hl0 hl1 ⊢; omega)⟩
      obtain ⟨T62, h62, X62, e62, W62, st62⟩ := stB X60 hx hZ e60 Ar62 (j := (ln + (1 : Int32))) hin62 (g := (mkF m 156 #[.val (.ref ao), .val (.int ci)] [(.int (((128 : Int32) ||| ((ci >>> ((6 : Int32) &&& 31)) &&& (63 : Int32))).toInt8.toInt32)), (.int (ln + (1 : Int32))), (.ref ab)])) rfl rfl (hb hby d7_156)
      refine Go.step st62 ?_
      have V62 : Arv Z h62 ab kb .byte (256 : Int32) ((vs.set (ln).toNatClampNeg (.int (nar .byte (((224 : Int32) ||| (ci >>> ((12 : Int32) &&& 31))).toInt8.toInt32)))).set ((ln + (1 : Int32))).toNatClampNeg (.int (nar .byte (((128 : Int32) ||| ((ci >>> ((6 : Int32) &&& 31)) &&& (63 : Int32))).toInt8.toInt32)))) (.int (0 : Int32)) := Arv.set Ar62 q62 S62 M62 H62 G62 (fits_nar_byte _) W62 ((ln + (1 : Int32))).toNatClampNeg rfl (own_tn (n := ((vs.set (ln).toNatClampNeg (.int (nar .byte (((224 : Int32) ||| (ci >>> ((12 : Int32) &&& 31))).toInt8.toInt32))))).length) (by have := rng32 ln; have : (1 : Int32).toInt = 1 := rfl; have := rng32 (ln + (1 : Int32)); have := c_iadd ln (1 : Int32); have : (0 : Int32).toInt = 0 := rfl; have : (256 : Int32).toInt = 256 := rfl; have : (200 : Int32).toInt = 200 := rfl; simp only [Int32.lt_iff_toInt_lt, Int32.le_iff_toInt_le, ← Int32.toInt_inj, Int64.lt_iff_toInt_lt, Int64.le_iff_toInt_le, ← Int64.toInt_inj] at hl0 hl1; omega) (by simp only [List.length_set, hlen]; exact (by have := rng32 ln; have : (1 : Int32).toInt = 1 := rfl; have := rng32 (ln + (1 : Int32)); have := c_iadd ln (1 : Int32); have : (0 : Int32).toInt = 0 := rfl; have : (256 : Int32).toInt = 256 := rfl; have : (200 : Int32).toInt = 200 := rfl; simp only [Int32.lt_iff_toInt_lt, Int32.le_iff_toInt_le, ← Int32.toInt_inj, Int64.lt_iff_toInt_lt, Int64.le_iff_toInt_le, ← Int64.toInt_inj] at hl0 hl1; omega)))
      have N62 := Fr.snoc X62 N60 g1
      have Z62 : n0 ≤ h62.size := Nat.le_trans Z60 (Keep.of_wr W62).1
      have KK62 : Keep h0 h62 [ao, ab] := KK60.wr W62 (Or.inl (List.mem_of_getElem? (i := 1) rfl))
      show Go _ _ _ _ _ _ _ T62 (mkF m 157 #[.val (.ref ao), .val (.int ci)] [])
      refine Go.step (fun _ k => XS.aloadN X62.here hx rfl (hb hby d7_157) rfl rfl k) ?_
      show Go _ _ _ _ _ _ _ T62 (mkF m 158 #[.val (.ref ao), .val (.int ci)] [(.ref ao)])
      have f63 : Fld Z h62 ao "com/example/hearthlog/hearthlog/Utf8Line" "bytes" "[B" (.ref ab) := ((f55.other W60 (Or.inr (slot_ne (a0 := a0) (C := "com/example/hearthlog/hearthlog/Utf8Line") (Or.inl (hw _ (List.mem_of_getElem? (i := 18) rfl))) (Or.inl (hw _ (List.mem_of_getElem? (i := 25) rfl))) (by decide) (t := (.array .byte)) (t' := .int) (by decide) (by decide)))).other W62 (Or.inl ne0))
      obtain ⟨T64, X64, e64, st64⟩ := getF X62 hx hZ hown (host := "") (Or.inl (hw _ (List.mem_of_getElem? (i := 17) rfl))) Via.refl e62 f63 (g := (mkF m 158 #[.val (.ref ao), .val (.int ci)] [(.ref ao)])) rfl rfl (hb hby d7_158)
      refine Go.step st64 ?_
      show Go _ _ _ _ _ _ _ T64 (mkF m 161 #[.val (.ref ao), .val (.int ci)] [(.ref ab)])
      refine Go.step (fun _ k => XS.aloadN X64.here hx rfl (hb hby d7_161) rfl rfl k) ?_
      show Go _ _ _ _ _ _ _ T64 (mkF m 162 #[.val (.ref ao), .val (.int ci)] [(.ref ao), (.ref ab)])
      refine Go.step (fun _ k => XS.dup X64.here hx rfl (hb hby d7_162) rfl rfl k) ?_
      show Go _ _ _ _ _ _ _ T64 (mkF m 163 #[.val (.ref ao), .val (.int ci)] [(.ref ao), (.ref ao), (.ref ab)])
      have f65 : Fld Z h62 ao "com/example/hearthlog/hearthlog/Utf8Line" "length" "I" (.int ((ln + (1 : Int32)) + (1 : Int32))) := (Fw60.other W62 (Or.inl ne0))
      obtain ⟨T66, X66, e66, st66⟩ := getF X64 hx hZ hown (host := "") (Or.inl (hw _ (List.mem_of_getElem? (i := 24) rfl))) Via.refl e64 f65 (g := (mkF m 163 #[.val (.ref ao), .val (.int ci)] [(.ref ao), (.ref ao), (.ref ab)])) rfl rfl (hb hby d7_163)
      refine Go.step st66 ?_
      show Go _ _ _ _ _ _ _ T66 (mkF m 166 #[.val (.ref ao), .val (.int ci)] [(.int ((ln + (1 : Int32)) + (1 : Int32))), (.ref ao), (.ref ab)])
      refine Go.step (fun _ k => XS.dupX1 X66.here hx rfl (hb hby d7_166) rfl rfl rfl k) ?_
      show Go _ _ _ _ _ _ _ T66 (mkF m 167 #[.val (.ref ao), .val (.int ci)] [(.int ((ln + (1 : Int32)) + (1 : Int32))), (.ref ao), (.int ((ln + (1 : Int32)) + (1 : Int32))), (.ref ab)])
      refine Go.step (fun _ k => XS.iconst X66.here hx rfl (hb hby d7_167) k) ?_
      show Go _ _ _ _ _ _ _ T66 (mkF m 168 #[.val (.ref ao), .val (.int ci)] [(.int (1 : Int32)), (.int ((ln + (1 : Int32)) + (1 : Int32))), (.ref ao), (.int ((ln + (1 : Int32)) + (1 : Int32))), (.ref ab)])
      refine Go.step (fun _ k => XS.iadd X66.here hx rfl (hb hby d7_168) rfl k) ?_
      show Go _ _ _ _ _ _ _ T66 (mkF m 169 #[.val (.ref ao), .val (.int ci)] [(.int (((ln + (1 : Int32)) + (1 : Int32)) + (1 : Int32))), (.ref ao), (.int ((ln + (1 : Int32)) + (1 : Int32))), (.ref ab)])
      have f67 : Exa Z h62 ao "com/example/hearthlog/hearthlog/Utf8Line" := ((f59.wr W60).wr W62)
      obtain ⟨T68, h68, X68, e68, W68, st68⟩ := putF X66 hx hZ hown (host := "") (Or.inl (hw _ (List.mem_of_getElem? (i := 24) rfl))) Via.refl e66 f65 f67 (Or.inl (hw _ (List.mem_of_getElem? (i := 25) rfl))) (hw _ (List.mem_of_getElem? (i := 3) rfl)) (ty := .int) (by decide) rfl rfl (g := (mkF m 169 #[.val (.ref ao), .val (.int ci)] [(.int (((ln + (1 : Int32)) + (1 : Int32)) + (1 : Int32))), (.ref ao), (.int ((ln + (1 : Int32)) + (1 : Int32))), (.ref ab)])) rfl rfl (hb hby d7_169)
      refine Go.step st68 ?_
      have Fw68 := f65.same W68
      have N68 := Fr.snoc X68 N62 g0
      have Z68 : n0 ≤ h68.size := Nat.le_trans Z62 (Keep.of_wr W68).1
      have KK68 : Keep h0 h68 [ao, ab] := KK62.wr W68 (Or.inl (List.mem_of_getElem? (i := 0) rfl))
      show Go _ _ _ _ _ _ _ T68 (mkF m 172 #[.val (.ref ao), .val (.int ci)] [(.int ((ln + (1 : Int32)) + (1 : Int32))), (.ref ab)])
      refine Go.step (fun _ k => XS.sipush X68.here hx rfl (hb hby d7_172) k) ?_
      show Go _ _ _ _ _ _ _ T68 (mkF m 175 #[.val (.ref ao), .val (.int ci)] [(.int (128 : Int32)), (.int ((ln + (1 : Int32)) + (1 : Int32))), (.ref ab)])
      refine Go.step (fun _ k => XS.iloadN X68.here hx rfl (hb hby d7_175) rfl k) ?_
      show Go _ _ _ _ _ _ _ T68 (mkF m 176 #[.val (.ref ao), .val (.int ci)] [(.int ci), (.int (128 : Int32)), (.int ((ln + (1 : Int32)) + (1 : Int32))), (.ref ab)])
      refine Go.step (fun _ k => XS.bipush X68.here hx rfl (hb hby d7_176) k) ?_
      show Go _ _ _ _ _ _ _ T68 (mkF m 178 #[.val (.ref ao), .val (.int ci)] [(.int (63 : Int32)), (.int ci), (.int (128 : Int32)), (.int ((ln + (1 : Int32)) + (1 : Int32))), (.ref ab)])
      refine Go.step (fun _ k => XS.iand X68.here hx rfl (hb hby d7_178) rfl k) ?_
      show Go _ _ _ _ _ _ _ T68 (mkF m 179 #[.val (.ref ao), .val (.int ci)] [(.int (ci &&& (63 : Int32))), (.int (128 : Int32)), (.int ((ln + (1 : Int32)) + (1 : Int32))), (.ref ab)])
      refine Go.step (fun _ k => XS.ior X68.here hx rfl (hb hby d7_179) rfl k) ?_
      show Go _ _ _ _ _ _ _ T68 (mkF m 180 #[.val (.ref ao), .val (.int ci)] [(.int ((128 : Int32) ||| (ci &&& (63 : Int32)))), (.int ((ln + (1 : Int32)) + (1 : Int32))), (.ref ab)])
      refine Go.step (fun _ k => XS.i2b X68.here hx rfl (hb hby d7_180) rfl k) ?_
      show Go _ _ _ _ _ _ _ T68 (mkF m 181 #[.val (.ref ao), .val (.int ci)] [(.int (((128 : Int32) ||| (ci &&& (63 : Int32))).toInt8.toInt32)), (.int ((ln + (1 : Int32)) + (1 : Int32))), (.ref ab)])
      have f69 : Arv Z h68 ab kb .byte (256 : Int32) ((vs.set (ln).toNatClampNeg (.int (nar .byte (((224 : Int32) ||| (ci >>> ((12 : Int32) &&& 31))).toInt8.toInt32)))).set ((ln + (1 : Int32))).toNatClampNeg (.int (nar .byte (((128 : Int32) ||| ((ci >>> ((6 : Int32) &&& 31)) &&& (63 : Int32))).toInt8.toInt32)))) (.int (0 : Int32)) := (V62.other W68 (Ne.symm ne0))
      obtain ⟨cl70, Ar70, q70, S70, M70, H70, G70⟩ := id (f69)
      have hin70 : ¬ (((ln + (1 : Int32)) + (1 : Int32)) < 0 ∨ cl70.slots.size ≤ (((ln + (1 : Int32)) + (1 : Int32))).toNatClampNeg) := inb_of S70 ⟨(by have := rng32 ln; have : (1 : Int32).toInt = 1 := rfl; have := rng32 (ln + (1 : Int32)); have := c_iadd ln (1 : Int32); have := rng32 ((ln + (1 : Int32)) + (1 : Int32)); have := c_iadd (ln + (1 : Int32)) (1 : Int32); have : (0 : Int32).toInt = 0 := rfl; have : (256 : Int32).toInt = 256 := rfl; have : (200 : Int32).toInt = 200 := rfl; simp only [Int32.lt_iff_toInt_lt, Int32.le_iff_toInt_le, ← Int32.toInt_inj, Int64.lt_iff_toInt_lt, Int64.le_iff_toInt_le, ← Int64.toInt_inj] at hl0 hl1 ⊢; omega), (by have := rng32 ln; have : (1 : Int32).toInt = 1 := rfl; have := rng32 (ln + (1 : Int32)); have := c_iadd ln (1 : Int32); have := rng32 ((ln + (1 : Int32)) + (1 : Int32)); have := c_iadd (ln + (1 : Int32)) (1 : Int32); have : (0 : Int32).toInt = 0 := rfl; have : (256 : Int32).toInt = 256 := rfl; have : (200 : Int32).toInt = 200 := rfl; simp only [Int32.lt_iff_toInt_lt, Int32.le_iff_toInt_le, ← Int32.toInt_inj, Int64.lt_iff_toInt_lt, Int64.le_iff_toInt_le, ← Int64.toInt_inj] at hl0 hl1 ⊢; omega)⟩
      obtain ⟨T70, h70, X70, e70, W70, st70⟩ := stB X68 hx hZ e68 Ar70 (j := ((ln + (1 : Int32)) + (1 : Int32))) hin70 (g := (mkF m 181 #[.val (.ref ao), .val (.int ci)] [(.int (((128 : Int32) ||| (ci &&& (63 : Int32))).toInt8.toInt32)), (.int ((ln + (1 : Int32)) + (1 : Int32))), (.ref ab)])) rfl rfl (hb hby d7_181)
      refine Go.step st70 ?_
      have V70 : Arv Z h70 ab kb .byte (256 : Int32) (((vs.set (ln).toNatClampNeg (.int (nar .byte (((224 : Int32) ||| (ci >>> ((12 : Int32) &&& 31))).toInt8.toInt32)))).set ((ln + (1 : Int32))).toNatClampNeg (.int (nar .byte (((128 : Int32) ||| ((ci >>> ((6 : Int32) &&& 31)) &&& (63 : Int32))).toInt8.toInt32)))).set (((ln + (1 : Int32)) + (1 : Int32))).toNatClampNeg (.int (nar .byte (((128 : Int32) ||| (ci &&& (63 : Int32))).toInt8.toInt32)))) (.int (0 : Int32)) := Arv.set Ar70 q70 S70 M70 H70 G70 (fits_nar_byte _) W70 (((ln + (1 : Int32)) + (1 : Int32))).toNatClampNeg rfl (own_tn (n := (((vs.set (ln).toNatClampNeg (.int (nar .byte (((224 : Int32) ||| (ci >>> ((12 : Int32) &&& 31))).toInt8.toInt32)))).set ((ln + (1 : Int32))).toNatClampNeg (.int (nar .byte (((128 : Int32) ||| ((ci >>> ((6 : Int32) &&& 31)) &&& (63 : Int32))).toInt8.toInt32))))).length) (by have := rng32 ln; have : (1 : Int32).toInt = 1 := rfl; have := rng32 (ln + (1 : Int32)); have := c_iadd ln (1 : Int32); have := rng32 ((ln + (1 : Int32)) + (1 : Int32)); have := c_iadd (ln + (1 : Int32)) (1 : Int32); have : (0 : Int32).toInt = 0 := rfl; have : (256 : Int32).toInt = 256 := rfl; have : (200 : Int32).toInt = 200 := rfl; simp only [Int32.lt_iff_toInt_lt, Int32.le_iff_toInt_le, ← Int32.toInt_inj, Int64.lt_iff_toInt_lt, Int64.le_iff_toInt_le, ← Int64.toInt_inj] at hl0 hl1; omega) (by simp only [List.length_set, hlen]; exact (by have := rng32 ln; have : (1 : Int32).toInt = 1 := rfl; have := rng32 (ln + (1 : Int32)); have := c_iadd ln (1 : Int32); have := rng32 ((ln + (1 : Int32)) + (1 : Int32)); have := c_iadd (ln + (1 : Int32)) (1 : Int32); have : (0 : Int32).toInt = 0 := rfl; have : (256 : Int32).toInt = 256 := rfl; have : (200 : Int32).toInt = 200 := rfl; simp only [Int32.lt_iff_toInt_lt, Int32.le_iff_toInt_le, ← Int32.toInt_inj, Int64.lt_iff_toInt_lt, Int64.le_iff_toInt_le, ← Int64.toInt_inj] at hl0 hl1; omega)))
      have N70 := Fr.snoc X70 N68 g1
      have Z70 : n0 ≤ h70.size := Nat.le_trans Z68 (Keep.of_wr W70).1
      have KK70 : Keep h0 h70 [ao, ab] := KK68.wr W70 (Or.inl (List.mem_of_getElem? (i := 1) rfl))
      show Go _ _ _ _ _ _ _ T70 (mkF m 182 #[.val (.ref ao), .val (.int ci)] [])
      refine Go.step (fun _ k => XS.goto X70.here hx rfl (pc0 := 182) (pc' := 291) rfl (hb hby d7_182) (by decide) (by decide) k) ?_
      show Go _ _ _ _ _ _ _ T70 (mkF m 291 #[.val (.ref ao), .val (.int ci)] [])
      -- (((ln + (1 : Int32)) + (1 : Int32)) + (1 : Int32))
      have f71 : Exa Z h70 ao "com/example/hearthlog/hearthlog/Utf8Line" := ((f67.wr W68).wr W70)
      have f72 : Fld Z h70 ao "com/example/hearthlog/hearthlog/Utf8Line" "bytes" "[B" (.ref ab) := ((f63.other W68 (Or.inr (slot_ne (a0 := a0) (C := "com/example/hearthlog/hearthlog/Utf8Line") (Or.inl (hw _ (List.mem_of_getElem? (i := 18) rfl))) (Or.inl (hw _ (List.mem_of_getElem? (i := 25) rfl))) (by decide) (t := (.array .byte)) (t' := .int) (by decide) (by decide)))).other W70 (Or.inl ne0))
      have f73 : Fld Z h70 ao "com/example/hearthlog/hearthlog/Utf8Line" "length" "I" (.int (((ln + (1 : Int32)) + (1 : Int32)) + (1 : Int32))) := (Fw68.other W70 (Or.inl ne0))
      exact Go.ret0 X70 hx hret hlk (hb hby d7_291) e70 (by decide) (by decide) ⟨(((ln + (1 : Int32)) + (1 : Int32)) + (1 : Int32)), (((vs.set (ln).toNatClampNeg (.int (nar .byte (((224 : Int32) ||| (ci >>> ((12 : Int32) &&& 31))).toInt8.toInt32)))).set ((ln + (1 : Int32))).toNatClampNeg (.int (nar .byte (((128 : Int32) ||| ((ci >>> ((6 : Int32) &&& 31)) &&& (63 : Int32))).toInt8.toInt32)))).set (((ln + (1 : Int32)) + (1 : Int32))).toNatClampNeg (.int (nar .byte (((128 : Int32) ||| (ci &&& (63 : Int32))).toInt8.toInt32)))), (nar .byte (((128 : Int32) ||| (ci &&& (63 : Int32))).toInt8.toInt32)), rfl, N70, KK70, f71, f72, f73, V70, (by simp only [List.length_set, hlen]), (by have := rng32 ln; have : (1 : Int32).toInt = 1 := rfl; have := rng32 (ln + (1 : Int32)); have := c_iadd ln (1 : Int32); have := rng32 ((ln + (1 : Int32)) + (1 : Int32)); have := c_iadd (ln + (1 : Int32)) (1 : Int32); have := rng32 (((ln + (1 : Int32)) + (1 : Int32)) + (1 : Int32)); have := c_iadd ((ln + (1 : Int32)) + (1 : Int32)) (1 : Int32); have : (0 : Int32).toInt = 0 := rfl; have : (200 : Int32).toInt = 200 := rfl; simp only [Int32.lt_iff_toInt_lt, Int32.le_iff_toInt_le, ← Int32.toInt_inj, Int64.lt_iff_toInt_lt, Int64.le_iff_toInt_le, ← Int64.toInt_inj] at hl0 hl1; omega), (own_last (own_tn (n := (((vs.set (ln).toNatClampNeg (.int (nar .byte (((224 : Int32) ||| (ci >>> ((12 : Int32) &&& 31))).toInt8.toInt32)))).set ((ln + (1 : Int32))).toNatClampNeg (.int (nar .byte (((128 : Int32) ||| ((ci >>> ((6 : Int32) &&& 31)) &&& (63 : Int32))).toInt8.toInt32))))).length) (by have := rng32 ln; have : (1 : Int32).toInt = 1 := rfl; have := rng32 (ln + (1 : Int32)); have := c_iadd ln (1 : Int32); have := rng32 ((ln + (1 : Int32)) + (1 : Int32)); have := c_iadd (ln + (1 : Int32)) (1 : Int32); have : (0 : Int32).toInt = 0 := rfl; have : (256 : Int32).toInt = 256 := rfl; have : (200 : Int32).toInt = 200 := rfl; simp only [Int32.lt_iff_toInt_lt, Int32.le_iff_toInt_le, ← Int32.toInt_inj, Int64.lt_iff_toInt_lt, Int64.le_iff_toInt_le, ← Int64.toInt_inj] at hl0 hl1; omega) (by simp only [List.length_set, hlen]; exact (by have := rng32 ln; have : (1 : Int32).toInt = 1 := rfl; have := rng32 (ln + (1 : Int32)); have := c_iadd ln (1 : Int32); have := rng32 ((ln + (1 : Int32)) + (1 : Int32)); have := c_iadd (ln + (1 : Int32)) (1 : Int32); have : (0 : Int32).toInt = 0 := rfl; have : (256 : Int32).toInt = 256 := rfl; have : (200 : Int32).toInt = 200 := rfl; simp only [Int32.lt_iff_toInt_lt, Int32.le_iff_toInt_le, ← Int32.toInt_inj, Int64.lt_iff_toInt_lt, Int64.le_iff_toInt_le, ← Int64.toInt_inj] at hl0 hl1; omega)))), (show (((128 : Int32) ||| (ci &&& (63 : Int32))).toInt8.toInt32).toInt8.toInt32 = 10 ↔ ci = 10 from ⟨fun q => absurd q (by rw [own_i2b2]; exact own_neg ci), fun q => absurd q (by have := rng32 ci; have : (10 : Int32).toInt = 10 := rfl; have : (128 : Int32).toInt = 128 := rfl; simp only [ne_eq, Int32.lt_iff_toInt_lt, Int32.le_iff_toInt_le, ← Int32.toInt_inj, Int64.lt_iff_toInt_lt, Int64.le_iff_toInt_le, ← Int64.toInt_inj] at hc14_23 ⊢; omega)⟩)⟩
theorem d5_0 : decode prog_43_method_9_code 0 = .ok (.iload_n 1, 1) := by decide +kernel
theorem d5_1 : decode prog_43_method_9_code 1 = .ok (.sipush 128, 3) := by decide +kernel
theorem d5_4 : decode prog_43_method_9_code 4 = .ok (.if_icmp .ge 34, 3) := by decide +kernel
theorem d5_7 : decode prog_43_method_9_code 7 = .ok (.aload_n 0, 1) := by decide +kernel
theorem d5_8 : decode prog_43_method_9_code 8 = .ok (.aload_n 0, 1) := by decide +kernel
theorem d5_9 : decode prog_43_method_9_code 9 = .ok (.getfield 32, 3) := by decide +kernel
theorem d5_12 : decode prog_43_method_9_code 12 = .ok (.iconst 1, 1) := by decide +kernel
theorem d5_13 : decode prog_43_method_9_code 13 = .ok (.iadd, 1) := by decide +kernel
theorem d5_14 : decode prog_43_method_9_code 14 = .ok (.invokevirtual 40, 3) := by decide +kernel
theorem d5_17 : decode prog_43_method_9_code 17 = .ok (.aload_n 0, 1) := by decide +kernel
theorem d5_18 : decode prog_43_method_9_code 18 = .ok (.getfield 16, 3) := by decide +kernel
theorem d5_21 : decode prog_43_method_9_code 21 = .ok (.aload_n 0, 1) := by decide +kernel
theorem d5_22 : decode prog_43_method_9_code 22 = .ok (.dup, 1) := by decide +kernel
theorem d5_23 : decode prog_43_method_9_code 23 = .ok (.getfield 32, 3) := by decide +kernel
theorem d5_26 : decode prog_43_method_9_code 26 = .ok (.dup_x1, 1) := by decide +kernel
theorem d5_27 : decode prog_43_method_9_code 27 = .ok (.iconst 1, 1) := by decide +kernel
theorem d5_28 : decode prog_43_method_9_code 28 = .ok (.iadd, 1) := by decide +kernel
theorem d5_29 : decode prog_43_method_9_code 29 = .ok (.putfield 32, 3) := by decide +kernel
theorem d5_32 : decode prog_43_method_9_code 32 = .ok (.iload_n 1, 1) := by decide +kernel
theorem d5_33 : decode prog_43_method_9_code 33 = .ok (.i2b, 1) := by decide +kernel
theorem d5_34 : decode prog_43_method_9_code 34 = .ok (.bastore, 1) := by decide +kernel
theorem d5_35 : decode prog_43_method_9_code 35 = .ok (.goto 20, 3) := by decide +kernel
theorem d5_38 : decode prog_43_method_9_code 38 = .ok (.aload_n 0, 1) := by decide +kernel
theorem d5_39 : decode prog_43_method_9_code 39 = .ok (.iload_n 1, 1) := by decide +kernel
theorem d5_40 : decode prog_43_method_9_code 40 = .ok (.invokestatic 50, 3) := by decide +kernel
theorem d5_43 : decode prog_43_method_9_code 43 = .ok (.ifCond .eq 8, 3) := by decide +kernel
theorem d5_46 : decode prog_43_method_9_code 46 = .ok (.bipush 63, 2) := by decide +kernel
theorem d5_48 : decode prog_43_method_9_code 48 = .ok (.goto 4, 3) := by decide +kernel
theorem d5_51 : decode prog_43_method_9_code 51 = .ok (.iload_n 1, 1) := by decide +kernel
theorem d5_52 : decode prog_43_method_9_code 52 = .ok (.invokevirtual 56, 3) := by decide +kernel
theorem d5_55 : decode prog_43_method_9_code 55 = .ok (.return_, 1) := by decide +kernel
theorem pd__C_Z : parseMethodDescriptor "(C)Z" = some ⟨[.char], some .boolean⟩ := by decide +kernel
theorem ef_rmAp (m : MethodId) (ao : Addr) (ci : Int32) : entryFrame m #[(.ref ao), (.int ci)] 2 = mkF m 0 #[.val (.ref ao), .val (.int ci)] [] := by first | (simp [entryFrame, mkF, argsToLocals, Value.category]; done) | rfl
def Q_rmAp (Z : State) (ao : Addr) (ci : Int32) (ab : Addr) (kb : ClassId) (ln : Int32) (vs : List Value) (h0 : Heap) (n0 : Nat) (v : Option Value) (h : Heap) (L : List Loc) : Prop := ∃ lq : Int32, ∃ vq : List Value, ∃ bq : Int32, (v = none) ∧ (Fr n0 L) ∧ (Keep h0 h [ao, ab]) ∧ (Exa Z h ao "com/example/hearthlog/hearthlog/Utf8Line") ∧ (Fld Z h ao "com/example/hearthlog/hearthlog/Utf8Line" "bytes" "[B" (.ref ab)) ∧ (Fld Z h ao "com/example/hearthlog/hearthlog/Utf8Line" "length" "I" (.int lq)) ∧ (Arv Z h ab kb .byte (256 : Int32) vq (.int (0 : Int32))) ∧ (vq.length = 256) ∧ (0 < lq.toInt ∧ lq.toInt ≤ ln.toInt + 4) ∧ (vq.getD (lq - (1 : Int32)).toNatClampNeg (.int (0 : Int32)) = .int bq) ∧ (bq = 10 ↔ ci = 10)
set_option maxRecDepth 65536 in
set_option maxHeartbeats 40000000 in
theorem rmAp (l : Launch) (Z : State) (a0 : Array Value) (hw : ∀ d ∈ tables_1, d.before a0 Z = true) (ws : List Jvm.Cond) (ao : Addr) (ci : Int32) (ab : Addr) (kb : ClassId) (ln : Int32) (vs : List Value) (h0 : Heap) (n0 : Nat) (Z0 : n0 ≤ h0.size) (E0 : Exa Z h0 ao "com/example/hearthlog/hearthlog/Utf8Line") (Fb : Fld Z h0 ao "com/example/hearthlog/hearthlog/Utf8Line" "bytes" "[B" (.ref ab)) (Fl : Fld Z h0 ao "com/example/hearthlog/hearthlog/Utf8Line" "length" "I" (.int ln)) (V0 : Arv Z h0 ab kb .byte (256 : Int32) vs (.int (0 : Int32))) (g0 : n0 ≤ ao) (g1 : n0 ≤ ab) (ne0 : ao ≠ ab) (hl0 : ¬ (ln < (0 : Int32))) (hl1 : ln < (200 : Int32)) (hlen : vs.length = 256) (hc0 : ¬ (ci < (0 : Int32))) (hc1 : ¬ ((65535 : Int32) < ci)) :
    MetFree l (⟨"com/example/hearthlog/hearthlog/Utf8Line", "append", "(C)V"⟩ : MethodName) (head1 (Jvm.Cond.code (⟨"com/example/hearthlog/hearthlog/Utf8Line", "append", "(C)V"⟩ : MethodName) prog_43_method_9_code 2 none :: ws) ({ frames := 2, cells := 0, slots := 0, locals := 26 } : Room)) (fun aA U => aA = #[(.ref ao), (.int ci)] ∧ Z.Warmed39 U.vm ∧ U.heap = h0) (fun _ _ _ _ _ => True) (fun _ U o U' => ∃ v L, o = .returned v ∧ Q_rmAp Z ao ci ab kb ln vs h0 n0 v U'.heap L ∧ FrameEnd U o U' L ({ frames := 2, cells := 0, slots := 0, locals := 26 } : Room).cells ({ frames := 2, cells := 0, slots := 0, locals := 26 } : Room).slots) := by
  refine MetFree.of_bodySF (plainFor_of_name pn_com_example_hearthlog_hearthlog_Utf8Line) hisR ?_
  intro p e s m args below meth c s₁ Bd hml0 hP hK
  obtain ⟨rfl, hZ, hh⟩ := hP
  have hx := Bd.exec
  have hby := Bd.bytes
  have hml : c.maxLocals = 2 := hml0
  have hown : s.vm.findClass "com/example/hearthlog/hearthlog/Utf8Line" = some m.cls := findClass_of_methodNamed Bd.named
  have hnm := (name_of_methodNamed Bd.named Bd.method).1
  have hret := Bd.returns
  have hlk : meth.locks = false := BodyLoose.notSynchronized Bd
  have X0 : Stand p l e ({ frames := 2, cells := 0, slots := 0, locals := 26 } : Room) s m #[(.ref ao), (.int ci)] below meth c s₁ [] 0 0 := Stand.of_body Bd
  have e0 : s₁.heap = h0 := by rw [← hh, Bd.state]; rfl
  have N0 := Fr.nil n0
  suffices hgo : Go p e below s ({ frames := 2, cells := 0, slots := 0, locals := 26 } : Room).cells ({ frames := 2, cells := 0, slots := 0, locals := 26 } : Room).slots (Q_rmAp Z ao ci ab kb ln vs h0 n0) s₁ (mkF m 0 #[.val (.ref ao), .val (.int ci)] []) from hgo.enter (ef_rmAp m ao ci)
  refine Go.step (fun _ k => XS.iloadN X0.here hx rfl (hb hby d5_0) rfl k) ?_
  show Go _ _ _ _ _ _ _ s₁ (mkF m 1 #[.val (.ref ao), .val (.int ci)] [(.int ci)])
  refine Go.step (fun _ k => XS.sipush X0.here hx rfl (hb hby d5_1) k) ?_
  show Go _ _ _ _ _ _ _ s₁ (mkF m 4 #[.val (.ref ao), .val (.int ci)] [(.int (128 : Int32)), (.int ci)])
  by_cases hc4_74 : ci < (128 : Int32)
  · refine Go.step (fun _ k => XS.icmpNo X0.here hx rfl (hb hby d5_4) rfl (tlt hc4_74).2.1 k) ?_
    show Go _ _ _ _ _ _ _ s₁ (mkF m 7 #[.val (.ref ao), .val (.int ci)] [])
    refine Go.step (fun _ k => XS.aloadN X0.here hx rfl (hb hby d5_7) rfl rfl k) ?_
    show Go _ _ _ _ _ _ _ s₁ (mkF m 8 #[.val (.ref ao), .val (.int ci)] [(.ref ao)])
    refine Go.step (fun _ k => XS.aloadN X0.here hx rfl (hb hby d5_8) rfl rfl k) ?_
    show Go _ _ _ _ _ _ _ s₁ (mkF m 9 #[.val (.ref ao), .val (.int ci)] [(.ref ao), (.ref ao)])
    obtain ⟨T75, X75, e75, st75⟩ := getF X0 hx hZ hown (host := "") (Or.inl (hw _ (List.mem_of_getElem? (i := 24) rfl))) Via.refl e0 Fl (g := (mkF m 9 #[.val (.ref ao), .val (.int ci)] [(.ref ao), (.ref ao)])) rfl rfl (hb hby d5_9)
    refine Go.step st75 ?_
    show Go _ _ _ _ _ _ _ T75 (mkF m 12 #[.val (.ref ao), .val (.int ci)] [(.int ln), (.ref ao)])
    refine Go.step (fun _ k => XS.iconst X75.here hx rfl (hb hby d5_12) k) ?_
    show Go _ _ _ _ _ _ _ T75 (mkF m 13 #[.val (.ref ao), .val (.int ci)] [(.int (1 : Int32)), (.int ln), (.ref ao)])
    refine Go.step (fun _ k => XS.iadd X75.here hx rfl (hb hby d5_13) rfl k) ?_
    show Go _ _ _ _ _ _ _ T75 (mkF m 14 #[.val (.ref ao), .val (.int ci)] [(.int (ln + (1 : Int32))), (.ref ao)])
    obtain ⟨cq76, q76, q76'⟩ := E0.cell
    obtain ⟨_, _, ⟨T76, L76, k76, n76⟩, -, X76, ⟨Lc76, hQ76, l76, y76, z76⟩, st76⟩ := X75.privateBack hx (y := (⟨"com/example/hearthlog/hearthlog/Utf8Line", "ensureRoom", "(I)V"⟩ : MethodName)) hown (mvT hZ (hw _ (List.mem_of_getElem? (i := 40) rfl))) (mvT hZ (hw _ (List.mem_of_getElem? (i := 41) rfl))) (own_selp (mvT hZ (hw _ (List.mem_of_getElem? (i := 3) rfl))) (Cond.privateMethod_at (mvP hZ (hw _ (List.mem_of_getElem? (i := 42) rfl)) (args := #[]))) (mvT hZ (hw _ (List.mem_of_getElem? (i := 41) rfl))) (by decide)) (Cond.privateMethod_at (mvP hZ (hw _ (List.mem_of_getElem? (i := 42) rfl)) (args := #[]))) (mvT hZ (hw _ (List.mem_of_getElem? (i := 43) rfl))) (by decide) (backOf (W := 0) (rmEn l Z a0 hw [] ao (ln + (1 : Int32)) ab kb vs h0 n0 Z0 E0 Fb V0 (by have := rng32 ln; have : (1 : Int32).toInt = 1 := rfl; have := rng32 (ln + (1 : Int32)); have := c_iadd ln (1 : Int32); have : (256 : Int32).toInt = 256 := rfl; have := rng32 ((ln + (1 : Int32)) - (256 : Int32)); have := c_isub (ln + (1 : Int32)) (256 : Int32); have : (0 : Int32).toInt = 0 := rfl; have : (200 : Int32).toInt = 200 := rfl; simp only [Int32.lt_iff_toInt_lt, Int32.le_iff_toInt_le, ← Int32.toInt_inj, Int64.lt_iff_toInt_lt, Int64.le_iff_toInt_le, ← Int64.toInt_inj] at hl0 hl1 ⊢; omega)) hZ (hw _ (List.mem_of_getElem? (i := 43) rfl)) (hw _ (List.mem_of_getElem? (i := 4) rfl)) (by decide) (by decide)) (g := (mkF m 14 #[.val (.ref ao), .val (.int ci)] [(.int (ln + (1 : Int32))), (.ref ao)])) rfl (by rw [hml]; rfl) (Steps.refl _) (a := ao) (by rw [e75]; exact q76) q76' (argsL := [(.int (ln + (1 : Int32)))]) (rest := []) (lenOf pd__I_V rfl) rfl (by show 2 * 0 + _ ≤ _; exact Nat.le_of_eq rfl) (hb hby d5_14) (fun _ _ => ⟨rfl, e75, (by decide : 0 + 0 ≤ _), (by decide : 0 + 0 ≤ _)⟩)
    dsimp only [Pt.U, Pt.locs, Pt.cells, Pt.slots] at X76 l76 y76 z76 st76 hQ76
    subst l76 y76 z76
    obtain ⟨h76, e76⟩ : ∃ h, T76.heap = h := ⟨_, rfl⟩
    rw [e76] at hQ76
    obtain ⟨rfl, Nq76, hs76⟩ := hQ76
    have N76 := Fr.app N0 Nq76
    rw [hs76] at e76
    refine Go.trans st76 ?_
    show Go _ _ _ _ _ _ _ T76 (mkF m 17 #[.val (.ref ao), .val (.int ci)] [])
    refine Go.step (fun _ k => XS.aloadN X76.here hx rfl (hb hby d5_17) rfl rfl k) ?_
    show Go _ _ _ _ _ _ _ T76 (mkF m 18 #[.val (.ref ao), .val (.int ci)] [(.ref ao)])
    obtain ⟨T77, X77, e77, st77⟩ := getF X76 hx hZ hown (host := "") (Or.inl (hw _ (List.mem_of_getElem? (i := 17) rfl))) Via.refl e76 Fb (g := (mkF m 18 #[.val (.ref ao), .val (.int ci)] [(.ref ao)])) rfl rfl (hb hby d5_18)
    refine Go.step st77 ?_
    show Go _ _ _ _ _ _ _ T77 (mkF m 21 #[.val (.ref ao), .val (.int ci)] [(.ref ab)])
    refine Go.step (fun _ k => XS.aloadN X77.here hx rfl (hb hby d5_21) rfl rfl k) ?_
    show Go _ _ _ _ _ _ _ T77 (mkF m 22 #[.val (.ref ao), .val (.int ci)] [(.ref ao), (.ref ab)])
    refine Go.step (fun _ k => XS.dup X77.here hx rfl (hb hby d5_22) rfl rfl k) ?_
    show Go _ _ _ _ _ _ _ T77 (mkF m 23 #[.val (.ref ao), .val (.int ci)] [(.ref ao), (.ref ao), (.ref ab)])
    obtain ⟨T78, X78, e78, st78⟩ := getF X77 hx hZ hown (host := "") (Or.inl (hw _ (List.mem_of_getElem? (i := 24) rfl))) Via.refl e77 Fl (g := (mkF m 23 #[.val (.ref ao), .val (.int ci)] [(.ref ao), (.ref ao), (.ref ab)])) rfl rfl (hb hby d5_23)
    refine Go.step st78 ?_
    show Go _ _ _ _ _ _ _ T78 (mkF m 26 #[.val (.ref ao), .val (.int ci)] [(.int ln), (.ref ao), (.ref ab)])
    refine Go.step (fun _ k => XS.dupX1 X78.here hx rfl (hb hby d5_26) rfl rfl rfl k) ?_
    show Go _ _ _ _ _ _ _ T78 (mkF m 27 #[.val (.ref ao), .val (.int ci)] [(.int ln), (.ref ao), (.int ln), (.ref ab)])
    refine Go.step (fun _ k => XS.iconst X78.here hx rfl (hb hby d5_27) k) ?_
    show Go _ _ _ _ _ _ _ T78 (mkF m 28 #[.val (.ref ao), .val (.int ci)] [(.int (1 : Int32)), (.int ln), (.ref ao), (.int ln), (.ref ab)])
    refine Go.step (fun _ k => XS.iadd X78.here hx rfl (hb hby d5_28) rfl k) ?_
    show Go _ _ _ _ _ _ _ T78 (mkF m 29 #[.val (.ref ao), .val (.int ci)] [(.int (ln + (1 : Int32))), (.ref ao), (.int ln), (.ref ab)])
    obtain ⟨T79, h79, X79, e79, W79, st79⟩ := putF X78 hx hZ hown (host := "") (Or.inl (hw _ (List.mem_of_getElem? (i := 24) rfl))) Via.refl e78 Fl E0 (Or.inl (hw _ (List.mem_of_getElem? (i := 25) rfl))) (hw _ (List.mem_of_getElem? (i := 3) rfl)) (ty := .int) (by decide) rfl rfl (g := (mkF m 29 #[.val (.ref ao), .val (.int ci)] [(.int (ln + (1 : Int32))), (.ref ao), (.int ln), (.ref ab)])) rfl rfl (hb hby d5_29)
    refine Go.step st79 ?_
    have Fw79 := Fl.same W79
    have N79 := Fr.snoc X79 N76 g0
    have Z79 : n0 ≤ h79.size := Nat.le_trans Z0 (Keep.of_wr W79).1
    have KK79 : Keep h0 h79 [ao, ab] := (Keep.refl h0 [ao, ab]).wr W79 (Or.inl (List.mem_of_getElem? (i := 0) rfl))
    show Go _ _ _ _ _ _ _ T79 (mkF m 32 #[.val (.ref ao), .val (.int ci)] [(.int ln), (.ref ab)])
    refine Go.step (fun _ k => XS.iloadN X79.here hx rfl (hb hby d5_32) rfl k) ?_
    show Go _ _ _ _ _ _ _ T79 (mkF m 33 #[.val (.ref ao), .val (.int ci)] [(.int ci), (.int ln), (.ref ab)])
    refine Go.step (fun _ k => XS.i2b X79.here hx rfl (hb hby d5_33) rfl k) ?_
    show Go _ _ _ _ _ _ _ T79 (mkF m 34 #[.val (.ref ao), .val (.int ci)] [(.int (ci.toInt8.toInt32)), (.int ln), (.ref ab)])
    have f80 : Arv Z h79 ab kb .byte (256 : Int32) vs (.int (0 : Int32)) := (V0.other W79 (Ne.symm ne0))
    obtain ⟨cl81, Ar81, q81, S81, M81, H81, G81⟩ := id (f80)
    have hin81 : ¬ (ln < 0 ∨ cl81.slots.size ≤ (ln).toNatClampNeg) := inb_of S81 ⟨(by have := rng32 ln; have : (0 : Int32).toInt = 0 := rfl; have : (256 : Int32).toInt = 256 := rfl; have : (200 : Int32).toInt = 200 := rfl; simp only [Int32.lt_iff_toInt_lt, Int32.le_iff_toInt_le, ← Int32.toInt_inj, Int64.lt_iff_toInt_lt, Int64.le_iff_toInt_le, ← Int64.toInt_inj] at hl0 hl1 ⊢; omega), (by have := rng32 ln; have : (0 : Int32).toInt = 0 := rfl; have : (256 : Int32).toInt = 256 := rfl; have : (200 : Int32).toInt = 200 := rfl; simp only [Int32.lt_iff_toInt_lt, Int32.le_iff_toInt_le, ← Int32.toInt_inj, Int64.lt_iff_toInt_lt, Int64.le_iff_toInt_le, ← Int64.toInt_inj] at hl0 hl1 ⊢; omega)⟩
    obtain ⟨T81, h81, X81, e81, W81, st81⟩ := stB X79 hx hZ e79 Ar81 (j := ln) hin81 (g := (mkF m 34 #[.val (.ref ao), .val (.int ci)] [(.int (ci.toInt8.toInt32)), (.int ln), (.ref ab)])) rfl rfl (hb hby d5_34)
    refine Go.step st81 ?_
    have V81 : Arv Z h81 ab kb .byte (256 : Int32) (vs.set (ln).toNatClampNeg (.int (nar .byte (ci.toInt8.toInt32)))) (.int (0 : Int32)) := Arv.set Ar81 q81 S81 M81 H81 G81 (fits_nar_byte _) W81 (ln).toNatClampNeg rfl (own_tn (n := (vs).length) (by have := rng32 ln; have : (0 : Int32).toInt = 0 := rfl; have : (256 : Int32).toInt = 256 := rfl; have : (200 : Int32).toInt = 200 := rfl; simp only [Int32.lt_iff_toInt_lt, Int32.le_iff_toInt_le, ← Int32.toInt_inj, Int64.lt_iff_toInt_lt, Int64.le_iff_toInt_le, ← Int64.toInt_inj] at hl0 hl1; omega) (by simp only [List.length_set, hlen]; exact (by have := rng32 ln; have : (0 : Int32).toInt = 0 := rfl; have : (256 : Int32).toInt = 256 := rfl; have : (200 : Int32).toInt = 200 := rfl; simp only [Int32.lt_iff_toInt_lt, Int32.le_iff_toInt_le, ← Int32.toInt_inj, Int64.lt_iff_toInt_lt, Int64.le_iff_toInt_le, ← Int64.toInt_inj] at hl0 hl1; omega)))
    have N81 := Fr.snoc X81 N79 g1
    have Z81 : n0 ≤ h81.size := Nat.le_trans Z79 (Keep.of_wr W81).1
    have KK81 : Keep h0 h81 [ao, ab] := KK79.wr W81 (Or.inl (List.mem_of_getElem? (i := 1) rfl))
    show Go _ _ _ _ _ _ _ T81 (mkF m 35 #[.val (.ref ao), .val (.int ci)] [])
    refine Go.step (fun _ k => XS.goto X81.here hx rfl (pc0 := 35) (pc' := 55) rfl (hb hby d5_35) (by decide) (by decide) k) ?_
    show Go _ _ _ _ _ _ _ T81 (mkF m 55 #[.val (.ref ao), .val (.int ci)] [])
    -- (ln + (1 : Int32))
    have f82 : Exa Z h81 ao "com/example/hearthlog/hearthlog/Utf8Line" := ((E0.wr W79).wr W81)
    have f83 : Fld Z h81 ao "com/example/hearthlog/hearthlog/Utf8Line" "bytes" "[B" (.ref ab) := ((Fb.other W79 (Or.inr (slot_ne (a0 := a0) (C := "com/example/hearthlog/hearthlog/Utf8Line") (Or.inl (hw _ (List.mem_of_getElem? (i := 18) rfl))) (Or.inl (hw _ (List.mem_of_getElem? (i := 25) rfl))) (by decide) (t := (.array .byte)) (t' := .int) (by decide) (by decide)))).other W81 (Or.inl ne0))
    have f84 : Fld Z h81 ao "com/example/hearthlog/hearthlog/Utf8Line" "length" "I" (.int (ln + (1 : Int32))) := (Fw79.other W81 (Or.inl ne0))
    exact Go.ret0 X81 hx hret hlk (hb hby d5_55) e81 (by decide) (by decide) ⟨(ln + (1 : Int32)), (vs.set (ln).toNatClampNeg (.int (nar .byte (ci.toInt8.toInt32)))), (nar .byte (ci.toInt8.toInt32)), rfl, N81, KK81, f82, f83, f84, V81, (by simp only [List.length_set, hlen]), (by have := rng32 ln; have : (1 : Int32).toInt = 1 := rfl; have := rng32 (ln + (1 : Int32)); have := c_iadd ln (1 : Int32); have : (0 : Int32).toInt = 0 := rfl; have : (200 : Int32).toInt = 200 := rfl; simp only [Int32.lt_iff_toInt_lt, Int32.le_iff_toInt_le, ← Int32.toInt_inj, Int64.lt_iff_toInt_lt, Int64.le_iff_toInt_le, ← Int64.toInt_inj] at hl0 hl1; omega), (own_last (own_tn (n := (vs).length) (by have := rng32 ln; have : (0 : Int32).toInt = 0 := rfl; have : (256 : Int32).toInt = 256 := rfl; have : (200 : Int32).toInt = 200 := rfl; simp only [Int32.lt_iff_toInt_lt, Int32.le_iff_toInt_le, ← Int32.toInt_inj, Int64.lt_iff_toInt_lt, Int64.le_iff_toInt_le, ← Int64.toInt_inj] at hl0 hl1; omega) (by simp only [List.length_set, hlen]; exact (by have := rng32 ln; have : (0 : Int32).toInt = 0 := rfl; have : (256 : Int32).toInt = 256 := rfl; have : (200 : Int32).toInt = 200 := rfl; simp only [Int32.lt_iff_toInt_lt, Int32.le_iff_toInt_le, ← Int32.toInt_inj, Int64.lt_iff_toInt_lt, Int64.le_iff_toInt_le, ← Int64.toInt_inj] at hl0 hl1; omega)))), (show ((ci.toInt8.toInt32)).toInt8.toInt32 = 10 ↔ ci = 10 from (by have := rng32 ci; have := rng32 ci.toInt8.toInt32; have := c_i2b ci; have := rng32 (ci.toInt8.toInt32).toInt8.toInt32; have := c_i2b ci.toInt8.toInt32; have : (10 : Int32).toInt = 10 := rfl; have : (128 : Int32).toInt = 128 := rfl; have : (0 : Int32).toInt = 0 := rfl; simp only [Int32.lt_iff_toInt_lt, Int32.le_iff_toInt_le, ← Int32.toInt_inj, Int64.lt_iff_toInt_lt, Int64.le_iff_toInt_le, ← Int64.toInt_inj] at hc0 hc4_74 ⊢; omega))⟩
  · refine Go.step (fun _ k => XS.icmpYes X0.here hx rfl (pc0 := 4) (pc' := 38) rfl (hb hby d5_4) rfl (flt hc4_74).2.1 (by decide) (by decide) k) ?_
    show Go _ _ _ _ _ _ _ s₁ (mkF m 38 #[.val (.ref ao), .val (.int ci)] [])
    refine Go.step (fun _ k => XS.aloadN X0.here hx rfl (hb hby d5_38) rfl rfl k) ?_
    show Go _ _ _ _ _ _ _ s₁ (mkF m 39 #[.val (.ref ao), .val (.int ci)] [(.ref ao)])
    refine Go.step (fun _ k => XS.iloadN X0.here hx rfl (hb hby d5_39) rfl k) ?_
    show Go _ _ _ _ _ _ _ s₁ (mkF m 40 #[.val (.ref ao), .val (.int ci)] [(.int ci), (.ref ao)])
    obtain ⟨_, _, ⟨T85, L85, k85, n85⟩, -, X85, ⟨Lc85, hQ85, l85, y85, z85⟩, st85⟩ := Jvm.LawKit.callS X0 hx (y := (⟨"java/lang/Character", "isSurrogate", "(C)Z"⟩ : MethodName)) hown (mvT hZ (hw _ (List.mem_of_getElem? (i := 31) rfl))) (mvT hZ (hw _ (List.mem_of_getElem? (i := 32) rfl))) (mvT hZ (hw _ (List.mem_of_getElem? (i := 33) rfl))) (mvT hZ (hw _ (List.mem_of_getElem? (i := 34) rfl))) (by decide) (backOf (W := 1) (rmSu l Z a0 hw [] ci h0 n0 Z0 ) hZ (hw _ (List.mem_of_getElem? (i := 34) rfl)) (hw _ (List.mem_of_getElem? (i := 33) rfl)) (by decide) (by decide)) (g := (mkF m 40 #[.val (.ref ao), .val (.int ci)] [(.int ci), (.ref ao)])) rfl (by rw [hml]; rfl) (argsL := [(.int ci)]) (rest := [(.ref ao)]) (lenOf pd__C_Z rfl) rfl (by show 2 * 0 + _ ≤ _; exact Nat.le_of_eq rfl) (hb hby d5_40) (fun _ _ => ⟨rfl, e0, (by decide : 0 + 0 ≤ _), (by decide : 0 + 0 ≤ _)⟩)
    dsimp only [Pt.U, Pt.locs, Pt.cells, Pt.slots] at X85 l85 y85 z85 st85 hQ85
    subst l85 y85 z85
    obtain ⟨h85, e85⟩ : ∃ h, T85.heap = h := ⟨_, rfl⟩
    rw [e85] at hQ85
    obtain ⟨rfl, Nq85, hs85⟩ := hQ85
    have N85 := Fr.app N0 Nq85
    rw [hs85] at e85
    refine Go.step st85 ?_
    show Go _ _ _ _ _ _ _ T85 (mkF m 43 #[.val (.ref ao), .val (.int ci)] [(.int (own_sur ci)), (.ref ao)])
    by_cases hc43_86 : (own_sur ci) = (0 : Int32)
    · refine Go.step (fun _ k => XS.ifYes X85.here hx rfl (pc0 := 43) (pc' := 51) rfl (hb hby d5_43) rfl ((if0 _ _).trans (teq hc43_86).1) (by decide) (by decide) k) ?_
      show Go _ _ _ _ _ _ _ T85 (mkF m 51 #[.val (.ref ao), .val (.int ci)] [(.ref ao)])
      refine Go.step (fun _ k => XS.iloadN X85.here hx rfl (hb hby d5_51) rfl k) ?_
      show Go _ _ _ _ _ _ _ T85 (mkF m 52 #[.val (.ref ao), .val (.int ci)] [(.int ci), (.ref ao)])
      obtain ⟨cq87, q87, q87'⟩ := E0.cell
      obtain ⟨_, _, ⟨T87, L87, k87, n87⟩, -, X87, ⟨Lc87, hQ87, l87, y87, z87⟩, st87⟩ := X85.privateBack hx (y := (⟨"com/example/hearthlog/hearthlog/Utf8Line", "appendCodePoint", "(I)V"⟩ : MethodName)) hown (mvT hZ (hw _ (List.mem_of_getElem? (i := 36) rfl))) (mvT hZ (hw _ (List.mem_of_getElem? (i := 37) rfl))) (own_selp (mvT hZ (hw _ (List.mem_of_getElem? (i := 3) rfl))) (Cond.privateMethod_at (mvP hZ (hw _ (List.mem_of_getElem? (i := 38) rfl)) (args := #[]))) (mvT hZ (hw _ (List.mem_of_getElem? (i := 37) rfl))) (by decide)) (Cond.privateMethod_at (mvP hZ (hw _ (List.mem_of_getElem? (i := 38) rfl)) (args := #[]))) (mvT hZ (hw _ (List.mem_of_getElem? (i := 39) rfl))) (by decide) (backOf (W := 0) (rmCp l Z a0 hw [] ao ci ab kb ln vs h0 n0 Z0 E0 Fb Fl V0 g0 g1 ne0 hl0 hl1 hlen hc0 hc1) hZ (hw _ (List.mem_of_getElem? (i := 39) rfl)) (hw _ (List.mem_of_getElem? (i := 4) rfl)) (by decide) (by decide)) (g := (mkF m 52 #[.val (.ref ao), .val (.int ci)] [(.int ci), (.ref ao)])) rfl (by rw [hml]; rfl) (Steps.refl _) (a := ao) (by rw [e85]; exact q87) q87' (argsL := [(.int ci)]) (rest := []) (lenOf pd__I_V rfl) rfl (by show 2 * 0 + _ ≤ _; exact Nat.le_of_eq rfl) (hb hby d5_52) (fun _ _ => ⟨rfl, e85, (by decide : 0 + 0 ≤ _), (by decide : 0 + 0 ≤ _)⟩)
      dsimp only [Pt.U, Pt.locs, Pt.cells, Pt.slots] at X87 l87 y87 z87 st87 hQ87
      subst l87 y87 z87
      obtain ⟨h87, e87⟩ : ∃ h, T87.heap = h := ⟨_, rfl⟩
      rw [e87] at hQ87
      obtain ⟨lq_87, vq_87, bq_87, rfl, Nq87, Kq87, E1_87, Fb1_87, Fl1_87, V1_87, p1_87, p2_87, p3_87, p4_87⟩ := hQ87
      have N87 := Fr.app N85 Nq87
      have Z87 : n0 ≤ h87.size := Nat.le_trans Z0 Kq87.1
      have KK87 : Keep h0 h87 [ao, ab] := (Keep.refl h0 [ao, ab]).trans Kq87 (allS (Or.inl (List.mem_of_getElem? (i := 0) rfl)) (allS (Or.inl (List.mem_of_getElem? (i := 1) rfl)) all0))
      refine Go.trans st87 ?_
      show Go _ _ _ _ _ _ _ T87 (mkF m 55 #[.val (.ref ao), .val (.int ci)] [])
      exact Go.ret0 X87 hx hret hlk (hb hby d5_55) e87 (by decide) (by decide) ⟨lq_87, vq_87, bq_87, rfl, N87, KK87, E1_87, Fb1_87, Fl1_87, V1_87, p1_87, p2_87, p3_87, p4_87⟩
    · refine Go.step (fun _ k => XS.ifNo X85.here hx rfl (hb hby d5_43) rfl ((if0 _ _).trans (feq hc43_86).1) k) ?_
      show Go _ _ _ _ _ _ _ T85 (mkF m 46 #[.val (.ref ao), .val (.int ci)] [(.ref ao)])
      refine Go.step (fun _ k => XS.bipush X85.here hx rfl (hb hby d5_46) k) ?_
      show Go _ _ _ _ _ _ _ T85 (mkF m 48 #[.val (.ref ao), .val (.int ci)] [(.int (63 : Int32)), (.ref ao)])
      refine Go.step (fun _ k => XS.goto X85.here hx rfl (pc0 := 48) (pc' := 52) rfl (hb hby d5_48) (by decide) (by decide) k) ?_
      show Go _ _ _ _ _ _ _ T85 (mkF m 52 #[.val (.ref ao), .val (.int ci)] [(.int (63 : Int32)), (.ref ao)])
      obtain ⟨cq88, q88, q88'⟩ := E0.cell
      obtain ⟨_, _, ⟨T88, L88, k88, n88⟩, -, X88, ⟨Lc88, hQ88, l88, y88, z88⟩, st88⟩ := X85.privateBack hx (y := (⟨"com/example/hearthlog/hearthlog/Utf8Line", "appendCodePoint", "(I)V"⟩ : MethodName)) hown (mvT hZ (hw _ (List.mem_of_getElem? (i := 36) rfl))) (mvT hZ (hw _ (List.mem_of_getElem? (i := 37) rfl))) (own_selp (mvT hZ (hw _ (List.mem_of_getElem? (i := 3) rfl))) (Cond.privateMethod_at (mvP hZ (hw _ (List.mem_of_getElem? (i := 38) rfl)) (args := #[]))) (mvT hZ (hw _ (List.mem_of_getElem? (i := 37) rfl))) (by decide)) (Cond.privateMethod_at (mvP hZ (hw _ (List.mem_of_getElem? (i := 38) rfl)) (args := #[]))) (mvT hZ (hw _ (List.mem_of_getElem? (i := 39) rfl))) (by decide) (backOf (W := 0) (rmCp l Z a0 hw [] ao (63 : Int32) ab kb ln vs h0 n0 Z0 E0 Fb Fl V0 g0 g1 ne0 hl0 hl1 hlen (by decide) (by decide)) hZ (hw _ (List.mem_of_getElem? (i := 39) rfl)) (hw _ (List.mem_of_getElem? (i := 4) rfl)) (by decide) (by decide)) (g := (mkF m 52 #[.val (.ref ao), .val (.int ci)] [(.int (63 : Int32)), (.ref ao)])) rfl (by rw [hml]; rfl) (Steps.refl _) (a := ao) (by rw [e85]; exact q88) q88' (argsL := [(.int (63 : Int32))]) (rest := []) (lenOf pd__I_V rfl) rfl (by show 2 * 0 + _ ≤ _; exact Nat.le_of_eq rfl) (hb hby d5_52) (fun _ _ => ⟨rfl, e85, (by decide : 0 + 0 ≤ _), (by decide : 0 + 0 ≤ _)⟩)
      dsimp only [Pt.U, Pt.locs, Pt.cells, Pt.slots] at X88 l88 y88 z88 st88 hQ88
      subst l88 y88 z88
      obtain ⟨h88, e88⟩ : ∃ h, T88.heap = h := ⟨_, rfl⟩
      rw [e88] at hQ88
      obtain ⟨lq_88, vq_88, bq_88, rfl, Nq88, Kq88, E1_88, Fb1_88, Fl1_88, V1_88, p1_88, p2_88, p3_88, p4_88⟩ := hQ88
      have N88 := Fr.app N85 Nq88
      have Z88 : n0 ≤ h88.size := Nat.le_trans Z0 Kq88.1
      have KK88 : Keep h0 h88 [ao, ab] := (Keep.refl h0 [ao, ab]).trans Kq88 (allS (Or.inl (List.mem_of_getElem? (i := 0) rfl)) (allS (Or.inl (List.mem_of_getElem? (i := 1) rfl)) all0))
      refine Go.trans st88 ?_
      have p4x : bq_88 = 10 ↔ ci = 10 := ⟨fun q => absurd (p4_88.mp q) (by decide), fun q => absurd q (by have := rng32 ci; have : (10 : Int32).toInt = 10 := rfl; have : (128 : Int32).toInt = 128 := rfl; simp only [ne_eq, Int32.lt_iff_toInt_lt, Int32.le_iff_toInt_le, ← Int32.toInt_inj, Int64.lt_iff_toInt_lt, Int64.le_iff_toInt_le, ← Int64.toInt_inj] at hc4_74 ⊢; omega)⟩
      show Go _ _ _ _ _ _ _ T88 (mkF m 55 #[.val (.ref ao), .val (.int ci)] [])
      exact Go.ret0 X88 hx hret hlk (hb hby d5_55) e88 (by decide) (by decide) ⟨lq_88, vq_88, bq_88, rfl, N88, KK88, E1_88, Fb1_88, Fl1_88, V1_88, p1_88, p2_88, p3_88, p4x⟩
theorem d4_0 : decode prog_43_method_6_code 0 = .ok (.aload_n 0, 1) := by decide +kernel
theorem d4_1 : decode prog_43_method_6_code 1 = .ok (.getfield 32, 3) := by decide +kernel
theorem d4_4 : decode prog_43_method_6_code 4 = .ok (.ifCond .le 23, 3) := by decide +kernel
theorem d4_7 : decode prog_43_method_6_code 7 = .ok (.aload_n 0, 1) := by decide +kernel
theorem d4_8 : decode prog_43_method_6_code 8 = .ok (.getfield 16, 3) := by decide +kernel
theorem d4_11 : decode prog_43_method_6_code 11 = .ok (.aload_n 0, 1) := by decide +kernel
theorem d4_12 : decode prog_43_method_6_code 12 = .ok (.getfield 32, 3) := by decide +kernel
theorem d4_15 : decode prog_43_method_6_code 15 = .ok (.iconst 1, 1) := by decide +kernel
theorem d4_16 : decode prog_43_method_6_code 16 = .ok (.isub, 1) := by decide +kernel
theorem d4_17 : decode prog_43_method_6_code 17 = .ok (.baload, 1) := by decide +kernel
theorem d4_18 : decode prog_43_method_6_code 18 = .ok (.bipush 10, 2) := by decide +kernel
theorem d4_20 : decode prog_43_method_6_code 20 = .ok (.if_icmp .ne 7, 3) := by decide +kernel
theorem d4_23 : decode prog_43_method_6_code 23 = .ok (.iconst 1, 1) := by decide +kernel
theorem d4_24 : decode prog_43_method_6_code 24 = .ok (.goto 4, 3) := by decide +kernel
theorem d4_27 : decode prog_43_method_6_code 27 = .ok (.iconst 0, 1) := by decide +kernel
theorem d4_28 : decode prog_43_method_6_code 28 = .ok (.ireturn, 1) := by decide +kernel
theorem ef_rmE0 (m : MethodId) (ao : Addr) : entryFrame m #[(.ref ao)] 1 = mkF m 0 #[.val (.ref ao)] [] := by first | (simp [entryFrame, mkF, argsToLocals, Value.category]; done) | rfl
def Q_rmE0 (Z : State) (ao : Addr) (h0 : Heap) (n0 : Nat) (v : Option Value) (h : Heap) (L : List Loc) : Prop := (v = some (.int (0 : Int32))) ∧ (Fr n0 L) ∧ (h = h0)
set_option maxRecDepth 65536 in
set_option maxHeartbeats 40000000 in
theorem rmE0 (l : Launch) (Z : State) (a0 : Array Value) (hw : ∀ d ∈ tables_1, d.before a0 Z = true) (ws : List Jvm.Cond) (ao : Addr) (h0 : Heap) (n0 : Nat) (Z0 : n0 ≤ h0.size) (E0 : Exa Z h0 ao "com/example/hearthlog/hearthlog/Utf8Line") (Fl : Fld Z h0 ao "com/example/hearthlog/hearthlog/Utf8Line" "length" "I" (.int (0 : Int32))) :
    MetFree l (⟨"com/example/hearthlog/hearthlog/Utf8Line", "endsWithLineFeed", "()Z"⟩ : MethodName) (head1 (Jvm.Cond.code (⟨"com/example/hearthlog/hearthlog/Utf8Line", "endsWithLineFeed", "()Z"⟩ : MethodName) prog_43_method_6_code 1 (some .boolean) :: ws) ({ frames := 0, cells := 0, slots := 0, locals := 0 } : Room)) (fun aA U => aA = #[(.ref ao)] ∧ Z.Warmed39 U.vm ∧ U.heap = h0) (fun _ _ _ _ _ => True) (fun _ U o U' => ∃ v L, o = .returned v ∧ Q_rmE0 Z ao h0 n0 v U'.heap L ∧ FrameEnd U o U' L ({ frames := 0, cells := 0, slots := 0, locals := 0 } : Room).cells ({ frames := 0, cells := 0, slots := 0, locals := 0 } : Room).slots) := by
  refine MetFree.of_bodySF (plainFor_of_name pn_com_example_hearthlog_hearthlog_Utf8Line) hisR ?_
  intro p e s m args below meth c s₁ Bd hml0 hP hK
  obtain ⟨rfl, hZ, hh⟩ := hP
  have hx := Bd.exec
  have hby := Bd.bytes
  have hml : c.maxLocals = 1 := hml0
  have hown : s.vm.findClass "com/example/hearthlog/hearthlog/Utf8Line" = some m.cls := findClass_of_methodNamed Bd.named
  have hnm := (name_of_methodNamed Bd.named Bd.method).1
  have hret := Bd.returns
  have hlk : meth.locks = false := BodyLoose.notSynchronized Bd
  have X0 : Stand p l e ({ frames := 0, cells := 0, slots := 0, locals := 0 } : Room) s m #[(.ref ao)] below meth c s₁ [] 0 0 := Stand.of_body Bd
  have e0 : s₁.heap = h0 := by rw [← hh, Bd.state]; rfl
  have N0 := Fr.nil n0
  suffices hgo : Go p e below s ({ frames := 0, cells := 0, slots := 0, locals := 0 } : Room).cells ({ frames := 0, cells := 0, slots := 0, locals := 0 } : Room).slots (Q_rmE0 Z ao h0 n0) s₁ (mkF m 0 #[.val (.ref ao)] []) from hgo.enter (ef_rmE0 m ao)
  refine Go.step (fun _ k => XS.aloadN X0.here hx rfl (hb hby d4_0) rfl rfl k) ?_
  show Go _ _ _ _ _ _ _ s₁ (mkF m 1 #[.val (.ref ao)] [(.ref ao)])
  obtain ⟨T89, X89, e89, st89⟩ := getF X0 hx hZ hown (host := "") (Or.inl (hw _ (List.mem_of_getElem? (i := 24) rfl))) Via.refl e0 Fl (g := (mkF m 1 #[.val (.ref ao)] [(.ref ao)])) rfl rfl (hb hby d4_1)
  refine Go.step st89 ?_
  show Go _ _ _ _ _ _ _ T89 (mkF m 4 #[.val (.ref ao)] [(.int (0 : Int32))])
  have hc4_90 : ¬ ((0 : Int32) < (0 : Int32)) := (by decide)
  refine Go.step (fun _ k => XS.ifYes X89.here hx rfl (pc0 := 4) (pc' := 27) rfl (hb hby d4_4) rfl ((if0 _ _).trans (flt hc4_90).2.2.2) (by decide) (by decide) k) ?_
  show Go _ _ _ _ _ _ _ T89 (mkF m 27 #[.val (.ref ao)] [])
  refine Go.step (fun _ k => XS.iconst X89.here hx rfl (hb hby d4_27) k) ?_
  show Go _ _ _ _ _ _ _ T89 (mkF m 28 #[.val (.ref ao)] [(.int (0 : Int32))])
  exact Go.retN X89 hx (t := .boolean) hret hlk (by simp) (hb hby d4_28) e89 (by decide) (by decide) ⟨rfl, N0, rfl⟩
theorem ef_rmE1 (m : MethodId) (ao : Addr) : entryFrame m #[(.ref ao)] 1 = mkF m 0 #[.val (.ref ao)] [] := by first | (simp [entryFrame, mkF, argsToLocals, Value.category]; done) | rfl
def Q_rmE1 (Z : State) (ao : Addr) (ab : Addr) (kb : ClassId) (ln : Int32) (vs : List Value) (bq : Int32) (h0 : Heap) (n0 : Nat) (v : Option Value) (h : Heap) (L : List Loc) : Prop := (v = some (.int (if bq = 10 then (1 : Int32) else 0))) ∧ (Fr n0 L) ∧ (h = h0)
set_option maxRecDepth 65536 in
set_option maxHeartbeats 40000000 in
theorem rmE1 (l : Launch) (Z : State) (a0 : Array Value) (hw : ∀ d ∈ tables_1, d.before a0 Z = true) (ws : List Jvm.Cond) (ao : Addr) (ab : Addr) (kb : ClassId) (ln : Int32) (vs : List Value) (bq : Int32) (h0 : Heap) (n0 : Nat) (Z0 : n0 ≤ h0.size) (E0 : Exa Z h0 ao "com/example/hearthlog/hearthlog/Utf8Line") (Fb : Fld Z h0 ao "com/example/hearthlog/hearthlog/Utf8Line" "bytes" "[B" (.ref ab)) (Fl : Fld Z h0 ao "com/example/hearthlog/hearthlog/Utf8Line" "length" "I" (.int ln)) (V0 : Arv Z h0 ab kb .byte (256 : Int32) vs (.int (0 : Int32))) (hl0 : (0 : Int32) < ln) (hl1 : ln < (200 : Int32)) (hbq : vs.getD (ln - (1 : Int32)).toNatClampNeg (.int (0 : Int32)) = .int bq) :
    MetFree l (⟨"com/example/hearthlog/hearthlog/Utf8Line", "endsWithLineFeed", "()Z"⟩ : MethodName) (head1 (Jvm.Cond.code (⟨"com/example/hearthlog/hearthlog/Utf8Line", "endsWithLineFeed", "()Z"⟩ : MethodName) prog_43_method_6_code 1 (some .boolean) :: ws) ({ frames := 0, cells := 0, slots := 0, locals := 0 } : Room)) (fun aA U => aA = #[(.ref ao)] ∧ Z.Warmed39 U.vm ∧ U.heap = h0) (fun _ _ _ _ _ => True) (fun _ U o U' => ∃ v L, o = .returned v ∧ Q_rmE1 Z ao ab kb ln vs bq h0 n0 v U'.heap L ∧ FrameEnd U o U' L ({ frames := 0, cells := 0, slots := 0, locals := 0 } : Room).cells ({ frames := 0, cells := 0, slots := 0, locals := 0 } : Room).slots) := by
  refine MetFree.of_bodySF (plainFor_of_name pn_com_example_hearthlog_hearthlog_Utf8Line) hisR ?_
  intro p e s m args below meth c s₁ Bd hml0 hP hK
  obtain ⟨rfl, hZ, hh⟩ := hP
  have hx := Bd.exec
  have hby := Bd.bytes
  have hml : c.maxLocals = 1 := hml0
  have hown : s.vm.findClass "com/example/hearthlog/hearthlog/Utf8Line" = some m.cls := findClass_of_methodNamed Bd.named
  have hnm := (name_of_methodNamed Bd.named Bd.method).1
  have hret := Bd.returns
  have hlk : meth.locks = false := BodyLoose.notSynchronized Bd
  have X0 : Stand p l e ({ frames := 0, cells := 0, slots := 0, locals := 0 } : Room) s m #[(.ref ao)] below meth c s₁ [] 0 0 := Stand.of_body Bd
  have e0 : s₁.heap = h0 := by rw [← hh, Bd.state]; rfl
  have N0 := Fr.nil n0
  suffices hgo : Go p e below s ({ frames := 0, cells := 0, slots := 0, locals := 0 } : Room).cells ({ frames := 0, cells := 0, slots := 0, locals := 0 } : Room).slots (Q_rmE1 Z ao ab kb ln vs bq h0 n0) s₁ (mkF m 0 #[.val (.ref ao)] []) from hgo.enter (ef_rmE1 m ao)
  refine Go.step (fun _ k => XS.aloadN X0.here hx rfl (hb hby d4_0) rfl rfl k) ?_
  show Go _ _ _ _ _ _ _ s₁ (mkF m 1 #[.val (.ref ao)] [(.ref ao)])
  obtain ⟨T91, X91, e91, st91⟩ := getF X0 hx hZ hown (host := "") (Or.inl (hw _ (List.mem_of_getElem? (i := 24) rfl))) Via.refl e0 Fl (g := (mkF m 1 #[.val (.ref ao)] [(.ref ao)])) rfl rfl (hb hby d4_1)
  refine Go.step st91 ?_
  show Go _ _ _ _ _ _ _ T91 (mkF m 4 #[.val (.ref ao)] [(.int ln)])
  have hc4_92 : (0 : Int32) < ln := hl0
  refine Go.step (fun _ k => XS.ifNo X91.here hx rfl (hb hby d4_4) rfl ((if0 _ _).trans (tlt hc4_92).2.2.2) k) ?_
  show Go _ _ _ _ _ _ _ T91 (mkF m 7 #[.val (.ref ao)] [])
  refine Go.step (fun _ k => XS.aloadN X91.here hx rfl (hb hby d4_7) rfl rfl k) ?_
  show Go _ _ _ _ _ _ _ T91 (mkF m 8 #[.val (.ref ao)] [(.ref ao)])
  obtain ⟨T93, X93, e93, st93⟩ := getF X91 hx hZ hown (host := "") (Or.inl (hw _ (List.mem_of_getElem? (i := 17) rfl))) Via.refl e91 Fb (g := (mkF m 8 #[.val (.ref ao)] [(.ref ao)])) rfl rfl (hb hby d4_8)
  refine Go.step st93 ?_
  show Go _ _ _ _ _ _ _ T93 (mkF m 11 #[.val (.ref ao)] [(.ref ab)])
  refine Go.step (fun _ k => XS.aloadN X93.here hx rfl (hb hby d4_11) rfl rfl k) ?_
  show Go _ _ _ _ _ _ _ T93 (mkF m 12 #[.val (.ref ao)] [(.ref ao), (.ref ab)])
  obtain ⟨T94, X94, e94, st94⟩ := getF X93 hx hZ hown (host := "") (Or.inl (hw _ (List.mem_of_getElem? (i := 24) rfl))) Via.refl e93 Fl (g := (mkF m 12 #[.val (.ref ao)] [(.ref ao), (.ref ab)])) rfl rfl (hb hby d4_12)
  refine Go.step st94 ?_
  show Go _ _ _ _ _ _ _ T94 (mkF m 15 #[.val (.ref ao)] [(.int ln), (.ref ab)])
  refine Go.step (fun _ k => XS.iconst X94.here hx rfl (hb hby d4_15) k) ?_
  show Go _ _ _ _ _ _ _ T94 (mkF m 16 #[.val (.ref ao)] [(.int (1 : Int32)), (.int ln), (.ref ab)])
  refine Go.step (fun _ k => XS.isub X94.here hx rfl (hb hby d4_16) rfl k) ?_
  show Go _ _ _ _ _ _ _ T94 (mkF m 17 #[.val (.ref ao)] [(.int (ln - (1 : Int32))), (.ref ab)])
  obtain ⟨cl95, Ar95, q95, S95, M95, H95, G95⟩ := id (V0)
  have hin95 : ¬ ((ln - (1 : Int32)) < 0 ∨ cl95.slots.size ≤ ((ln - (1 : Int32))).toNatClampNeg) := inb_of S95 ⟨(by have := rng32 ln; have : (1 : Int32).toInt = 1 := rfl; have := rng32 (ln - (1 : Int32)); have := c_isub ln (1 : Int32); have : (0 : Int32).toInt = 0 := rfl; have : (256 : Int32).toInt = 256 := rfl; have : (200 : Int32).toInt = 200 := rfl; simp only [Int32.lt_iff_toInt_lt, Int32.le_iff_toInt_le, ← Int32.toInt_inj, Int64.lt_iff_toInt_lt, Int64.le_iff_toInt_le, ← Int64.toInt_inj] at hl0 hl1 ⊢; omega), (by have := rng32 ln; have : (1 : Int32).toInt = 1 := rfl; have := rng32 (ln - (1 : Int32)); have := c_isub ln (1 : Int32); have : (0 : Int32).toInt = 0 := rfl; have : (256 : Int32).toInt = 256 := rfl; have : (200 : Int32).toInt = 200 := rfl; simp only [Int32.lt_iff_toInt_lt, Int32.le_iff_toInt_le, ← Int32.toInt_inj, Int64.lt_iff_toInt_lt, Int64.le_iff_toInt_le, ← Int64.toInt_inj] at hl0 hl1 ⊢; omega)⟩
  have hat95 : cl95.slots[((ln - (1 : Int32))).toNatClampNeg]? = some (.int bq) := H95.at hin95 hbq
  refine Go.step (X94.baloadBytes hx (j := (ln - (1 : Int32))) (v := (.int bq)) (by rw [e94]; exact Ar95.1) (State.isArrayOf_alike hZ.alike Ar95.2.1) Ar95.2.2 hin95 hat95 (g := (mkF m 17 #[.val (.ref ao)] [(.int (ln - (1 : Int32))), (.ref ab)])) rfl rfl (hb hby d4_17)) ?_
  show Go _ _ _ _ _ _ _ T94 (mkF m 18 #[.val (.ref ao)] [(.int bq)])
  refine Go.step (fun _ k => XS.bipush X94.here hx rfl (hb hby d4_18) k) ?_
  show Go _ _ _ _ _ _ _ T94 (mkF m 20 #[.val (.ref ao)] [(.int (10 : Int32)), (.int bq)])
  by_cases hc20_96 : bq = (10 : Int32)
  · refine Go.step (fun _ k => XS.icmpNo X94.here hx rfl (hb hby d4_20) rfl (teq hc20_96).2 k) ?_
    show Go _ _ _ _ _ _ _ T94 (mkF m 23 #[.val (.ref ao)] [])
    refine Go.step (fun _ k => XS.iconst X94.here hx rfl (hb hby d4_23) k) ?_
    show Go _ _ _ _ _ _ _ T94 (mkF m 24 #[.val (.ref ao)] [(.int (1 : Int32))])
    refine Go.step (fun _ k => XS.goto X94.here hx rfl (pc0 := 24) (pc' := 28) rfl (hb hby d4_24) (by decide) (by decide) k) ?_
    show Go _ _ _ _ _ _ _ T94 (mkF m 28 #[.val (.ref ao)] [(.int (1 : Int32))])
    exact Go.retN X94 hx (t := .boolean) hret hlk (by simp) (hb hby d4_28) e94 (by decide) (by decide) ⟨(congrArg (fun z => some (Value.int z)) (by simp [hc20_96] <;> rfl)), N0, rfl⟩
  · refine Go.step (fun _ k => XS.icmpYes X94.here hx rfl (pc0 := 20) (pc' := 27) rfl (hb hby d4_20) rfl (feq hc20_96).2 (by decide) (by decide) k) ?_
    show Go _ _ _ _ _ _ _ T94 (mkF m 27 #[.val (.ref ao)] [])
    refine Go.step (fun _ k => XS.iconst X94.here hx rfl (hb hby d4_27) k) ?_
    show Go _ _ _ _ _ _ _ T94 (mkF m 28 #[.val (.ref ao)] [(.int (0 : Int32))])
    exact Go.retN X94 hx (t := .boolean) hret hlk (by simp) (hb hby d4_28) e94 (by decide) (by decide) ⟨(congrArg (fun z => some (Value.int z)) (by simp [hc20_96] <;> rfl)), N0, rfl⟩
theorem own_and3 (x : Int32) : x &&& 3 = 0 ∨ x &&& 3 = 1 ∨ x &&& 3 = 2 ∨ x &&& 3 = 3 := by
  have := c_mask x 3 2 (by decide) (by decide)
  have : (0 : Int32).toInt = 0 := rfl; have : (1 : Int32).toInt = 1 := rfl; have : (2 : Int32).toInt = 2 := rfl; have : (3 : Int32).toInt = 3 := rfl
  simp only [← Int32.toInt_inj]; omega
theorem pd__C_V : parseMethodDescriptor "(C)V" = some ⟨[.char], none⟩ := by decide +kernel
theorem pd___Z : parseMethodDescriptor "()Z" = some ⟨[], some .boolean⟩ := by decide +kernel
theorem pn_com_example_hearthlog_hearthlog_Utf8LineEndsWithLineFeedPinLaw : plainName "com/example/hearthlog/hearthlog/Utf8LineEndsWithLineFeedPinLaw" = true := by first | (simp [plainName, overriddenIn]; done) | decide +kernel
theorem ef_rm0 (m : MethodId) (ik : Int32) (ia : Int32) (ib : Int32) (ic : Int32) : entryFrame m #[(.int ik), (.int ia), (.int ib), (.int ic)] maxLocals = mkF m 0 #[.val (.int ik), .val (.int ia), .val (.int ib), .val (.int ic), .unset, .unset, .unset, .unset] [] := by first | (simp [entryFrame, mkF, argsToLocals, Value.category, maxLocals]; done) | rfl
def Q_rm0 (Z : State) (ik : Int32) (ia : Int32) (ib : Int32) (ic : Int32) (h0 : Heap) (n0 : Nat) (v : Option Value) (h : Heap) (L : List Loc) : Prop := (v = some (.int (1 : Int32))) ∧ (Fr n0 L) ∧ (True)
set_option maxRecDepth 65536 in
set_option maxHeartbeats 40000000 in
theorem rm0 (l : Launch) (Z : State) (a0 : Array Value) (hw : ∀ d ∈ tables_1, d.before a0 Z = true) (ws : List Jvm.Cond) (ik : Int32) (ia : Int32) (ib : Int32) (ic : Int32) (h0 : Heap) (n0 : Nat) (Z0 : n0 ≤ h0.size) :
    MetFree l x (head1 (Jvm.Cond.code x code maxLocals ret :: ws) room_1) (fun aA U => aA = #[(.int ik), (.int ia), (.int ib), (.int ic)] ∧ Z.Warmed39 U.vm ∧ U.heap = h0) (fun _ _ _ _ _ => True) (fun _ U o U' => ∃ v L, o = .returned v ∧ Q_rm0 Z ik ia ib ic h0 n0 v U'.heap L ∧ FrameEnd U o U' L room_1.cells room_1.slots) := by
  refine MetFree.of_bodySF (plainFor_of_name pn_com_example_hearthlog_hearthlog_Utf8LineEndsWithLineFeedPinLaw) hisR ?_
  intro p e s m args below meth c s₁ Bd hml0 hP hK
  obtain ⟨rfl, hZ, hh⟩ := hP
  have hx := Bd.exec
  have hby := Bd.bytes
  have hml : c.maxLocals = 8 := hml0
  have hown : s.vm.findClass "com/example/hearthlog/hearthlog/Utf8LineEndsWithLineFeedPinLaw" = some m.cls := findClass_of_methodNamed Bd.named
  have hnm := (name_of_methodNamed Bd.named Bd.method).1
  have hret := Bd.returns
  have hlk : meth.locks = false := BodyLoose.notSynchronized Bd
  have X0 : Stand p l e room_1 s m #[(.int ik), (.int ia), (.int ib), (.int ic)] below meth c s₁ [] 0 0 := Stand.of_body Bd
  have e0 : s₁.heap = h0 := by rw [← hh, Bd.state]; rfl
  have N0 := Fr.nil n0
  suffices hgo : Go p e below s room_1.cells room_1.slots (Q_rm0 Z ik ia ib ic h0 n0) s₁ (mkF m 0 #[.val (.int ik), .val (.int ia), .val (.int ib), .val (.int ic), .unset, .unset, .unset, .unset] []) from hgo.enter (ef_rm0 m ik ia ib ic)
  refine Go.step (fun _ k => XS.iloadN X0.here hx rfl (hb hby at_0) rfl k) ?_
  show Go _ _ _ _ _ _ _ s₁ (mkF m 1 #[.val (.int ik), .val (.int ia), .val (.int ib), .val (.int ic), .unset, .unset, .unset, .unset] [(.int ik)])
  refine Go.step (fun _ k => XS.iconst X0.here hx rfl (hb hby at_1) k) ?_
  show Go _ _ _ _ _ _ _ s₁ (mkF m 2 #[.val (.int ik), .val (.int ia), .val (.int ib), .val (.int ic), .unset, .unset, .unset, .unset] [(.int (3 : Int32)), (.int ik)])
  refine Go.step (fun _ k => XS.iand X0.here hx rfl (hb hby at_2) rfl k) ?_
  show Go _ _ _ _ _ _ _ s₁ (mkF m 3 #[.val (.int ik), .val (.int ia), .val (.int ib), .val (.int ic), .unset, .unset, .unset, .unset] [(.int (ik &&& (3 : Int32)))])
  refine Go.step (fun _ k => XS.istore X0.here hx rfl (hb hby at_3) rfl (l' := #[.val (.int ik), .val (.int ia), .val (.int ib), .val (.int ic), .val (.int (ik &&& (3 : Int32))), .unset, .unset, .unset]) rfl k) ?_
  show Go _ _ _ _ _ _ _ s₁ (mkF m 5 #[.val (.int ik), .val (.int ia), .val (.int ib), .val (.int ic), .val (.int (ik &&& (3 : Int32))), .unset, .unset, .unset] [])
  refine Go.step (fun _ k => XS.iconst X0.here hx rfl (hb hby at_5) k) ?_
  show Go _ _ _ _ _ _ _ s₁ (mkF m 6 #[.val (.int ik), .val (.int ia), .val (.int ib), .val (.int ic), .val (.int (ik &&& (3 : Int32))), .unset, .unset, .unset] [(.int (3 : Int32))])
  obtain ⟨T97, h97, k97, X97, e97, E97, A97, st97⟩ := newP X0 hx hZ (hw _ (List.mem_of_getElem? (i := 0) rfl)) e0 (g := (mkF m 6 #[.val (.int ik), .val (.int ia), .val (.int ib), .val (.int ic), .val (.int (ik &&& (3 : Int32))), .unset, .unset, .unset] [(.int (3 : Int32))])) rfl (hb hby at_6) rfl (by decide) (cap := 3) (by decide) (by decide) (by decide) (by decide)
  obtain ⟨b97, g97⟩ : ∃ z, z = h0.size := ⟨_, rfl⟩
  rw [← g97] at A97 st97
  refine Go.step st97 ?_
  have g_b97 : n0 ≤ b97 := Nat.le_trans Z0 (Nat.le_of_eq g97.symm)
  have Z97 : n0 ≤ h97.size := Nat.le_trans Z0 E97.1
  have V97 : Arv Z h97 b97 k97 .char (3 : Int32) [] (.int (0 : Int32)) := Arv.new A97 (by decide)
  have V98 : Arv Z h97 b97 k97 .char (3 : Int32) [(.int (0 : Int32)), (.int (0 : Int32)), (.int (0 : Int32))] (.int (0 : Int32)) := (V97).pad (pad_rep [] (.int (0 : Int32)) 3)
  show Go _ _ _ _ _ _ _ T97 (mkF m 8 #[.val (.int ik), .val (.int ia), .val (.int ib), .val (.int ic), .val (.int (ik &&& (3 : Int32))), .unset, .unset, .unset] [(.ref b97)])
  refine Go.step (fun _ k => XS.astore X97.here hx rfl (hb hby at_8) rfl rfl (l' := #[.val (.int ik), .val (.int ia), .val (.int ib), .val (.int ic), .val (.int (ik &&& (3 : Int32))), .val (.ref b97), .unset, .unset]) rfl k) ?_
  show Go _ _ _ _ _ _ _ T97 (mkF m 10 #[.val (.int ik), .val (.int ia), .val (.int ib), .val (.int ic), .val (.int (ik &&& (3 : Int32))), .val (.ref b97), .unset, .unset] [])
  refine Go.step (fun _ k => XS.aload X97.here hx rfl (hb hby at_10) rfl rfl k) ?_
  show Go _ _ _ _ _ _ _ T97 (mkF m 12 #[.val (.int ik), .val (.int ia), .val (.int ib), .val (.int ic), .val (.int (ik &&& (3 : Int32))), .val (.ref b97), .unset, .unset] [(.ref b97)])
  refine Go.step (fun _ k => XS.iconst X97.here hx rfl (hb hby at_12) k) ?_
  show Go _ _ _ _ _ _ _ T97 (mkF m 13 #[.val (.int ik), .val (.int ia), .val (.int ib), .val (.int ic), .val (.int (ik &&& (3 : Int32))), .val (.ref b97), .unset, .unset] [(.int (0 : Int32)), (.ref b97)])
  refine Go.step (fun _ k => XS.iloadN X97.here hx rfl (hb hby at_13) rfl k) ?_
  show Go _ _ _ _ _ _ _ T97 (mkF m 14 #[.val (.int ik), .val (.int ia), .val (.int ib), .val (.int ic), .val (.int (ik &&& (3 : Int32))), .val (.ref b97), .unset, .unset] [(.int ia), (.int (0 : Int32)), (.ref b97)])
  refine Go.step (X97.ldcInt hx hown (mvT hZ (hw _ (List.mem_of_getElem? (i := 1) rfl))) (g := (mkF m 14 #[.val (.int ik), .val (.int ia), .val (.int ib), .val (.int ic), .val (.int (ik &&& (3 : Int32))), .val (.ref b97), .unset, .unset] [(.int ia), (.int (0 : Int32)), (.ref b97)])) rfl (hb hby at_14)) ?_
  show Go _ _ _ _ _ _ _ T97 (mkF m 16 #[.val (.int ik), .val (.int ia), .val (.int ib), .val (.int ic), .val (.int (ik &&& (3 : Int32))), .val (.ref b97), .unset, .unset] [(.int (65535 : Int32)), (.int ia), (.int (0 : Int32)), (.ref b97)])
  refine Go.step (fun _ k => XS.iand X97.here hx rfl (hb hby at_16) rfl k) ?_
  show Go _ _ _ _ _ _ _ T97 (mkF m 17 #[.val (.int ik), .val (.int ia), .val (.int ib), .val (.int ic), .val (.int (ik &&& (3 : Int32))), .val (.ref b97), .unset, .unset] [(.int (ia &&& (65535 : Int32))), (.int (0 : Int32)), (.ref b97)])
  refine Go.step (fun _ k => XS.i2c X97.here hx rfl (hb hby at_17) rfl k) ?_
  show Go _ _ _ _ _ _ _ T97 (mkF m 18 #[.val (.int ik), .val (.int ia), .val (.int ib), .val (.int ic), .val (.int (ik &&& (3 : Int32))), .val (.ref b97), .unset, .unset] [(.int ((ia &&& (65535 : Int32)).toUInt32.toUInt16.toUInt32.toInt32)), (.int (0 : Int32)), (.ref b97)])
  generalize ((ia &&& (65535 : Int32)).toUInt32.toUInt16.toUInt32.toInt32) = ca
  show Go _ _ _ _ _ _ _ T97 (mkF m 18 #[.val (.int ik), .val (.int ia), .val (.int ib), .val (.int ic), .val (.int (ik &&& (3 : Int32))), .val (.ref b97), .unset, .unset] [(.int ca), (.int (0 : Int32)), (.ref b97)])
  obtain ⟨cl99, Ar99, q99, S99, M99, H99, G99⟩ := id (V98)
  have hin99 : ¬ ((0 : Int32) < 0 ∨ cl99.slots.size ≤ ((0 : Int32)).toNatClampNeg) := inb_of S99 ⟨by decide, by decide⟩
  obtain ⟨T99, h99, X99, e99, W99, st99⟩ := stC X97 hx hZ e97 Ar99 (j := (0 : Int32)) hin99 (g := (mkF m 18 #[.val (.int ik), .val (.int ia), .val (.int ib), .val (.int ic), .val (.int (ik &&& (3 : Int32))), .val (.ref b97), .unset, .unset] [(.int ca), (.int (0 : Int32)), (.ref b97)])) rfl rfl (hb hby at_18)
  refine Go.step st99 ?_
  have V99 : Arv Z h99 b97 k97 .char (3 : Int32) [(.int (nar .char ca)), (.int (0 : Int32)), (.int (0 : Int32))] (.int (0 : Int32)) := Arv.set Ar99 q99 S99 M99 H99 G99 (fits_nar_char _) W99 0 rfl (Nat.le_of_ble_eq_true rfl)
  have N99 := Fr.snoc X99 N0 g_b97
  have Z99 : n0 ≤ h99.size := Nat.le_trans Z97 (Keep.of_wr W99).1
  show Go _ _ _ _ _ _ _ T99 (mkF m 19 #[.val (.int ik), .val (.int ia), .val (.int ib), .val (.int ic), .val (.int (ik &&& (3 : Int32))), .val (.ref b97), .unset, .unset] [])
  refine Go.step (fun _ k => XS.aload X99.here hx rfl (hb hby at_19) rfl rfl k) ?_
  show Go _ _ _ _ _ _ _ T99 (mkF m 21 #[.val (.int ik), .val (.int ia), .val (.int ib), .val (.int ic), .val (.int (ik &&& (3 : Int32))), .val (.ref b97), .unset, .unset] [(.ref b97)])
  refine Go.step (fun _ k => XS.iconst X99.here hx rfl (hb hby at_21) k) ?_
  show Go _ _ _ _ _ _ _ T99 (mkF m 22 #[.val (.int ik), .val (.int ia), .val (.int ib), .val (.int ic), .val (.int (ik &&& (3 : Int32))), .val (.ref b97), .unset, .unset] [(.int (1 : Int32)), (.ref b97)])
  refine Go.step (fun _ k => XS.iloadN X99.here hx rfl (hb hby at_22) rfl k) ?_
  show Go _ _ _ _ _ _ _ T99 (mkF m 23 #[.val (.int ik), .val (.int ia), .val (.int ib), .val (.int ic), .val (.int (ik &&& (3 : Int32))), .val (.ref b97), .unset, .unset] [(.int ib), (.int (1 : Int32)), (.ref b97)])
  refine Go.step (X99.ldcInt hx hown (mvT hZ (hw _ (List.mem_of_getElem? (i := 1) rfl))) (g := (mkF m 23 #[.val (.int ik), .val (.int ia), .val (.int ib), .val (.int ic), .val (.int (ik &&& (3 : Int32))), .val (.ref b97), .unset, .unset] [(.int ib), (.int (1 : Int32)), (.ref b97)])) rfl (hb hby at_23)) ?_
  show Go _ _ _ _ _ _ _ T99 (mkF m 25 #[.val (.int ik), .val (.int ia), .val (.int ib), .val (.int ic), .val (.int (ik &&& (3 : Int32))), .val (.ref b97), .unset, .unset] [(.int (65535 : Int32)), (.int ib), (.int (1 : Int32)), (.ref b97)])
  refine Go.step (fun _ k => XS.iand X99.here hx rfl (hb hby at_25) rfl k) ?_
  show Go _ _ _ _ _ _ _ T99 (mkF m 26 #[.val (.int ik), .val (.int ia), .val (.int ib), .val (.int ic), .val (.int (ik &&& (3 : Int32))), .val (.ref b97), .unset, .unset] [(.int (ib &&& (65535 : Int32))), (.int (1 : Int32)), (.ref b97)])
  refine Go.step (fun _ k => XS.i2c X99.here hx rfl (hb hby at_26) rfl k) ?_
  show Go _ _ _ _ _ _ _ T99 (mkF m 27 #[.val (.int ik), .val (.int ia), .val (.int ib), .val (.int ic), .val (.int (ik &&& (3 : Int32))), .val (.ref b97), .unset, .unset] [(.int ((ib &&& (65535 : Int32)).toUInt32.toUInt16.toUInt32.toInt32)), (.int (1 : Int32)), (.ref b97)])
  generalize ((ib &&& (65535 : Int32)).toUInt32.toUInt16.toUInt32.toInt32) = cb
  show Go _ _ _ _ _ _ _ T99 (mkF m 27 #[.val (.int ik), .val (.int ia), .val (.int ib), .val (.int ic), .val (.int (ik &&& (3 : Int32))), .val (.ref b97), .unset, .unset] [(.int cb), (.int (1 : Int32)), (.ref b97)])
  obtain ⟨cl100, Ar100, q100, S100, M100, H100, G100⟩ := id (V99)
  have hin100 : ¬ ((1 : Int32) < 0 ∨ cl100.slots.size ≤ ((1 : Int32)).toNatClampNeg) := inb_of S100 ⟨by decide, by decide⟩
  obtain ⟨T100, h100, X100, e100, W100, st100⟩ := stC X99 hx hZ e99 Ar100 (j := (1 : Int32)) hin100 (g := (mkF m 27 #[.val (.int ik), .val (.int ia), .val (.int ib), .val (.int ic), .val (.int (ik &&& (3 : Int32))), .val (.ref b97), .unset, .unset] [(.int cb), (.int (1 : Int32)), (.ref b97)])) rfl rfl (hb hby at_27)
  refine Go.step st100 ?_
  have V100 : Arv Z h100 b97 k97 .char (3 : Int32) [(.int (nar .char ca)), (.int (nar .char cb)), (.int (0 : Int32))] (.int (0 : Int32)) := Arv.set Ar100 q100 S100 M100 H100 G100 (fits_nar_char _) W100 1 rfl (Nat.le_of_ble_eq_true rfl)
  have N100 := Fr.snoc X100 N99 g_b97
  have Z100 : n0 ≤ h100.size := Nat.le_trans Z99 (Keep.of_wr W100).1
  show Go _ _ _ _ _ _ _ T100 (mkF m 28 #[.val (.int ik), .val (.int ia), .val (.int ib), .val (.int ic), .val (.int (ik &&& (3 : Int32))), .val (.ref b97), .unset, .unset] [])
  refine Go.step (fun _ k => XS.aload X100.here hx rfl (hb hby at_28) rfl rfl k) ?_
  show Go _ _ _ _ _ _ _ T100 (mkF m 30 #[.val (.int ik), .val (.int ia), .val (.int ib), .val (.int ic), .val (.int (ik &&& (3 : Int32))), .val (.ref b97), .unset, .unset] [(.ref b97)])
  refine Go.step (fun _ k => XS.iconst X100.here hx rfl (hb hby at_30) k) ?_
  show Go _ _ _ _ _ _ _ T100 (mkF m 31 #[.val (.int ik), .val (.int ia), .val (.int ib), .val (.int ic), .val (.int (ik &&& (3 : Int32))), .val (.ref b97), .unset, .unset] [(.int (2 : Int32)), (.ref b97)])
  refine Go.step (fun _ k => XS.iloadN X100.here hx rfl (hb hby at_31) rfl k) ?_
  show Go _ _ _ _ _ _ _ T100 (mkF m 32 #[.val (.int ik), .val (.int ia), .val (.int ib), .val (.int ic), .val (.int (ik &&& (3 : Int32))), .val (.ref b97), .unset, .unset] [(.int ic), (.int (2 : Int32)), (.ref b97)])
  refine Go.step (X100.ldcInt hx hown (mvT hZ (hw _ (List.mem_of_getElem? (i := 1) rfl))) (g := (mkF m 32 #[.val (.int ik), .val (.int ia), .val (.int ib), .val (.int ic), .val (.int (ik &&& (3 : Int32))), .val (.ref b97), .unset, .unset] [(.int ic), (.int (2 : Int32)), (.ref b97)])) rfl (hb hby at_32)) ?_
  show Go _ _ _ _ _ _ _ T100 (mkF m 34 #[.val (.int ik), .val (.int ia), .val (.int ib), .val (.int ic), .val (.int (ik &&& (3 : Int32))), .val (.ref b97), .unset, .unset] [(.int (65535 : Int32)), (.int ic), (.int (2 : Int32)), (.ref b97)])
  refine Go.step (fun _ k => XS.iand X100.here hx rfl (hb hby at_34) rfl k) ?_
  show Go _ _ _ _ _ _ _ T100 (mkF m 35 #[.val (.int ik), .val (.int ia), .val (.int ib), .val (.int ic), .val (.int (ik &&& (3 : Int32))), .val (.ref b97), .unset, .unset] [(.int (ic &&& (65535 : Int32))), (.int (2 : Int32)), (.ref b97)])
  refine Go.step (fun _ k => XS.i2c X100.here hx rfl (hb hby at_35) rfl k) ?_
  show Go _ _ _ _ _ _ _ T100 (mkF m 36 #[.val (.int ik), .val (.int ia), .val (.int ib), .val (.int ic), .val (.int (ik &&& (3 : Int32))), .val (.ref b97), .unset, .unset] [(.int ((ic &&& (65535 : Int32)).toUInt32.toUInt16.toUInt32.toInt32)), (.int (2 : Int32)), (.ref b97)])
  generalize ((ic &&& (65535 : Int32)).toUInt32.toUInt16.toUInt32.toInt32) = cc
  show Go _ _ _ _ _ _ _ T100 (mkF m 36 #[.val (.int ik), .val (.int ia), .val (.int ib), .val (.int ic), .val (.int (ik &&& (3 : Int32))), .val (.ref b97), .unset, .unset] [(.int cc), (.int (2 : Int32)), (.ref b97)])
  obtain ⟨cl101, Ar101, q101, S101, M101, H101, G101⟩ := id (V100)
  have hin101 : ¬ ((2 : Int32) < 0 ∨ cl101.slots.size ≤ ((2 : Int32)).toNatClampNeg) := inb_of S101 ⟨by decide, by decide⟩
  obtain ⟨T101, h101, X101, e101, W101, st101⟩ := stC X100 hx hZ e100 Ar101 (j := (2 : Int32)) hin101 (g := (mkF m 36 #[.val (.int ik), .val (.int ia), .val (.int ib), .val (.int ic), .val (.int (ik &&& (3 : Int32))), .val (.ref b97), .unset, .unset] [(.int cc), (.int (2 : Int32)), (.ref b97)])) rfl rfl (hb hby at_36)
  refine Go.step st101 ?_
  have V101 : Arv Z h101 b97 k97 .char (3 : Int32) [(.int (nar .char ca)), (.int (nar .char cb)), (.int (nar .char cc))] (.int (0 : Int32)) := Arv.set Ar101 q101 S101 M101 H101 G101 (fits_nar_char _) W101 2 rfl (Nat.le_of_ble_eq_true rfl)
  have N101 := Fr.snoc X101 N100 g_b97
  have Z101 : n0 ≤ h101.size := Nat.le_trans Z100 (Keep.of_wr W101).1
  show Go _ _ _ _ _ _ _ T101 (mkF m 37 #[.val (.int ik), .val (.int ia), .val (.int ib), .val (.int ic), .val (.int (ik &&& (3 : Int32))), .val (.ref b97), .unset, .unset] [])
  obtain ⟨T102, h102, X102, e102, E102, A102, D102, -, st102⟩ := newO X101 hx hZ hown (hw _ (List.mem_of_getElem? (i := 2) rfl)) (hw _ (List.mem_of_getElem? (i := 3) rfl)) (hw _ (List.mem_of_getElem? (i := 4) rfl)) e101 (g := (mkF m 37 #[.val (.int ik), .val (.int ia), .val (.int ib), .val (.int ic), .val (.int (ik &&& (3 : Int32))), .val (.ref b97), .unset, .unset] [])) rfl (hb hby at_37) (by decide) (by decide)
  obtain ⟨b102, g102⟩ : ∃ z, z = h101.size := ⟨_, rfl⟩
  rw [← g102] at A102 D102 st102
  refine Go.step st102 ?_
  have g_b102 : n0 ≤ b102 := Nat.le_trans Z101 (Nat.le_of_eq g102.symm)
  have ne_b97_b102 : b97 ≠ b102 := Nat.ne_of_lt (Nat.lt_of_lt_of_le V101.lt (Nat.le_of_eq g102.symm))
  have Z102 : n0 ≤ h102.size := Nat.le_trans Z101 E102.1
  have Fspare_102 : Fld Z h102 b102 "com/example/hearthlog/hearthlog/Utf8Line" "spare" "[[B" .null := D102 (Or.inr (hw _ (List.mem_of_getElem? (i := 16) rfl))) (ty := (.array (.array .byte))) (by decide)
  have Fbytes_102 : Fld Z h102 b102 "com/example/hearthlog/hearthlog/Utf8Line" "bytes" "[B" .null := D102 (Or.inl (hw _ (List.mem_of_getElem? (i := 18) rfl))) (ty := (.array .byte)) (by decide)
  have Flength_102 : Fld Z h102 b102 "com/example/hearthlog/hearthlog/Utf8Line" "length" "I" (.int (0 : Int32)) := D102 (Or.inl (hw _ (List.mem_of_getElem? (i := 25) rfl))) (ty := .int) (by decide)
  show Go _ _ _ _ _ _ _ T102 (mkF m 40 #[.val (.int ik), .val (.int ia), .val (.int ib), .val (.int ic), .val (.int (ik &&& (3 : Int32))), .val (.ref b97), .unset, .unset] [(.ref b102)])
  refine Go.step (fun _ k => XS.dup X102.here hx rfl (hb hby at_40) rfl rfl k) ?_
  show Go _ _ _ _ _ _ _ T102 (mkF m 41 #[.val (.int ik), .val (.int ia), .val (.int ib), .val (.int ic), .val (.int (ik &&& (3 : Int32))), .val (.ref b97), .unset, .unset] [(.ref b102), (.ref b102)])
  obtain ⟨_, _, ⟨T103, L103, k103, n103⟩, -, X103, ⟨Lc103, hQ103, l103, y103, z103⟩, st103⟩ := X102.specialBack hx (y := (⟨"com/example/hearthlog/hearthlog/Utf8Line", "<init>", "()V"⟩ : MethodName)) rfl hown (mvT hZ (hw _ (List.mem_of_getElem? (i := 5) rfl))) (mvT hZ (hw _ (List.mem_of_getElem? (i := 6) rfl))) (mvT hZ (hw _ (List.mem_of_getElem? (i := 7) rfl))) (by decide) (backOf (W := 1) (rmI1 l Z a0 hw [] b102 h102 n0 Z102 A102 Fspare_102 Fbytes_102 Flength_102 g_b102) hZ (hw _ (List.mem_of_getElem? (i := 7) rfl)) (hw _ (List.mem_of_getElem? (i := 4) rfl)) (by decide) (by decide)) (g := (mkF m 41 #[.val (.int ik), .val (.int ia), .val (.int ib), .val (.int ic), .val (.int (ik &&& (3 : Int32))), .val (.ref b97), .unset, .unset] [(.ref b102), (.ref b102)])) rfl (by rw [hml]; rfl) (Steps.refl _) (a := b102) (argsL := []) (rest := [(.ref b102)]) (lenOf pd___V rfl) rfl (by show 2 * 0 + _ ≤ _; exact Nat.le_of_eq rfl) (hb hby at_41) (fun _ _ => ⟨rfl, e102, (by decide : 2 + 1 ≤ _), (by decide : 6 + 256 ≤ _)⟩)
  dsimp only [Pt.U, Pt.locs, Pt.cells, Pt.slots] at X103 l103 y103 z103 st103 hQ103
  subst l103 y103 z103
  obtain ⟨h103, e103⟩ : ∃ h, T103.heap = h := ⟨_, rfl⟩
  rw [e103] at hQ103
  have f104 : Arv Z h102 b97 k97 .char (3 : Int32) [(.int (nar .char ca)), (.int (nar .char cb)), (.int (nar .char cc))] (.int (0 : Int32)) := (V101.ext E102)
  obtain ⟨ab_103, kb_103, rfl, Nq103, Kq103, sz_103, E1_103, Fb1_103, Fl1_103, V1_103⟩ := hQ103
  have N103 := Fr.app N101 Nq103
  have Z103 : n0 ≤ h103.size := Nat.le_trans Z102 Kq103.1
  have g_ab_103 : n0 ≤ ab_103 := Nat.le_trans Z102 sz_103
  have ne_b102_ab_103 : b102 ≠ ab_103 := Nat.ne_of_lt (Nat.lt_of_lt_of_le A102.lt sz_103)
  have ne_b97_ab_103 : b97 ≠ ab_103 := Nat.ne_of_lt (Nat.lt_of_lt_of_le f104.lt sz_103)
  refine Go.trans st103 ?_
  show Go _ _ _ _ _ _ _ T103 (mkF m 44 #[.val (.int ik), .val (.int ia), .val (.int ib), .val (.int ic), .val (.int (ik &&& (3 : Int32))), .val (.ref b97), .unset, .unset] [(.ref b102)])
  refine Go.step (fun _ k => XS.astore X103.here hx rfl (hb hby at_44) rfl rfl (l' := #[.val (.int ik), .val (.int ia), .val (.int ib), .val (.int ic), .val (.int (ik &&& (3 : Int32))), .val (.ref b97), .val (.ref b102), .unset]) rfl k) ?_
  show Go _ _ _ _ _ _ _ T103 (mkF m 46 #[.val (.int ik), .val (.int ia), .val (.int ib), .val (.int ic), .val (.int (ik &&& (3 : Int32))), .val (.ref b97), .val (.ref b102), .unset] [])
  rcases own_and3 ik with q3 | q3 | q3 | q3 <;> rw [q3]
  · show Go _ _ _ _ _ _ _ T103 (mkF m 46 #[.val (.int ik), .val (.int ia), .val (.int ib), .val (.int ic), .val (.int (0 : Int32)), .val (.ref b97), .val (.ref b102), .unset] [])
    refine Go.step (fun _ k => XS.iload X103.here hx rfl (hb hby at_46) rfl k) ?_
    show Go _ _ _ _ _ _ _ T103 (mkF m 48 #[.val (.int ik), .val (.int ia), .val (.int ib), .val (.int ic), .val (.int (0 : Int32)), .val (.ref b97), .val (.ref b102), .unset] [(.int (0 : Int32))])
    have hc48_105 : ¬ ((0 : Int32) < (0 : Int32)) := (by decide)
    refine Go.step (fun _ k => XS.ifYes X103.here hx rfl (pc0 := 48) (pc' := 60) rfl (hb hby at_48) rfl ((if0 _ _).trans (flt hc48_105).2.2.2) (by decide) (by decide) k) ?_
    show Go _ _ _ _ _ _ _ T103 (mkF m 60 #[.val (.int ik), .val (.int ia), .val (.int ib), .val (.int ic), .val (.int (0 : Int32)), .val (.ref b97), .val (.ref b102), .unset] [])
    refine Go.step (fun _ k => XS.iload X103.here hx rfl (hb hby at_60) rfl k) ?_
    show Go _ _ _ _ _ _ _ T103 (mkF m 62 #[.val (.int ik), .val (.int ia), .val (.int ib), .val (.int ic), .val (.int (0 : Int32)), .val (.ref b97), .val (.ref b102), .unset] [(.int (0 : Int32))])
    refine Go.step (fun _ k => XS.iconst X103.here hx rfl (hb hby at_62) k) ?_
    show Go _ _ _ _ _ _ _ T103 (mkF m 63 #[.val (.int ik), .val (.int ia), .val (.int ib), .val (.int ic), .val (.int (0 : Int32)), .val (.ref b97), .val (.ref b102), .unset] [(.int (1 : Int32)), (.int (0 : Int32))])
    have hc63_106 : ¬ ((1 : Int32) < (0 : Int32)) := (by decide)
    refine Go.step (fun _ k => XS.icmpYes X103.here hx rfl (pc0 := 63) (pc' := 75) rfl (hb hby at_63) rfl (flt hc63_106).2.2.2 (by decide) (by decide) k) ?_
    show Go _ _ _ _ _ _ _ T103 (mkF m 75 #[.val (.int ik), .val (.int ia), .val (.int ib), .val (.int ic), .val (.int (0 : Int32)), .val (.ref b97), .val (.ref b102), .unset] [])
    refine Go.step (fun _ k => XS.iload X103.here hx rfl (hb hby at_75) rfl k) ?_
    show Go _ _ _ _ _ _ _ T103 (mkF m 77 #[.val (.int ik), .val (.int ia), .val (.int ib), .val (.int ic), .val (.int (0 : Int32)), .val (.ref b97), .val (.ref b102), .unset] [(.int (0 : Int32))])
    refine Go.step (fun _ k => XS.iconst X103.here hx rfl (hb hby at_77) k) ?_
    show Go _ _ _ _ _ _ _ T103 (mkF m 78 #[.val (.int ik), .val (.int ia), .val (.int ib), .val (.int ic), .val (.int (0 : Int32)), .val (.ref b97), .val (.ref b102), .unset] [(.int (2 : Int32)), (.int (0 : Int32))])
    have hc78_107 : ¬ ((2 : Int32) < (0 : Int32)) := (by decide)
    refine Go.step (fun _ k => XS.icmpYes X103.here hx rfl (pc0 := 78) (pc' := 90) rfl (hb hby at_78) rfl (flt hc78_107).2.2.2 (by decide) (by decide) k) ?_
    show Go _ _ _ _ _ _ _ T103 (mkF m 90 #[.val (.int ik), .val (.int ia), .val (.int ib), .val (.int ic), .val (.int (0 : Int32)), .val (.ref b97), .val (.ref b102), .unset] [])
    refine Go.step (fun _ k => XS.iload X103.here hx rfl (hb hby at_90) rfl k) ?_
    show Go _ _ _ _ _ _ _ T103 (mkF m 92 #[.val (.int ik), .val (.int ia), .val (.int ib), .val (.int ic), .val (.int (0 : Int32)), .val (.ref b97), .val (.ref b102), .unset] [(.int (0 : Int32))])
    have hc92_108 : ¬ ((0 : Int32) < (0 : Int32)) := (by decide)
    refine Go.step (fun _ k => XS.ifYes X103.here hx rfl (pc0 := 92) (pc' := 111) rfl (hb hby at_92) rfl ((if0 _ _).trans (flt hc92_108).2.2.2) (by decide) (by decide) k) ?_
    show Go _ _ _ _ _ _ _ T103 (mkF m 111 #[.val (.int ik), .val (.int ia), .val (.int ib), .val (.int ic), .val (.int (0 : Int32)), .val (.ref b97), .val (.ref b102), .unset] [])
    refine Go.step (fun _ k => XS.iconst X103.here hx rfl (hb hby at_111) k) ?_
    show Go _ _ _ _ _ _ _ T103 (mkF m 112 #[.val (.int ik), .val (.int ia), .val (.int ib), .val (.int ic), .val (.int (0 : Int32)), .val (.ref b97), .val (.ref b102), .unset] [(.int (0 : Int32))])
    refine Go.step (fun _ k => XS.istore X103.here hx rfl (hb hby at_112) rfl (l' := #[.val (.int ik), .val (.int ia), .val (.int ib), .val (.int ic), .val (.int (0 : Int32)), .val (.ref b97), .val (.ref b102), .val (.int (0 : Int32))]) rfl k) ?_
    show Go _ _ _ _ _ _ _ T103 (mkF m 114 #[.val (.int ik), .val (.int ia), .val (.int ib), .val (.int ic), .val (.int (0 : Int32)), .val (.ref b97), .val (.ref b102), .val (.int (0 : Int32))] [])
    refine Go.step (fun _ k => XS.aload X103.here hx rfl (hb hby at_114) rfl rfl k) ?_
    show Go _ _ _ _ _ _ _ T103 (mkF m 116 #[.val (.int ik), .val (.int ia), .val (.int ib), .val (.int ic), .val (.int (0 : Int32)), .val (.ref b97), .val (.ref b102), .val (.int (0 : Int32))] [(.ref b102)])
    obtain ⟨cq109, kq109, q109a, q109b, q109c⟩ := isOf hZ e103 E1_103
    obtain ⟨_, _, ⟨T109, L109, k109, n109⟩, -, X109, ⟨Lc109, hQ109, l109, y109, z109⟩, st109⟩ := X103.virtualBack hx (y := (⟨"com/example/hearthlog/hearthlog/Utf8Line", "endsWithLineFeed", "()Z"⟩ : MethodName)) (z := (⟨"com/example/hearthlog/hearthlog/Utf8Line", "endsWithLineFeed", "()Z"⟩ : MethodName)) hown (mvT hZ (hw _ (List.mem_of_getElem? (i := 19) rfl))) (mvT hZ (hw _ (List.mem_of_getElem? (i := 20) rfl))) (notFace_of_selects (args := #[]) (mvT hZ (hw _ (List.mem_of_getElem? (i := 22) rfl)))) (mvT hZ (hw _ (List.mem_of_getElem? (i := 22) rfl))) (mvT hZ (hw _ (List.mem_of_getElem? (i := 21) rfl))) (by decide) (backOf (W := 0) (rmE0 l Z a0 hw [] b102 h103 n0 Z103 E1_103 Fl1_103) hZ (hw _ (List.mem_of_getElem? (i := 23) rfl)) (hw _ (List.mem_of_getElem? (i := 4) rfl)) (by decide) (by decide)) q109a q109c (g := (mkF m 116 #[.val (.int ik), .val (.int ia), .val (.int ib), .val (.int ic), .val (.int (0 : Int32)), .val (.ref b97), .val (.ref b102), .val (.int (0 : Int32))] [(.ref b102)])) rfl (by rw [hml]; rfl) (Steps.refl _) (argsL := []) (rest := []) (lenOf pd___Z rfl) rfl (by show 2 * 0 + _ ≤ _; exact Nat.le_of_eq rfl) (hb hby at_116) (fun _ _ => ⟨rfl, e103, (by decide : 3 + 0 ≤ _), (by decide : 262 + 0 ≤ _)⟩)
    dsimp only [Pt.U, Pt.locs, Pt.cells, Pt.slots] at X109 l109 y109 z109 st109 hQ109
    subst l109 y109 z109
    obtain ⟨h109, e109⟩ : ∃ h, T109.heap = h := ⟨_, rfl⟩
    rw [e109] at hQ109
    obtain ⟨rfl, Nq109, hs109⟩ := hQ109
    have N109 := Fr.app N103 Nq109
    rw [hs109] at e109
    refine Go.trans st109 ?_
    show Go _ _ _ _ _ _ _ T109 (mkF m 119 #[.val (.int ik), .val (.int ia), .val (.int ib), .val (.int ic), .val (.int (0 : Int32)), .val (.ref b97), .val (.ref b102), .val (.int (0 : Int32))] [(.int (0 : Int32))])
    refine Go.step (fun _ k => XS.iload X109.here hx rfl (hb hby at_119) rfl k) ?_
    show Go _ _ _ _ _ _ _ T109 (mkF m 121 #[.val (.int ik), .val (.int ia), .val (.int ib), .val (.int ic), .val (.int (0 : Int32)), .val (.ref b97), .val (.ref b102), .val (.int (0 : Int32))] [(.int (0 : Int32)), (.int (0 : Int32))])
    have hc121_110 : (0 : Int32) = (0 : Int32) := (by decide)
    refine Go.step (fun _ k => XS.icmpNo X109.here hx rfl (hb hby at_121) rfl (teq hc121_110).2 k) ?_
    show Go _ _ _ _ _ _ _ T109 (mkF m 124 #[.val (.int ik), .val (.int ia), .val (.int ib), .val (.int ic), .val (.int (0 : Int32)), .val (.ref b97), .val (.ref b102), .val (.int (0 : Int32))] [])
    refine Go.step (fun _ k => XS.iconst X109.here hx rfl (hb hby at_124) k) ?_
    show Go _ _ _ _ _ _ _ T109 (mkF m 125 #[.val (.int ik), .val (.int ia), .val (.int ib), .val (.int ic), .val (.int (0 : Int32)), .val (.ref b97), .val (.ref b102), .val (.int (0 : Int32))] [(.int (1 : Int32))])
    refine Go.step (fun _ k => XS.goto X109.here hx rfl (pc0 := 125) (pc' := 129) rfl (hb hby at_125) (by decide) (by decide) k) ?_
    show Go _ _ _ _ _ _ _ T109 (mkF m 129 #[.val (.int ik), .val (.int ia), .val (.int ib), .val (.int ic), .val (.int (0 : Int32)), .val (.ref b97), .val (.ref b102), .val (.int (0 : Int32))] [(.int (1 : Int32))])
    exact Go.retN X109 hx (t := .boolean) hret hlk (by simp) (hb hby at_129) e109 (by decide) (by decide) ⟨rfl, N109, trivial⟩
  · show Go _ _ _ _ _ _ _ T103 (mkF m 46 #[.val (.int ik), .val (.int ia), .val (.int ib), .val (.int ic), .val (.int (1 : Int32)), .val (.ref b97), .val (.ref b102), .unset] [])
    refine Go.step (fun _ k => XS.iload X103.here hx rfl (hb hby at_46) rfl k) ?_
    show Go _ _ _ _ _ _ _ T103 (mkF m 48 #[.val (.int ik), .val (.int ia), .val (.int ib), .val (.int ic), .val (.int (1 : Int32)), .val (.ref b97), .val (.ref b102), .unset] [(.int (1 : Int32))])
    have hc48_111 : (0 : Int32) < (1 : Int32) := (by decide)
    refine Go.step (fun _ k => XS.ifNo X103.here hx rfl (hb hby at_48) rfl ((if0 _ _).trans (tlt hc48_111).2.2.2) k) ?_
    show Go _ _ _ _ _ _ _ T103 (mkF m 51 #[.val (.int ik), .val (.int ia), .val (.int ib), .val (.int ic), .val (.int (1 : Int32)), .val (.ref b97), .val (.ref b102), .unset] [])
    refine Go.step (fun _ k => XS.aload X103.here hx rfl (hb hby at_51) rfl rfl k) ?_
    show Go _ _ _ _ _ _ _ T103 (mkF m 53 #[.val (.int ik), .val (.int ia), .val (.int ib), .val (.int ic), .val (.int (1 : Int32)), .val (.ref b97), .val (.ref b102), .unset] [(.ref b102)])
    refine Go.step (fun _ k => XS.aload X103.here hx rfl (hb hby at_53) rfl rfl k) ?_
    show Go _ _ _ _ _ _ _ T103 (mkF m 55 #[.val (.int ik), .val (.int ia), .val (.int ib), .val (.int ic), .val (.int (1 : Int32)), .val (.ref b97), .val (.ref b102), .unset] [(.ref b97), (.ref b102)])
    refine Go.step (fun _ k => XS.iconst X103.here hx rfl (hb hby at_55) k) ?_
    show Go _ _ _ _ _ _ _ T103 (mkF m 56 #[.val (.int ik), .val (.int ia), .val (.int ib), .val (.int ic), .val (.int (1 : Int32)), .val (.ref b97), .val (.ref b102), .unset] [(.int (0 : Int32)), (.ref b97), (.ref b102)])
    have f112 : Arv Z h103 b97 k97 .char (3 : Int32) [(.int (nar .char ca)), (.int (nar .char cb)), (.int (nar .char cc))] (.int (0 : Int32)) := (f104.keep Kq103 (ninS ne_b97_b102 nin0))
    obtain ⟨cl113, Ar113, q113, S113, M113, H113, G113⟩ := id (f112)
    have hin113 : ¬ ((0 : Int32) < 0 ∨ cl113.slots.size ≤ ((0 : Int32)).toNatClampNeg) := inb_of S113 ⟨by decide, by decide⟩
    have hat113 : cl113.slots[((0 : Int32)).toNatClampNeg]? = some (.int (nar .char ca)) := H113.at hin113 rfl
    refine Go.step (X103.caload hx (j := (0 : Int32)) (v := (.int (nar .char ca))) (by rw [e103]; exact Ar113.1) (State.isArrayOf_alike hZ.alike Ar113.2.1) Ar113.2.2 hin113 hat113 (g := (mkF m 56 #[.val (.int ik), .val (.int ia), .val (.int ib), .val (.int ic), .val (.int (1 : Int32)), .val (.ref b97), .val (.ref b102), .unset] [(.int (0 : Int32)), (.ref b97), (.ref b102)])) rfl rfl (hb hby at_56)) ?_
    show Go _ _ _ _ _ _ _ T103 (mkF m 57 #[.val (.int ik), .val (.int ia), .val (.int ib), .val (.int ic), .val (.int (1 : Int32)), .val (.ref b97), .val (.ref b102), .unset] [(.int (nar .char ca)), (.ref b102)])
    obtain ⟨cq114, kq114, q114a, q114b, q114c⟩ := isOf hZ e103 E1_103
    obtain ⟨_, _, ⟨T114, L114, k114, n114⟩, -, X114, ⟨Lc114, hQ114, l114, y114, z114⟩, st114⟩ := X103.virtualBack hx (y := (⟨"com/example/hearthlog/hearthlog/Utf8Line", "append", "(C)V"⟩ : MethodName)) (z := (⟨"com/example/hearthlog/hearthlog/Utf8Line", "append", "(C)V"⟩ : MethodName)) hown (mvT hZ (hw _ (List.mem_of_getElem? (i := 26) rfl))) (mvT hZ (hw _ (List.mem_of_getElem? (i := 27) rfl))) (notFace_of_selects (args := #[]) (mvT hZ (hw _ (List.mem_of_getElem? (i := 29) rfl)))) (mvT hZ (hw _ (List.mem_of_getElem? (i := 29) rfl))) (mvT hZ (hw _ (List.mem_of_getElem? (i := 28) rfl))) (by decide) (backOf (W := 0) (rmAp l Z a0 hw [] b102 (nar .char ca) ab_103 kb_103 (0 : Int32) (List.replicate 256 (.int (0 : Int32))) h103 n0 Z103 E1_103 Fb1_103 Fl1_103 V1_103 g_b102 g_ab_103 ne_b102_ab_103 (by decide) (by decide) (by simp) (rng_char (fits_nar_char ca)).1 (rng_char (fits_nar_char ca)).2) hZ (hw _ (List.mem_of_getElem? (i := 30) rfl)) (hw _ (List.mem_of_getElem? (i := 4) rfl)) (by decide) (by decide)) q114a q114c (g := (mkF m 57 #[.val (.int ik), .val (.int ia), .val (.int ib), .val (.int ic), .val (.int (1 : Int32)), .val (.ref b97), .val (.ref b102), .unset] [(.int (nar .char ca)), (.ref b102)])) rfl (by rw [hml]; rfl) (Steps.refl _) (argsL := [(.int (nar .char ca))]) (rest := []) (lenOf pd__C_V rfl) rfl (by show 2 * 0 + _ ≤ _; exact Nat.le_of_eq rfl) (hb hby at_57) (fun _ _ => ⟨rfl, e103, (by decide : 3 + 0 ≤ _), (by decide : 262 + 0 ≤ _)⟩)
    dsimp only [Pt.U, Pt.locs, Pt.cells, Pt.slots] at X114 l114 y114 z114 st114 hQ114
    subst l114 y114 z114
    obtain ⟨h114, e114⟩ : ∃ h, T114.heap = h := ⟨_, rfl⟩
    rw [e114] at hQ114
    obtain ⟨lq_114, vq_114, bq_114, rfl, Nq114, Kq114, E1_114, Fb1_114, Fl1_114, V1_114, p1_114, p2_114, p3_114, p4_114⟩ := hQ114
    have N114 := Fr.app N103 Nq114
    have Z114 : n0 ≤ h114.size := Nat.le_trans Z103 Kq114.1
    refine Go.trans st114 ?_
    have b114 : 0 < lq_114.toInt ∧ lq_114.toInt ≤ 4 := by have := p2_114; have : (0 : Int32).toInt = 0 := rfl; omega
    show Go _ _ _ _ _ _ _ T114 (mkF m 60 #[.val (.int ik), .val (.int ia), .val (.int ib), .val (.int ic), .val (.int (1 : Int32)), .val (.ref b97), .val (.ref b102), .unset] [])
    refine Go.step (fun _ k => XS.iload X114.here hx rfl (hb hby at_60) rfl k) ?_
    show Go _ _ _ _ _ _ _ T114 (mkF m 62 #[.val (.int ik), .val (.int ia), .val (.int ib), .val (.int ic), .val (.int (1 : Int32)), .val (.ref b97), .val (.ref b102), .unset] [(.int (1 : Int32))])
    refine Go.step (fun _ k => XS.iconst X114.here hx rfl (hb hby at_62) k) ?_
    show Go _ _ _ _ _ _ _ T114 (mkF m 63 #[.val (.int ik), .val (.int ia), .val (.int ib), .val (.int ic), .val (.int (1 : Int32)), .val (.ref b97), .val (.ref b102), .unset] [(.int (1 : Int32)), (.int (1 : Int32))])
    have hc63_115 : ¬ ((1 : Int32) < (1 : Int32)) := (by decide)
    refine Go.step (fun _ k => XS.icmpYes X114.here hx rfl (pc0 := 63) (pc' := 75) rfl (hb hby at_63) rfl (flt hc63_115).2.2.2 (by decide) (by decide) k) ?_
    show Go _ _ _ _ _ _ _ T114 (mkF m 75 #[.val (.int ik), .val (.int ia), .val (.int ib), .val (.int ic), .val (.int (1 : Int32)), .val (.ref b97), .val (.ref b102), .unset] [])
    refine Go.step (fun _ k => XS.iload X114.here hx rfl (hb hby at_75) rfl k) ?_
    show Go _ _ _ _ _ _ _ T114 (mkF m 77 #[.val (.int ik), .val (.int ia), .val (.int ib), .val (.int ic), .val (.int (1 : Int32)), .val (.ref b97), .val (.ref b102), .unset] [(.int (1 : Int32))])
    refine Go.step (fun _ k => XS.iconst X114.here hx rfl (hb hby at_77) k) ?_
    show Go _ _ _ _ _ _ _ T114 (mkF m 78 #[.val (.int ik), .val (.int ia), .val (.int ib), .val (.int ic), .val (.int (1 : Int32)), .val (.ref b97), .val (.ref b102), .unset] [(.int (2 : Int32)), (.int (1 : Int32))])
    have hc78_116 : ¬ ((2 : Int32) < (1 : Int32)) := (by decide)
    refine Go.step (fun _ k => XS.icmpYes X114.here hx rfl (pc0 := 78) (pc' := 90) rfl (hb hby at_78) rfl (flt hc78_116).2.2.2 (by decide) (by decide) k) ?_
    show Go _ _ _ _ _ _ _ T114 (mkF m 90 #[.val (.int ik), .val (.int ia), .val (.int ib), .val (.int ic), .val (.int (1 : Int32)), .val (.ref b97), .val (.ref b102), .unset] [])
    refine Go.step (fun _ k => XS.iload X114.here hx rfl (hb hby at_90) rfl k) ?_
    show Go _ _ _ _ _ _ _ T114 (mkF m 92 #[.val (.int ik), .val (.int ia), .val (.int ib), .val (.int ic), .val (.int (1 : Int32)), .val (.ref b97), .val (.ref b102), .unset] [(.int (1 : Int32))])
    have hc92_117 : (0 : Int32) < (1 : Int32) := (by decide)
    refine Go.step (fun _ k => XS.ifNo X114.here hx rfl (hb hby at_92) rfl ((if0 _ _).trans (tlt hc92_117).2.2.2) k) ?_
    show Go _ _ _ _ _ _ _ T114 (mkF m 95 #[.val (.int ik), .val (.int ia), .val (.int ib), .val (.int ic), .val (.int (1 : Int32)), .val (.ref b97), .val (.ref b102), .unset] [])
    refine Go.step (fun _ k => XS.aload X114.here hx rfl (hb hby at_95) rfl rfl k) ?_
    show Go _ _ _ _ _ _ _ T114 (mkF m 97 #[.val (.int ik), .val (.int ia), .val (.int ib), .val (.int ic), .val (.int (1 : Int32)), .val (.ref b97), .val (.ref b102), .unset] [(.ref b97)])
    refine Go.step (fun _ k => XS.iload X114.here hx rfl (hb hby at_97) rfl k) ?_
    show Go _ _ _ _ _ _ _ T114 (mkF m 99 #[.val (.int ik), .val (.int ia), .val (.int ib), .val (.int ic), .val (.int (1 : Int32)), .val (.ref b97), .val (.ref b102), .unset] [(.int (1 : Int32)), (.ref b97)])
    refine Go.step (fun _ k => XS.iconst X114.here hx rfl (hb hby at_99) k) ?_
    show Go _ _ _ _ _ _ _ T114 (mkF m 100 #[.val (.int ik), .val (.int ia), .val (.int ib), .val (.int ic), .val (.int (1 : Int32)), .val (.ref b97), .val (.ref b102), .unset] [(.int (1 : Int32)), (.int (1 : Int32)), (.ref b97)])
    refine Go.step (fun _ k => XS.isub X114.here hx rfl (hb hby at_100) rfl k) ?_
    show Go _ _ _ _ _ _ _ T114 (mkF m 101 #[.val (.int ik), .val (.int ia), .val (.int ib), .val (.int ic), .val (.int (1 : Int32)), .val (.ref b97), .val (.ref b102), .unset] [(.int (0 : Int32)), (.ref b97)])
    have f118 : Arv Z h114 b97 k97 .char (3 : Int32) [(.int (nar .char ca)), (.int (nar .char cb)), (.int (nar .char cc))] (.int (0 : Int32)) := (f112.keep Kq114 (ninS ne_b97_b102 (ninS ne_b97_ab_103 nin0)))
    obtain ⟨cl119, Ar119, q119, S119, M119, H119, G119⟩ := id (f118)
    have hin119 : ¬ ((0 : Int32) < 0 ∨ cl119.slots.size ≤ ((0 : Int32)).toNatClampNeg) := inb_of S119 ⟨by decide, by decide⟩
    have hat119 : cl119.slots[((0 : Int32)).toNatClampNeg]? = some (.int (nar .char ca)) := H119.at hin119 rfl
    refine Go.step (X114.caload hx (j := (0 : Int32)) (v := (.int (nar .char ca))) (by rw [e114]; exact Ar119.1) (State.isArrayOf_alike hZ.alike Ar119.2.1) Ar119.2.2 hin119 hat119 (g := (mkF m 101 #[.val (.int ik), .val (.int ia), .val (.int ib), .val (.int ic), .val (.int (1 : Int32)), .val (.ref b97), .val (.ref b102), .unset] [(.int (0 : Int32)), (.ref b97)])) rfl rfl (hb hby at_101)) ?_
    show Go _ _ _ _ _ _ _ T114 (mkF m 102 #[.val (.int ik), .val (.int ia), .val (.int ib), .val (.int ic), .val (.int (1 : Int32)), .val (.ref b97), .val (.ref b102), .unset] [(.int (nar .char ca))])
    refine Go.step (fun _ k => XS.bipush X114.here hx rfl (hb hby at_102) k) ?_
    show Go _ _ _ _ _ _ _ T114 (mkF m 104 #[.val (.int ik), .val (.int ia), .val (.int ib), .val (.int ic), .val (.int (1 : Int32)), .val (.ref b97), .val (.ref b102), .unset] [(.int (10 : Int32)), (.int (nar .char ca))])
    by_cases hc104_120 : (nar .char ca) = (10 : Int32)
    · refine Go.step (fun _ k => XS.icmpNo X114.here hx rfl (hb hby at_104) rfl (teq hc104_120).2 k) ?_
      show Go _ _ _ _ _ _ _ T114 (mkF m 107 #[.val (.int ik), .val (.int ia), .val (.int ib), .val (.int ic), .val (.int (1 : Int32)), .val (.ref b97), .val (.ref b102), .unset] [])
      refine Go.step (fun _ k => XS.iconst X114.here hx rfl (hb hby at_107) k) ?_
      show Go _ _ _ _ _ _ _ T114 (mkF m 108 #[.val (.int ik), .val (.int ia), .val (.int ib), .val (.int ic), .val (.int (1 : Int32)), .val (.ref b97), .val (.ref b102), .unset] [(.int (1 : Int32))])
      refine Go.step (fun _ k => XS.goto X114.here hx rfl (pc0 := 108) (pc' := 112) rfl (hb hby at_108) (by decide) (by decide) k) ?_
      show Go _ _ _ _ _ _ _ T114 (mkF m 112 #[.val (.int ik), .val (.int ia), .val (.int ib), .val (.int ic), .val (.int (1 : Int32)), .val (.ref b97), .val (.ref b102), .unset] [(.int (1 : Int32))])
      refine Go.step (fun _ k => XS.istore X114.here hx rfl (hb hby at_112) rfl (l' := #[.val (.int ik), .val (.int ia), .val (.int ib), .val (.int ic), .val (.int (1 : Int32)), .val (.ref b97), .val (.ref b102), .val (.int (1 : Int32))]) rfl k) ?_
      show Go _ _ _ _ _ _ _ T114 (mkF m 114 #[.val (.int ik), .val (.int ia), .val (.int ib), .val (.int ic), .val (.int (1 : Int32)), .val (.ref b97), .val (.ref b102), .val (.int (1 : Int32))] [])
      refine Go.step (fun _ k => XS.aload X114.here hx rfl (hb hby at_114) rfl rfl k) ?_
      show Go _ _ _ _ _ _ _ T114 (mkF m 116 #[.val (.int ik), .val (.int ia), .val (.int ib), .val (.int ic), .val (.int (1 : Int32)), .val (.ref b97), .val (.ref b102), .val (.int (1 : Int32))] [(.ref b102)])
      obtain ⟨cq121, kq121, q121a, q121b, q121c⟩ := isOf hZ e114 E1_114
      obtain ⟨_, _, ⟨T121, L121, k121, n121⟩, -, X121, ⟨Lc121, hQ121, l121, y121, z121⟩, st121⟩ := X114.virtualBack hx (y := (⟨"com/example/hearthlog/hearthlog/Utf8Line", "endsWithLineFeed", "()Z"⟩ : MethodName)) (z := (⟨"com/example/hearthlog/hearthlog/Utf8Line", "endsWithLineFeed", "()Z"⟩ : MethodName)) hown (mvT hZ (hw _ (List.mem_of_getElem? (i := 19) rfl))) (mvT hZ (hw _ (List.mem_of_getElem? (i := 20) rfl))) (notFace_of_selects (args := #[]) (mvT hZ (hw _ (List.mem_of_getElem? (i := 22) rfl)))) (mvT hZ (hw _ (List.mem_of_getElem? (i := 22) rfl))) (mvT hZ (hw _ (List.mem_of_getElem? (i := 21) rfl))) (by decide) (backOf (W := 0) (rmE1 l Z a0 hw [] b102 ab_103 kb_103 lq_114 vq_114 bq_114 h114 n0 Z114 E1_114 Fb1_114 Fl1_114 V1_114 (by have := rng32 lq_114; have : (0 : Int32).toInt = 0 := rfl; have : (200 : Int32).toInt = 200 := rfl; simp only [Int32.lt_iff_toInt_lt, Int32.le_iff_toInt_le, ← Int32.toInt_inj, Int64.lt_iff_toInt_lt, Int64.le_iff_toInt_le, ← Int64.toInt_inj]; omega) (by have := rng32 lq_114; have : (0 : Int32).toInt = 0 := rfl; have : (200 : Int32).toInt = 200 := rfl; simp only [Int32.lt_iff_toInt_lt, Int32.le_iff_toInt_le, ← Int32.toInt_inj, Int64.lt_iff_toInt_lt, Int64.le_iff_toInt_le, ← Int64.toInt_inj]; omega) p3_114) hZ (hw _ (List.mem_of_getElem? (i := 23) rfl)) (hw _ (List.mem_of_getElem? (i := 4) rfl)) (by decide) (by decide)) q121a q121c (g := (mkF m 116 #[.val (.int ik), .val (.int ia), .val (.int ib), .val (.int ic), .val (.int (1 : Int32)), .val (.ref b97), .val (.ref b102), .val (.int (1 : Int32))] [(.ref b102)])) rfl (by rw [hml]; rfl) (Steps.refl _) (argsL := []) (rest := []) (lenOf pd___Z rfl) rfl (by show 2 * 0 + _ ≤ _; exact Nat.le_of_eq rfl) (hb hby at_116) (fun _ _ => ⟨rfl, e114, (by decide : 3 + 0 ≤ _), (by decide : 262 + 0 ≤ _)⟩)
      dsimp only [Pt.U, Pt.locs, Pt.cells, Pt.slots] at X121 l121 y121 z121 st121 hQ121
      subst l121 y121 z121
      obtain ⟨h121, e121⟩ : ∃ h, T121.heap = h := ⟨_, rfl⟩
      rw [e121] at hQ121
      obtain ⟨rfl, Nq121, hs121⟩ := hQ121
      have N121 := Fr.app N114 Nq121
      rw [hs121] at e121
      refine Go.trans st121 ?_
      show Go _ _ _ _ _ _ _ T121 (mkF m 119 #[.val (.int ik), .val (.int ia), .val (.int ib), .val (.int ic), .val (.int (1 : Int32)), .val (.ref b97), .val (.ref b102), .val (.int (1 : Int32))] [(.int (if bq_114 = 10 then (1 : Int32) else 0))])
      refine Go.step (fun _ k => XS.iload X121.here hx rfl (hb hby at_119) rfl k) ?_
      show Go _ _ _ _ _ _ _ T121 (mkF m 121 #[.val (.int ik), .val (.int ia), .val (.int ib), .val (.int ic), .val (.int (1 : Int32)), .val (.ref b97), .val (.ref b102), .val (.int (1 : Int32))] [(.int (1 : Int32)), (.int (if bq_114 = 10 then (1 : Int32) else 0))])
      have hc121_122 : (if bq_114 = 10 then (1 : Int32) else 0) = (1 : Int32) := if_pos (p4_114.mpr hc104_120)
      refine Go.step (fun _ k => XS.icmpNo X121.here hx rfl (hb hby at_121) rfl (teq hc121_122).2 k) ?_
      show Go _ _ _ _ _ _ _ T121 (mkF m 124 #[.val (.int ik), .val (.int ia), .val (.int ib), .val (.int ic), .val (.int (1 : Int32)), .val (.ref b97), .val (.ref b102), .val (.int (1 : Int32))] [])
      refine Go.step (fun _ k => XS.iconst X121.here hx rfl (hb hby at_124) k) ?_
      show Go _ _ _ _ _ _ _ T121 (mkF m 125 #[.val (.int ik), .val (.int ia), .val (.int ib), .val (.int ic), .val (.int (1 : Int32)), .val (.ref b97), .val (.ref b102), .val (.int (1 : Int32))] [(.int (1 : Int32))])
      refine Go.step (fun _ k => XS.goto X121.here hx rfl (pc0 := 125) (pc' := 129) rfl (hb hby at_125) (by decide) (by decide) k) ?_
      show Go _ _ _ _ _ _ _ T121 (mkF m 129 #[.val (.int ik), .val (.int ia), .val (.int ib), .val (.int ic), .val (.int (1 : Int32)), .val (.ref b97), .val (.ref b102), .val (.int (1 : Int32))] [(.int (1 : Int32))])
      exact Go.retN X121 hx (t := .boolean) hret hlk (by simp) (hb hby at_129) e121 (by decide) (by decide) ⟨rfl, N121, trivial⟩
    · refine Go.step (fun _ k => XS.icmpYes X114.here hx rfl (pc0 := 104) (pc' := 111) rfl (hb hby at_104) rfl (feq hc104_120).2 (by decide) (by decide) k) ?_
      show Go _ _ _ _ _ _ _ T114 (mkF m 111 #[.val (.int ik), .val (.int ia), .val (.int ib), .val (.int ic), .val (.int (1 : Int32)), .val (.ref b97), .val (.ref b102), .unset] [])
      refine Go.step (fun _ k => XS.iconst X114.here hx rfl (hb hby at_111) k) ?_
      show Go _ _ _ _ _ _ _ T114 (mkF m 112 #[.val (.int ik), .val (.int ia), .val (.int ib), .val (.int ic), .val (.int (1 : Int32)), .val (.ref b97), .val (.ref b102), .unset] [(.int (0 : Int32))])
      refine Go.step (fun _ k => XS.istore X114.here hx rfl (hb hby at_112) rfl (l' := #[.val (.int ik), .val (.int ia), .val (.int ib), .val (.int ic), .val (.int (1 : Int32)), .val (.ref b97), .val (.ref b102), .val (.int (0 : Int32))]) rfl k) ?_
      show Go _ _ _ _ _ _ _ T114 (mkF m 114 #[.val (.int ik), .val (.int ia), .val (.int ib), .val (.int ic), .val (.int (1 : Int32)), .val (.ref b97), .val (.ref b102), .val (.int (0 : Int32))] [])
      refine Go.step (fun _ k => XS.aload X114.here hx rfl (hb hby at_114) rfl rfl k) ?_
      show Go _ _ _ _ _ _ _ T114 (mkF m 116 #[.val (.int ik), .val (.int ia), .val (.int ib), .val (.int ic), .val (.int (1 : Int32)), .val (.ref b97), .val (.ref b102), .val (.int (0 : Int32))] [(.ref b102)])
      obtain ⟨cq123, kq123, q123a, q123b, q123c⟩ := isOf hZ e114 E1_114
      obtain ⟨_, _, ⟨T123, L123, k123, n123⟩, -, X123, ⟨Lc123, hQ123, l123, y123, z123⟩, st123⟩ := X114.virtualBack hx (y := (⟨"com/example/hearthlog/hearthlog/Utf8Line", "endsWithLineFeed", "()Z"⟩ : MethodName)) (z := (⟨"com/example/hearthlog/hearthlog/Utf8Line", "endsWithLineFeed", "()Z"⟩ : MethodName)) hown (mvT hZ (hw _ (List.mem_of_getElem? (i := 19) rfl))) (mvT hZ (hw _ (List.mem_of_getElem? (i := 20) rfl))) (notFace_of_selects (args := #[]) (mvT hZ (hw _ (List.mem_of_getElem? (i := 22) rfl)))) (mvT hZ (hw _ (List.mem_of_getElem? (i := 22) rfl))) (mvT hZ (hw _ (List.mem_of_getElem? (i := 21) rfl))) (by decide) (backOf (W := 0) (rmE1 l Z a0 hw [] b102 ab_103 kb_103 lq_114 vq_114 bq_114 h114 n0 Z114 E1_114 Fb1_114 Fl1_114 V1_114 (by have := rng32 lq_114; have : (0 : Int32).toInt = 0 := rfl; have : (200 : Int32).toInt = 200 := rfl; simp only [Int32.lt_iff_toInt_lt, Int32.le_iff_toInt_le, ← Int32.toInt_inj, Int64.lt_iff_toInt_lt, Int64.le_iff_toInt_le, ← Int64.toInt_inj]; omega) (by have := rng32 lq_114; have : (0 : Int32).toInt = 0 := rfl; have : (200 : Int32).toInt = 200 := rfl; simp only [Int32.lt_iff_toInt_lt, Int32.le_iff_toInt_le, ← Int32.toInt_inj, Int64.lt_iff_toInt_lt, Int64.le_iff_toInt_le, ← Int64.toInt_inj]; omega) p3_114) hZ (hw _ (List.mem_of_getElem? (i := 23) rfl)) (hw _ (List.mem_of_getElem? (i := 4) rfl)) (by decide) (by decide)) q123a q123c (g := (mkF m 116 #[.val (.int ik), .val (.int ia), .val (.int ib), .val (.int ic), .val (.int (1 : Int32)), .val (.ref b97), .val (.ref b102), .val (.int (0 : Int32))] [(.ref b102)])) rfl (by rw [hml]; rfl) (Steps.refl _) (argsL := []) (rest := []) (lenOf pd___Z rfl) rfl (by show 2 * 0 + _ ≤ _; exact Nat.le_of_eq rfl) (hb hby at_116) (fun _ _ => ⟨rfl, e114, (by decide : 3 + 0 ≤ _), (by decide : 262 + 0 ≤ _)⟩)
      dsimp only [Pt.U, Pt.locs, Pt.cells, Pt.slots] at X123 l123 y123 z123 st123 hQ123
      subst l123 y123 z123
      obtain ⟨h123, e123⟩ : ∃ h, T123.heap = h := ⟨_, rfl⟩
      rw [e123] at hQ123
      obtain ⟨rfl, Nq123, hs123⟩ := hQ123
      have N123 := Fr.app N114 Nq123
      rw [hs123] at e123
      refine Go.trans st123 ?_
      show Go _ _ _ _ _ _ _ T123 (mkF m 119 #[.val (.int ik), .val (.int ia), .val (.int ib), .val (.int ic), .val (.int (1 : Int32)), .val (.ref b97), .val (.ref b102), .val (.int (0 : Int32))] [(.int (if bq_114 = 10 then (1 : Int32) else 0))])
      refine Go.step (fun _ k => XS.iload X123.here hx rfl (hb hby at_119) rfl k) ?_
      show Go _ _ _ _ _ _ _ T123 (mkF m 121 #[.val (.int ik), .val (.int ia), .val (.int ib), .val (.int ic), .val (.int (1 : Int32)), .val (.ref b97), .val (.ref b102), .val (.int (0 : Int32))] [(.int (0 : Int32)), (.int (if bq_114 = 10 then (1 : Int32) else 0))])
      have hc121_124 : (if bq_114 = 10 then (1 : Int32) else 0) = (0 : Int32) := if_neg (mt p4_114.mp hc104_120)
      refine Go.step (fun _ k => XS.icmpNo X123.here hx rfl (hb hby at_121) rfl (teq hc121_124).2 k) ?_
      show Go _ _ _ _ _ _ _ T123 (mkF m 124 #[.val (.int ik), .val (.int ia), .val (.int ib), .val (.int ic), .val (.int (1 : Int32)), .val (.ref b97), .val (.ref b102), .val (.int (0 : Int32))] [])
      refine Go.step (fun _ k => XS.iconst X123.here hx rfl (hb hby at_124) k) ?_
      show Go _ _ _ _ _ _ _ T123 (mkF m 125 #[.val (.int ik), .val (.int ia), .val (.int ib), .val (.int ic), .val (.int (1 : Int32)), .val (.ref b97), .val (.ref b102), .val (.int (0 : Int32))] [(.int (1 : Int32))])
      refine Go.step (fun _ k => XS.goto X123.here hx rfl (pc0 := 125) (pc' := 129) rfl (hb hby at_125) (by decide) (by decide) k) ?_
      show Go _ _ _ _ _ _ _ T123 (mkF m 129 #[.val (.int ik), .val (.int ia), .val (.int ib), .val (.int ic), .val (.int (1 : Int32)), .val (.ref b97), .val (.ref b102), .val (.int (0 : Int32))] [(.int (1 : Int32))])
      exact Go.retN X123 hx (t := .boolean) hret hlk (by simp) (hb hby at_129) e123 (by decide) (by decide) ⟨rfl, N123, trivial⟩
  · show Go _ _ _ _ _ _ _ T103 (mkF m 46 #[.val (.int ik), .val (.int ia), .val (.int ib), .val (.int ic), .val (.int (2 : Int32)), .val (.ref b97), .val (.ref b102), .unset] [])
    refine Go.step (fun _ k => XS.iload X103.here hx rfl (hb hby at_46) rfl k) ?_
    show Go _ _ _ _ _ _ _ T103 (mkF m 48 #[.val (.int ik), .val (.int ia), .val (.int ib), .val (.int ic), .val (.int (2 : Int32)), .val (.ref b97), .val (.ref b102), .unset] [(.int (2 : Int32))])
    have hc48_125 : (0 : Int32) < (2 : Int32) := (by decide)
    refine Go.step (fun _ k => XS.ifNo X103.here hx rfl (hb hby at_48) rfl ((if0 _ _).trans (tlt hc48_125).2.2.2) k) ?_
    show Go _ _ _ _ _ _ _ T103 (mkF m 51 #[.val (.int ik), .val (.int ia), .val (.int ib), .val (.int ic), .val (.int (2 : Int32)), .val (.ref b97), .val (.ref b102), .unset] [])
    refine Go.step (fun _ k => XS.aload X103.here hx rfl (hb hby at_51) rfl rfl k) ?_
    show Go _ _ _ _ _ _ _ T103 (mkF m 53 #[.val (.int ik), .val (.int ia), .val (.int ib), .val (.int ic), .val (.int (2 : Int32)), .val (.ref b97), .val (.ref b102), .unset] [(.ref b102)])
    refine Go.step (fun _ k => XS.aload X103.here hx rfl (hb hby at_53) rfl rfl k) ?_
    show Go _ _ _ _ _ _ _ T103 (mkF m 55 #[.val (.int ik), .val (.int ia), .val (.int ib), .val (.int ic), .val (.int (2 : Int32)), .val (.ref b97), .val (.ref b102), .unset] [(.ref b97), (.ref b102)])
    refine Go.step (fun _ k => XS.iconst X103.here hx rfl (hb hby at_55) k) ?_
    show Go _ _ _ _ _ _ _ T103 (mkF m 56 #[.val (.int ik), .val (.int ia), .val (.int ib), .val (.int ic), .val (.int (2 : Int32)), .val (.ref b97), .val (.ref b102), .unset] [(.int (0 : Int32)), (.ref b97), (.ref b102)])
    have f126 : Arv Z h103 b97 k97 .char (3 : Int32) [(.int (nar .char ca)), (.int (nar .char cb)), (.int (nar .char cc))] (.int (0 : Int32)) := (f104.keep Kq103 (ninS ne_b97_b102 nin0))
    obtain ⟨cl127, Ar127, q127, S127, M127, H127, G127⟩ := id (f126)
    have hin127 : ¬ ((0 : Int32) < 0 ∨ cl127.slots.size ≤ ((0 : Int32)).toNatClampNeg) := inb_of S127 ⟨by decide, by decide⟩
    have hat127 : cl127.slots[((0 : Int32)).toNatClampNeg]? = some (.int (nar .char ca)) := H127.at hin127 rfl
    refine Go.step (X103.caload hx (j := (0 : Int32)) (v := (.int (nar .char ca))) (by rw [e103]; exact Ar127.1) (State.isArrayOf_alike hZ.alike Ar127.2.1) Ar127.2.2 hin127 hat127 (g := (mkF m 56 #[.val (.int ik), .val (.int ia), .val (.int ib), .val (.int ic), .val (.int (2 : Int32)), .val (.ref b97), .val (.ref b102), .unset] [(.int (0 : Int32)), (.ref b97), (.ref b102)])) rfl rfl (hb hby at_56)) ?_
    show Go _ _ _ _ _ _ _ T103 (mkF m 57 #[.val (.int ik), .val (.int ia), .val (.int ib), .val (.int ic), .val (.int (2 : Int32)), .val (.ref b97), .val (.ref b102), .unset] [(.int (nar .char ca)), (.ref b102)])
    obtain ⟨cq128, kq128, q128a, q128b, q128c⟩ := isOf hZ e103 E1_103
    obtain ⟨_, _, ⟨T128, L128, k128, n128⟩, -, X128, ⟨Lc128, hQ128, l128, y128, z128⟩, st128⟩ := X103.virtualBack hx (y := (⟨"com/example/hearthlog/hearthlog/Utf8Line", "append", "(C)V"⟩ : MethodName)) (z := (⟨"com/example/hearthlog/hearthlog/Utf8Line", "append", "(C)V"⟩ : MethodName)) hown (mvT hZ (hw _ (List.mem_of_getElem? (i := 26) rfl))) (mvT hZ (hw _ (List.mem_of_getElem? (i := 27) rfl))) (notFace_of_selects (args := #[]) (mvT hZ (hw _ (List.mem_of_getElem? (i := 29) rfl)))) (mvT hZ (hw _ (List.mem_of_getElem? (i := 29) rfl))) (mvT hZ (hw _ (List.mem_of_getElem? (i := 28) rfl))) (by decide) (backOf (W := 0) (rmAp l Z a0 hw [] b102 (nar .char ca) ab_103 kb_103 (0 : Int32) (List.replicate 256 (.int (0 : Int32))) h103 n0 Z103 E1_103 Fb1_103 Fl1_103 V1_103 g_b102 g_ab_103 ne_b102_ab_103 (by decide) (by decide) (by simp) (rng_char (fits_nar_char ca)).1 (rng_char (fits_nar_char ca)).2) hZ (hw _ (List.mem_of_getElem? (i := 30) rfl)) (hw _ (List.mem_of_getElem? (i := 4) rfl)) (by decide) (by decide)) q128a q128c (g := (mkF m 57 #[.val (.int ik), .val (.int ia), .val (.int ib), .val (.int ic), .val (.int (2 : Int32)), .val (.ref b97), .val (.ref b102), .unset] [(.int (nar .char ca)), (.ref b102)])) rfl (by rw [hml]; rfl) (Steps.refl _) (argsL := [(.int (nar .char ca))]) (rest := []) (lenOf pd__C_V rfl) rfl (by show 2 * 0 + _ ≤ _; exact Nat.le_of_eq rfl) (hb hby at_57) (fun _ _ => ⟨rfl, e103, (by decide : 3 + 0 ≤ _), (by decide : 262 + 0 ≤ _)⟩)
    dsimp only [Pt.U, Pt.locs, Pt.cells, Pt.slots] at X128 l128 y128 z128 st128 hQ128
    subst l128 y128 z128
    obtain ⟨h128, e128⟩ : ∃ h, T128.heap = h := ⟨_, rfl⟩
    rw [e128] at hQ128
    obtain ⟨lq_128, vq_128, bq_128, rfl, Nq128, Kq128, E1_128, Fb1_128, Fl1_128, V1_128, p1_128, p2_128, p3_128, p4_128⟩ := hQ128
    have N128 := Fr.app N103 Nq128
    have Z128 : n0 ≤ h128.size := Nat.le_trans Z103 Kq128.1
    refine Go.trans st128 ?_
    have b128 : 0 < lq_128.toInt ∧ lq_128.toInt ≤ 4 := by have := p2_128; have : (0 : Int32).toInt = 0 := rfl; omega
    show Go _ _ _ _ _ _ _ T128 (mkF m 60 #[.val (.int ik), .val (.int ia), .val (.int ib), .val (.int ic), .val (.int (2 : Int32)), .val (.ref b97), .val (.ref b102), .unset] [])
    refine Go.step (fun _ k => XS.iload X128.here hx rfl (hb hby at_60) rfl k) ?_
    show Go _ _ _ _ _ _ _ T128 (mkF m 62 #[.val (.int ik), .val (.int ia), .val (.int ib), .val (.int ic), .val (.int (2 : Int32)), .val (.ref b97), .val (.ref b102), .unset] [(.int (2 : Int32))])
    refine Go.step (fun _ k => XS.iconst X128.here hx rfl (hb hby at_62) k) ?_
    show Go _ _ _ _ _ _ _ T128 (mkF m 63 #[.val (.int ik), .val (.int ia), .val (.int ib), .val (.int ic), .val (.int (2 : Int32)), .val (.ref b97), .val (.ref b102), .unset] [(.int (1 : Int32)), (.int (2 : Int32))])
    have hc63_129 : (1 : Int32) < (2 : Int32) := (by decide)
    refine Go.step (fun _ k => XS.icmpNo X128.here hx rfl (hb hby at_63) rfl (tlt hc63_129).2.2.2 k) ?_
    show Go _ _ _ _ _ _ _ T128 (mkF m 66 #[.val (.int ik), .val (.int ia), .val (.int ib), .val (.int ic), .val (.int (2 : Int32)), .val (.ref b97), .val (.ref b102), .unset] [])
    refine Go.step (fun _ k => XS.aload X128.here hx rfl (hb hby at_66) rfl rfl k) ?_
    show Go _ _ _ _ _ _ _ T128 (mkF m 68 #[.val (.int ik), .val (.int ia), .val (.int ib), .val (.int ic), .val (.int (2 : Int32)), .val (.ref b97), .val (.ref b102), .unset] [(.ref b102)])
    refine Go.step (fun _ k => XS.aload X128.here hx rfl (hb hby at_68) rfl rfl k) ?_
    show Go _ _ _ _ _ _ _ T128 (mkF m 70 #[.val (.int ik), .val (.int ia), .val (.int ib), .val (.int ic), .val (.int (2 : Int32)), .val (.ref b97), .val (.ref b102), .unset] [(.ref b97), (.ref b102)])
    refine Go.step (fun _ k => XS.iconst X128.here hx rfl (hb hby at_70) k) ?_
    show Go _ _ _ _ _ _ _ T128 (mkF m 71 #[.val (.int ik), .val (.int ia), .val (.int ib), .val (.int ic), .val (.int (2 : Int32)), .val (.ref b97), .val (.ref b102), .unset] [(.int (1 : Int32)), (.ref b97), (.ref b102)])
    have f130 : Arv Z h128 b97 k97 .char (3 : Int32) [(.int (nar .char ca)), (.int (nar .char cb)), (.int (nar .char cc))] (.int (0 : Int32)) := (f126.keep Kq128 (ninS ne_b97_b102 (ninS ne_b97_ab_103 nin0)))
    obtain ⟨cl131, Ar131, q131, S131, M131, H131, G131⟩ := id (f130)
    have hin131 : ¬ ((1 : Int32) < 0 ∨ cl131.slots.size ≤ ((1 : Int32)).toNatClampNeg) := inb_of S131 ⟨by decide, by decide⟩
    have hat131 : cl131.slots[((1 : Int32)).toNatClampNeg]? = some (.int (nar .char cb)) := H131.at hin131 rfl
    refine Go.step (X128.caload hx (j := (1 : Int32)) (v := (.int (nar .char cb))) (by rw [e128]; exact Ar131.1) (State.isArrayOf_alike hZ.alike Ar131.2.1) Ar131.2.2 hin131 hat131 (g := (mkF m 71 #[.val (.int ik), .val (.int ia), .val (.int ib), .val (.int ic), .val (.int (2 : Int32)), .val (.ref b97), .val (.ref b102), .unset] [(.int (1 : Int32)), (.ref b97), (.ref b102)])) rfl rfl (hb hby at_71)) ?_
    show Go _ _ _ _ _ _ _ T128 (mkF m 72 #[.val (.int ik), .val (.int ia), .val (.int ib), .val (.int ic), .val (.int (2 : Int32)), .val (.ref b97), .val (.ref b102), .unset] [(.int (nar .char cb)), (.ref b102)])
    obtain ⟨cq132, kq132, q132a, q132b, q132c⟩ := isOf hZ e128 E1_128
    obtain ⟨_, _, ⟨T132, L132, k132, n132⟩, -, X132, ⟨Lc132, hQ132, l132, y132, z132⟩, st132⟩ := X128.virtualBack hx (y := (⟨"com/example/hearthlog/hearthlog/Utf8Line", "append", "(C)V"⟩ : MethodName)) (z := (⟨"com/example/hearthlog/hearthlog/Utf8Line", "append", "(C)V"⟩ : MethodName)) hown (mvT hZ (hw _ (List.mem_of_getElem? (i := 26) rfl))) (mvT hZ (hw _ (List.mem_of_getElem? (i := 27) rfl))) (notFace_of_selects (args := #[]) (mvT hZ (hw _ (List.mem_of_getElem? (i := 29) rfl)))) (mvT hZ (hw _ (List.mem_of_getElem? (i := 29) rfl))) (mvT hZ (hw _ (List.mem_of_getElem? (i := 28) rfl))) (by decide) (backOf (W := 0) (rmAp l Z a0 hw [] b102 (nar .char cb) ab_103 kb_103 lq_128 vq_128 h128 n0 Z128 E1_128 Fb1_128 Fl1_128 V1_128 g_b102 g_ab_103 ne_b102_ab_103 (by have := rng32 lq_128; have : (0 : Int32).toInt = 0 := rfl; have : (200 : Int32).toInt = 200 := rfl; simp only [Int32.lt_iff_toInt_lt, Int32.le_iff_toInt_le, ← Int32.toInt_inj, Int64.lt_iff_toInt_lt, Int64.le_iff_toInt_le, ← Int64.toInt_inj]; omega) (by have := rng32 lq_128; have : (0 : Int32).toInt = 0 := rfl; have : (200 : Int32).toInt = 200 := rfl; simp only [Int32.lt_iff_toInt_lt, Int32.le_iff_toInt_le, ← Int32.toInt_inj, Int64.lt_iff_toInt_lt, Int64.le_iff_toInt_le, ← Int64.toInt_inj]; omega) p1_128 (rng_char (fits_nar_char cb)).1 (rng_char (fits_nar_char cb)).2) hZ (hw _ (List.mem_of_getElem? (i := 30) rfl)) (hw _ (List.mem_of_getElem? (i := 4) rfl)) (by decide) (by decide)) q132a q132c (g := (mkF m 72 #[.val (.int ik), .val (.int ia), .val (.int ib), .val (.int ic), .val (.int (2 : Int32)), .val (.ref b97), .val (.ref b102), .unset] [(.int (nar .char cb)), (.ref b102)])) rfl (by rw [hml]; rfl) (Steps.refl _) (argsL := [(.int (nar .char cb))]) (rest := []) (lenOf pd__C_V rfl) rfl (by show 2 * 0 + _ ≤ _; exact Nat.le_of_eq rfl) (hb hby at_72) (fun _ _ => ⟨rfl, e128, (by decide : 3 + 0 ≤ _), (by decide : 262 + 0 ≤ _)⟩)
    dsimp only [Pt.U, Pt.locs, Pt.cells, Pt.slots] at X132 l132 y132 z132 st132 hQ132
    subst l132 y132 z132
    obtain ⟨h132, e132⟩ : ∃ h, T132.heap = h := ⟨_, rfl⟩
    rw [e132] at hQ132
    obtain ⟨lq_132, vq_132, bq_132, rfl, Nq132, Kq132, E1_132, Fb1_132, Fl1_132, V1_132, p1_132, p2_132, p3_132, p4_132⟩ := hQ132
    have N132 := Fr.app N128 Nq132
    have Z132 : n0 ≤ h132.size := Nat.le_trans Z128 Kq132.1
    refine Go.trans st132 ?_
    have b132 : 0 < lq_132.toInt ∧ lq_132.toInt ≤ 8 := by have := p2_132; have := b128; omega
    show Go _ _ _ _ _ _ _ T132 (mkF m 75 #[.val (.int ik), .val (.int ia), .val (.int ib), .val (.int ic), .val (.int (2 : Int32)), .val (.ref b97), .val (.ref b102), .unset] [])
    refine Go.step (fun _ k => XS.iload X132.here hx rfl (hb hby at_75) rfl k) ?_
    show Go _ _ _ _ _ _ _ T132 (mkF m 77 #[.val (.int ik), .val (.int ia), .val (.int ib), .val (.int ic), .val (.int (2 : Int32)), .val (.ref b97), .val (.ref b102), .unset] [(.int (2 : Int32))])
    refine Go.step (fun _ k => XS.iconst X132.here hx rfl (hb hby at_77) k) ?_
    show Go _ _ _ _ _ _ _ T132 (mkF m 78 #[.val (.int ik), .val (.int ia), .val (.int ib), .val (.int ic), .val (.int (2 : Int32)), .val (.ref b97), .val (.ref b102), .unset] [(.int (2 : Int32)), (.int (2 : Int32))])
    have hc78_133 : ¬ ((2 : Int32) < (2 : Int32)) := (by decide)
    refine Go.step (fun _ k => XS.icmpYes X132.here hx rfl (pc0 := 78) (pc' := 90) rfl (hb hby at_78) rfl (flt hc78_133).2.2.2 (by decide) (by decide) k) ?_
    show Go _ _ _ _ _ _ _ T132 (mkF m 90 #[.val (.int ik), .val (.int ia), .val (.int ib), .val (.int ic), .val (.int (2 : Int32)), .val (.ref b97), .val (.ref b102), .unset] [])
    refine Go.step (fun _ k => XS.iload X132.here hx rfl (hb hby at_90) rfl k) ?_
    show Go _ _ _ _ _ _ _ T132 (mkF m 92 #[.val (.int ik), .val (.int ia), .val (.int ib), .val (.int ic), .val (.int (2 : Int32)), .val (.ref b97), .val (.ref b102), .unset] [(.int (2 : Int32))])
    have hc92_134 : (0 : Int32) < (2 : Int32) := (by decide)
    refine Go.step (fun _ k => XS.ifNo X132.here hx rfl (hb hby at_92) rfl ((if0 _ _).trans (tlt hc92_134).2.2.2) k) ?_
    show Go _ _ _ _ _ _ _ T132 (mkF m 95 #[.val (.int ik), .val (.int ia), .val (.int ib), .val (.int ic), .val (.int (2 : Int32)), .val (.ref b97), .val (.ref b102), .unset] [])
    refine Go.step (fun _ k => XS.aload X132.here hx rfl (hb hby at_95) rfl rfl k) ?_
    show Go _ _ _ _ _ _ _ T132 (mkF m 97 #[.val (.int ik), .val (.int ia), .val (.int ib), .val (.int ic), .val (.int (2 : Int32)), .val (.ref b97), .val (.ref b102), .unset] [(.ref b97)])
    refine Go.step (fun _ k => XS.iload X132.here hx rfl (hb hby at_97) rfl k) ?_
    show Go _ _ _ _ _ _ _ T132 (mkF m 99 #[.val (.int ik), .val (.int ia), .val (.int ib), .val (.int ic), .val (.int (2 : Int32)), .val (.ref b97), .val (.ref b102), .unset] [(.int (2 : Int32)), (.ref b97)])
    refine Go.step (fun _ k => XS.iconst X132.here hx rfl (hb hby at_99) k) ?_
    show Go _ _ _ _ _ _ _ T132 (mkF m 100 #[.val (.int ik), .val (.int ia), .val (.int ib), .val (.int ic), .val (.int (2 : Int32)), .val (.ref b97), .val (.ref b102), .unset] [(.int (1 : Int32)), (.int (2 : Int32)), (.ref b97)])
    refine Go.step (fun _ k => XS.isub X132.here hx rfl (hb hby at_100) rfl k) ?_
    show Go _ _ _ _ _ _ _ T132 (mkF m 101 #[.val (.int ik), .val (.int ia), .val (.int ib), .val (.int ic), .val (.int (2 : Int32)), .val (.ref b97), .val (.ref b102), .unset] [(.int (1 : Int32)), (.ref b97)])
    have f135 : Arv Z h132 b97 k97 .char (3 : Int32) [(.int (nar .char ca)), (.int (nar .char cb)), (.int (nar .char cc))] (.int (0 : Int32)) := (f130.keep Kq132 (ninS ne_b97_b102 (ninS ne_b97_ab_103 nin0)))
    obtain ⟨cl136, Ar136, q136, S136, M136, H136, G136⟩ := id (f135)
    have hin136 : ¬ ((1 : Int32) < 0 ∨ cl136.slots.size ≤ ((1 : Int32)).toNatClampNeg) := inb_of S136 ⟨by decide, by decide⟩
    have hat136 : cl136.slots[((1 : Int32)).toNatClampNeg]? = some (.int (nar .char cb)) := H136.at hin136 rfl
    refine Go.step (X132.caload hx (j := (1 : Int32)) (v := (.int (nar .char cb))) (by rw [e132]; exact Ar136.1) (State.isArrayOf_alike hZ.alike Ar136.2.1) Ar136.2.2 hin136 hat136 (g := (mkF m 101 #[.val (.int ik), .val (.int ia), .val (.int ib), .val (.int ic), .val (.int (2 : Int32)), .val (.ref b97), .val (.ref b102), .unset] [(.int (1 : Int32)), (.ref b97)])) rfl rfl (hb hby at_101)) ?_
    show Go _ _ _ _ _ _ _ T132 (mkF m 102 #[.val (.int ik), .val (.int ia), .val (.int ib), .val (.int ic), .val (.int (2 : Int32)), .val (.ref b97), .val (.ref b102), .unset] [(.int (nar .char cb))])
    refine Go.step (fun _ k => XS.bipush X132.here hx rfl (hb hby at_102) k) ?_
    show Go _ _ _ _ _ _ _ T132 (mkF m 104 #[.val (.int ik), .val (.int ia), .val (.int ib), .val (.int ic), .val (.int (2 : Int32)), .val (.ref b97), .val (.ref b102), .unset] [(.int (10 : Int32)), (.int (nar .char cb))])
    by_cases hc104_137 : (nar .char cb) = (10 : Int32)
    · refine Go.step (fun _ k => XS.icmpNo X132.here hx rfl (hb hby at_104) rfl (teq hc104_137).2 k) ?_
      show Go _ _ _ _ _ _ _ T132 (mkF m 107 #[.val (.int ik), .val (.int ia), .val (.int ib), .val (.int ic), .val (.int (2 : Int32)), .val (.ref b97), .val (.ref b102), .unset] [])
      refine Go.step (fun _ k => XS.iconst X132.here hx rfl (hb hby at_107) k) ?_
      show Go _ _ _ _ _ _ _ T132 (mkF m 108 #[.val (.int ik), .val (.int ia), .val (.int ib), .val (.int ic), .val (.int (2 : Int32)), .val (.ref b97), .val (.ref b102), .unset] [(.int (1 : Int32))])
      refine Go.step (fun _ k => XS.goto X132.here hx rfl (pc0 := 108) (pc' := 112) rfl (hb hby at_108) (by decide) (by decide) k) ?_
      show Go _ _ _ _ _ _ _ T132 (mkF m 112 #[.val (.int ik), .val (.int ia), .val (.int ib), .val (.int ic), .val (.int (2 : Int32)), .val (.ref b97), .val (.ref b102), .unset] [(.int (1 : Int32))])
      refine Go.step (fun _ k => XS.istore X132.here hx rfl (hb hby at_112) rfl (l' := #[.val (.int ik), .val (.int ia), .val (.int ib), .val (.int ic), .val (.int (2 : Int32)), .val (.ref b97), .val (.ref b102), .val (.int (1 : Int32))]) rfl k) ?_
      show Go _ _ _ _ _ _ _ T132 (mkF m 114 #[.val (.int ik), .val (.int ia), .val (.int ib), .val (.int ic), .val (.int (2 : Int32)), .val (.ref b97), .val (.ref b102), .val (.int (1 : Int32))] [])
      refine Go.step (fun _ k => XS.aload X132.here hx rfl (hb hby at_114) rfl rfl k) ?_
      show Go _ _ _ _ _ _ _ T132 (mkF m 116 #[.val (.int ik), .val (.int ia), .val (.int ib), .val (.int ic), .val (.int (2 : Int32)), .val (.ref b97), .val (.ref b102), .val (.int (1 : Int32))] [(.ref b102)])
      obtain ⟨cq138, kq138, q138a, q138b, q138c⟩ := isOf hZ e132 E1_132
      obtain ⟨_, _, ⟨T138, L138, k138, n138⟩, -, X138, ⟨Lc138, hQ138, l138, y138, z138⟩, st138⟩ := X132.virtualBack hx (y := (⟨"com/example/hearthlog/hearthlog/Utf8Line", "endsWithLineFeed", "()Z"⟩ : MethodName)) (z := (⟨"com/example/hearthlog/hearthlog/Utf8Line", "endsWithLineFeed", "()Z"⟩ : MethodName)) hown (mvT hZ (hw _ (List.mem_of_getElem? (i := 19) rfl))) (mvT hZ (hw _ (List.mem_of_getElem? (i := 20) rfl))) (notFace_of_selects (args := #[]) (mvT hZ (hw _ (List.mem_of_getElem? (i := 22) rfl)))) (mvT hZ (hw _ (List.mem_of_getElem? (i := 22) rfl))) (mvT hZ (hw _ (List.mem_of_getElem? (i := 21) rfl))) (by decide) (backOf (W := 0) (rmE1 l Z a0 hw [] b102 ab_103 kb_103 lq_132 vq_132 bq_132 h132 n0 Z132 E1_132 Fb1_132 Fl1_132 V1_132 (by have := rng32 lq_132; have : (0 : Int32).toInt = 0 := rfl; have : (200 : Int32).toInt = 200 := rfl; simp only [Int32.lt_iff_toInt_lt, Int32.le_iff_toInt_le, ← Int32.toInt_inj, Int64.lt_iff_toInt_lt, Int64.le_iff_toInt_le, ← Int64.toInt_inj]; omega) (by have := rng32 lq_132; have : (0 : Int32).toInt = 0 := rfl; have : (200 : Int32).toInt = 200 := rfl; simp only [Int32.lt_iff_toInt_lt, Int32.le_iff_toInt_le, ← Int32.toInt_inj, Int64.lt_iff_toInt_lt, Int64.le_iff_toInt_le, ← Int64.toInt_inj]; omega) p3_132) hZ (hw _ (List.mem_of_getElem? (i := 23) rfl)) (hw _ (List.mem_of_getElem? (i := 4) rfl)) (by decide) (by decide)) q138a q138c (g := (mkF m 116 #[.val (.int ik), .val (.int ia), .val (.int ib), .val (.int ic), .val (.int (2 : Int32)), .val (.ref b97), .val (.ref b102), .val (.int (1 : Int32))] [(.ref b102)])) rfl (by rw [hml]; rfl) (Steps.refl _) (argsL := []) (rest := []) (lenOf pd___Z rfl) rfl (by show 2 * 0 + _ ≤ _; exact Nat.le_of_eq rfl) (hb hby at_116) (fun _ _ => ⟨rfl, e132, (by decide : 3 + 0 ≤ _), (by decide : 262 + 0 ≤ _)⟩)
      dsimp only [Pt.U, Pt.locs, Pt.cells, Pt.slots] at X138 l138 y138 z138 st138 hQ138
      subst l138 y138 z138
      obtain ⟨h138, e138⟩ : ∃ h, T138.heap = h := ⟨_, rfl⟩
      rw [e138] at hQ138
      obtain ⟨rfl, Nq138, hs138⟩ := hQ138
      have N138 := Fr.app N132 Nq138
      rw [hs138] at e138
      refine Go.trans st138 ?_
      show Go _ _ _ _ _ _ _ T138 (mkF m 119 #[.val (.int ik), .val (.int ia), .val (.int ib), .val (.int ic), .val (.int (2 : Int32)), .val (.ref b97), .val (.ref b102), .val (.int (1 : Int32))] [(.int (if bq_132 = 10 then (1 : Int32) else 0))])
      refine Go.step (fun _ k => XS.iload X138.here hx rfl (hb hby at_119) rfl k) ?_
      show Go _ _ _ _ _ _ _ T138 (mkF m 121 #[.val (.int ik), .val (.int ia), .val (.int ib), .val (.int ic), .val (.int (2 : Int32)), .val (.ref b97), .val (.ref b102), .val (.int (1 : Int32))] [(.int (1 : Int32)), (.int (if bq_132 = 10 then (1 : Int32) else 0))])
      have hc121_139 : (if bq_132 = 10 then (1 : Int32) else 0) = (1 : Int32) := if_pos (p4_132.mpr hc104_137)
      refine Go.step (fun _ k => XS.icmpNo X138.here hx rfl (hb hby at_121) rfl (teq hc121_139).2 k) ?_
      show Go _ _ _ _ _ _ _ T138 (mkF m 124 #[.val (.int ik), .val (.int ia), .val (.int ib), .val (.int ic), .val (.int (2 : Int32)), .val (.ref b97), .val (.ref b102), .val (.int (1 : Int32))] [])
      refine Go.step (fun _ k => XS.iconst X138.here hx rfl (hb hby at_124) k) ?_
      show Go _ _ _ _ _ _ _ T138 (mkF m 125 #[.val (.int ik), .val (.int ia), .val (.int ib), .val (.int ic), .val (.int (2 : Int32)), .val (.ref b97), .val (.ref b102), .val (.int (1 : Int32))] [(.int (1 : Int32))])
      refine Go.step (fun _ k => XS.goto X138.here hx rfl (pc0 := 125) (pc' := 129) rfl (hb hby at_125) (by decide) (by decide) k) ?_
      show Go _ _ _ _ _ _ _ T138 (mkF m 129 #[.val (.int ik), .val (.int ia), .val (.int ib), .val (.int ic), .val (.int (2 : Int32)), .val (.ref b97), .val (.ref b102), .val (.int (1 : Int32))] [(.int (1 : Int32))])
      exact Go.retN X138 hx (t := .boolean) hret hlk (by simp) (hb hby at_129) e138 (by decide) (by decide) ⟨rfl, N138, trivial⟩
    · refine Go.step (fun _ k => XS.icmpYes X132.here hx rfl (pc0 := 104) (pc' := 111) rfl (hb hby at_104) rfl (feq hc104_137).2 (by decide) (by decide) k) ?_
      show Go _ _ _ _ _ _ _ T132 (mkF m 111 #[.val (.int ik), .val (.int ia), .val (.int ib), .val (.int ic), .val (.int (2 : Int32)), .val (.ref b97), .val (.ref b102), .unset] [])
      refine Go.step (fun _ k => XS.iconst X132.here hx rfl (hb hby at_111) k) ?_
      show Go _ _ _ _ _ _ _ T132 (mkF m 112 #[.val (.int ik), .val (.int ia), .val (.int ib), .val (.int ic), .val (.int (2 : Int32)), .val (.ref b97), .val (.ref b102), .unset] [(.int (0 : Int32))])
      refine Go.step (fun _ k => XS.istore X132.here hx rfl (hb hby at_112) rfl (l' := #[.val (.int ik), .val (.int ia), .val (.int ib), .val (.int ic), .val (.int (2 : Int32)), .val (.ref b97), .val (.ref b102), .val (.int (0 : Int32))]) rfl k) ?_
      show Go _ _ _ _ _ _ _ T132 (mkF m 114 #[.val (.int ik), .val (.int ia), .val (.int ib), .val (.int ic), .val (.int (2 : Int32)), .val (.ref b97), .val (.ref b102), .val (.int (0 : Int32))] [])
      refine Go.step (fun _ k => XS.aload X132.here hx rfl (hb hby at_114) rfl rfl k) ?_
      show Go _ _ _ _ _ _ _ T132 (mkF m 116 #[.val (.int ik), .val (.int ia), .val (.int ib), .val (.int ic), .val (.int (2 : Int32)), .val (.ref b97), .val (.ref b102), .val (.int (0 : Int32))] [(.ref b102)])
      obtain ⟨cq140, kq140, q140a, q140b, q140c⟩ := isOf hZ e132 E1_132
      obtain ⟨_, _, ⟨T140, L140, k140, n140⟩, -, X140, ⟨Lc140, hQ140, l140, y140, z140⟩, st140⟩ := X132.virtualBack hx (y := (⟨"com/example/hearthlog/hearthlog/Utf8Line", "endsWithLineFeed", "()Z"⟩ : MethodName)) (z := (⟨"com/example/hearthlog/hearthlog/Utf8Line", "endsWithLineFeed", "()Z"⟩ : MethodName)) hown (mvT hZ (hw _ (List.mem_of_getElem? (i := 19) rfl))) (mvT hZ (hw _ (List.mem_of_getElem? (i := 20) rfl))) (notFace_of_selects (args := #[]) (mvT hZ (hw _ (List.mem_of_getElem? (i := 22) rfl)))) (mvT hZ (hw _ (List.mem_of_getElem? (i := 22) rfl))) (mvT hZ (hw _ (List.mem_of_getElem? (i := 21) rfl))) (by decide) (backOf (W := 0) (rmE1 l Z a0 hw [] b102 ab_103 kb_103 lq_132 vq_132 bq_132 h132 n0 Z132 E1_132 Fb1_132 Fl1_132 V1_132 (by have := rng32 lq_132; have : (0 : Int32).toInt = 0 := rfl; have : (200 : Int32).toInt = 200 := rfl; simp only [Int32.lt_iff_toInt_lt, Int32.le_iff_toInt_le, ← Int32.toInt_inj, Int64.lt_iff_toInt_lt, Int64.le_iff_toInt_le, ← Int64.toInt_inj]; omega) (by have := rng32 lq_132; have : (0 : Int32).toInt = 0 := rfl; have : (200 : Int32).toInt = 200 := rfl; simp only [Int32.lt_iff_toInt_lt, Int32.le_iff_toInt_le, ← Int32.toInt_inj, Int64.lt_iff_toInt_lt, Int64.le_iff_toInt_le, ← Int64.toInt_inj]; omega) p3_132) hZ (hw _ (List.mem_of_getElem? (i := 23) rfl)) (hw _ (List.mem_of_getElem? (i := 4) rfl)) (by decide) (by decide)) q140a q140c (g := (mkF m 116 #[.val (.int ik), .val (.int ia), .val (.int ib), .val (.int ic), .val (.int (2 : Int32)), .val (.ref b97), .val (.ref b102), .val (.int (0 : Int32))] [(.ref b102)])) rfl (by rw [hml]; rfl) (Steps.refl _) (argsL := []) (rest := []) (lenOf pd___Z rfl) rfl (by show 2 * 0 + _ ≤ _; exact Nat.le_of_eq rfl) (hb hby at_116) (fun _ _ => ⟨rfl, e132, (by decide : 3 + 0 ≤ _), (by decide : 262 + 0 ≤ _)⟩)
      dsimp only [Pt.U, Pt.locs, Pt.cells, Pt.slots] at X140 l140 y140 z140 st140 hQ140
      subst l140 y140 z140
      obtain ⟨h140, e140⟩ : ∃ h, T140.heap = h := ⟨_, rfl⟩
      rw [e140] at hQ140
      obtain ⟨rfl, Nq140, hs140⟩ := hQ140
      have N140 := Fr.app N132 Nq140
      rw [hs140] at e140
      refine Go.trans st140 ?_
      show Go _ _ _ _ _ _ _ T140 (mkF m 119 #[.val (.int ik), .val (.int ia), .val (.int ib), .val (.int ic), .val (.int (2 : Int32)), .val (.ref b97), .val (.ref b102), .val (.int (0 : Int32))] [(.int (if bq_132 = 10 then (1 : Int32) else 0))])
      refine Go.step (fun _ k => XS.iload X140.here hx rfl (hb hby at_119) rfl k) ?_
      show Go _ _ _ _ _ _ _ T140 (mkF m 121 #[.val (.int ik), .val (.int ia), .val (.int ib), .val (.int ic), .val (.int (2 : Int32)), .val (.ref b97), .val (.ref b102), .val (.int (0 : Int32))] [(.int (0 : Int32)), (.int (if bq_132 = 10 then (1 : Int32) else 0))])
      have hc121_141 : (if bq_132 = 10 then (1 : Int32) else 0) = (0 : Int32) := if_neg (mt p4_132.mp hc104_137)
      refine Go.step (fun _ k => XS.icmpNo X140.here hx rfl (hb hby at_121) rfl (teq hc121_141).2 k) ?_
      show Go _ _ _ _ _ _ _ T140 (mkF m 124 #[.val (.int ik), .val (.int ia), .val (.int ib), .val (.int ic), .val (.int (2 : Int32)), .val (.ref b97), .val (.ref b102), .val (.int (0 : Int32))] [])
      refine Go.step (fun _ k => XS.iconst X140.here hx rfl (hb hby at_124) k) ?_
      show Go _ _ _ _ _ _ _ T140 (mkF m 125 #[.val (.int ik), .val (.int ia), .val (.int ib), .val (.int ic), .val (.int (2 : Int32)), .val (.ref b97), .val (.ref b102), .val (.int (0 : Int32))] [(.int (1 : Int32))])
      refine Go.step (fun _ k => XS.goto X140.here hx rfl (pc0 := 125) (pc' := 129) rfl (hb hby at_125) (by decide) (by decide) k) ?_
      show Go _ _ _ _ _ _ _ T140 (mkF m 129 #[.val (.int ik), .val (.int ia), .val (.int ib), .val (.int ic), .val (.int (2 : Int32)), .val (.ref b97), .val (.ref b102), .val (.int (0 : Int32))] [(.int (1 : Int32))])
      exact Go.retN X140 hx (t := .boolean) hret hlk (by simp) (hb hby at_129) e140 (by decide) (by decide) ⟨rfl, N140, trivial⟩
  · show Go _ _ _ _ _ _ _ T103 (mkF m 46 #[.val (.int ik), .val (.int ia), .val (.int ib), .val (.int ic), .val (.int (3 : Int32)), .val (.ref b97), .val (.ref b102), .unset] [])
    refine Go.step (fun _ k => XS.iload X103.here hx rfl (hb hby at_46) rfl k) ?_
    show Go _ _ _ _ _ _ _ T103 (mkF m 48 #[.val (.int ik), .val (.int ia), .val (.int ib), .val (.int ic), .val (.int (3 : Int32)), .val (.ref b97), .val (.ref b102), .unset] [(.int (3 : Int32))])
    have hc48_142 : (0 : Int32) < (3 : Int32) := (by decide)
    refine Go.step (fun _ k => XS.ifNo X103.here hx rfl (hb hby at_48) rfl ((if0 _ _).trans (tlt hc48_142).2.2.2) k) ?_
    show Go _ _ _ _ _ _ _ T103 (mkF m 51 #[.val (.int ik), .val (.int ia), .val (.int ib), .val (.int ic), .val (.int (3 : Int32)), .val (.ref b97), .val (.ref b102), .unset] [])
    refine Go.step (fun _ k => XS.aload X103.here hx rfl (hb hby at_51) rfl rfl k) ?_
    show Go _ _ _ _ _ _ _ T103 (mkF m 53 #[.val (.int ik), .val (.int ia), .val (.int ib), .val (.int ic), .val (.int (3 : Int32)), .val (.ref b97), .val (.ref b102), .unset] [(.ref b102)])
    refine Go.step (fun _ k => XS.aload X103.here hx rfl (hb hby at_53) rfl rfl k) ?_
    show Go _ _ _ _ _ _ _ T103 (mkF m 55 #[.val (.int ik), .val (.int ia), .val (.int ib), .val (.int ic), .val (.int (3 : Int32)), .val (.ref b97), .val (.ref b102), .unset] [(.ref b97), (.ref b102)])
    refine Go.step (fun _ k => XS.iconst X103.here hx rfl (hb hby at_55) k) ?_
    show Go _ _ _ _ _ _ _ T103 (mkF m 56 #[.val (.int ik), .val (.int ia), .val (.int ib), .val (.int ic), .val (.int (3 : Int32)), .val (.ref b97), .val (.ref b102), .unset] [(.int (0 : Int32)), (.ref b97), (.ref b102)])
    have f143 : Arv Z h103 b97 k97 .char (3 : Int32) [(.int (nar .char ca)), (.int (nar .char cb)), (.int (nar .char cc))] (.int (0 : Int32)) := (f104.keep Kq103 (ninS ne_b97_b102 nin0))
    obtain ⟨cl144, Ar144, q144, S144, M144, H144, G144⟩ := id (f143)
    have hin144 : ¬ ((0 : Int32) < 0 ∨ cl144.slots.size ≤ ((0 : Int32)).toNatClampNeg) := inb_of S144 ⟨by decide, by decide⟩
    have hat144 : cl144.slots[((0 : Int32)).toNatClampNeg]? = some (.int (nar .char ca)) := H144.at hin144 rfl
    refine Go.step (X103.caload hx (j := (0 : Int32)) (v := (.int (nar .char ca))) (by rw [e103]; exact Ar144.1) (State.isArrayOf_alike hZ.alike Ar144.2.1) Ar144.2.2 hin144 hat144 (g := (mkF m 56 #[.val (.int ik), .val (.int ia), .val (.int ib), .val (.int ic), .val (.int (3 : Int32)), .val (.ref b97), .val (.ref b102), .unset] [(.int (0 : Int32)), (.ref b97), (.ref b102)])) rfl rfl (hb hby at_56)) ?_
    show Go _ _ _ _ _ _ _ T103 (mkF m 57 #[.val (.int ik), .val (.int ia), .val (.int ib), .val (.int ic), .val (.int (3 : Int32)), .val (.ref b97), .val (.ref b102), .unset] [(.int (nar .char ca)), (.ref b102)])
    obtain ⟨cq145, kq145, q145a, q145b, q145c⟩ := isOf hZ e103 E1_103
    obtain ⟨_, _, ⟨T145, L145, k145, n145⟩, -, X145, ⟨Lc145, hQ145, l145, y145, z145⟩, st145⟩ := X103.virtualBack hx (y := (⟨"com/example/hearthlog/hearthlog/Utf8Line", "append", "(C)V"⟩ : MethodName)) (z := (⟨"com/example/hearthlog/hearthlog/Utf8Line", "append", "(C)V"⟩ : MethodName)) hown (mvT hZ (hw _ (List.mem_of_getElem? (i := 26) rfl))) (mvT hZ (hw _ (List.mem_of_getElem? (i := 27) rfl))) (notFace_of_selects (args := #[]) (mvT hZ (hw _ (List.mem_of_getElem? (i := 29) rfl)))) (mvT hZ (hw _ (List.mem_of_getElem? (i := 29) rfl))) (mvT hZ (hw _ (List.mem_of_getElem? (i := 28) rfl))) (by decide) (backOf (W := 0) (rmAp l Z a0 hw [] b102 (nar .char ca) ab_103 kb_103 (0 : Int32) (List.replicate 256 (.int (0 : Int32))) h103 n0 Z103 E1_103 Fb1_103 Fl1_103 V1_103 g_b102 g_ab_103 ne_b102_ab_103 (by decide) (by decide) (by simp) (rng_char (fits_nar_char ca)).1 (rng_char (fits_nar_char ca)).2) hZ (hw _ (List.mem_of_getElem? (i := 30) rfl)) (hw _ (List.mem_of_getElem? (i := 4) rfl)) (by decide) (by decide)) q145a q145c (g := (mkF m 57 #[.val (.int ik), .val (.int ia), .val (.int ib), .val (.int ic), .val (.int (3 : Int32)), .val (.ref b97), .val (.ref b102), .unset] [(.int (nar .char ca)), (.ref b102)])) rfl (by rw [hml]; rfl) (Steps.refl _) (argsL := [(.int (nar .char ca))]) (rest := []) (lenOf pd__C_V rfl) rfl (by show 2 * 0 + _ ≤ _; exact Nat.le_of_eq rfl) (hb hby at_57) (fun _ _ => ⟨rfl, e103, (by decide : 3 + 0 ≤ _), (by decide : 262 + 0 ≤ _)⟩)
    dsimp only [Pt.U, Pt.locs, Pt.cells, Pt.slots] at X145 l145 y145 z145 st145 hQ145
    subst l145 y145 z145
    obtain ⟨h145, e145⟩ : ∃ h, T145.heap = h := ⟨_, rfl⟩
    rw [e145] at hQ145
    obtain ⟨lq_145, vq_145, bq_145, rfl, Nq145, Kq145, E1_145, Fb1_145, Fl1_145, V1_145, p1_145, p2_145, p3_145, p4_145⟩ := hQ145
    have N145 := Fr.app N103 Nq145
    have Z145 : n0 ≤ h145.size := Nat.le_trans Z103 Kq145.1
    refine Go.trans st145 ?_
    have b145 : 0 < lq_145.toInt ∧ lq_145.toInt ≤ 4 := by have := p2_145; have : (0 : Int32).toInt = 0 := rfl; omega
    show Go _ _ _ _ _ _ _ T145 (mkF m 60 #[.val (.int ik), .val (.int ia), .val (.int ib), .val (.int ic), .val (.int (3 : Int32)), .val (.ref b97), .val (.ref b102), .unset] [])
    refine Go.step (fun _ k => XS.iload X145.here hx rfl (hb hby at_60) rfl k) ?_
    show Go _ _ _ _ _ _ _ T145 (mkF m 62 #[.val (.int ik), .val (.int ia), .val (.int ib), .val (.int ic), .val (.int (3 : Int32)), .val (.ref b97), .val (.ref b102), .unset] [(.int (3 : Int32))])
    refine Go.step (fun _ k => XS.iconst X145.here hx rfl (hb hby at_62) k) ?_
    show Go _ _ _ _ _ _ _ T145 (mkF m 63 #[.val (.int ik), .val (.int ia), .val (.int ib), .val (.int ic), .val (.int (3 : Int32)), .val (.ref b97), .val (.ref b102), .unset] [(.int (1 : Int32)), (.int (3 : Int32))])
    have hc63_146 : (1 : Int32) < (3 : Int32) := (by decide)
    refine Go.step (fun _ k => XS.icmpNo X145.here hx rfl (hb hby at_63) rfl (tlt hc63_146).2.2.2 k) ?_
    show Go _ _ _ _ _ _ _ T145 (mkF m 66 #[.val (.int ik), .val (.int ia), .val (.int ib), .val (.int ic), .val (.int (3 : Int32)), .val (.ref b97), .val (.ref b102), .unset] [])
    refine Go.step (fun _ k => XS.aload X145.here hx rfl (hb hby at_66) rfl rfl k) ?_
    show Go _ _ _ _ _ _ _ T145 (mkF m 68 #[.val (.int ik), .val (.int ia), .val (.int ib), .val (.int ic), .val (.int (3 : Int32)), .val (.ref b97), .val (.ref b102), .unset] [(.ref b102)])
    refine Go.step (fun _ k => XS.aload X145.here hx rfl (hb hby at_68) rfl rfl k) ?_
    show Go _ _ _ _ _ _ _ T145 (mkF m 70 #[.val (.int ik), .val (.int ia), .val (.int ib), .val (.int ic), .val (.int (3 : Int32)), .val (.ref b97), .val (.ref b102), .unset] [(.ref b97), (.ref b102)])
    refine Go.step (fun _ k => XS.iconst X145.here hx rfl (hb hby at_70) k) ?_
    show Go _ _ _ _ _ _ _ T145 (mkF m 71 #[.val (.int ik), .val (.int ia), .val (.int ib), .val (.int ic), .val (.int (3 : Int32)), .val (.ref b97), .val (.ref b102), .unset] [(.int (1 : Int32)), (.ref b97), (.ref b102)])
    have f147 : Arv Z h145 b97 k97 .char (3 : Int32) [(.int (nar .char ca)), (.int (nar .char cb)), (.int (nar .char cc))] (.int (0 : Int32)) := (f143.keep Kq145 (ninS ne_b97_b102 (ninS ne_b97_ab_103 nin0)))
    obtain ⟨cl148, Ar148, q148, S148, M148, H148, G148⟩ := id (f147)
    have hin148 : ¬ ((1 : Int32) < 0 ∨ cl148.slots.size ≤ ((1 : Int32)).toNatClampNeg) := inb_of S148 ⟨by decide, by decide⟩
    have hat148 : cl148.slots[((1 : Int32)).toNatClampNeg]? = some (.int (nar .char cb)) := H148.at hin148 rfl
    refine Go.step (X145.caload hx (j := (1 : Int32)) (v := (.int (nar .char cb))) (by rw [e145]; exact Ar148.1) (State.isArrayOf_alike hZ.alike Ar148.2.1) Ar148.2.2 hin148 hat148 (g := (mkF m 71 #[.val (.int ik), .val (.int ia), .val (.int ib), .val (.int ic), .val (.int (3 : Int32)), .val (.ref b97), .val (.ref b102), .unset] [(.int (1 : Int32)), (.ref b97), (.ref b102)])) rfl rfl (hb hby at_71)) ?_
    show Go _ _ _ _ _ _ _ T145 (mkF m 72 #[.val (.int ik), .val (.int ia), .val (.int ib), .val (.int ic), .val (.int (3 : Int32)), .val (.ref b97), .val (.ref b102), .unset] [(.int (nar .char cb)), (.ref b102)])
    obtain ⟨cq149, kq149, q149a, q149b, q149c⟩ := isOf hZ e145 E1_145
    obtain ⟨_, _, ⟨T149, L149, k149, n149⟩, -, X149, ⟨Lc149, hQ149, l149, y149, z149⟩, st149⟩ := X145.virtualBack hx (y := (⟨"com/example/hearthlog/hearthlog/Utf8Line", "append", "(C)V"⟩ : MethodName)) (z := (⟨"com/example/hearthlog/hearthlog/Utf8Line", "append", "(C)V"⟩ : MethodName)) hown (mvT hZ (hw _ (List.mem_of_getElem? (i := 26) rfl))) (mvT hZ (hw _ (List.mem_of_getElem? (i := 27) rfl))) (notFace_of_selects (args := #[]) (mvT hZ (hw _ (List.mem_of_getElem? (i := 29) rfl)))) (mvT hZ (hw _ (List.mem_of_getElem? (i := 29) rfl))) (mvT hZ (hw _ (List.mem_of_getElem? (i := 28) rfl))) (by decide) (backOf (W := 0) (rmAp l Z a0 hw [] b102 (nar .char cb) ab_103 kb_103 lq_145 vq_145 h145 n0 Z145 E1_145 Fb1_145 Fl1_145 V1_145 g_b102 g_ab_103 ne_b102_ab_103 (by have := rng32 lq_145; have : (0 : Int32).toInt = 0 := rfl; have : (200 : Int32).toInt = 200 := rfl; simp only [Int32.lt_iff_toInt_lt, Int32.le_iff_toInt_le, ← Int32.toInt_inj, Int64.lt_iff_toInt_lt, Int64.le_iff_toInt_le, ← Int64.toInt_inj]; omega) (by have := rng32 lq_145; have : (0 : Int32).toInt = 0 := rfl; have : (200 : Int32).toInt = 200 := rfl; simp only [Int32.lt_iff_toInt_lt, Int32.le_iff_toInt_le, ← Int32.toInt_inj, Int64.lt_iff_toInt_lt, Int64.le_iff_toInt_le, ← Int64.toInt_inj]; omega) p1_145 (rng_char (fits_nar_char cb)).1 (rng_char (fits_nar_char cb)).2) hZ (hw _ (List.mem_of_getElem? (i := 30) rfl)) (hw _ (List.mem_of_getElem? (i := 4) rfl)) (by decide) (by decide)) q149a q149c (g := (mkF m 72 #[.val (.int ik), .val (.int ia), .val (.int ib), .val (.int ic), .val (.int (3 : Int32)), .val (.ref b97), .val (.ref b102), .unset] [(.int (nar .char cb)), (.ref b102)])) rfl (by rw [hml]; rfl) (Steps.refl _) (argsL := [(.int (nar .char cb))]) (rest := []) (lenOf pd__C_V rfl) rfl (by show 2 * 0 + _ ≤ _; exact Nat.le_of_eq rfl) (hb hby at_72) (fun _ _ => ⟨rfl, e145, (by decide : 3 + 0 ≤ _), (by decide : 262 + 0 ≤ _)⟩)
    dsimp only [Pt.U, Pt.locs, Pt.cells, Pt.slots] at X149 l149 y149 z149 st149 hQ149
    subst l149 y149 z149
    obtain ⟨h149, e149⟩ : ∃ h, T149.heap = h := ⟨_, rfl⟩
    rw [e149] at hQ149
    obtain ⟨lq_149, vq_149, bq_149, rfl, Nq149, Kq149, E1_149, Fb1_149, Fl1_149, V1_149, p1_149, p2_149, p3_149, p4_149⟩ := hQ149
    have N149 := Fr.app N145 Nq149
    have Z149 : n0 ≤ h149.size := Nat.le_trans Z145 Kq149.1
    refine Go.trans st149 ?_
    have b149 : 0 < lq_149.toInt ∧ lq_149.toInt ≤ 8 := by have := p2_149; have := b145; omega
    show Go _ _ _ _ _ _ _ T149 (mkF m 75 #[.val (.int ik), .val (.int ia), .val (.int ib), .val (.int ic), .val (.int (3 : Int32)), .val (.ref b97), .val (.ref b102), .unset] [])
    refine Go.step (fun _ k => XS.iload X149.here hx rfl (hb hby at_75) rfl k) ?_
    show Go _ _ _ _ _ _ _ T149 (mkF m 77 #[.val (.int ik), .val (.int ia), .val (.int ib), .val (.int ic), .val (.int (3 : Int32)), .val (.ref b97), .val (.ref b102), .unset] [(.int (3 : Int32))])
    refine Go.step (fun _ k => XS.iconst X149.here hx rfl (hb hby at_77) k) ?_
    show Go _ _ _ _ _ _ _ T149 (mkF m 78 #[.val (.int ik), .val (.int ia), .val (.int ib), .val (.int ic), .val (.int (3 : Int32)), .val (.ref b97), .val (.ref b102), .unset] [(.int (2 : Int32)), (.int (3 : Int32))])
    have hc78_150 : (2 : Int32) < (3 : Int32) := (by decide)
    refine Go.step (fun _ k => XS.icmpNo X149.here hx rfl (hb hby at_78) rfl (tlt hc78_150).2.2.2 k) ?_
    show Go _ _ _ _ _ _ _ T149 (mkF m 81 #[.val (.int ik), .val (.int ia), .val (.int ib), .val (.int ic), .val (.int (3 : Int32)), .val (.ref b97), .val (.ref b102), .unset] [])
    refine Go.step (fun _ k => XS.aload X149.here hx rfl (hb hby at_81) rfl rfl k) ?_
    show Go _ _ _ _ _ _ _ T149 (mkF m 83 #[.val (.int ik), .val (.int ia), .val (.int ib), .val (.int ic), .val (.int (3 : Int32)), .val (.ref b97), .val (.ref b102), .unset] [(.ref b102)])
    refine Go.step (fun _ k => XS.aload X149.here hx rfl (hb hby at_83) rfl rfl k) ?_
    show Go _ _ _ _ _ _ _ T149 (mkF m 85 #[.val (.int ik), .val (.int ia), .val (.int ib), .val (.int ic), .val (.int (3 : Int32)), .val (.ref b97), .val (.ref b102), .unset] [(.ref b97), (.ref b102)])
    refine Go.step (fun _ k => XS.iconst X149.here hx rfl (hb hby at_85) k) ?_
    show Go _ _ _ _ _ _ _ T149 (mkF m 86 #[.val (.int ik), .val (.int ia), .val (.int ib), .val (.int ic), .val (.int (3 : Int32)), .val (.ref b97), .val (.ref b102), .unset] [(.int (2 : Int32)), (.ref b97), (.ref b102)])
    have f151 : Arv Z h149 b97 k97 .char (3 : Int32) [(.int (nar .char ca)), (.int (nar .char cb)), (.int (nar .char cc))] (.int (0 : Int32)) := (f147.keep Kq149 (ninS ne_b97_b102 (ninS ne_b97_ab_103 nin0)))
    obtain ⟨cl152, Ar152, q152, S152, M152, H152, G152⟩ := id (f151)
    have hin152 : ¬ ((2 : Int32) < 0 ∨ cl152.slots.size ≤ ((2 : Int32)).toNatClampNeg) := inb_of S152 ⟨by decide, by decide⟩
    have hat152 : cl152.slots[((2 : Int32)).toNatClampNeg]? = some (.int (nar .char cc)) := H152.at hin152 rfl
    refine Go.step (X149.caload hx (j := (2 : Int32)) (v := (.int (nar .char cc))) (by rw [e149]; exact Ar152.1) (State.isArrayOf_alike hZ.alike Ar152.2.1) Ar152.2.2 hin152 hat152 (g := (mkF m 86 #[.val (.int ik), .val (.int ia), .val (.int ib), .val (.int ic), .val (.int (3 : Int32)), .val (.ref b97), .val (.ref b102), .unset] [(.int (2 : Int32)), (.ref b97), (.ref b102)])) rfl rfl (hb hby at_86)) ?_
    show Go _ _ _ _ _ _ _ T149 (mkF m 87 #[.val (.int ik), .val (.int ia), .val (.int ib), .val (.int ic), .val (.int (3 : Int32)), .val (.ref b97), .val (.ref b102), .unset] [(.int (nar .char cc)), (.ref b102)])
    obtain ⟨cq153, kq153, q153a, q153b, q153c⟩ := isOf hZ e149 E1_149
    obtain ⟨_, _, ⟨T153, L153, k153, n153⟩, -, X153, ⟨Lc153, hQ153, l153, y153, z153⟩, st153⟩ := X149.virtualBack hx (y := (⟨"com/example/hearthlog/hearthlog/Utf8Line", "append", "(C)V"⟩ : MethodName)) (z := (⟨"com/example/hearthlog/hearthlog/Utf8Line", "append", "(C)V"⟩ : MethodName)) hown (mvT hZ (hw _ (List.mem_of_getElem? (i := 26) rfl))) (mvT hZ (hw _ (List.mem_of_getElem? (i := 27) rfl))) (notFace_of_selects (args := #[]) (mvT hZ (hw _ (List.mem_of_getElem? (i := 29) rfl)))) (mvT hZ (hw _ (List.mem_of_getElem? (i := 29) rfl))) (mvT hZ (hw _ (List.mem_of_getElem? (i := 28) rfl))) (by decide) (backOf (W := 0) (rmAp l Z a0 hw [] b102 (nar .char cc) ab_103 kb_103 lq_149 vq_149 h149 n0 Z149 E1_149 Fb1_149 Fl1_149 V1_149 g_b102 g_ab_103 ne_b102_ab_103 (by have := rng32 lq_149; have : (0 : Int32).toInt = 0 := rfl; have : (200 : Int32).toInt = 200 := rfl; simp only [Int32.lt_iff_toInt_lt, Int32.le_iff_toInt_le, ← Int32.toInt_inj, Int64.lt_iff_toInt_lt, Int64.le_iff_toInt_le, ← Int64.toInt_inj]; omega) (by have := rng32 lq_149; have : (0 : Int32).toInt = 0 := rfl; have : (200 : Int32).toInt = 200 := rfl; simp only [Int32.lt_iff_toInt_lt, Int32.le_iff_toInt_le, ← Int32.toInt_inj, Int64.lt_iff_toInt_lt, Int64.le_iff_toInt_le, ← Int64.toInt_inj]; omega) p1_149 (rng_char (fits_nar_char cc)).1 (rng_char (fits_nar_char cc)).2) hZ (hw _ (List.mem_of_getElem? (i := 30) rfl)) (hw _ (List.mem_of_getElem? (i := 4) rfl)) (by decide) (by decide)) q153a q153c (g := (mkF m 87 #[.val (.int ik), .val (.int ia), .val (.int ib), .val (.int ic), .val (.int (3 : Int32)), .val (.ref b97), .val (.ref b102), .unset] [(.int (nar .char cc)), (.ref b102)])) rfl (by rw [hml]; rfl) (Steps.refl _) (argsL := [(.int (nar .char cc))]) (rest := []) (lenOf pd__C_V rfl) rfl (by show 2 * 0 + _ ≤ _; exact Nat.le_of_eq rfl) (hb hby at_87) (fun _ _ => ⟨rfl, e149, (by decide : 3 + 0 ≤ _), (by decide : 262 + 0 ≤ _)⟩)
    dsimp only [Pt.U, Pt.locs, Pt.cells, Pt.slots] at X153 l153 y153 z153 st153 hQ153
    subst l153 y153 z153
    obtain ⟨h153, e153⟩ : ∃ h, T153.heap = h := ⟨_, rfl⟩
    rw [e153] at hQ153
    obtain ⟨lq_153, vq_153, bq_153, rfl, Nq153, Kq153, E1_153, Fb1_153, Fl1_153, V1_153, p1_153, p2_153, p3_153, p4_153⟩ := hQ153
    have N153 := Fr.app N149 Nq153
    have Z153 : n0 ≤ h153.size := Nat.le_trans Z149 Kq153.1
    refine Go.trans st153 ?_
    have b153 : 0 < lq_153.toInt ∧ lq_153.toInt ≤ 12 := by have := p2_153; have := b149; omega
    show Go _ _ _ _ _ _ _ T153 (mkF m 90 #[.val (.int ik), .val (.int ia), .val (.int ib), .val (.int ic), .val (.int (3 : Int32)), .val (.ref b97), .val (.ref b102), .unset] [])
    refine Go.step (fun _ k => XS.iload X153.here hx rfl (hb hby at_90) rfl k) ?_
    show Go _ _ _ _ _ _ _ T153 (mkF m 92 #[.val (.int ik), .val (.int ia), .val (.int ib), .val (.int ic), .val (.int (3 : Int32)), .val (.ref b97), .val (.ref b102), .unset] [(.int (3 : Int32))])
    have hc92_154 : (0 : Int32) < (3 : Int32) := (by decide)
    refine Go.step (fun _ k => XS.ifNo X153.here hx rfl (hb hby at_92) rfl ((if0 _ _).trans (tlt hc92_154).2.2.2) k) ?_
    show Go _ _ _ _ _ _ _ T153 (mkF m 95 #[.val (.int ik), .val (.int ia), .val (.int ib), .val (.int ic), .val (.int (3 : Int32)), .val (.ref b97), .val (.ref b102), .unset] [])
    refine Go.step (fun _ k => XS.aload X153.here hx rfl (hb hby at_95) rfl rfl k) ?_
    show Go _ _ _ _ _ _ _ T153 (mkF m 97 #[.val (.int ik), .val (.int ia), .val (.int ib), .val (.int ic), .val (.int (3 : Int32)), .val (.ref b97), .val (.ref b102), .unset] [(.ref b97)])
    refine Go.step (fun _ k => XS.iload X153.here hx rfl (hb hby at_97) rfl k) ?_
    show Go _ _ _ _ _ _ _ T153 (mkF m 99 #[.val (.int ik), .val (.int ia), .val (.int ib), .val (.int ic), .val (.int (3 : Int32)), .val (.ref b97), .val (.ref b102), .unset] [(.int (3 : Int32)), (.ref b97)])
    refine Go.step (fun _ k => XS.iconst X153.here hx rfl (hb hby at_99) k) ?_
    show Go _ _ _ _ _ _ _ T153 (mkF m 100 #[.val (.int ik), .val (.int ia), .val (.int ib), .val (.int ic), .val (.int (3 : Int32)), .val (.ref b97), .val (.ref b102), .unset] [(.int (1 : Int32)), (.int (3 : Int32)), (.ref b97)])
    refine Go.step (fun _ k => XS.isub X153.here hx rfl (hb hby at_100) rfl k) ?_
    show Go _ _ _ _ _ _ _ T153 (mkF m 101 #[.val (.int ik), .val (.int ia), .val (.int ib), .val (.int ic), .val (.int (3 : Int32)), .val (.ref b97), .val (.ref b102), .unset] [(.int (2 : Int32)), (.ref b97)])
    have f155 : Arv Z h153 b97 k97 .char (3 : Int32) [(.int (nar .char ca)), (.int (nar .char cb)), (.int (nar .char cc))] (.int (0 : Int32)) := (f151.keep Kq153 (ninS ne_b97_b102 (ninS ne_b97_ab_103 nin0)))
    obtain ⟨cl156, Ar156, q156, S156, M156, H156, G156⟩ := id (f155)
    have hin156 : ¬ ((2 : Int32) < 0 ∨ cl156.slots.size ≤ ((2 : Int32)).toNatClampNeg) := inb_of S156 ⟨by decide, by decide⟩
    have hat156 : cl156.slots[((2 : Int32)).toNatClampNeg]? = some (.int (nar .char cc)) := H156.at hin156 rfl
    refine Go.step (X153.caload hx (j := (2 : Int32)) (v := (.int (nar .char cc))) (by rw [e153]; exact Ar156.1) (State.isArrayOf_alike hZ.alike Ar156.2.1) Ar156.2.2 hin156 hat156 (g := (mkF m 101 #[.val (.int ik), .val (.int ia), .val (.int ib), .val (.int ic), .val (.int (3 : Int32)), .val (.ref b97), .val (.ref b102), .unset] [(.int (2 : Int32)), (.ref b97)])) rfl rfl (hb hby at_101)) ?_
    show Go _ _ _ _ _ _ _ T153 (mkF m 102 #[.val (.int ik), .val (.int ia), .val (.int ib), .val (.int ic), .val (.int (3 : Int32)), .val (.ref b97), .val (.ref b102), .unset] [(.int (nar .char cc))])
    refine Go.step (fun _ k => XS.bipush X153.here hx rfl (hb hby at_102) k) ?_
    show Go _ _ _ _ _ _ _ T153 (mkF m 104 #[.val (.int ik), .val (.int ia), .val (.int ib), .val (.int ic), .val (.int (3 : Int32)), .val (.ref b97), .val (.ref b102), .unset] [(.int (10 : Int32)), (.int (nar .char cc))])
    by_cases hc104_157 : (nar .char cc) = (10 : Int32)
    · refine Go.step (fun _ k => XS.icmpNo X153.here hx rfl (hb hby at_104) rfl (teq hc104_157).2 k) ?_
      show Go _ _ _ _ _ _ _ T153 (mkF m 107 #[.val (.int ik), .val (.int ia), .val (.int ib), .val (.int ic), .val (.int (3 : Int32)), .val (.ref b97), .val (.ref b102), .unset] [])
      refine Go.step (fun _ k => XS.iconst X153.here hx rfl (hb hby at_107) k) ?_
      show Go _ _ _ _ _ _ _ T153 (mkF m 108 #[.val (.int ik), .val (.int ia), .val (.int ib), .val (.int ic), .val (.int (3 : Int32)), .val (.ref b97), .val (.ref b102), .unset] [(.int (1 : Int32))])
      refine Go.step (fun _ k => XS.goto X153.here hx rfl (pc0 := 108) (pc' := 112) rfl (hb hby at_108) (by decide) (by decide) k) ?_
      show Go _ _ _ _ _ _ _ T153 (mkF m 112 #[.val (.int ik), .val (.int ia), .val (.int ib), .val (.int ic), .val (.int (3 : Int32)), .val (.ref b97), .val (.ref b102), .unset] [(.int (1 : Int32))])
      refine Go.step (fun _ k => XS.istore X153.here hx rfl (hb hby at_112) rfl (l' := #[.val (.int ik), .val (.int ia), .val (.int ib), .val (.int ic), .val (.int (3 : Int32)), .val (.ref b97), .val (.ref b102), .val (.int (1 : Int32))]) rfl k) ?_
      show Go _ _ _ _ _ _ _ T153 (mkF m 114 #[.val (.int ik), .val (.int ia), .val (.int ib), .val (.int ic), .val (.int (3 : Int32)), .val (.ref b97), .val (.ref b102), .val (.int (1 : Int32))] [])
      refine Go.step (fun _ k => XS.aload X153.here hx rfl (hb hby at_114) rfl rfl k) ?_
      show Go _ _ _ _ _ _ _ T153 (mkF m 116 #[.val (.int ik), .val (.int ia), .val (.int ib), .val (.int ic), .val (.int (3 : Int32)), .val (.ref b97), .val (.ref b102), .val (.int (1 : Int32))] [(.ref b102)])
      obtain ⟨cq158, kq158, q158a, q158b, q158c⟩ := isOf hZ e153 E1_153
      obtain ⟨_, _, ⟨T158, L158, k158, n158⟩, -, X158, ⟨Lc158, hQ158, l158, y158, z158⟩, st158⟩ := X153.virtualBack hx (y := (⟨"com/example/hearthlog/hearthlog/Utf8Line", "endsWithLineFeed", "()Z"⟩ : MethodName)) (z := (⟨"com/example/hearthlog/hearthlog/Utf8Line", "endsWithLineFeed", "()Z"⟩ : MethodName)) hown (mvT hZ (hw _ (List.mem_of_getElem? (i := 19) rfl))) (mvT hZ (hw _ (List.mem_of_getElem? (i := 20) rfl))) (notFace_of_selects (args := #[]) (mvT hZ (hw _ (List.mem_of_getElem? (i := 22) rfl)))) (mvT hZ (hw _ (List.mem_of_getElem? (i := 22) rfl))) (mvT hZ (hw _ (List.mem_of_getElem? (i := 21) rfl))) (by decide) (backOf (W := 0) (rmE1 l Z a0 hw [] b102 ab_103 kb_103 lq_153 vq_153 bq_153 h153 n0 Z153 E1_153 Fb1_153 Fl1_153 V1_153 (by have := rng32 lq_153; have : (0 : Int32).toInt = 0 := rfl; have : (200 : Int32).toInt = 200 := rfl; simp only [Int32.lt_iff_toInt_lt, Int32.le_iff_toInt_le, ← Int32.toInt_inj, Int64.lt_iff_toInt_lt, Int64.le_iff_toInt_le, ← Int64.toInt_inj]; omega) (by have := rng32 lq_153; have : (0 : Int32).toInt = 0 := rfl; have : (200 : Int32).toInt = 200 := rfl; simp only [Int32.lt_iff_toInt_lt, Int32.le_iff_toInt_le, ← Int32.toInt_inj, Int64.lt_iff_toInt_lt, Int64.le_iff_toInt_le, ← Int64.toInt_inj]; omega) p3_153) hZ (hw _ (List.mem_of_getElem? (i := 23) rfl)) (hw _ (List.mem_of_getElem? (i := 4) rfl)) (by decide) (by decide)) q158a q158c (g := (mkF m 116 #[.val (.int ik), .val (.int ia), .val (.int ib), .val (.int ic), .val (.int (3 : Int32)), .val (.ref b97), .val (.ref b102), .val (.int (1 : Int32))] [(.ref b102)])) rfl (by rw [hml]; rfl) (Steps.refl _) (argsL := []) (rest := []) (lenOf pd___Z rfl) rfl (by show 2 * 0 + _ ≤ _; exact Nat.le_of_eq rfl) (hb hby at_116) (fun _ _ => ⟨rfl, e153, (by decide : 3 + 0 ≤ _), (by decide : 262 + 0 ≤ _)⟩)
      dsimp only [Pt.U, Pt.locs, Pt.cells, Pt.slots] at X158 l158 y158 z158 st158 hQ158
      subst l158 y158 z158
      obtain ⟨h158, e158⟩ : ∃ h, T158.heap = h := ⟨_, rfl⟩
      rw [e158] at hQ158
      obtain ⟨rfl, Nq158, hs158⟩ := hQ158
      have N158 := Fr.app N153 Nq158
      rw [hs158] at e158
      refine Go.trans st158 ?_
      show Go _ _ _ _ _ _ _ T158 (mkF m 119 #[.val (.int ik), .val (.int ia), .val (.int ib), .val (.int ic), .val (.int (3 : Int32)), .val (.ref b97), .val (.ref b102), .val (.int (1 : Int32))] [(.int (if bq_153 = 10 then (1 : Int32) else 0))])
      refine Go.step (fun _ k => XS.iload X158.here hx rfl (hb hby at_119) rfl k) ?_
      show Go _ _ _ _ _ _ _ T158 (mkF m 121 #[.val (.int ik), .val (.int ia), .val (.int ib), .val (.int ic), .val (.int (3 : Int32)), .val (.ref b97), .val (.ref b102), .val (.int (1 : Int32))] [(.int (1 : Int32)), (.int (if bq_153 = 10 then (1 : Int32) else 0))])
      have hc121_159 : (if bq_153 = 10 then (1 : Int32) else 0) = (1 : Int32) := if_pos (p4_153.mpr hc104_157)
      refine Go.step (fun _ k => XS.icmpNo X158.here hx rfl (hb hby at_121) rfl (teq hc121_159).2 k) ?_
      show Go _ _ _ _ _ _ _ T158 (mkF m 124 #[.val (.int ik), .val (.int ia), .val (.int ib), .val (.int ic), .val (.int (3 : Int32)), .val (.ref b97), .val (.ref b102), .val (.int (1 : Int32))] [])
      refine Go.step (fun _ k => XS.iconst X158.here hx rfl (hb hby at_124) k) ?_
      show Go _ _ _ _ _ _ _ T158 (mkF m 125 #[.val (.int ik), .val (.int ia), .val (.int ib), .val (.int ic), .val (.int (3 : Int32)), .val (.ref b97), .val (.ref b102), .val (.int (1 : Int32))] [(.int (1 : Int32))])
      refine Go.step (fun _ k => XS.goto X158.here hx rfl (pc0 := 125) (pc' := 129) rfl (hb hby at_125) (by decide) (by decide) k) ?_
      show Go _ _ _ _ _ _ _ T158 (mkF m 129 #[.val (.int ik), .val (.int ia), .val (.int ib), .val (.int ic), .val (.int (3 : Int32)), .val (.ref b97), .val (.ref b102), .val (.int (1 : Int32))] [(.int (1 : Int32))])
      exact Go.retN X158 hx (t := .boolean) hret hlk (by simp) (hb hby at_129) e158 (by decide) (by decide) ⟨rfl, N158, trivial⟩
    · refine Go.step (fun _ k => XS.icmpYes X153.here hx rfl (pc0 := 104) (pc' := 111) rfl (hb hby at_104) rfl (feq hc104_157).2 (by decide) (by decide) k) ?_
      show Go _ _ _ _ _ _ _ T153 (mkF m 111 #[.val (.int ik), .val (.int ia), .val (.int ib), .val (.int ic), .val (.int (3 : Int32)), .val (.ref b97), .val (.ref b102), .unset] [])
      refine Go.step (fun _ k => XS.iconst X153.here hx rfl (hb hby at_111) k) ?_
      show Go _ _ _ _ _ _ _ T153 (mkF m 112 #[.val (.int ik), .val (.int ia), .val (.int ib), .val (.int ic), .val (.int (3 : Int32)), .val (.ref b97), .val (.ref b102), .unset] [(.int (0 : Int32))])
      refine Go.step (fun _ k => XS.istore X153.here hx rfl (hb hby at_112) rfl (l' := #[.val (.int ik), .val (.int ia), .val (.int ib), .val (.int ic), .val (.int (3 : Int32)), .val (.ref b97), .val (.ref b102), .val (.int (0 : Int32))]) rfl k) ?_
      show Go _ _ _ _ _ _ _ T153 (mkF m 114 #[.val (.int ik), .val (.int ia), .val (.int ib), .val (.int ic), .val (.int (3 : Int32)), .val (.ref b97), .val (.ref b102), .val (.int (0 : Int32))] [])
      refine Go.step (fun _ k => XS.aload X153.here hx rfl (hb hby at_114) rfl rfl k) ?_
      show Go _ _ _ _ _ _ _ T153 (mkF m 116 #[.val (.int ik), .val (.int ia), .val (.int ib), .val (.int ic), .val (.int (3 : Int32)), .val (.ref b97), .val (.ref b102), .val (.int (0 : Int32))] [(.ref b102)])
      obtain ⟨cq160, kq160, q160a, q160b, q160c⟩ := isOf hZ e153 E1_153
      obtain ⟨_, _, ⟨T160, L160, k160, n160⟩, -, X160, ⟨Lc160, hQ160, l160, y160, z160⟩, st160⟩ := X153.virtualBack hx (y := (⟨"com/example/hearthlog/hearthlog/Utf8Line", "endsWithLineFeed", "()Z"⟩ : MethodName)) (z := (⟨"com/example/hearthlog/hearthlog/Utf8Line", "endsWithLineFeed", "()Z"⟩ : MethodName)) hown (mvT hZ (hw _ (List.mem_of_getElem? (i := 19) rfl))) (mvT hZ (hw _ (List.mem_of_getElem? (i := 20) rfl))) (notFace_of_selects (args := #[]) (mvT hZ (hw _ (List.mem_of_getElem? (i := 22) rfl)))) (mvT hZ (hw _ (List.mem_of_getElem? (i := 22) rfl))) (mvT hZ (hw _ (List.mem_of_getElem? (i := 21) rfl))) (by decide) (backOf (W := 0) (rmE1 l Z a0 hw [] b102 ab_103 kb_103 lq_153 vq_153 bq_153 h153 n0 Z153 E1_153 Fb1_153 Fl1_153 V1_153 (by have := rng32 lq_153; have : (0 : Int32).toInt = 0 := rfl; have : (200 : Int32).toInt = 200 := rfl; simp only [Int32.lt_iff_toInt_lt, Int32.le_iff_toInt_le, ← Int32.toInt_inj, Int64.lt_iff_toInt_lt, Int64.le_iff_toInt_le, ← Int64.toInt_inj]; omega) (by have := rng32 lq_153; have : (0 : Int32).toInt = 0 := rfl; have : (200 : Int32).toInt = 200 := rfl; simp only [Int32.lt_iff_toInt_lt, Int32.le_iff_toInt_le, ← Int32.toInt_inj, Int64.lt_iff_toInt_lt, Int64.le_iff_toInt_le, ← Int64.toInt_inj]; omega) p3_153) hZ (hw _ (List.mem_of_getElem? (i := 23) rfl)) (hw _ (List.mem_of_getElem? (i := 4) rfl)) (by decide) (by decide)) q160a q160c (g := (mkF m 116 #[.val (.int ik), .val (.int ia), .val (.int ib), .val (.int ic), .val (.int (3 : Int32)), .val (.ref b97), .val (.ref b102), .val (.int (0 : Int32))] [(.ref b102)])) rfl (by rw [hml]; rfl) (Steps.refl _) (argsL := []) (rest := []) (lenOf pd___Z rfl) rfl (by show 2 * 0 + _ ≤ _; exact Nat.le_of_eq rfl) (hb hby at_116) (fun _ _ => ⟨rfl, e153, (by decide : 3 + 0 ≤ _), (by decide : 262 + 0 ≤ _)⟩)
      dsimp only [Pt.U, Pt.locs, Pt.cells, Pt.slots] at X160 l160 y160 z160 st160 hQ160
      subst l160 y160 z160
      obtain ⟨h160, e160⟩ : ∃ h, T160.heap = h := ⟨_, rfl⟩
      rw [e160] at hQ160
      obtain ⟨rfl, Nq160, hs160⟩ := hQ160
      have N160 := Fr.app N153 Nq160
      rw [hs160] at e160
      refine Go.trans st160 ?_
      show Go _ _ _ _ _ _ _ T160 (mkF m 119 #[.val (.int ik), .val (.int ia), .val (.int ib), .val (.int ic), .val (.int (3 : Int32)), .val (.ref b97), .val (.ref b102), .val (.int (0 : Int32))] [(.int (if bq_153 = 10 then (1 : Int32) else 0))])
      refine Go.step (fun _ k => XS.iload X160.here hx rfl (hb hby at_119) rfl k) ?_
      show Go _ _ _ _ _ _ _ T160 (mkF m 121 #[.val (.int ik), .val (.int ia), .val (.int ib), .val (.int ic), .val (.int (3 : Int32)), .val (.ref b97), .val (.ref b102), .val (.int (0 : Int32))] [(.int (0 : Int32)), (.int (if bq_153 = 10 then (1 : Int32) else 0))])
      have hc121_161 : (if bq_153 = 10 then (1 : Int32) else 0) = (0 : Int32) := if_neg (mt p4_153.mp hc104_157)
      refine Go.step (fun _ k => XS.icmpNo X160.here hx rfl (hb hby at_121) rfl (teq hc121_161).2 k) ?_
      show Go _ _ _ _ _ _ _ T160 (mkF m 124 #[.val (.int ik), .val (.int ia), .val (.int ib), .val (.int ic), .val (.int (3 : Int32)), .val (.ref b97), .val (.ref b102), .val (.int (0 : Int32))] [])
      refine Go.step (fun _ k => XS.iconst X160.here hx rfl (hb hby at_124) k) ?_
      show Go _ _ _ _ _ _ _ T160 (mkF m 125 #[.val (.int ik), .val (.int ia), .val (.int ib), .val (.int ic), .val (.int (3 : Int32)), .val (.ref b97), .val (.ref b102), .val (.int (0 : Int32))] [(.int (1 : Int32))])
      refine Go.step (fun _ k => XS.goto X160.here hx rfl (pc0 := 125) (pc' := 129) rfl (hb hby at_125) (by decide) (by decide) k) ?_
      show Go _ _ _ _ _ _ _ T160 (mkF m 129 #[.val (.int ik), .val (.int ia), .val (.int ib), .val (.int ic), .val (.int (3 : Int32)), .val (.ref b97), .val (.ref b102), .val (.int (0 : Int32))] [(.int (1 : Int32))])
      exact Go.retN X160 hx (t := .boolean) hret hlk (by simp) (hb hby at_129) e160 (by decide) (by decide) ⟨rfl, N160, trivial⟩
set_option maxRecDepth 65536 in
set_option maxHeartbeats 40000000 in
theorem comes_1 {Post : Tables → Env → Array Value → State → Outcome → State → Prop} (hpost : ∀ tb e args s v u, (limb_1_1.after args s (.returned v) u = true ∧ limb_1_2.after args s (.returned v) u = true ∧ True) → FrameEnd s (.returned v) u (Jvm.fieldLocs frame_1_writes args s ++ Jvm.arrayLocs frame_1_arrays args s ++ Jvm.staticLocs frame_1_statics s) 16 640 → Post tb e args s (.returned v) u) :
    ArmFor flags0 classFile x code maxLocals ret World_1 tables_1 room_1 Calls_1 rest_1 Pre_1 Post := by
  intro l hfl _ _ p e ha hc hk s m args below hf hA hF happ hP
  obtain ⟨hcalls, hrest, hpre⟩ := hP
  obtain ⟨-, -, -, hnamed, -, -, -, hat⟩ := (Spec.applies_iff hf).mp happ
  obtain ⟨hg, hn⟩ := and_e (Cond.before_iff.mp (show (Jvm.Cond.and given_1 narrow_1).before args s = true from hpre))
  obtain ⟨gg1, gg2⟩ := and_e hg
  obtain ⟨gg3, gg4⟩ := and_e gg2
  obtain ⟨gg5, gg6⟩ := and_e gg4
  obtain ⟨gg7, gg8⟩ := and_e gg6
  obtain ⟨w0, w1, w2, w3, rfl⟩ : ∃ w0 w1 w2 w3 : Value, args = #[w0, w1, w2, w3] := by
    have hs : args.size = 4 := by simpa [Cond.value, given_1] using gg1
    obtain ⟨L⟩ := args
    match L, hs with
    | [w0, w1, w2, w3], _ => exact ⟨w0, w1, w2, w3, rfl⟩
  have hw := fun d (hd : d ∈ tables_1) => atoms_spec (ws := Jvm.Cond.code x code maxLocals ret :: tables_1) hat d (List.mem_cons_of_mem _ hd)
  have hfit : Fit s := fun {y c} hc i hi => by
    obtain ⟨ha, rfl⟩ := Array.getElem?_eq_some_iff.mp hc
    have q := List.all_eq_true.mp ((Array.all_eq_true_iff_forall_mem.mp hF) _ (Array.getElem_mem ha)) i (List.mem_range.mpr hi)
    simpa [Array.getElem?_eq_getElem hi] using q
  obtain ⟨ik, ei0⟩ := is_v gg3
  obtain rfl : w0 = (.int ik) := Option.some.inj ei0
  obtain ⟨ia, ei1⟩ := is_v gg5
  obtain rfl : w1 = (.int ia) := Option.some.inj ei1
  obtain ⟨ib, ei2⟩ := is_v gg7
  obtain rfl : w2 = (.int ib) := Option.some.inj ei2
  obtain ⟨ic, ei3⟩ := is_v gg8
  obtain rfl : w3 = (.int ic) := Option.some.inj ei3
  obtain ⟨n, o, h1, h2, h3, _, L, rfl, ⟨rfl, N, -⟩, hq⟩ := rm0 l s _ hw tables_1 ik ia ib ic s.heap s.heap.size (Nat.le_refl _)  p e ha hc hk s m _ below hf ((Spec.applies_iff_loose hf).mp happ).1 ⟨rfl, State.Warmed39.refl s, rfl⟩ trivial
  refine ⟨n, _, h1, h2, h3, hpost _ _ _ _ _ _ ⟨Cond.after_iff.mpr rfl, Cond.after_iff.mpr (eq_i res_at (Term.int_eval (1)) rfl), trivial⟩ ⟨hq.1, hq.2.1, (hq.2.2.sift fun y hy => Or.inr (N y hy)).mono (by decide) (by decide)⟩⟩
theorem main_1_1 : Claimed_1_1 := comes_1 fun _ _ _ _ _ _ h hF => ⟨h.1, hF⟩
theorem main_1_2 : Claimed_1_2 := comes_1 fun _ _ _ _ _ _ h hF => ⟨h.2.1, hF⟩
end Jvm.Pilot.@@N@@
namespace Jvm.Pilot.@@N@@
open Jvm Jvm.ClassFile Sem Op Lib Jvm.Free Jvm.Stand Jvm.Pilot.@@N@@.Jvm.D
/-! MADE BY PROGRAM (witnessworld.py) out of the Statement's table words and the real class files: 14 classes; the members and pool entries that the words name. The judged class is class 1, her method 1. -/
namespace start1
open Jvm.ClassFile
def u (s : String) : CpInfo := .utf8 (stringToUtf16 s)
/-- a pool by its gaps: so many unusable entries, then the entry; so many at the end -/
def gap : Nat → List CpInfo → List CpInfo
  | 0, r => r
  | n + 1, r => .unusable :: gap n r
def poolList (es : List (Nat × CpInfo)) (last : Nat) : List CpInfo := es.foldr (fun e r => gap e.1 (e.2 :: r)) (gap last [])
def pool (es : List (Nat × CpInfo)) (last : Nat) : Array CpInfo := ⟨poolList es last⟩
def fileOf (pool : Array CpInfo) (this : Nat) (attrs : Array Attribute := #[]) (ms : Array MethodInfo := #[]) (fl : Nat := 33) (sup : Nat := 0) (ifs : Array Nat := #[]) (fds : Array FieldInfo := #[]) : ClassFile where
  minorVersion := 0
  majorVersion := 65
  constantPool := pool
  accessFlags := fl
  thisClass := this
  superClass := sup
  interfaces := ifs
  fields := fds
  methods := ms
  attributes := attrs
def plain (name : String) (sup : Option ClassId) : Class where
  name := name
  kind := .ordinary
  loader := none
  accessFlags := 33
  super := sup
  interfaces := #[]
  cf := none
  fields := #[]
  methods := #[]
  instanceTypes := #[]
  staticTypes := #[]
  resolved := #[]
  callSites := []
  init := .initialized
  statics := none
  mirror := none

def pool0 : Array CpInfo := pool [(5, u "<init>"), (0, u "()V"), (1, .class_ 10), (1, u "java/lang/Object")] 113

def k0c0 : Code := { maxStack := 0, maxLocals := 1, code := object_method_1_code, exceptionTable := #[], attributes := #[] }
def k0m0 : Method := { name := "<init>", desc := "()V", sig := { parameters := [], returnType := none }, accessFlags := 1, code := some k0c0 }
/-- java/lang/Object -/
def k0 : Class := { plain "java/lang/Object" none with
  accessFlags := 33
  interfaces := #[]
  cf := some (fileOf pool0 8 #[] #[{ accessFlags := 1, nameIndex := 5, descriptorIndex := 6, attributes := #[] }] 33 0 #[] #[])
  fields := #[]
  methods := #[k0m0]
  instanceTypes := #[]
  staticTypes := #[]
  resolved := Array.replicate 124 none
  statics := none }

def pool1 : Array CpInfo := pool [(2, .class_ 4), (0, .nameAndType 5 6), (0, u "java/lang/Object"), (0, u "<init>"), (0, u "()V"), (0, .integer 65535), (0, .class_ 9), (0, u "com/example/hearthlog/hearthlog/Utf8Line"), (0, .methodref 8 3), (0, .methodref 8 12), (0, .nameAndType 13 14), (0, u "append"), (0, u "(C)V"), (0, .methodref 8 16), (0, .nameAndType 17 18), (0, u "endsWithLineFeed"), (0, u "()Z"), (0, .class_ 20), (0, u "com/example/hearthlog/hearthlog/Utf8LineEndsWithLineFeedPinLaw"), (2, u "law"), (0, u "(IIII)Z")] 5

def k1m0 : Method := { name := "<init>", desc := "()V", sig := { parameters := [], returnType := none }, accessFlags := 1, code := none }
def k1c1 : Code := { maxStack := 4, maxLocals := 8, code := code, exceptionTable := #[], attributes := #[] }
def k1m1 : Method := { name := "law", desc := "(IIII)Z", sig := { parameters := [.int, .int, .int, .int], returnType := some .boolean }, accessFlags := 9, code := some k1c1 }
/-- com/example/hearthlog/hearthlog/Utf8LineEndsWithLineFeedPinLaw -/
def k1 : Class := { plain "com/example/hearthlog/hearthlog/Utf8LineEndsWithLineFeedPinLaw" (some 0) with
  accessFlags := 49
  interfaces := #[]
  cf := some (fileOf pool1 19 #[] #[{ accessFlags := 1, nameIndex := 5, descriptorIndex := 6, attributes := #[] }, { accessFlags := 9, nameIndex := 23, descriptorIndex := 24, attributes := #[] }] 49 2 #[] #[])
  fields := #[]
  methods := #[k1m0, k1m1]
  instanceTypes := #[]
  staticTypes := #[]
  resolved := Array.replicate 30 none
  statics := none }

def pool2 : Array CpInfo := pool [(1, .class_ 2), (0, u "com/example/hearthlog/hearthlog/Utf8Line"), (0, .methodref 1 4), (0, .nameAndType 5 6), (0, u "<init>"), (0, u "([[B[B)V"), (0, .methodref 8 9), (0, .class_ 10), (0, .nameAndType 5 11), (0, u "java/lang/Object"), (0, u "()V"), (0, .fieldref 1 13), (0, .nameAndType 14 15), (0, u "spare"), (0, u "[[B"), (0, .fieldref 1 17), (0, .nameAndType 18 19), (0, u "bytes"), (0, u "[B"), (2, u "SPARE"), (0, u "Ljava/lang/ThreadLocal;"), (8, .fieldref 1 33), (0, .nameAndType 34 35), (0, u "length"), (0, u "I"), (2, u "append"), (1, .methodref 1 41), (0, .nameAndType 42 43), (0, u "ensureRoom"), (0, u "(I)V"), (6, .methodref 51 52), (0, .class_ 53), (0, .nameAndType 54 55), (0, u "java/lang/Character"), (0, u "isSurrogate"), (0, u "(C)Z"), (0, .methodref 1 57), (0, .nameAndType 58 43), (0, u "appendCodePoint"), (38, u "RECURRING"), (0, u "[Lcom/example/hearthlog/hearthlog/Utf8Line$Recurring;"), (4, .class_ 105), (1, u "com/example/hearthlog/hearthlog/Utf8Line$Recurring"), (69, u "(C)V"), (0, .integer 65536), (23, u "INITIAL_ROOM"), (2, u "MAX_KEPT_ROOM"), (1, u "LONGEST_ENCODED_HERE"), (1, u "LONGEST_KEPT_TEXT"), (9, u "endsWithLineFeed"), (0, u "()Z")] 41

def k2c0 : Code := { maxStack := 3, maxLocals := 1, code := prog_43_method_1_code, exceptionTable := #[], attributes := #[] }
def k2m0 : Method := { name := "<init>", desc := "()V", sig := { parameters := [], returnType := none }, accessFlags := 0, code := some k2c0 }
def k2c1 : Code := { maxStack := 2, maxLocals := 3, code := prog_43_method_2_code, exceptionTable := #[], attributes := #[] }
def k2m1 : Method := { name := "<init>", desc := "([[B[B)V", sig := { parameters := [(.array (.array .byte)), (.array .byte)], returnType := none }, accessFlags := 2, code := some k2c1 }
def k2c2 : Code := { maxStack := 3, maxLocals := 1, code := prog_43_method_6_code, exceptionTable := #[], attributes := #[] }
def k2m2 : Method := { name := "endsWithLineFeed", desc := "()Z", sig := { parameters := [], returnType := some .boolean }, accessFlags := 0, code := some k2c2 }
def k2c3 : Code := { maxStack := 5, maxLocals := 2, code := prog_43_method_9_code, exceptionTable := #[], attributes := #[] }
def k2m3 : Method := { name := "append", desc := "(C)V", sig := { parameters := [.char], returnType := none }, accessFlags := 0, code := some k2c3 }
def k2c4 : Code := { maxStack := 5, maxLocals := 2, code := prog_43_method_22_code, exceptionTable := #[], attributes := #[] }
def k2m4 : Method := { name := "appendCodePoint", desc := "(I)V", sig := { parameters := [.int], returnType := none }, accessFlags := 2, code := some k2c4 }
def k2c5 : Code := { maxStack := 2, maxLocals := 2, code := prog_43_method_26_code, exceptionTable := #[], attributes := #[] }
def k2m5 : Method := { name := "ensureRoom", desc := "(I)V", sig := { parameters := [.int], returnType := none }, accessFlags := 2, code := some k2c5 }
/-- com/example/hearthlog/hearthlog/Utf8Line -/
def k2 : Class := { plain "com/example/hearthlog/hearthlog/Utf8Line" (some 0) with
  accessFlags := 48
  interfaces := #[]
  cf := some (fileOf pool2 1 #[.nestMembers #[103]] #[{ accessFlags := 0, nameIndex := 5, descriptorIndex := 11, attributes := #[] }, { accessFlags := 2, nameIndex := 5, descriptorIndex := 6, attributes := #[] }, { accessFlags := 0, nameIndex := 217, descriptorIndex := 218, attributes := #[] }, { accessFlags := 0, nameIndex := 38, descriptorIndex := 175, attributes := #[] }, { accessFlags := 2, nameIndex := 58, descriptorIndex := 43, attributes := #[] }, { accessFlags := 2, nameIndex := 42, descriptorIndex := 43, attributes := #[] }] 48 8 #[] #[{ accessFlags := 26, nameIndex := 200, descriptorIndex := 35, attributes := #[] }, { accessFlags := 26, nameIndex := 203, descriptorIndex := 35, attributes := #[] }, { accessFlags := 26, nameIndex := 205, descriptorIndex := 35, attributes := #[] }, { accessFlags := 24, nameIndex := 207, descriptorIndex := 35, attributes := #[] }, { accessFlags := 26, nameIndex := 22, descriptorIndex := 23, attributes := #[] }, { accessFlags := 26, nameIndex := 97, descriptorIndex := 98, attributes := #[] }, { accessFlags := 18, nameIndex := 14, descriptorIndex := 15, attributes := #[] }, { accessFlags := 2, nameIndex := 18, descriptorIndex := 19, attributes := #[] }, { accessFlags := 2, nameIndex := 34, descriptorIndex := 35, attributes := #[] }])
  fields := #[{ name := "INITIAL_ROOM", type := .int, accessFlags := 26, slot := 0, constantValue := 0 }, { name := "MAX_KEPT_ROOM", type := .int, accessFlags := 26, slot := 1, constantValue := 0 }, { name := "LONGEST_ENCODED_HERE", type := .int, accessFlags := 26, slot := 2, constantValue := 0 }, { name := "LONGEST_KEPT_TEXT", type := .int, accessFlags := 24, slot := 3, constantValue := 0 }, { name := "SPARE", type := (.object "java/lang/ThreadLocal"), accessFlags := 26, slot := 4, constantValue := 0 }, { name := "RECURRING", type := (.array (.object "com/example/hearthlog/hearthlog/Utf8Line$Recurring")), accessFlags := 26, slot := 5, constantValue := 0 }, { name := "spare", type := (.array (.array .byte)), accessFlags := 18, slot := 0, constantValue := 0 }, { name := "bytes", type := (.array .byte), accessFlags := 2, slot := 1, constantValue := 0 }, { name := "length", type := .int, accessFlags := 2, slot := 2, constantValue := 0 }]
  methods := #[k2m0, k2m1, k2m2, k2m3, k2m4, k2m5]
  instanceTypes := #[(.array (.array .byte)), (.array .byte), .int]
  staticTypes := #[.int, .int, .int, .int, (.object "java/lang/ThreadLocal"), (.array (.object "com/example/hearthlog/hearthlog/Utf8Line$Recurring"))]
  resolved := Array.replicate 260 none
  statics := none }

def pool3 : Array CpInfo := pool [(1, .class_ 2), (0, u "java/io/Serializable"), (0, .class_ 4), (0, u "java/lang/Object")] 2

/-- java/io/Serializable -/
def k3 : Class := { plain "java/io/Serializable" (some 0) with
  accessFlags := 1537
  interfaces := #[]
  cf := some (fileOf pool3 1 #[] #[] 1537 3 #[] #[])
  fields := #[]
  methods := #[]
  instanceTypes := #[]
  staticTypes := #[]
  resolved := Array.replicate 7 none
  statics := none }

def pool4 : Array CpInfo := pool [(1, .class_ 2), (0, u "java/lang/Comparable"), (0, .class_ 4), (0, u "java/lang/Object")] 7

/-- java/lang/Comparable -/
def k4 : Class := { plain "java/lang/Comparable" (some 0) with
  accessFlags := 1537
  interfaces := #[]
  cf := some (fileOf pool4 1 #[] #[] 1537 3 #[] #[])
  fields := #[]
  methods := #[]
  instanceTypes := #[]
  staticTypes := #[]
  resolved := Array.replicate 12 none
  statics := none }

def pool5 : Array CpInfo := pool [(1, .class_ 2), (0, u "java/lang/constant/Constable"), (0, .class_ 4), (0, u "java/lang/Object")] 6

/-- java/lang/constant/Constable -/
def k5 : Class := { plain "java/lang/constant/Constable" (some 0) with
  accessFlags := 1537
  interfaces := #[]
  cf := some (fileOf pool5 1 #[] #[] 1537 3 #[] #[])
  fields := #[]
  methods := #[]
  instanceTypes := #[]
  staticTypes := #[]
  resolved := Array.replicate 11 none
  statics := none }

def pool6 : Array CpInfo := pool [(1, .class_ 2), (0, u "java/lang/Character"), (18, u "value"), (0, u "C"), (19, .class_ 44), (1, u "java/lang/Object"), (3, .class_ 50), (1, u "java/lang/Character$CharacterCache"), (24, .integer 55296), (1, .integer 57344), (3, u "(C)Z"), (202, u "$assertionsDisabled"), (0, u "Z"), (21, .class_ 309), (1, u "java/lang/Character$UnicodeBlock"), (73, u "TYPE"), (0, u "Ljava/lang/Class;"), (0, .class_ 386), (0, u "java/io/Serializable"), (0, .class_ 388), (0, u "java/lang/Comparable"), (0, .class_ 390), (0, u "java/lang/constant/Constable"), (0, u "MIN_RADIX"), (0, u "I"), (2, u "MAX_RADIX"), (1, u "MIN_VALUE"), (1, u "MAX_VALUE"), (3, u "UNASSIGNED"), (0, u "B"), (0, u "UPPERCASE_LETTER"), (1, u "LOWERCASE_LETTER"), (0, u "TITLECASE_LETTER"), (1, u "MODIFIER_LETTER"), (1, u "OTHER_LETTER"), (1, u "NON_SPACING_MARK"), (1, u "ENCLOSING_MARK"), (1, u "COMBINING_SPACING_MARK"), (1, u "DECIMAL_DIGIT_NUMBER"), (1, u "LETTER_NUMBER"), (1, u "OTHER_NUMBER"), (1, u "SPACE_SEPARATOR"), (1, u "LINE_SEPARATOR"), (1, u "PARAGRAPH_SEPARATOR"), (1, u "CONTROL"), (1, u "FORMAT"), (1, u "PRIVATE_USE"), (1, u "SURROGATE"), (1, u "DASH_PUNCTUATION"), (1, u "START_PUNCTUATION"), (1, u "END_PUNCTUATION"), (1, u "CONNECTOR_PUNCTUATION"), (1, u "OTHER_PUNCTUATION"), (1, u "MATH_SYMBOL"), (1, u "CURRENCY_SYMBOL"), (1, u "MODIFIER_SYMBOL"), (1, u "OTHER_SYMBOL"), (1, u "INITIAL_QUOTE_PUNCTUATION"), (1, u "FINAL_QUOTE_PUNCTUATION"), (1, u "ERROR"), (1, u "DIRECTIONALITY_UNDEFINED"), (0, u "DIRECTIONALITY_LEFT_TO_RIGHT"), (0, u "DIRECTIONALITY_RIGHT_TO_LEFT"), (0, u "DIRECTIONALITY_RIGHT_TO_LEFT_ARABIC"), (0, u "DIRECTIONALITY_EUROPEAN_NUMBER"), (0, u "DIRECTIONALITY_EUROPEAN_NUMBER_SEPARATOR"), (0, u "DIRECTIONALITY_EUROPEAN_NUMBER_TERMINATOR"), (0, u "DIRECTIONALITY_ARABIC_NUMBER"), (0, u "DIRECTIONALITY_COMMON_NUMBER_SEPARATOR"), (0, u "DIRECTIONALITY_NONSPACING_MARK"), (0, u "DIRECTIONALITY_BOUNDARY_NEUTRAL"), (0, u "DIRECTIONALITY_PARAGRAPH_SEPARATOR"), (0, u "DIRECTIONALITY_SEGMENT_SEPARATOR"), (0, u "DIRECTIONALITY_WHITESPACE"), (0, u "DIRECTIONALITY_OTHER_NEUTRALS"), (0, u "DIRECTIONALITY_LEFT_TO_RIGHT_EMBEDDING"), (0, u "DIRECTIONALITY_LEFT_TO_RIGHT_OVERRIDE"), (0, u "DIRECTIONALITY_RIGHT_TO_LEFT_EMBEDDING"), (0, u "DIRECTIONALITY_RIGHT_TO_LEFT_OVERRIDE"), (1, u "DIRECTIONALITY_POP_DIRECTIONAL_FORMAT"), (0, u "DIRECTIONALITY_LEFT_TO_RIGHT_ISOLATE"), (0, u "DIRECTIONALITY_RIGHT_TO_LEFT_ISOLATE"), (0, u "DIRECTIONALITY_FIRST_STRONG_ISOLATE"), (0, u "DIRECTIONALITY_POP_DIRECTIONAL_ISOLATE"), (0, u "MIN_HIGH_SURROGATE"), (0, u "MAX_HIGH_SURROGATE"), (1, u "MIN_LOW_SURROGATE"), (0, u "MAX_LOW_SURROGATE"), (1, u "MIN_SURROGATE"), (0, u "MAX_SURROGATE"), (0, u "MIN_SUPPLEMENTARY_CODE_POINT"), (0, u "MIN_CODE_POINT"), (0, u "MAX_CODE_POINT"), (1, u "serialVersionUID"), (0, u "J"), (2, u "SIZE"), (0, u "BYTES"), (24, u "isSurrogate"), (63, .class_ 596), (0, u "java/lang/Character$UnicodeScript"), (0, .class_ 598), (0, u "java/lang/Character$Subset")] 5

def k6c0 : Code := { maxStack := 2, maxLocals := 1, code := jdk_89_method_16_code, exceptionTable := #[], attributes := #[] }
def k6m0 : Method := { name := "isSurrogate", desc := "(C)Z", sig := { parameters := [.char], returnType := some .boolean }, accessFlags := 9, code := some k6c0 }
/-- java/lang/Character -/
def k6 : Class := { plain "java/lang/Character" (some 0) with
  accessFlags := 49
  interfaces := #[3, 4, 5]
  cf := some (fileOf pool6 1 #[.nestMembers #[48, 595, 307, 597]] #[{ accessFlags := 9, nameIndex := 531, descriptorIndex := 81, attributes := #[] }] 49 42 #[385, 387, 389] #[{ accessFlags := 25, nameIndex := 391, descriptorIndex := 392, attributes := #[] }, { accessFlags := 25, nameIndex := 395, descriptorIndex := 392, attributes := #[] }, { accessFlags := 25, nameIndex := 397, descriptorIndex := 22, attributes := #[] }, { accessFlags := 25, nameIndex := 399, descriptorIndex := 22, attributes := #[] }, { accessFlags := 25, nameIndex := 383, descriptorIndex := 384, attributes := #[] }, { accessFlags := 25, nameIndex := 403, descriptorIndex := 404, attributes := #[] }, { accessFlags := 25, nameIndex := 405, descriptorIndex := 404, attributes := #[] }, { accessFlags := 25, nameIndex := 407, descriptorIndex := 404, attributes := #[] }, { accessFlags := 25, nameIndex := 408, descriptorIndex := 404, attributes := #[] }, { accessFlags := 25, nameIndex := 410, descriptorIndex := 404, attributes := #[] }, { accessFlags := 25, nameIndex := 412, descriptorIndex := 404, attributes := #[] }, { accessFlags := 25, nameIndex := 414, descriptorIndex := 404, attributes := #[] }, { accessFlags := 25, nameIndex := 416, descriptorIndex := 404, attributes := #[] }, { accessFlags := 25, nameIndex := 418, descriptorIndex := 404, attributes := #[] }, { accessFlags := 25, nameIndex := 420, descriptorIndex := 404, attributes := #[] }, { accessFlags := 25, nameIndex := 422, descriptorIndex := 404, attributes := #[] }, { accessFlags := 25, nameIndex := 424, descriptorIndex := 404, attributes := #[] }, { accessFlags := 25, nameIndex := 426, descriptorIndex := 404, attributes := #[] }, { accessFlags := 25, nameIndex := 428, descriptorIndex := 404, attributes := #[] }, { accessFlags := 25, nameIndex := 430, descriptorIndex := 404, attributes := #[] }, { accessFlags := 25, nameIndex := 432, descriptorIndex := 404, attributes := #[] }, { accessFlags := 25, nameIndex := 434, descriptorIndex := 404, attributes := #[] }, { accessFlags := 25, nameIndex := 436, descriptorIndex := 404, attributes := #[] }, { accessFlags := 25, nameIndex := 438, descriptorIndex := 404, attributes := #[] }, { accessFlags := 25, nameIndex := 440, descriptorIndex := 404, attributes := #[] }, { accessFlags := 25, nameIndex := 442, descriptorIndex := 404, attributes := #[] }, { accessFlags := 25, nameIndex := 444, descriptorIndex := 404, attributes := #[] }, { accessFlags := 25, nameIndex := 446, descriptorIndex := 404, attributes := #[] }, { accessFlags := 25, nameIndex := 448, descriptorIndex := 404, attributes := #[] }, { accessFlags := 25, nameIndex := 450, descriptorIndex := 404, attributes := #[] }, { accessFlags := 25, nameIndex := 452, descriptorIndex := 404, attributes := #[] }, { accessFlags := 25, nameIndex := 454, descriptorIndex := 404, attributes := #[] }, { accessFlags := 25, nameIndex := 456, descriptorIndex := 404, attributes := #[] }, { accessFlags := 25, nameIndex := 458, descriptorIndex := 404, attributes := #[] }, { accessFlags := 25, nameIndex := 460, descriptorIndex := 404, attributes := #[] }, { accessFlags := 24, nameIndex := 462, descriptorIndex := 392, attributes := #[] }, { accessFlags := 25, nameIndex := 464, descriptorIndex := 404, attributes := #[] }, { accessFlags := 25, nameIndex := 465, descriptorIndex := 404, attributes := #[] }, { accessFlags := 25, nameIndex := 466, descriptorIndex := 404, attributes := #[] }, { accessFlags := 25, nameIndex := 467, descriptorIndex := 404, attributes := #[] }, { accessFlags := 25, nameIndex := 468, descriptorIndex := 404, attributes := #[] }, { accessFlags := 25, nameIndex := 469, descriptorIndex := 404, attributes := #[] }, { accessFlags := 25, nameIndex := 470, descriptorIndex := 404, attributes := #[] }, { accessFlags := 25, nameIndex := 471, descriptorIndex := 404, attributes := #[] }, { accessFlags := 25, nameIndex := 472, descriptorIndex := 404, attributes := #[] }, { accessFlags := 25, nameIndex := 473, descriptorIndex := 404, attributes := #[] }, { accessFlags := 25, nameIndex := 474, descriptorIndex := 404, attributes := #[] }, { accessFlags := 25, nameIndex := 475, descriptorIndex := 404, attributes := #[] }, { accessFlags := 25, nameIndex := 476, descriptorIndex := 404, attributes := #[] }, { accessFlags := 25, nameIndex := 477, descriptorIndex := 404, attributes := #[] }, { accessFlags := 25, nameIndex := 478, descriptorIndex := 404, attributes := #[] }, { accessFlags := 25, nameIndex := 479, descriptorIndex := 404, attributes := #[] }, { accessFlags := 25, nameIndex := 480, descriptorIndex := 404, attributes := #[] }, { accessFlags := 25, nameIndex := 481, descriptorIndex := 404, attributes := #[] }, { accessFlags := 25, nameIndex := 482, descriptorIndex := 404, attributes := #[] }, { accessFlags := 25, nameIndex := 484, descriptorIndex := 404, attributes := #[] }, { accessFlags := 25, nameIndex := 485, descriptorIndex := 404, attributes := #[] }, { accessFlags := 25, nameIndex := 486, descriptorIndex := 404, attributes := #[] }, { accessFlags := 25, nameIndex := 487, descriptorIndex := 404, attributes := #[] }, { accessFlags := 25, nameIndex := 488, descriptorIndex := 404, attributes := #[] }, { accessFlags := 25, nameIndex := 489, descriptorIndex := 22, attributes := #[] }, { accessFlags := 25, nameIndex := 490, descriptorIndex := 22, attributes := #[] }, { accessFlags := 25, nameIndex := 492, descriptorIndex := 22, attributes := #[] }, { accessFlags := 25, nameIndex := 493, descriptorIndex := 22, attributes := #[] }, { accessFlags := 25, nameIndex := 495, descriptorIndex := 22, attributes := #[] }, { accessFlags := 25, nameIndex := 496, descriptorIndex := 22, attributes := #[] }, { accessFlags := 25, nameIndex := 497, descriptorIndex := 392, attributes := #[] }, { accessFlags := 25, nameIndex := 498, descriptorIndex := 392, attributes := #[] }, { accessFlags := 25, nameIndex := 499, descriptorIndex := 392, attributes := #[] }, { accessFlags := 18, nameIndex := 21, descriptorIndex := 22, attributes := #[] }, { accessFlags := 26, nameIndex := 501, descriptorIndex := 502, attributes := #[] }, { accessFlags := 25, nameIndex := 505, descriptorIndex := 392, attributes := #[] }, { accessFlags := 25, nameIndex := 506, descriptorIndex := 392, attributes := #[] }, { accessFlags := 4120, nameIndex := 284, descriptorIndex := 285, attributes := #[] }])
  fields := #[{ name := "MIN_RADIX", type := .int, accessFlags := 25, slot := 0, constantValue := 0 }, { name := "MAX_RADIX", type := .int, accessFlags := 25, slot := 1, constantValue := 0 }, { name := "MIN_VALUE", type := .char, accessFlags := 25, slot := 2, constantValue := 0 }, { name := "MAX_VALUE", type := .char, accessFlags := 25, slot := 3, constantValue := 0 }, { name := "TYPE", type := (.object "java/lang/Class"), accessFlags := 25, slot := 4, constantValue := 0 }, { name := "UNASSIGNED", type := .byte, accessFlags := 25, slot := 5, constantValue := 0 }, { name := "UPPERCASE_LETTER", type := .byte, accessFlags := 25, slot := 6, constantValue := 0 }, { name := "LOWERCASE_LETTER", type := .byte, accessFlags := 25, slot := 7, constantValue := 0 }, { name := "TITLECASE_LETTER", type := .byte, accessFlags := 25, slot := 8, constantValue := 0 }, { name := "MODIFIER_LETTER", type := .byte, accessFlags := 25, slot := 9, constantValue := 0 }, { name := "OTHER_LETTER", type := .byte, accessFlags := 25, slot := 10, constantValue := 0 }, { name := "NON_SPACING_MARK", type := .byte, accessFlags := 25, slot := 11, constantValue := 0 }, { name := "ENCLOSING_MARK", type := .byte, accessFlags := 25, slot := 12, constantValue := 0 }, { name := "COMBINING_SPACING_MARK", type := .byte, accessFlags := 25, slot := 13, constantValue := 0 }, { name := "DECIMAL_DIGIT_NUMBER", type := .byte, accessFlags := 25, slot := 14, constantValue := 0 }, { name := "LETTER_NUMBER", type := .byte, accessFlags := 25, slot := 15, constantValue := 0 }, { name := "OTHER_NUMBER", type := .byte, accessFlags := 25, slot := 16, constantValue := 0 }, { name := "SPACE_SEPARATOR", type := .byte, accessFlags := 25, slot := 17, constantValue := 0 }, { name := "LINE_SEPARATOR", type := .byte, accessFlags := 25, slot := 18, constantValue := 0 }, { name := "PARAGRAPH_SEPARATOR", type := .byte, accessFlags := 25, slot := 19, constantValue := 0 }, { name := "CONTROL", type := .byte, accessFlags := 25, slot := 20, constantValue := 0 }, { name := "FORMAT", type := .byte, accessFlags := 25, slot := 21, constantValue := 0 }, { name := "PRIVATE_USE", type := .byte, accessFlags := 25, slot := 22, constantValue := 0 }, { name := "SURROGATE", type := .byte, accessFlags := 25, slot := 23, constantValue := 0 }, { name := "DASH_PUNCTUATION", type := .byte, accessFlags := 25, slot := 24, constantValue := 0 }, { name := "START_PUNCTUATION", type := .byte, accessFlags := 25, slot := 25, constantValue := 0 }, { name := "END_PUNCTUATION", type := .byte, accessFlags := 25, slot := 26, constantValue := 0 }, { name := "CONNECTOR_PUNCTUATION", type := .byte, accessFlags := 25, slot := 27, constantValue := 0 }, { name := "OTHER_PUNCTUATION", type := .byte, accessFlags := 25, slot := 28, constantValue := 0 }, { name := "MATH_SYMBOL", type := .byte, accessFlags := 25, slot := 29, constantValue := 0 }, { name := "CURRENCY_SYMBOL", type := .byte, accessFlags := 25, slot := 30, constantValue := 0 }, { name := "MODIFIER_SYMBOL", type := .byte, accessFlags := 25, slot := 31, constantValue := 0 }, { name := "OTHER_SYMBOL", type := .byte, accessFlags := 25, slot := 32, constantValue := 0 }, { name := "INITIAL_QUOTE_PUNCTUATION", type := .byte, accessFlags := 25, slot := 33, constantValue := 0 }, { name := "FINAL_QUOTE_PUNCTUATION", type := .byte, accessFlags := 25, slot := 34, constantValue := 0 }, { name := "ERROR", type := .int, accessFlags := 24, slot := 35, constantValue := 0 }, { name := "DIRECTIONALITY_UNDEFINED", type := .byte, accessFlags := 25, slot := 36, constantValue := 0 }, { name := "DIRECTIONALITY_LEFT_TO_RIGHT", type := .byte, accessFlags := 25, slot := 37, constantValue := 0 }, { name := "DIRECTIONALITY_RIGHT_TO_LEFT", type := .byte, accessFlags := 25, slot := 38, constantValue := 0 }, { name := "DIRECTIONALITY_RIGHT_TO_LEFT_ARABIC", type := .byte, accessFlags := 25, slot := 39, constantValue := 0 }, { name := "DIRECTIONALITY_EUROPEAN_NUMBER", type := .byte, accessFlags := 25, slot := 40, constantValue := 0 }, { name := "DIRECTIONALITY_EUROPEAN_NUMBER_SEPARATOR", type := .byte, accessFlags := 25, slot := 41, constantValue := 0 }, { name := "DIRECTIONALITY_EUROPEAN_NUMBER_TERMINATOR", type := .byte, accessFlags := 25, slot := 42, constantValue := 0 }, { name := "DIRECTIONALITY_ARABIC_NUMBER", type := .byte, accessFlags := 25, slot := 43, constantValue := 0 }, { name := "DIRECTIONALITY_COMMON_NUMBER_SEPARATOR", type := .byte, accessFlags := 25, slot := 44, constantValue := 0 }, { name := "DIRECTIONALITY_NONSPACING_MARK", type := .byte, accessFlags := 25, slot := 45, constantValue := 0 }, { name := "DIRECTIONALITY_BOUNDARY_NEUTRAL", type := .byte, accessFlags := 25, slot := 46, constantValue := 0 }, { name := "DIRECTIONALITY_PARAGRAPH_SEPARATOR", type := .byte, accessFlags := 25, slot := 47, constantValue := 0 }, { name := "DIRECTIONALITY_SEGMENT_SEPARATOR", type := .byte, accessFlags := 25, slot := 48, constantValue := 0 }, { name := "DIRECTIONALITY_WHITESPACE", type := .byte, accessFlags := 25, slot := 49, constantValue := 0 }, { name := "DIRECTIONALITY_OTHER_NEUTRALS", type := .byte, accessFlags := 25, slot := 50, constantValue := 0 }, { name := "DIRECTIONALITY_LEFT_TO_RIGHT_EMBEDDING", type := .byte, accessFlags := 25, slot := 51, constantValue := 0 }, { name := "DIRECTIONALITY_LEFT_TO_RIGHT_OVERRIDE", type := .byte, accessFlags := 25, slot := 52, constantValue := 0 }, { name := "DIRECTIONALITY_RIGHT_TO_LEFT_EMBEDDING", type := .byte, accessFlags := 25, slot := 53, constantValue := 0 }, { name := "DIRECTIONALITY_RIGHT_TO_LEFT_OVERRIDE", type := .byte, accessFlags := 25, slot := 54, constantValue := 0 }, { name := "DIRECTIONALITY_POP_DIRECTIONAL_FORMAT", type := .byte, accessFlags := 25, slot := 55, constantValue := 0 }, { name := "DIRECTIONALITY_LEFT_TO_RIGHT_ISOLATE", type := .byte, accessFlags := 25, slot := 56, constantValue := 0 }, { name := "DIRECTIONALITY_RIGHT_TO_LEFT_ISOLATE", type := .byte, accessFlags := 25, slot := 57, constantValue := 0 }, { name := "DIRECTIONALITY_FIRST_STRONG_ISOLATE", type := .byte, accessFlags := 25, slot := 58, constantValue := 0 }, { name := "DIRECTIONALITY_POP_DIRECTIONAL_ISOLATE", type := .byte, accessFlags := 25, slot := 59, constantValue := 0 }, { name := "MIN_HIGH_SURROGATE", type := .char, accessFlags := 25, slot := 60, constantValue := 0 }, { name := "MAX_HIGH_SURROGATE", type := .char, accessFlags := 25, slot := 61, constantValue := 0 }, { name := "MIN_LOW_SURROGATE", type := .char, accessFlags := 25, slot := 62, constantValue := 0 }, { name := "MAX_LOW_SURROGATE", type := .char, accessFlags := 25, slot := 63, constantValue := 0 }, { name := "MIN_SURROGATE", type := .char, accessFlags := 25, slot := 64, constantValue := 0 }, { name := "MAX_SURROGATE", type := .char, accessFlags := 25, slot := 65, constantValue := 0 }, { name := "MIN_SUPPLEMENTARY_CODE_POINT", type := .int, accessFlags := 25, slot := 66, constantValue := 0 }, { name := "MIN_CODE_POINT", type := .int, accessFlags := 25, slot := 67, constantValue := 0 }, { name := "MAX_CODE_POINT", type := .int, accessFlags := 25, slot := 68, constantValue := 0 }, { name := "value", type := .char, accessFlags := 18, slot := 0, constantValue := 0 }, { name := "serialVersionUID", type := .long, accessFlags := 26, slot := 69, constantValue := 0 }, { name := "SIZE", type := .int, accessFlags := 25, slot := 70, constantValue := 0 }, { name := "BYTES", type := .int, accessFlags := 25, slot := 71, constantValue := 0 }, { name := "$assertionsDisabled", type := .boolean, accessFlags := 4120, slot := 72, constantValue := 0 }]
  methods := #[k6m0]
  instanceTypes := #[.char]
  staticTypes := #[.int, .int, .char, .char, (.object "java/lang/Class"), .byte, .byte, .byte, .byte, .byte, .byte, .byte, .byte, .byte, .byte, .byte, .byte, .byte, .byte, .byte, .byte, .byte, .byte, .byte, .byte, .byte, .byte, .byte, .byte, .byte, .byte, .byte, .byte, .byte, .byte, .int, .byte, .byte, .byte, .byte, .byte, .byte, .byte, .byte, .byte, .byte, .byte, .byte, .byte, .byte, .byte, .byte, .byte, .byte, .byte, .byte, .byte, .byte, .byte, .byte, .char, .char, .char, .char, .char, .char, .int, .int, .int, .long, .int, .int, .boolean]
  resolved := Array.replicate 604 none
  statics := none }

def pool7 : Array CpInfo := pool [(1, u "java/lang/Cloneable"), (0, .class_ 1), (0, u "java/lang/Object"), (0, .class_ 3)] 3

/-- java/lang/Cloneable -/
def k7 : Class := { plain "java/lang/Cloneable" (some 0) with
  accessFlags := 1537
  interfaces := #[]
  cf := some (fileOf pool7 2 #[] #[] 1537 4 #[] #[])
  fields := #[]
  methods := #[]
  instanceTypes := #[]
  staticTypes := #[]
  resolved := Array.replicate 8 none
  statics := none }

/-- the primitive byte -/
def k8 : Class := { plain "byte" none with kind := .primitive 'B', accessFlags := 0x411 }
/-- [B -/
def k9 : Class := { plain "[B" (some 0) with kind := .array 8 .byte, interfaces := #[7, 3], accessFlags := 1041 }

/-- the primitive char -/
def k10 : Class := { plain "char" none with kind := .primitive 'C', accessFlags := 0x411 }
/-- [C -/
def k11 : Class := { plain "[C" (some 0) with kind := .array 10 .char, interfaces := #[7, 3], accessFlags := 1041 }

/-- the primitive int -/
def k12 : Class := { plain "int" none with kind := .primitive 'I', accessFlags := 0x411 }
/-- [I -/
def k13 : Class := { plain "[I" (some 0) with kind := .array 12 .int, interfaces := #[7, 3], accessFlags := 1041 }

def heap : Heap := #[]
def classes : Array Class := #[k0, k1, k2, k3, k4, k5, k6, k7, k8, k9, k10, k11, k12, k13]
def interned : List (Array UInt16 × Addr) := []
def slotsUsed : Nat := 0
def theMethod : MethodId := ⟨1, 1⟩
def args0 : Array Value := #[.int 2, .int 7, .int 3, .int 2]
def aboutOver (below : List Frame) : State where
  vm := { classes := classes, interned := interned.toArray }
  heap := heap
  slotsUsed := slotsUsed
  threads := #[{ frames := .invoking theMethod args0 :: below }]
def below0 : List Frame := [.native { method := ⟨0, 0⟩, args := #[] }]
def about1 : State := aboutOver below0
def p0 : Program := .bare "" "" ""
def e0 : Env := launch0.env 0 0 0
theorem w_frames : about1.frames = Frame.invoking theMethod args0 :: below0 := rfl
set_option maxRecDepth 65536 in
theorem w_args : argsFit about1.vm theMethod args0 = true := by decide +kernel
set_option maxRecDepth 65536 in
theorem w_heap : heapFits about1 = true := by decide +kernel
set_option maxRecDepth 65536 in
theorem w_runnable : about1.curStatus? = some .runnable := by decide +kernel
set_option maxRecDepth 65536 in
theorem w_alone : about1.alone = true := by decide +kernel
set_option maxRecDepth 65536 in
theorem w_named : about1.methodNamed? x = some theMethod := by decide +kernel
set_option maxRecDepth 65536 in
theorem w_hears : about1.hears theMethod below0 = true := by decide +kernel
set_option maxRecDepth 65536 in
theorem w_ripe : about1.ripe theMethod args0 below0 = true := by decide +kernel
theorem w_running : about1.status = .running := rfl
set_option maxRecDepth 65536 in
theorem w_room : about1.hasRoom e0.platform room_1 = true :=
  launch0.hasRoom_least _ room_1 (by decide +kernel) (by decide +kernel) (by decide +kernel) (by decide +kernel) (by decide +kernel) (by decide +kernel)
theorem allAtoms_all (ts : List Jvm.Cond) (a : Array Jvm.Value) (st : Jvm.State) : (allAtoms ts).before a st = ts.all (fun c => c.before a st) := by
  induction ts with
  | nil => rfl
  | cons c t ih =>
    show (Jvm.Cond.and c (allAtoms t)).before a st = _
    rw [Jvm.Cond.before_and, ih, List.all_cons]
def words1 : List Jvm.Cond := Jvm.Cond.code x code maxLocals ret :: tables_1
/-- a 'code' word, met by the world's own term for the bytes: nothing is compared byte by byte -/
theorem code_word {y : MethodName} {bytes : ByteArray} {mx : Nat} {rt : Option FieldType} {a : Array Value} {s : State} {m : MethodId} {meth : Method} {c : Code} (h1 : s.methodNamed? y = some m) (h2 : s.vm.method? m = some meth) (h3 : meth.code = some c) (h4 : c.code = bytes)
    (h5 : (c.maxLocals == mx && c.exceptionTable.isEmpty && decide (c.maxStack ≤ mostOperands) && decide (meth.sig.returnType = rt) && !meth.locks && decide (parseMethodDescriptor y.desc = some meth.sig)) = true) : (Jvm.Cond.code y bytes mx rt).before a s = true := by
  simp only [Bool.and_eq_true, beq_iff_eq, Bool.not_eq_true', decide_eq_true_eq] at h5
  obtain ⟨⟨⟨⟨⟨g1, g2⟩, g3⟩, g4⟩, g5⟩, g6⟩ := h5
  simp [Cond.before, Cond.holds, Cond.value, h1, h2, h3, h4, g1, g2, g3, g4, g5, g6]
def isCode : Jvm.Cond → Bool
  | .code _ _ _ _ => true
  | _ => false
theorem all_split {L : List Jvm.Cond} {P : Jvm.Cond → Bool} (h1 : L.all (fun c => isCode c || P c) = true) (h2 : ∀ c ∈ L.filter isCode, P c = true) : L.all P = true := by
  refine List.all_eq_true.mpr fun c hc => ?_
  have h := List.all_eq_true.mp h1 c hc
  rcases Bool.eq_false_or_eq_true (isCode c) with hi | hi
  · exact h2 c (List.mem_filter.mpr ⟨hc, hi⟩)
  · simpa [hi] using h
set_option maxRecDepth 65536 in
theorem w_c0 : (Jvm.Cond.code x code maxLocals ret).before args0 about1 = true := code_word (m := ⟨1, 1⟩) (meth := k1m1) (c := k1c1) (by decide +kernel) rfl rfl rfl (by decide +kernel)
set_option maxRecDepth 65536 in
theorem w_c1 : (Jvm.Cond.code ({ cls := "com/example/hearthlog/hearthlog/Utf8Line", name := "<init>", desc := "()V" } : Jvm.MethodName) prog_43_method_1_code (1 : Nat) (Option.none : Option Jvm.ClassFile.FieldType)).before args0 about1 = true := code_word (m := ⟨2, 0⟩) (meth := k2m0) (c := k2c0) (by decide +kernel) rfl rfl rfl (by decide +kernel)
set_option maxRecDepth 65536 in
theorem w_c2 : (Jvm.Cond.code ({ cls := "com/example/hearthlog/hearthlog/Utf8Line", name := "<init>", desc := "([[B[B)V" } : Jvm.MethodName) prog_43_method_2_code (3 : Nat) (Option.none : Option Jvm.ClassFile.FieldType)).before args0 about1 = true := code_word (m := ⟨2, 1⟩) (meth := k2m1) (c := k2c1) (by decide +kernel) rfl rfl rfl (by decide +kernel)
set_option maxRecDepth 65536 in
theorem w_c3 : (Jvm.Cond.code ({ cls := "java/lang/Object", name := "<init>", desc := "()V" } : Jvm.MethodName) object_method_1_code (1 : Nat) (Option.none : Option Jvm.ClassFile.FieldType)).before args0 about1 = true := code_word (m := ⟨0, 0⟩) (meth := k0m0) (c := k0c0) (by decide +kernel) rfl rfl rfl (by decide +kernel)
set_option maxRecDepth 65536 in
theorem w_c4 : (Jvm.Cond.code ({ cls := "com/example/hearthlog/hearthlog/Utf8Line", name := "endsWithLineFeed", desc := "()Z" } : Jvm.MethodName) prog_43_method_6_code (1 : Nat) (Option.some Jvm.ClassFile.FieldType.boolean)).before args0 about1 = true := code_word (m := ⟨2, 2⟩) (meth := k2m2) (c := k2c2) (by decide +kernel) rfl rfl rfl (by decide +kernel)
set_option maxRecDepth 65536 in
theorem w_c5 : (Jvm.Cond.code ({ cls := "com/example/hearthlog/hearthlog/Utf8Line", name := "append", desc := "(C)V" } : Jvm.MethodName) prog_43_method_9_code (2 : Nat) (Option.none : Option Jvm.ClassFile.FieldType)).before args0 about1 = true := code_word (m := ⟨2, 3⟩) (meth := k2m3) (c := k2c3) (by decide +kernel) rfl rfl rfl (by decide +kernel)
set_option maxRecDepth 65536 in
theorem w_c6 : (Jvm.Cond.code ({ cls := "java/lang/Character", name := "isSurrogate", desc := "(C)Z" } : Jvm.MethodName) jdk_89_method_16_code (1 : Nat) (Option.some Jvm.ClassFile.FieldType.boolean)).before args0 about1 = true := code_word (m := ⟨6, 0⟩) (meth := k6m0) (c := k6c0) (by decide +kernel) rfl rfl rfl (by decide +kernel)
set_option maxRecDepth 65536 in
theorem w_c7 : (Jvm.Cond.code ({ cls := "com/example/hearthlog/hearthlog/Utf8Line", name := "appendCodePoint", desc := "(I)V" } : Jvm.MethodName) prog_43_method_22_code (2 : Nat) (Option.none : Option Jvm.ClassFile.FieldType)).before args0 about1 = true := code_word (m := ⟨2, 4⟩) (meth := k2m4) (c := k2c4) (by decide +kernel) rfl rfl rfl (by decide +kernel)
set_option maxRecDepth 65536 in
theorem w_c8 : (Jvm.Cond.code ({ cls := "com/example/hearthlog/hearthlog/Utf8Line", name := "ensureRoom", desc := "(I)V" } : Jvm.MethodName) prog_43_method_26_code (2 : Nat) (Option.none : Option Jvm.ClassFile.FieldType)).before args0 about1 = true := code_word (m := ⟨2, 5⟩) (meth := k2m5) (c := k2c5) (by decide +kernel) rfl rfl rfl (by decide +kernel)
def codes1 : List Jvm.Cond := [Jvm.Cond.code x code maxLocals ret, Jvm.Cond.code ({ cls := "com/example/hearthlog/hearthlog/Utf8Line", name := "<init>", desc := "()V" } : Jvm.MethodName) prog_43_method_1_code (1 : Nat) (Option.none : Option Jvm.ClassFile.FieldType), Jvm.Cond.code ({ cls := "com/example/hearthlog/hearthlog/Utf8Line", name := "<init>", desc := "([[B[B)V" } : Jvm.MethodName) prog_43_method_2_code (3 : Nat) (Option.none : Option Jvm.ClassFile.FieldType), Jvm.Cond.code ({ cls := "java/lang/Object", name := "<init>", desc := "()V" } : Jvm.MethodName) object_method_1_code (1 : Nat) (Option.none : Option Jvm.ClassFile.FieldType), Jvm.Cond.code ({ cls := "com/example/hearthlog/hearthlog/Utf8Line", name := "endsWithLineFeed", desc := "()Z" } : Jvm.MethodName) prog_43_method_6_code (1 : Nat) (Option.some Jvm.ClassFile.FieldType.boolean), Jvm.Cond.code ({ cls := "com/example/hearthlog/hearthlog/Utf8Line", name := "append", desc := "(C)V" } : Jvm.MethodName) prog_43_method_9_code (2 : Nat) (Option.none : Option Jvm.ClassFile.FieldType), Jvm.Cond.code ({ cls := "java/lang/Character", name := "isSurrogate", desc := "(C)Z" } : Jvm.MethodName) jdk_89_method_16_code (1 : Nat) (Option.some Jvm.ClassFile.FieldType.boolean), Jvm.Cond.code ({ cls := "com/example/hearthlog/hearthlog/Utf8Line", name := "appendCodePoint", desc := "(I)V" } : Jvm.MethodName) prog_43_method_22_code (2 : Nat) (Option.none : Option Jvm.ClassFile.FieldType), Jvm.Cond.code ({ cls := "com/example/hearthlog/hearthlog/Utf8Line", name := "ensureRoom", desc := "(I)V" } : Jvm.MethodName) prog_43_method_26_code (2 : Nat) (Option.none : Option Jvm.ClassFile.FieldType)]
set_option maxRecDepth 65536 in
theorem codes_eq : words1.filter isCode = codes1 := rfl
theorem w_codes : ∀ c ∈ words1.filter isCode, c.before args0 about1 = true := by
  rw [codes_eq]
  intro c hc
  simp only [codes1, List.mem_cons, List.not_mem_nil, or_false] at hc
  rcases hc with rfl | rfl | rfl | rfl | rfl | rfl | rfl | rfl | rfl
  · exact w_c0
  · exact w_c1
  · exact w_c2
  · exact w_c3
  · exact w_c4
  · exact w_c5
  · exact w_c6
  · exact w_c7
  · exact w_c8
set_option maxRecDepth 65536 in
theorem w_t1 : (words1.take 24).all (fun c => isCode c || c.before args0 about1) = true := by decide +kernel
set_option maxRecDepth 65536 in
theorem w_t2 : (words1.drop 24).all (fun c => isCode c || c.before args0 about1) = true := by decide +kernel
theorem w_tables : (allAtoms (Jvm.Cond.code x code maxLocals ret :: tables_1)).before args0 about1 = true := by
  rw [allAtoms_all]
  show words1.all (fun c => c.before args0 about1) = true
  refine all_split ?_ w_codes
  rw [← List.take_append_drop 24 words1, List.all_append, w_t1, w_t2]
  rfl
set_option maxRecDepth 65536 in
theorem w_case : (Jvm.Cond.and given_1 narrow_1).before args0 about1 = true := by decide +kernel
theorem w_applies : (headSpec (Jvm.Cond.code x code maxLocals ret :: tables_1) room_1).applies x e0.platform about1 = true :=
  (Spec.applies_iff w_frames).mpr ⟨w_running, w_runnable, w_alone, w_named, w_hears, w_ripe, w_room, w_tables⟩
theorem atStart : AtStart classFile x code maxLocals ret World_1 tables_1 room_1 Calls_1 rest_1 Pre_1 launch0 p0 e0 about1 theMethod args0 below0 :=
  ⟨lists_1, trivial, launch0.admits_env _ _ _, launch0.least_env, fairChoices_fair.cas, fairChoices_fair.clock, w_frames, w_args, w_heap, w_applies, trivial, trivial, w_case⟩
end start1
theorem witness_1 : WitnessClaimed_1 := ⟨start1.p0, start1.e0, start1.about1, start1.theMethod, start1.args0, start1.below0, start1.atStart⟩
end Jvm.Pilot.@@N@@
