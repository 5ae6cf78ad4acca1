import JvmDerived
import JvmDerived.Pilot.@@N@@Statement
import JvmDerived.Pilot.@@N@@Code
set_option linter.unusedVariables false
set_option linter.unusedSimpArgs false
namespace Jvm.RoadKit
open Sem ClassFile Op Lib Jvm.Stand Jvm.Free Jvm.LawKit
section OwnGo
variable {p : Program} {l : Launch} {e : Env} {R : Room} {s : State} {m : MethodId} {args : Array Value} {below : List Frame} {meth : Method} {c : Code} {T T' : State} {locs : List Loc} {cells slots kc ks : Nat} {Q : Option Value → Heap → List Loc → Prop} {f f' : JFrame} {h : Heap}
/-- from the state T with the top frame f the body comes to its end, and what it leaves meets Q -/
def Go (p : Program) (e : Env) (below : List Frame) (s : State) (kc ks : Nat) (Q : Option Value → Heap → List Loc → Prop) (T : State) (f : JFrame) : Prop :=
  ∃ (s₂ : State) (o : Outcome), Steps p.tables e below (T.setTop f) s₂ ∧ s₂.status = .running ∧ Ended s₂ below o ∧ ∃ v L, o = .returned v ∧ Q v s₂.heap L ∧ FrameEnd s o s₂ L kc ks
theorem Go.step (h : ∀ target, Steps p.tables e below (T'.setTop f') target → Steps p.tables e below (T.setTop f) target) (k : Go p e below s kc ks Q T' f') : Go p e below s kc ks Q T f := by
  obtain ⟨s₂, o, h1, r⟩ := k
  exact ⟨s₂, o, h _ h1, r⟩
theorem Go.trans (h : Steps p.tables e below (T.setTop f) (T'.setTop f')) (k : Go p e below s kc ks Q T' f') : Go p e below s kc ks Q T f := by
  obtain ⟨s₂, o, h1, r⟩ := k
  exact ⟨s₂, o, h.trans h1, r⟩
theorem Go.cast (q : f = f') (k : Go p e below s kc ks Q T f') : Go p e below s kc ks Q T f := q ▸ k
theorem Go.enter {g : JFrame} {s₁ : State} (k : Go p e below s kc ks Q s₁ f) (q : g = f) :
    ∃ s₂ o, Steps p.tables e below (s₁.setTop g) s₂ ∧ s₂.status = .running ∧ Ended s₂ below o ∧ ∃ v L, o = .returned v ∧ Q v s₂.heap L ∧ FrameEnd s o s₂ L kc ks := by
  subst q; exact k
theorem Go.ret (X : Stand p l e R s m args below meth c T locs cells slots) (hx : p.tables.exec = Jvm.exec) {pc : Nat} {Ls : Array Slot} {w : Value} {t : FieldType} {i : Instr} {rest : List Value} (hret : meth.sig.returnType = some t) (hlk : meth.locks = false) (hn : narrow t w = w)
    (hi : (i = .ireturn ∧ (t = .int ∨ t = .boolean ∨ t = .byte ∨ t = .char ∨ t = .short) ∧ ∃ z, w = .int z) ∨ (i = .lreturn ∧ t = .long ∧ ∃ z, w = .long z) ∨ (i = .dreturn ∧ t = .double ∧ ∃ z, w = .double z) ∨ (i = .freturn ∧ t = .float ∧ ∃ z, w = .float z) ∨ (i = .areturn ∧ t.isReference = true ∧ w.isRef = true))
    (hd : decode c.code pc = .ok (i, 1)) (eT : T.heap = h) (hc : cells ≤ kc) (hs : slots ≤ ks) (hQ : Q (some w) h locs) : Go p e below s kc ks Q T (mkF m pc Ls (w :: rest)) := by
  obtain ⟨fs, hr, hrun, hended, hW, hsame⟩ := X.leave (v := some w) (fun q => by rw [hret] at q; cases q) hlk
  exact ⟨_, _, retOut X hx hret hn hi hd hr, hrun, hended, _, _, rfl, (by subst eT; exact hQ), ⟨_, rfl⟩, hW, hsame.mono hc hs⟩
theorem Go.retI (X : Stand p l e R s m args below meth c T locs cells slots) (hx : p.tables.exec = Jvm.exec) {pc : Nat} {Ls : Array Slot} {z : Int32} {rest : List Value} (hret : meth.sig.returnType = some .int) (hlk : meth.locks = false)
    (hd : decode c.code pc = .ok (.ireturn, 1)) (eT : T.heap = h) (hc : cells ≤ kc) (hs : slots ≤ ks) (hQ : Q (some (.int z)) h locs) : Go p e below s kc ks Q T (mkF m pc Ls (.int z :: rest)) :=
  Go.ret X hx hret hlk rfl (Or.inl ⟨rfl, Or.inl rfl, _, rfl⟩) hd eT hc hs hQ
theorem Go.retJ (X : Stand p l e R s m args below meth c T locs cells slots) (hx : p.tables.exec = Jvm.exec) {pc : Nat} {Ls : Array Slot} {z : Int64} {rest : List Value} (hret : meth.sig.returnType = some .long) (hlk : meth.locks = false)
    (hd : decode c.code pc = .ok (.lreturn, 1)) (eT : T.heap = h) (hc : cells ≤ kc) (hs : slots ≤ ks) (hQ : Q (some (.long z)) h locs) : Go p e below s kc ks Q T (mkF m pc Ls (.long z :: rest)) :=
  Go.ret X hx hret hlk rfl (Or.inr (Or.inl ⟨rfl, rfl, _, rfl⟩)) hd eT hc hs hQ
theorem Go.retA (X : Stand p l e R s m args below meth c T locs cells slots) (hx : p.tables.exec = Jvm.exec) {pc : Nat} {Ls : Array Slot} {w : Value} {t : FieldType} {rest : List Value} (hret : meth.sig.returnType = some t) (hlk : meth.locks = false) (ht : t.isReference = true) (hv : w.isRef = true)
    (hd : decode c.code pc = .ok (.areturn, 1)) (eT : T.heap = h) (hc : cells ≤ kc) (hs : slots ≤ ks) (hQ : Q (some w) h locs) : Go p e below s kc ks Q T (mkF m pc Ls (w :: rest)) :=
  Go.ret X hx hret hlk (by cases t <;> first | (cases ht; done) | (cases w <;> first | (cases hv; done) | rfl)) (Or.inr (Or.inr (Or.inr (Or.inr ⟨rfl, ht, hv⟩)))) hd eT hc hs hQ
theorem Go.retN (X : Stand p l e R s m args below meth c T locs cells slots) (hx : p.tables.exec = Jvm.exec) {pc : Nat} {Ls : Array Slot} {z : Int32} {t : FieldType} {rest : List Value} (hret : meth.sig.returnType = some t) (hlk : meth.locks = false) (ht : t = .boolean ∨ t = .byte ∨ t = .char ∨ t = .short)
    (hd : decode c.code pc = .ok (.ireturn, 1)) (eT : T.heap = h) (hc : cells ≤ kc) (hs : slots ≤ ks) (hQ : Q (some (.int (nar t z))) h locs) : Go p e below s kc ks Q T (mkF m pc Ls (.int z :: rest)) := by
  obtain ⟨fs, hr, hrun, hended, hW, hsame⟩ := X.leave (v := some (.int (nar t z))) (fun q => by rw [hret] at q; cases q) hlk
  exact ⟨_, _, Jvm.RoadKit.retN X hx hret ht hd hr, hrun, hended, _, _, rfl, (by subst eT; exact hQ), ⟨_, rfl⟩, hW, hsame.mono hc hs⟩
theorem Go.ret0 (X : Stand p l e R s m args below meth c T locs cells slots) (hx : p.tables.exec = Jvm.exec) {pc : Nat} {Ls : Array Slot} (hret : meth.sig.returnType = none) (hlk : meth.locks = false)
    (hd : decode c.code pc = .ok (.return_, 1)) (eT : T.heap = h) (hc : cells ≤ kc) (hs : slots ≤ ks) (hQ : Q none h locs) : Go p e below s kc ks Q T (mkF m pc Ls []) := by
  obtain ⟨fs, hr, hrun, hended, hW, hsame⟩ := X.leave (v := none) (fun _ => rfl) hlk
  exact ⟨_, _, X.returnOut hx hret hd hr, hrun, hended, _, _, rfl, (by subst eT; exact hQ), ⟨_, rfl⟩, hW, hsame.mono hc hs⟩
theorem own_selp {args' : Array Value} {y : MethodName} {n : Nat} (wi : (Cond.instantiable y.cls n).before args' s = true) (hpriv : s.PrivateAt y) (hinst : (Cond.instanceMethod y).before args' s = true) (hy : y.cls ≠ "java/lang/invoke/MethodHandle" ∧ y.cls ≠ "java/lang/invoke/VarHandle") : (Cond.selects y.cls y y).before args' s = true := by
  obtain ⟨c, k, h1, h2, -, h4, -⟩ := Cond.instantiable_spec wi
  exact selects_self_of_private h1 h2 (by simp only [Bool.or_eq_false_iff] at h4; exact h4.1) hpriv hinst hy
theorem own_mvMN {Z : State} {a0 args' : Array Value} {own host : String} {y : MethodName} {index : Nat} (hZ : Z.Warmed39 s.vm) (w : (Cond.methodLinkNest own index y host).before a0 Z = true) : (Cond.methodLinkNest own index y host).before args' s = true := (Cond.methodLinkNest_wide hZ w :)
theorem own_nar01 {z : Int32} (h : z = 0 ∨ z = 1) : nar .boolean z = z := by rcases h with rfl | rfl <;> decide
end OwnGo
end Jvm.RoadKit
namespace Jvm.Pilot.@@N@@
open Jvm Jvm.ClassFile Sem Op Lib Jvm.Free Jvm.Stand Jvm.LawKit Jvm.RoadKit Bundle Jvm.Pilot.@@N@@.Jvm.D
theorem own_tn {j : Int32} {n : Nat} (h0 : 0 ≤ j.toInt) (h1 : j.toInt < n) : j.toNatClampNeg < n := by simp only [Int32.toNatClampNeg]; omega
theorem own_tlt {a b : Int32} (h0 : ¬ a < 0) (h : a < b) : a.toNatClampNeg < b.toNatClampNeg := by
  rw [Int32.lt_iff_toInt_lt] at h0 h; have : (0 : Int32).toInt = 0 := rfl; simp only [Int32.toNatClampNeg]; omega
theorem own_tle {a b : Int32} (h : ¬ b < a) : a.toNatClampNeg ≤ b.toNatClampNeg := by
  rw [Int32.lt_iff_toInt_lt] at h; simp only [Int32.toNatClampNeg]; omega
theorem own_i2b2 (x : Int32) : x.toInt8.toInt32.toInt8.toInt32 = x.toInt8.toInt32 := by
  have := c_i2b x; have := c_i2b x.toInt8.toInt32
  rw [← Int32.toInt_inj]; omega
theorem own_g {l : List Value} {k : Nat} {x d : Value} (h : k < l.length) : (l.set k x).getD k d = x := by simp [List.getD_eq_getElem?_getD, h]
theorem own_n {l : List Value} {j k : Nat} {x d : Value} (h : k ≠ j) : (l.set k x).getD j d = l.getD j d := by simp [List.getD_eq_getElem?_getD, List.getElem?_set_ne h]
def own_imin (a b : Int32) : Int32 := if b < a then b else a
def own_cpl (vs : List Value) (c n : Nat) : List Value := (List.replicate n (Value.int 0)).take 0 ++ (List.range c).map (fun i => vs.getD (0 + i) (Value.int 0)) ++ (List.replicate n (Value.int 0)).drop (0 + c)
theorem own_cpl_len {vs : List Value} {c n : Nat} (h : c ≤ n) : (own_cpl vs c n).length = n := by simp [own_cpl]; omega
theorem own_cpl_at {vs : List Value} {c n i : Nat} (h : i < c) : (own_cpl vs c n).getD i (Value.int 0) = vs.getD i (Value.int 0) := by
  simp only [own_cpl, List.take_zero, List.nil_append, List.getD_eq_getElem?_getD]
  rw [List.getElem?_append_left (by simpa using h)]
  simp [h]
theorem d1_0 : decode prog_38_method_1_code 0 = .ok (.aload_n 0, 1) := by decide +kernel
theorem d1_1 : decode prog_38_method_1_code 1 = .ok (.invokespecial 5, 3) := by decide +kernel
theorem d1_4 : decode prog_38_method_1_code 4 = .ok (.aload_n 0, 1) := by decide +kernel
theorem d1_5 : decode prog_38_method_1_code 5 = .ok (.bipush 64, 2) := by decide +kernel
theorem d1_7 : decode prog_38_method_1_code 7 = .ok (.newarray .byte, 2) := by decide +kernel
theorem d1_9 : decode prog_38_method_1_code 9 = .ok (.putfield 11, 3) := by decide +kernel
theorem d1_12 : decode prog_38_method_1_code 12 = .ok (.return_, 1) := by decide +kernel
theorem pd___V : parseMethodDescriptor "()V" = some ⟨[], none⟩ := by decide +kernel
theorem pn_com_example_stitchwire_stitchwire_Output : plainName "com/example/stitchwire/stitchwire/Output" = true := by first | (simp [plainName, overriddenIn]; done) | decide +kernel
theorem ef_rmIn (m : MethodId) (ao : Addr) : entryFrame m #[(.ref ao)] 1 = mkF m 0 #[.val (.ref ao)] [] := by first | (simp [entryFrame, mkF, argsToLocals, Value.category]; done) | rfl
def Q_rmIn (Z : State) (ao : Addr) (h0 : Heap) (n0 : Nat) (v : Option Value) (h : Heap) (L : List Loc) : Prop := ∃ ab : Addr, ∃ kb : ClassId, (v = none) ∧ (Fr n0 L) ∧ (Keep h0 h [ao]) ∧ (h0.size ≤ ab) ∧ (Exa Z h ao "com/example/stitchwire/stitchwire/Output") ∧ (Fld Z h ao "com/example/stitchwire/stitchwire/Output" "buffer" "[B" (.ref ab)) ∧ (Fld Z h ao "com/example/stitchwire/stitchwire/Output" "size" "I" (.int (0 : Int32))) ∧ (Arv Z h ab kb .byte (64 : Int32) (List.replicate 64 (.int (0 : Int32))) (.int (0 : Int32)))
set_option maxRecDepth 65536 in
set_option maxHeartbeats 40000000 in
theorem rmIn (l : Launch) (Z : State) (a0 : Array Value) (hw : ∀ d ∈ tables_1, d.before a0 Z = true) (ws : List Jvm.Cond) (ao : Addr) (h0 : Heap) (n0 : Nat) (Z0 : n0 ≤ h0.size) (E0 : Exa Z h0 ao "com/example/stitchwire/stitchwire/Output") (Fb : Fld Z h0 ao "com/example/stitchwire/stitchwire/Output" "buffer" "[B" .null) (Fs : Fld Z h0 ao "com/example/stitchwire/stitchwire/Output" "size" "I" (.int (0 : Int32))) (g0 : n0 ≤ ao) :
    MetFree l (⟨"com/example/stitchwire/stitchwire/Output", "<init>", "()V"⟩ : MethodName) (head1 (Jvm.Cond.code (⟨"com/example/stitchwire/stitchwire/Output", "<init>", "()V"⟩ : MethodName) prog_38_method_1_code 1 none :: ws) ({ frames := 1, cells := 1, slots := 64, locals := 12 } : Room)) (fun aA U => aA = #[(.ref ao)] ∧ Z.Warmed39 U.vm ∧ U.heap = h0) (fun _ _ _ _ _ => True) (fun _ U o U' => ∃ v L, o = .returned v ∧ Q_rmIn Z ao h0 n0 v U'.heap L ∧ FrameEnd U o U' L ({ frames := 1, cells := 1, slots := 64, locals := 12 } : Room).cells ({ frames := 1, cells := 1, slots := 64, locals := 12 } : Room).slots) := by
  refine MetFree.of_bodySF (plainFor_of_name pn_com_example_stitchwire_stitchwire_Output) hisR ?_
  intro p e s m args below meth c s₁ Bd hml0 hP hK
  obtain ⟨rfl, hZ, hh⟩ := hP
  have hx := Bd.exec
  have hby := Bd.bytes
  have hml : c.maxLocals = 1 := hml0
  have hown : s.vm.findClass "com/example/stitchwire/stitchwire/Output" = some m.cls := findClass_of_methodNamed Bd.named
  have hnm := (name_of_methodNamed Bd.named Bd.method).1
  have hret := Bd.returns
  have hlk : meth.locks = false := BodyLoose.notSynchronized Bd
  have X0 : Stand p l e ({ frames := 1, cells := 1, slots := 64, locals := 12 } : Room) s m #[(.ref ao)] below meth c s₁ [] 0 0 := Stand.of_body Bd
  have e0 : s₁.heap = h0 := by rw [← hh, Bd.state]; rfl
  have N0 := Fr.nil n0
  suffices hgo : Go p e below s ({ frames := 1, cells := 1, slots := 64, locals := 12 } : Room).cells ({ frames := 1, cells := 1, slots := 64, locals := 12 } : Room).slots (Q_rmIn Z ao h0 n0) s₁ (mkF m 0 #[.val (.ref ao)] []) from hgo.enter (ef_rmIn m ao)
  refine Go.step (fun _ k => XS.aloadN X0.here hx rfl (hb hby d1_0) rfl rfl k) ?_
  show Go _ _ _ _ _ _ _ s₁ (mkF m 1 #[.val (.ref ao)] [(.ref ao)])
  obtain ⟨T1, X1, e1, st1⟩ := initO X0 hx hZ hown (hw _ (List.mem_of_getElem? (i := 7) rfl)) (hw _ (List.mem_of_getElem? (i := 8) rfl)) (hw _ (List.mem_of_getElem? (i := 9) rfl)) e0 (g := (mkF m 1 #[.val (.ref ao)] [(.ref ao)])) rfl (by rw [hml]; rfl) rfl (hb hby d1_1) (by decide) (W := 0) (by show 2 * 0 + _ ≤ _; exact Nat.le_of_eq rfl) (by decide)
  refine Go.step st1 ?_
  show Go _ _ _ _ _ _ _ T1 (mkF m 4 #[.val (.ref ao)] [])
  refine Go.step (fun _ k => XS.aloadN X1.here hx rfl (hb hby d1_4) rfl rfl k) ?_
  show Go _ _ _ _ _ _ _ T1 (mkF m 5 #[.val (.ref ao)] [(.ref ao)])
  refine Go.step (fun _ k => XS.bipush X1.here hx rfl (hb hby d1_5) k) ?_
  show Go _ _ _ _ _ _ _ T1 (mkF m 7 #[.val (.ref ao)] [(.int (64 : Int32)), (.ref ao)])
  obtain ⟨T2, h2, k2, X2, e2, E2, A2, st2⟩ := newP X1 hx hZ (hw _ (List.mem_of_getElem? (i := 10) rfl)) e1 (g := (mkF m 7 #[.val (.ref ao)] [(.int (64 : Int32)), (.ref ao)])) rfl (hb hby d1_7) rfl (by decide) (cap := 64) (by decide) (by decide) (by decide) (by decide)
  obtain ⟨b2, g2⟩ : ∃ z, z = h0.size := ⟨_, rfl⟩
  rw [← g2] at A2 st2
  refine Go.step st2 ?_
  have g_b2 : n0 ≤ b2 := Nat.le_trans Z0 (Nat.le_of_eq g2.symm)
  have sz_b2 : h0.size ≤ b2 := Nat.le_trans (Keep.refl h0 [ao]).1 (Nat.le_of_eq g2.symm)
  have ne_ao_b2 : ao ≠ b2 := Nat.ne_of_lt (Nat.lt_of_lt_of_le E0.lt (Nat.le_of_eq g2.symm))
  have Z2 : n0 ≤ h2.size := Nat.le_trans Z0 E2.1
  have KK2 : Keep h0 h2 [ao] := (Keep.refl h0 [ao]).ext E2
  have V2 : Arv Z h2 b2 k2 .byte (64 : Int32) [] (.int (0 : Int32)) := Arv.new A2 (by decide)
  have V3 : Arv Z h2 b2 k2 .byte (64 : Int32) (List.replicate 64 (.int (0 : Int32))) (.int (0 : Int32)) := (V2).pad (pad_rep [] (.int (0 : Int32)) 64)
  show Go _ _ _ _ _ _ _ T2 (mkF m 9 #[.val (.ref ao)] [(.ref b2), (.ref ao)])
  have f4 : Fld Z h2 ao "com/example/stitchwire/stitchwire/Output" "buffer" "[B" .null := (Fb.ext E2)
  have f5 : Exa Z h2 ao "com/example/stitchwire/stitchwire/Output" := (E0.ext E2)
  obtain ⟨T6, h6, X6, e6, W6, st6⟩ := putF X2 hx hZ hown (host := "") (Or.inl (hw _ (List.mem_of_getElem? (i := 11) rfl))) Via.refl e2 f4 f5 (Or.inl (hw _ (List.mem_of_getElem? (i := 12) rfl))) (hw _ (List.mem_of_getElem? (i := 2) rfl)) (ty := (.array .byte)) (by decide) rfl rfl (g := (mkF m 9 #[.val (.ref ao)] [(.ref b2), (.ref ao)])) rfl rfl (hb hby d1_9)
  refine Go.step st6 ?_
  have Fw6 := f4.same W6
  have N6 := Fr.snoc X6 N0 g0
  have Z6 : n0 ≤ h6.size := Nat.le_trans Z2 (Keep.of_wr W6).1
  have KK6 : Keep h0 h6 [ao] := KK2.wr W6 (Or.inl (List.mem_of_getElem? (i := 0) rfl))
  show Go _ _ _ _ _ _ _ T6 (mkF m 12 #[.val (.ref ao)] [])
  have f7 : Exa Z h6 ao "com/example/stitchwire/stitchwire/Output" := (f5.wr W6)
  have f8 : Fld Z h6 ao "com/example/stitchwire/stitchwire/Output" "size" "I" (.int (0 : Int32)) := ((Fs.ext E2).other W6 (Or.inr (slot_ne (a0 := a0) (C := "com/example/stitchwire/stitchwire/Output") (Or.inl (hw _ (List.mem_of_getElem? (i := 23) rfl))) (Or.inl (hw _ (List.mem_of_getElem? (i := 12) rfl))) (by decide) (t := .int) (t' := (.array .byte)) (by decide) (by decide))))
  have f9 : Arv Z h6 b2 k2 .byte (64 : Int32) (List.replicate 64 (.int (0 : Int32))) (.int (0 : Int32)) := (V3.other W6 (Ne.symm ne_ao_b2))
  exact Go.ret0 X6 hx hret hlk (hb hby d1_12) e6 (by decide) (by decide) ⟨b2, k2, rfl, N6, KK6, sz_b2, f7, Fw6, f8, f9⟩
theorem d4_0 : decode prog_38_method_33_code 0 = .ok (.iload_n 1, 1) := by decide +kernel
theorem d4_1 : decode prog_38_method_33_code 1 = .ok (.aload_n 0, 1) := by decide +kernel
theorem d4_2 : decode prog_38_method_33_code 2 = .ok (.getfield 11, 3) := by decide +kernel
theorem d4_5 : decode prog_38_method_33_code 5 = .ok (.arraylength, 1) := by decide +kernel
theorem d4_6 : decode prog_38_method_33_code 6 = .ok (.aload_n 0, 1) := by decide +kernel
theorem d4_7 : decode prog_38_method_33_code 7 = .ok (.getfield 15, 3) := by decide +kernel
theorem d4_10 : decode prog_38_method_33_code 10 = .ok (.isub, 1) := by decide +kernel
theorem d4_11 : decode prog_38_method_33_code 11 = .ok (.if_icmp .le 8, 3) := by decide +kernel
theorem d4_14 : decode prog_38_method_33_code 14 = .ok (.aload_n 0, 1) := by decide +kernel
theorem d4_15 : decode prog_38_method_33_code 15 = .ok (.iload_n 1, 1) := by decide +kernel
theorem d4_16 : decode prog_38_method_33_code 16 = .ok (.invokevirtual 263, 3) := by decide +kernel
theorem d4_19 : decode prog_38_method_33_code 19 = .ok (.return_, 1) := by decide +kernel
theorem ef_rmEn (m : MethodId) (ao : Addr) (nd : Int32) : entryFrame m #[(.ref ao), (.int nd)] 2 = mkF m 0 #[.val (.ref ao), .val (.int nd)] [] := by first | (simp [entryFrame, mkF, argsToLocals, Value.category]; done) | rfl
def Q_rmEn (Z : State) (ao : Addr) (nd : Int32) (ab : Addr) (kb : ClassId) (nN : Int32) (sz : Int32) (vs : List Value) (h0 : Heap) (n0 : Nat) (v : Option Value) (h : Heap) (L : List Loc) : Prop := (v = none) ∧ (Fr n0 L) ∧ (h = h0)
set_option maxRecDepth 65536 in
set_option maxHeartbeats 40000000 in
theorem rmEn (l : Launch) (Z : State) (a0 : Array Value) (hw : ∀ d ∈ tables_1, d.before a0 Z = true) (ws : List Jvm.Cond) (ao : Addr) (nd : Int32) (ab : Addr) (kb : ClassId) (nN : Int32) (sz : Int32) (vs : List Value) (h0 : Heap) (n0 : Nat) (Z0 : n0 ≤ h0.size) (E0 : Exa Z h0 ao "com/example/stitchwire/stitchwire/Output") (Fb : Fld Z h0 ao "com/example/stitchwire/stitchwire/Output" "buffer" "[B" (.ref ab)) (Fs : Fld Z h0 ao "com/example/stitchwire/stitchwire/Output" "size" "I" (.int sz)) (V0 : Arv Z h0 ab kb .byte nN vs (.int (0 : Int32))) (hn : ¬ ((nN - sz) < nd)) :
    MetFree l (⟨"com/example/stitchwire/stitchwire/Output", "ensureRoom", "(I)V"⟩ : MethodName) (head1 (Jvm.Cond.code (⟨"com/example/stitchwire/stitchwire/Output", "ensureRoom", "(I)V"⟩ : MethodName) prog_38_method_33_code 2 none :: ws) ({ frames := 0, cells := 0, slots := 0, locals := 0 } : Room)) (fun aA U => aA = #[(.ref ao), (.int nd)] ∧ Z.Warmed39 U.vm ∧ U.heap = h0) (fun _ _ _ _ _ => True) (fun _ U o U' => ∃ v L, o = .returned v ∧ Q_rmEn Z ao nd ab kb nN sz vs h0 n0 v U'.heap L ∧ FrameEnd U o U' L ({ frames := 0, cells := 0, slots := 0, locals := 0 } : Room).cells ({ frames := 0, cells := 0, slots := 0, locals := 0 } : Room).slots) := by
  refine MetFree.of_bodySF (plainFor_of_name pn_com_example_stitchwire_stitchwire_Output) hisR ?_
  intro p e s m args below meth c s₁ Bd hml0 hP hK
  obtain ⟨rfl, hZ, hh⟩ := hP
  have hx := Bd.exec
  have hby := Bd.bytes
  have hml : c.maxLocals = 2 := hml0
  have hown : s.vm.findClass "com/example/stitchwire/stitchwire/Output" = some m.cls := findClass_of_methodNamed Bd.named
  have hnm := (name_of_methodNamed Bd.named Bd.method).1
  have hret := Bd.returns
  have hlk : meth.locks = false := BodyLoose.notSynchronized Bd
  have X0 : Stand p l e ({ frames := 0, cells := 0, slots := 0, locals := 0 } : Room) s m #[(.ref ao), (.int nd)] below meth c s₁ [] 0 0 := Stand.of_body Bd
  have e0 : s₁.heap = h0 := by rw [← hh, Bd.state]; rfl
  have N0 := Fr.nil n0
  suffices hgo : Go p e below s ({ frames := 0, cells := 0, slots := 0, locals := 0 } : Room).cells ({ frames := 0, cells := 0, slots := 0, locals := 0 } : Room).slots (Q_rmEn Z ao nd ab kb nN sz vs h0 n0) s₁ (mkF m 0 #[.val (.ref ao), .val (.int nd)] []) from hgo.enter (ef_rmEn m ao nd)
  refine Go.step (fun _ k => XS.iloadN X0.here hx rfl (hb hby d4_0) rfl k) ?_
  show Go _ _ _ _ _ _ _ s₁ (mkF m 1 #[.val (.ref ao), .val (.int nd)] [(.int nd)])
  refine Go.step (fun _ k => XS.aloadN X0.here hx rfl (hb hby d4_1) rfl rfl k) ?_
  show Go _ _ _ _ _ _ _ s₁ (mkF m 2 #[.val (.ref ao), .val (.int nd)] [(.ref ao), (.int nd)])
  obtain ⟨T10, X10, e10, st10⟩ := getF X0 hx hZ hown (host := "") (Or.inl (hw _ (List.mem_of_getElem? (i := 11) rfl))) Via.refl e0 Fb (g := (mkF m 2 #[.val (.ref ao), .val (.int nd)] [(.ref ao), (.int nd)])) rfl rfl (hb hby d4_2)
  refine Go.step st10 ?_
  show Go _ _ _ _ _ _ _ T10 (mkF m 5 #[.val (.ref ao), .val (.int nd)] [(.ref ab), (.int nd)])
  obtain ⟨cl11, Ar11, -, S11, M11, -, -⟩ := id (V0)
  have al11 := X10.arraylength hx (by rw [e10]; exact Ar11.1) (State.isArrayOf_alike hZ.alike Ar11.2.1) (g := (mkF m 5 #[.val (.ref ao), .val (.int nd)] [(.ref ab), (.int nd)])) rfl rfl (hb hby d4_5)
  rw [len_of S11 M11] at al11
  refine Go.step al11 ?_
  show Go _ _ _ _ _ _ _ T10 (mkF m 6 #[.val (.ref ao), .val (.int nd)] [(.int nN), (.int nd)])
  refine Go.step (fun _ k => XS.aloadN X10.here hx rfl (hb hby d4_6) rfl rfl k) ?_
  show Go _ _ _ _ _ _ _ T10 (mkF m 7 #[.val (.ref ao), .val (.int nd)] [(.ref ao), (.int nN), (.int nd)])
  obtain ⟨T12, X12, e12, st12⟩ := getF X10 hx hZ hown (host := "") (Or.inl (hw _ (List.mem_of_getElem? (i := 22) rfl))) Via.refl e10 Fs (g := (mkF m 7 #[.val (.ref ao), .val (.int nd)] [(.ref ao), (.int nN), (.int nd)])) rfl rfl (hb hby d4_7)
  refine Go.step st12 ?_
  show Go _ _ _ _ _ _ _ T12 (mkF m 10 #[.val (.ref ao), .val (.int nd)] [(.int sz), (.int nN), (.int nd)])
  refine Go.step (fun _ k => XS.isub X12.here hx rfl (hb hby d4_10) rfl k) ?_
  show Go _ _ _ _ _ _ _ T12 (mkF m 11 #[.val (.ref ao), .val (.int nd)] [(.int (nN - sz)), (.int nd)])
  have hc11_13 : ¬ ((nN - sz) < nd) := hn
  refine Go.step (fun _ k => XS.icmpYes X12.here hx rfl (pc0 := 11) (pc' := 19) rfl (hb hby d4_11) rfl (flt hc11_13).2.2.2 (by decide) (by decide) k) ?_
  show Go _ _ _ _ _ _ _ T12 (mkF m 19 #[.val (.ref ao), .val (.int nd)] [])
  exact Go.ret0 X12 hx hret hlk (hb hby d4_19) e12 (by decide) (by decide) ⟨rfl, N0, rfl⟩
theorem d3_0 : decode prog_38_method_7_code 0 = .ok (.aload_n 0, 1) := by decide +kernel
theorem d3_1 : decode prog_38_method_7_code 1 = .ok (.iconst 1, 1) := by decide +kernel
theorem d3_2 : decode prog_38_method_7_code 2 = .ok (.invokevirtual 64, 3) := by decide +kernel
theorem d3_5 : decode prog_38_method_7_code 5 = .ok (.aload_n 0, 1) := by decide +kernel
theorem d3_6 : decode prog_38_method_7_code 6 = .ok (.getfield 11, 3) := by decide +kernel
theorem d3_9 : decode prog_38_method_7_code 9 = .ok (.aload_n 0, 1) := by decide +kernel
theorem d3_10 : decode prog_38_method_7_code 10 = .ok (.dup, 1) := by decide +kernel
theorem d3_11 : decode prog_38_method_7_code 11 = .ok (.getfield 15, 3) := by decide +kernel
theorem d3_14 : decode prog_38_method_7_code 14 = .ok (.dup_x1, 1) := by decide +kernel
theorem d3_15 : decode prog_38_method_7_code 15 = .ok (.iconst 1, 1) := by decide +kernel
theorem d3_16 : decode prog_38_method_7_code 16 = .ok (.iadd, 1) := by decide +kernel
theorem d3_17 : decode prog_38_method_7_code 17 = .ok (.putfield 15, 3) := by decide +kernel
theorem d3_20 : decode prog_38_method_7_code 20 = .ok (.iload_n 1, 1) := by decide +kernel
theorem d3_21 : decode prog_38_method_7_code 21 = .ok (.i2b, 1) := by decide +kernel
theorem d3_22 : decode prog_38_method_7_code 22 = .ok (.bastore, 1) := by decide +kernel
theorem d3_23 : decode prog_38_method_7_code 23 = .ok (.return_, 1) := by decide +kernel
theorem pd__I_V : parseMethodDescriptor "(I)V" = some ⟨[.int], none⟩ := by decide +kernel
theorem ef_rmWb (m : MethodId) (ao : Addr) (iv : Int32) : entryFrame m #[(.ref ao), (.int iv)] 2 = mkF m 0 #[.val (.ref ao), .val (.int iv)] [] := by first | (simp [entryFrame, mkF, argsToLocals, Value.category]; done) | rfl
def Q_rmWb (Z : State) (ao : Addr) (iv : Int32) (ab : Addr) (kb : ClassId) (nN : Int32) (sz : Int32) (vs : List Value) (h0 : Heap) (n0 : Nat) (v : Option Value) (h : Heap) (L : List Loc) : Prop := (v = none) ∧ (Fr n0 L) ∧ (Keep h0 h [ao, ab]) ∧ (Exa Z h ao "com/example/stitchwire/stitchwire/Output") ∧ (Fld Z h ao "com/example/stitchwire/stitchwire/Output" "buffer" "[B" (.ref ab)) ∧ (Fld Z h ao "com/example/stitchwire/stitchwire/Output" "size" "I" (.int (sz + (1 : Int32)))) ∧ (Arv Z h ab kb .byte nN (vs.set sz.toNatClampNeg (.int (nar .byte iv.toInt8.toInt32))) (.int (0 : Int32)))
set_option maxRecDepth 65536 in
set_option maxHeartbeats 40000000 in
theorem rmWb (l : Launch) (Z : State) (a0 : Array Value) (hw : ∀ d ∈ tables_1, d.before a0 Z = true) (ws : List Jvm.Cond) (ao : Addr) (iv : Int32) (ab : Addr) (kb : ClassId) (nN : Int32) (sz : Int32) (vs : List Value) (h0 : Heap) (n0 : Nat) (Z0 : n0 ≤ h0.size) (E0 : Exa Z h0 ao "com/example/stitchwire/stitchwire/Output") (Fb : Fld Z h0 ao "com/example/stitchwire/stitchwire/Output" "buffer" "[B" (.ref ab)) (Fs : Fld Z h0 ao "com/example/stitchwire/stitchwire/Output" "size" "I" (.int sz)) (V0 : Arv Z h0 ab kb .byte nN vs (.int (0 : Int32))) (g0 : n0 ≤ ao) (g1 : n0 ≤ ab) (ne0 : ao ≠ ab) (hlen : vs.length = nN.toNatClampNeg) (hn : ¬ ((nN - sz) < (1 : Int32))) (hs0 : ¬ (sz < (0 : Int32))) (hs1 : sz < nN) :
    MetFree l (⟨"com/example/stitchwire/stitchwire/Output", "writeByte", "(I)V"⟩ : MethodName) (head1 (Jvm.Cond.code (⟨"com/example/stitchwire/stitchwire/Output", "writeByte", "(I)V"⟩ : MethodName) prog_38_method_7_code 2 none :: ws) ({ frames := 1, cells := 0, slots := 0, locals := 13 } : Room)) (fun aA U => aA = #[(.ref ao), (.int iv)] ∧ Z.Warmed39 U.vm ∧ U.heap = h0) (fun _ _ _ _ _ => True) (fun _ U o U' => ∃ v L, o = .returned v ∧ Q_rmWb Z ao iv ab kb nN sz vs h0 n0 v U'.heap L ∧ FrameEnd U o U' L ({ frames := 1, cells := 0, slots := 0, locals := 13 } : Room).cells ({ frames := 1, cells := 0, slots := 0, locals := 13 } : Room).slots) := by
  refine MetFree.of_bodySF (plainFor_of_name pn_com_example_stitchwire_stitchwire_Output) hisR ?_
  intro p e s m args below meth c s₁ Bd hml0 hP hK
  obtain ⟨rfl, hZ, hh⟩ := hP
  have hx := Bd.exec
  have hby := Bd.bytes
  have hml : c.maxLocals = 2 := hml0
  have hown : s.vm.findClass "com/example/stitchwire/stitchwire/Output" = some m.cls := findClass_of_methodNamed Bd.named
  have hnm := (name_of_methodNamed Bd.named Bd.method).1
  have hret := Bd.returns
  have hlk : meth.locks = false := BodyLoose.notSynchronized Bd
  have X0 : Stand p l e ({ frames := 1, cells := 0, slots := 0, locals := 13 } : Room) s m #[(.ref ao), (.int iv)] below meth c s₁ [] 0 0 := Stand.of_body Bd
  have e0 : s₁.heap = h0 := by rw [← hh, Bd.state]; rfl
  have N0 := Fr.nil n0
  suffices hgo : Go p e below s ({ frames := 1, cells := 0, slots := 0, locals := 13 } : Room).cells ({ frames := 1, cells := 0, slots := 0, locals := 13 } : Room).slots (Q_rmWb Z ao iv ab kb nN sz vs h0 n0) s₁ (mkF m 0 #[.val (.ref ao), .val (.int iv)] []) from hgo.enter (ef_rmWb m ao iv)
  refine Go.step (fun _ k => XS.aloadN X0.here hx rfl (hb hby d3_0) rfl rfl k) ?_
  show Go _ _ _ _ _ _ _ s₁ (mkF m 1 #[.val (.ref ao), .val (.int iv)] [(.ref ao)])
  refine Go.step (fun _ k => XS.iconst X0.here hx rfl (hb hby d3_1) k) ?_
  show Go _ _ _ _ _ _ _ s₁ (mkF m 2 #[.val (.ref ao), .val (.int iv)] [(.int (1 : Int32)), (.ref ao)])
  obtain ⟨cq14, q14, q14'⟩ := E0.cell
  obtain ⟨_, _, ⟨T14, L14, k14, n14⟩, -, X14, ⟨Lc14, hQ14, l14, y14, z14⟩, st14⟩ := X0.privateBack hx (y := (⟨"com/example/stitchwire/stitchwire/Output", "ensureRoom", "(I)V"⟩ : MethodName)) hown (mvT hZ (hw _ (List.mem_of_getElem? (i := 18) rfl))) (mvT hZ (hw _ (List.mem_of_getElem? (i := 19) rfl))) (own_selp (mvT hZ (hw _ (List.mem_of_getElem? (i := 2) rfl))) (Cond.privateMethod_at (mvP hZ (hw _ (List.mem_of_getElem? (i := 20) rfl)) (args := #[]))) (mvT hZ (hw _ (List.mem_of_getElem? (i := 19) rfl))) (by decide)) (Cond.privateMethod_at (mvP hZ (hw _ (List.mem_of_getElem? (i := 20) rfl)) (args := #[]))) (mvT hZ (hw _ (List.mem_of_getElem? (i := 21) rfl))) (by decide) (backOf (W := 0) (rmEn l Z a0 hw [] ao (1 : Int32) ab kb nN sz vs h0 n0 Z0 E0 Fb Fs V0 hn) hZ (hw _ (List.mem_of_getElem? (i := 21) rfl)) (hw _ (List.mem_of_getElem? (i := 3) rfl)) (by decide) (by decide)) (g := (mkF m 2 #[.val (.ref ao), .val (.int iv)] [(.int (1 : Int32)), (.ref ao)])) rfl (by rw [hml]; rfl) (Steps.refl _) (a := ao) (by rw [e0]; exact q14) q14' (argsL := [(.int (1 : Int32))]) (rest := []) (lenOf pd__I_V rfl) rfl (by show 2 * 0 + _ ≤ _; exact Nat.le_of_eq rfl) (hb hby d3_2) (fun _ _ => ⟨rfl, e0, (by decide : 0 + 0 ≤ _), (by decide : 0 + 0 ≤ _)⟩)
  dsimp only [Pt.U, Pt.locs, Pt.cells, Pt.slots] at X14 l14 y14 z14 st14 hQ14
  subst l14 y14 z14
  obtain ⟨h14, e14⟩ : ∃ h, T14.heap = h := ⟨_, rfl⟩
  rw [e14] at hQ14
  obtain ⟨rfl, Nq14, hs14⟩ := hQ14
  have N14 := Fr.app N0 Nq14
  rw [hs14] at e14
  refine Go.trans st14 ?_
  show Go _ _ _ _ _ _ _ T14 (mkF m 5 #[.val (.ref ao), .val (.int iv)] [])
  refine Go.step (fun _ k => XS.aloadN X14.here hx rfl (hb hby d3_5) rfl rfl k) ?_
  show Go _ _ _ _ _ _ _ T14 (mkF m 6 #[.val (.ref ao), .val (.int iv)] [(.ref ao)])
  obtain ⟨T15, X15, e15, st15⟩ := getF X14 hx hZ hown (host := "") (Or.inl (hw _ (List.mem_of_getElem? (i := 11) rfl))) Via.refl e14 Fb (g := (mkF m 6 #[.val (.ref ao), .val (.int iv)] [(.ref ao)])) rfl rfl (hb hby d3_6)
  refine Go.step st15 ?_
  show Go _ _ _ _ _ _ _ T15 (mkF m 9 #[.val (.ref ao), .val (.int iv)] [(.ref ab)])
  refine Go.step (fun _ k => XS.aloadN X15.here hx rfl (hb hby d3_9) rfl rfl k) ?_
  show Go _ _ _ _ _ _ _ T15 (mkF m 10 #[.val (.ref ao), .val (.int iv)] [(.ref ao), (.ref ab)])
  refine Go.step (fun _ k => XS.dup X15.here hx rfl (hb hby d3_10) rfl rfl k) ?_
  show Go _ _ _ _ _ _ _ T15 (mkF m 11 #[.val (.ref ao), .val (.int iv)] [(.ref ao), (.ref ao), (.ref ab)])
  obtain ⟨T16, X16, e16, st16⟩ := getF X15 hx hZ hown (host := "") (Or.inl (hw _ (List.mem_of_getElem? (i := 22) rfl))) Via.refl e15 Fs (g := (mkF m 11 #[.val (.ref ao), .val (.int iv)] [(.ref ao), (.ref ao), (.ref ab)])) rfl rfl (hb hby d3_11)
  refine Go.step st16 ?_
  show Go _ _ _ _ _ _ _ T16 (mkF m 14 #[.val (.ref ao), .val (.int iv)] [(.int sz), (.ref ao), (.ref ab)])
  refine Go.step (fun _ k => XS.dupX1 X16.here hx rfl (hb hby d3_14) rfl rfl rfl k) ?_
  show Go _ _ _ _ _ _ _ T16 (mkF m 15 #[.val (.ref ao), .val (.int iv)] [(.int sz), (.ref ao), (.int sz), (.ref ab)])
  refine Go.step (fun _ k => XS.iconst X16.here hx rfl (hb hby d3_15) k) ?_
  show Go _ _ _ _ _ _ _ T16 (mkF m 16 #[.val (.ref ao), .val (.int iv)] [(.int (1 : Int32)), (.int sz), (.ref ao), (.int sz), (.ref ab)])
  refine Go.step (fun _ k => XS.iadd X16.here hx rfl (hb hby d3_16) rfl k) ?_
  show Go _ _ _ _ _ _ _ T16 (mkF m 17 #[.val (.ref ao), .val (.int iv)] [(.int (sz + (1 : Int32))), (.ref ao), (.int sz), (.ref ab)])
  obtain ⟨T17, h17, X17, e17, W17, st17⟩ := putF X16 hx hZ hown (host := "") (Or.inl (hw _ (List.mem_of_getElem? (i := 22) rfl))) Via.refl e16 Fs E0 (Or.inl (hw _ (List.mem_of_getElem? (i := 23) rfl))) (hw _ (List.mem_of_getElem? (i := 2) rfl)) (ty := .int) (by decide) rfl rfl (g := (mkF m 17 #[.val (.ref ao), .val (.int iv)] [(.int (sz + (1 : Int32))), (.ref ao), (.int sz), (.ref ab)])) rfl rfl (hb hby d3_17)
  refine Go.step st17 ?_
  have Fw17 := Fs.same W17
  have N17 := Fr.snoc X17 N14 g0
  have Z17 : n0 ≤ h17.size := Nat.le_trans Z0 (Keep.of_wr W17).1
  have KK17 : Keep h0 h17 [ao, ab] := (Keep.refl h0 [ao, ab]).wr W17 (Or.inl (List.mem_of_getElem? (i := 0) rfl))
  show Go _ _ _ _ _ _ _ T17 (mkF m 20 #[.val (.ref ao), .val (.int iv)] [(.int sz), (.ref ab)])
  refine Go.step (fun _ k => XS.iloadN X17.here hx rfl (hb hby d3_20) rfl k) ?_
  show Go _ _ _ _ _ _ _ T17 (mkF m 21 #[.val (.ref ao), .val (.int iv)] [(.int iv), (.int sz), (.ref ab)])
  refine Go.step (fun _ k => XS.i2b X17.here hx rfl (hb hby d3_21) rfl k) ?_
  show Go _ _ _ _ _ _ _ T17 (mkF m 22 #[.val (.ref ao), .val (.int iv)] [(.int (iv.toInt8.toInt32)), (.int sz), (.ref ab)])
  have f18 : Arv Z h17 ab kb .byte nN vs (.int (0 : Int32)) := (V0.other W17 (Ne.symm ne0))
  obtain ⟨cl19, Ar19, q19, S19, M19, H19, G19⟩ := id (f18)
  have hin19 : ¬ (sz < 0 ∨ cl19.slots.size ≤ (sz).toNatClampNeg) := inb_of S19 ⟨hs0, hs1⟩
  obtain ⟨T19, h19, X19, e19, W19, st19⟩ := stB X17 hx hZ e17 Ar19 (j := sz) hin19 (g := (mkF m 22 #[.val (.ref ao), .val (.int iv)] [(.int (iv.toInt8.toInt32)), (.int sz), (.ref ab)])) rfl rfl (hb hby d3_22)
  refine Go.step st19 ?_
  have V19 : Arv Z h19 ab kb .byte nN (vs.set sz.toNatClampNeg (.int (nar .byte (iv.toInt8.toInt32)))) (.int (0 : Int32)) := Arv.set Ar19 q19 S19 M19 H19 G19 (fits_nar_byte _) W19 sz.toNatClampNeg rfl (hlen ▸ own_tlt hs0 hs1)
  have N19 := Fr.snoc X19 N17 g1
  have Z19 : n0 ≤ h19.size := Nat.le_trans Z17 (Keep.of_wr W19).1
  have KK19 : Keep h0 h19 [ao, ab] := KK17.wr W19 (Or.inl (List.mem_of_getElem? (i := 1) rfl))
  show Go _ _ _ _ _ _ _ T19 (mkF m 23 #[.val (.ref ao), .val (.int iv)] [])
  have f20 : Exa Z h19 ao "com/example/stitchwire/stitchwire/Output" := ((E0.wr W17).wr W19)
  have f21 : Fld Z h19 ao "com/example/stitchwire/stitchwire/Output" "buffer" "[B" (.ref ab) := ((Fb.other W17 (Or.inr (slot_ne (a0 := a0) (C := "com/example/stitchwire/stitchwire/Output") (Or.inl (hw _ (List.mem_of_getElem? (i := 12) rfl))) (Or.inl (hw _ (List.mem_of_getElem? (i := 23) rfl))) (by decide) (t := (.array .byte)) (t' := .int) (by decide) (by decide)))).other W19 (Or.inl ne0))
  have f22 : Fld Z h19 ao "com/example/stitchwire/stitchwire/Output" "size" "I" (.int (sz + (1 : Int32))) := (Fw17.other W19 (Or.inl ne0))
  exact Go.ret0 X19 hx hret hlk (hb hby d3_23) e19 (by decide) (by decide) ⟨rfl, N19, KK19, f20, f21, f22, V19⟩
theorem d6_0 : decode prog_38_method_4_code 0 = .ok (.aload_n 0, 1) := by decide +kernel
theorem d6_1 : decode prog_38_method_4_code 1 = .ok (.getfield 15, 3) := by decide +kernel
theorem d6_4 : decode prog_38_method_4_code 4 = .ok (.ireturn, 1) := by decide +kernel
theorem ef_rmSi (m : MethodId) (ao : Addr) : entryFrame m #[(.ref ao)] 1 = mkF m 0 #[.val (.ref ao)] [] := by first | (simp [entryFrame, mkF, argsToLocals, Value.category]; done) | rfl
def Q_rmSi (Z : State) (ao : Addr) (sz : Int32) (h0 : Heap) (n0 : Nat) (v : Option Value) (h : Heap) (L : List Loc) : Prop := (v = some (.int sz)) ∧ (Fr n0 L) ∧ (h = h0)
set_option maxRecDepth 65536 in
set_option maxHeartbeats 40000000 in
theorem rmSi (l : Launch) (Z : State) (a0 : Array Value) (hw : ∀ d ∈ tables_1, d.before a0 Z = true) (ws : List Jvm.Cond) (ao : Addr) (sz : Int32) (h0 : Heap) (n0 : Nat) (Z0 : n0 ≤ h0.size) (E0 : Exa Z h0 ao "com/example/stitchwire/stitchwire/Output") (Fs : Fld Z h0 ao "com/example/stitchwire/stitchwire/Output" "size" "I" (.int sz)) :
    MetFree l (⟨"com/example/stitchwire/stitchwire/Output", "size", "()I"⟩ : MethodName) (head1 (Jvm.Cond.code (⟨"com/example/stitchwire/stitchwire/Output", "size", "()I"⟩ : MethodName) prog_38_method_4_code 1 (some .int) :: ws) ({ frames := 0, cells := 0, slots := 0, locals := 0 } : Room)) (fun aA U => aA = #[(.ref ao)] ∧ Z.Warmed39 U.vm ∧ U.heap = h0) (fun _ _ _ _ _ => True) (fun _ U o U' => ∃ v L, o = .returned v ∧ Q_rmSi Z ao sz h0 n0 v U'.heap L ∧ FrameEnd U o U' L ({ frames := 0, cells := 0, slots := 0, locals := 0 } : Room).cells ({ frames := 0, cells := 0, slots := 0, locals := 0 } : Room).slots) := by
  refine MetFree.of_bodySF (plainFor_of_name pn_com_example_stitchwire_stitchwire_Output) hisR ?_
  intro p e s m args below meth c s₁ Bd hml0 hP hK
  obtain ⟨rfl, hZ, hh⟩ := hP
  have hx := Bd.exec
  have hby := Bd.bytes
  have hml : c.maxLocals = 1 := hml0
  have hown : s.vm.findClass "com/example/stitchwire/stitchwire/Output" = some m.cls := findClass_of_methodNamed Bd.named
  have hnm := (name_of_methodNamed Bd.named Bd.method).1
  have hret := Bd.returns
  have hlk : meth.locks = false := BodyLoose.notSynchronized Bd
  have X0 : Stand p l e ({ frames := 0, cells := 0, slots := 0, locals := 0 } : Room) s m #[(.ref ao)] below meth c s₁ [] 0 0 := Stand.of_body Bd
  have e0 : s₁.heap = h0 := by rw [← hh, Bd.state]; rfl
  have N0 := Fr.nil n0
  suffices hgo : Go p e below s ({ frames := 0, cells := 0, slots := 0, locals := 0 } : Room).cells ({ frames := 0, cells := 0, slots := 0, locals := 0 } : Room).slots (Q_rmSi Z ao sz h0 n0) s₁ (mkF m 0 #[.val (.ref ao)] []) from hgo.enter (ef_rmSi m ao)
  refine Go.step (fun _ k => XS.aloadN X0.here hx rfl (hb hby d6_0) rfl rfl k) ?_
  show Go _ _ _ _ _ _ _ s₁ (mkF m 1 #[.val (.ref ao)] [(.ref ao)])
  obtain ⟨T23, X23, e23, st23⟩ := getF X0 hx hZ hown (host := "") (Or.inl (hw _ (List.mem_of_getElem? (i := 22) rfl))) Via.refl e0 Fs (g := (mkF m 1 #[.val (.ref ao)] [(.ref ao)])) rfl rfl (hb hby d6_1)
  refine Go.step st23 ?_
  show Go _ _ _ _ _ _ _ T23 (mkF m 4 #[.val (.ref ao)] [(.int sz)])
  exact Go.retI X23 hx hret hlk (hb hby d6_4) e23 (by decide) (by decide) ⟨rfl, N0, rfl⟩
theorem d9_0 : decode jdk_29_method_69_code 0 = .ok (.iload_n 0, 1) := by decide +kernel
theorem d9_1 : decode jdk_29_method_69_code 1 = .ok (.iload_n 1, 1) := by decide +kernel
theorem d9_2 : decode jdk_29_method_69_code 2 = .ok (.if_icmp .gt 7, 3) := by decide +kernel
theorem d9_5 : decode jdk_29_method_69_code 5 = .ok (.iload_n 0, 1) := by decide +kernel
theorem d9_6 : decode jdk_29_method_69_code 6 = .ok (.goto 4, 3) := by decide +kernel
theorem d9_9 : decode jdk_29_method_69_code 9 = .ok (.iload_n 1, 1) := by decide +kernel
theorem d9_10 : decode jdk_29_method_69_code 10 = .ok (.ireturn, 1) := by decide +kernel
theorem ef_rmMi (m : MethodId) (ia : Int32) (ib : Int32) : entryFrame m #[(.int ia), (.int ib)] 2 = mkF m 0 #[.val (.int ia), .val (.int ib)] [] := by first | (simp [entryFrame, mkF, argsToLocals, Value.category]; done) | rfl
def Q_rmMi (Z : State) (ia : Int32) (ib : Int32) (h0 : Heap) (n0 : Nat) (v : Option Value) (h : Heap) (L : List Loc) : Prop := (v = some (.int (own_imin ia ib))) ∧ (Fr n0 L) ∧ (h = h0)
set_option maxRecDepth 65536 in
set_option maxHeartbeats 40000000 in
theorem rmMi (l : Launch) (Z : State) (a0 : Array Value) (hw : ∀ d ∈ tables_1, d.before a0 Z = true) (ws : List Jvm.Cond) (ia : Int32) (ib : Int32) (h0 : Heap) (n0 : Nat) (Z0 : n0 ≤ h0.size) :
    MetFree l (⟨"java/lang/Math", "min", "(II)I"⟩ : MethodName) (head1 (Jvm.Cond.code (⟨"java/lang/Math", "min", "(II)I"⟩ : MethodName) jdk_29_method_69_code 2 (some .int) :: ws) ({ frames := 0, cells := 0, slots := 0, locals := 0 } : Room)) (fun aA U => aA = #[(.int ia), (.int ib)] ∧ Z.Warmed39 U.vm ∧ U.heap = h0) (fun _ _ _ _ _ => True) (fun _ U o U' => ∃ v L, o = .returned v ∧ Q_rmMi Z ia ib h0 n0 v U'.heap L ∧ FrameEnd U o U' L ({ frames := 0, cells := 0, slots := 0, locals := 0 } : Room).cells ({ frames := 0, cells := 0, slots := 0, locals := 0 } : Room).slots) := by
  refine MetFree.of_bodySF (Jvm.Free.JP.mathPlain rfl (by decide +kernel)) hisR ?_
  intro p e s m args below meth c s₁ Bd hml0 hP hK
  obtain ⟨rfl, hZ, hh⟩ := hP
  have hx := Bd.exec
  have hby := Bd.bytes
  have hml : c.maxLocals = 2 := hml0
  have hown : s.vm.findClass "java/lang/Math" = some m.cls := findClass_of_methodNamed Bd.named
  have hnm := (name_of_methodNamed Bd.named Bd.method).1
  have hret := Bd.returns
  have hlk : meth.locks = false := BodyLoose.notSynchronized Bd
  have X0 : Stand p l e ({ frames := 0, cells := 0, slots := 0, locals := 0 } : Room) s m #[(.int ia), (.int ib)] below meth c s₁ [] 0 0 := Stand.of_body Bd
  have e0 : s₁.heap = h0 := by rw [← hh, Bd.state]; rfl
  have N0 := Fr.nil n0
  suffices hgo : Go p e below s ({ frames := 0, cells := 0, slots := 0, locals := 0 } : Room).cells ({ frames := 0, cells := 0, slots := 0, locals := 0 } : Room).slots (Q_rmMi Z ia ib h0 n0) s₁ (mkF m 0 #[.val (.int ia), .val (.int ib)] []) from hgo.enter (ef_rmMi m ia ib)
  refine Go.step (fun _ k => XS.iloadN X0.here hx rfl (hb hby d9_0) rfl k) ?_
  show Go _ _ _ _ _ _ _ s₁ (mkF m 1 #[.val (.int ia), .val (.int ib)] [(.int ia)])
  refine Go.step (fun _ k => XS.iloadN X0.here hx rfl (hb hby d9_1) rfl k) ?_
  show Go _ _ _ _ _ _ _ s₁ (mkF m 2 #[.val (.int ia), .val (.int ib)] [(.int ib), (.int ia)])
  by_cases hc2_24 : ib < ia
  · refine Go.step (fun _ k => XS.icmpYes X0.here hx rfl (pc0 := 2) (pc' := 9) rfl (hb hby d9_2) rfl (tlt hc2_24).2.2.1 (by decide) (by decide) k) ?_
    show Go _ _ _ _ _ _ _ s₁ (mkF m 9 #[.val (.int ia), .val (.int ib)] [])
    refine Go.step (fun _ k => XS.iloadN X0.here hx rfl (hb hby d9_9) rfl k) ?_
    show Go _ _ _ _ _ _ _ s₁ (mkF m 10 #[.val (.int ia), .val (.int ib)] [(.int ib)])
    exact Go.retI X0 hx hret hlk (hb hby d9_10) e0 (by decide) (by decide) ⟨(congrArg (fun z => some (Value.int z)) (if_pos hc2_24).symm), N0, rfl⟩
  · refine Go.step (fun _ k => XS.icmpNo X0.here hx rfl (hb hby d9_2) rfl (flt hc2_24).2.2.1 k) ?_
    show Go _ _ _ _ _ _ _ s₁ (mkF m 5 #[.val (.int ia), .val (.int ib)] [])
    refine Go.step (fun _ k => XS.iloadN X0.here hx rfl (hb hby d9_5) rfl k) ?_
    show Go _ _ _ _ _ _ _ s₁ (mkF m 6 #[.val (.int ia), .val (.int ib)] [(.int ia)])
    refine Go.step (fun _ k => XS.goto X0.here hx rfl (pc0 := 6) (pc' := 10) rfl (hb hby d9_6) (by decide) (by decide) k) ?_
    show Go _ _ _ _ _ _ _ s₁ (mkF m 10 #[.val (.int ia), .val (.int ib)] [(.int ia)])
    exact Go.retI X0 hx hret hlk (hb hby d9_10) e0 (by decide) (by decide) ⟨(congrArg (fun z => some (Value.int z)) (if_neg hc2_24).symm), N0, rfl⟩
theorem d8_0 : decode jdk_65_method_121_code 0 = .ok (.iload_n 1, 1) := by decide +kernel
theorem d8_1 : decode jdk_65_method_121_code 1 = .ok (.aload_n 0, 1) := by decide +kernel
theorem d8_2 : decode jdk_65_method_121_code 2 = .ok (.arraylength, 1) := by decide +kernel
theorem d8_3 : decode jdk_65_method_121_code 3 = .ok (.if_icmp .ne 11, 3) := by decide +kernel
theorem d8_6 : decode jdk_65_method_121_code 6 = .ok (.aload_n 0, 1) := by decide +kernel
theorem d8_7 : decode jdk_65_method_121_code 7 = .ok (.invokevirtual 310, 3) := by decide +kernel
theorem d8_10 : decode jdk_65_method_121_code 10 = .ok (.checkcast 311, 3) := by decide +kernel
theorem d8_13 : decode jdk_65_method_121_code 13 = .ok (.areturn, 1) := by decide +kernel
theorem d8_14 : decode jdk_65_method_121_code 14 = .ok (.iload_n 1, 1) := by decide +kernel
theorem d8_15 : decode jdk_65_method_121_code 15 = .ok (.newarray .byte, 2) := by decide +kernel
theorem d8_17 : decode jdk_65_method_121_code 17 = .ok (.astore_n 2, 1) := by decide +kernel
theorem d8_18 : decode jdk_65_method_121_code 18 = .ok (.aload_n 0, 1) := by decide +kernel
theorem d8_19 : decode jdk_65_method_121_code 19 = .ok (.iconst 0, 1) := by decide +kernel
theorem d8_20 : decode jdk_65_method_121_code 20 = .ok (.aload_n 2, 1) := by decide +kernel
theorem d8_21 : decode jdk_65_method_121_code 21 = .ok (.iconst 0, 1) := by decide +kernel
theorem d8_22 : decode jdk_65_method_121_code 22 = .ok (.aload_n 0, 1) := by decide +kernel
theorem d8_23 : decode jdk_65_method_121_code 23 = .ok (.arraylength, 1) := by decide +kernel
theorem d8_24 : decode jdk_65_method_121_code 24 = .ok (.iload_n 1, 1) := by decide +kernel
theorem d8_25 : decode jdk_65_method_121_code 25 = .ok (.invokestatic 304, 3) := by decide +kernel
theorem d8_28 : decode jdk_65_method_121_code 28 = .ok (.invokestatic 150, 3) := by decide +kernel
theorem d8_31 : decode jdk_65_method_121_code 31 = .ok (.aload_n 2, 1) := by decide +kernel
theorem d8_32 : decode jdk_65_method_121_code 32 = .ok (.areturn, 1) := by decide +kernel
theorem pd__II_I : parseMethodDescriptor "(II)I" = some ⟨[.int, .int], some .int⟩ := by decide +kernel
theorem pd__Ljava_lang_Object_ILjava_lang_Object_II_V : parseMethodDescriptor "(Ljava/lang/Object;ILjava/lang/Object;II)V" = some ⟨[(.object "java/lang/Object"), .int, (.object "java/lang/Object"), .int, .int], none⟩ := by decide +kernel
theorem pn_java_util_Arrays : plainName "java/util/Arrays" = true := by first | (simp [plainName, overriddenIn]; done) | decide +kernel
theorem ef_rmCo (m : MethodId) (ab : Addr) (nl : Int32) : entryFrame m #[(.ref ab), (.int nl)] 3 = mkF m 0 #[.val (.ref ab), .val (.int nl), .unset] [] := by first | (simp [entryFrame, mkF, argsToLocals, Value.category]; done) | rfl
def Q_rmCo (Z : State) (ab : Addr) (nl : Int32) (kb : ClassId) (nN : Int32) (vs : List Value) (h0 : Heap) (n0 : Nat) (v : Option Value) (h : Heap) (L : List Loc) : Prop := ∃ ar : Addr, ∃ kr : ClassId, ∃ vr : List Value, (v = some (.ref ar)) ∧ (Fr n0 L) ∧ (Keep h0 h []) ∧ (h0.size ≤ ar) ∧ (Arv Z h ar kr .byte nl vr (.int (0 : Int32))) ∧ (vr.length = nl.toNatClampNeg) ∧ (∀ i, i < (own_imin nN nl).toNatClampNeg → vr.getD i (.int (0 : Int32)) = vs.getD i (.int (0 : Int32)))
set_option maxRecDepth 65536 in
set_option maxHeartbeats 40000000 in
theorem rmCo (l : Launch) (Z : State) (a0 : Array Value) (hw : ∀ d ∈ tables_1, d.before a0 Z = true) (ws : List Jvm.Cond) (ab : Addr) (nl : Int32) (kb : ClassId) (nN : Int32) (vs : List Value) (h0 : Heap) (n0 : Nat) (Z0 : n0 ≤ h0.size) (V0 : Arv Z h0 ab kb .byte nN vs (.int (0 : Int32))) (h0_ : ¬ (nl < (0 : Int32))) (h1_ : ¬ (nl = nN)) (h2_ : ¬ ((8 : Int32) < nl)) (hN : ¬ (nN < (0 : Int32))) (hlen : vs.length = nN.toNatClampNeg) :
    MetFree l (⟨"java/util/Arrays", "copyOf", "([BI)[B"⟩ : MethodName) (head1 (Jvm.Cond.code (⟨"java/util/Arrays", "copyOf", "([BI)[B"⟩ : MethodName) jdk_65_method_121_code 3 (some (.array .byte)) :: ws) ({ frames := 1, cells := 1, slots := 8, locals := 24 } : Room)) (fun aA U => aA = #[(.ref ab), (.int nl)] ∧ Z.Warmed39 U.vm ∧ U.heap = h0) (fun _ _ _ _ _ => True) (fun _ U o U' => ∃ v L, o = .returned v ∧ Q_rmCo Z ab nl kb nN vs h0 n0 v U'.heap L ∧ FrameEnd U o U' L ({ frames := 1, cells := 1, slots := 8, locals := 24 } : Room).cells ({ frames := 1, cells := 1, slots := 8, locals := 24 } : Room).slots) := by
  refine MetFree.of_bodySF (plainFor_of_name pn_java_util_Arrays) hisR ?_
  intro p e s m args below meth c s₁ Bd hml0 hP hK
  obtain ⟨rfl, hZ, hh⟩ := hP
  have hx := Bd.exec
  have hby := Bd.bytes
  have hml : c.maxLocals = 3 := hml0
  have hown : s.vm.findClass "java/util/Arrays" = some m.cls := findClass_of_methodNamed Bd.named
  have hnm := (name_of_methodNamed Bd.named Bd.method).1
  have hret := Bd.returns
  have hlk : meth.locks = false := BodyLoose.notSynchronized Bd
  have X0 : Stand p l e ({ frames := 1, cells := 1, slots := 8, locals := 24 } : Room) s m #[(.ref ab), (.int nl)] below meth c s₁ [] 0 0 := Stand.of_body Bd
  have e0 : s₁.heap = h0 := by rw [← hh, Bd.state]; rfl
  have N0 := Fr.nil n0
  suffices hgo : Go p e below s ({ frames := 1, cells := 1, slots := 8, locals := 24 } : Room).cells ({ frames := 1, cells := 1, slots := 8, locals := 24 } : Room).slots (Q_rmCo Z ab nl kb nN vs h0 n0) s₁ (mkF m 0 #[.val (.ref ab), .val (.int nl), .unset] []) from hgo.enter (ef_rmCo m ab nl)
  refine Go.step (fun _ k => XS.iloadN X0.here hx rfl (hb hby d8_0) rfl k) ?_
  show Go _ _ _ _ _ _ _ s₁ (mkF m 1 #[.val (.ref ab), .val (.int nl), .unset] [(.int nl)])
  refine Go.step (fun _ k => XS.aloadN X0.here hx rfl (hb hby d8_1) rfl rfl k) ?_
  show Go _ _ _ _ _ _ _ s₁ (mkF m 2 #[.val (.ref ab), .val (.int nl), .unset] [(.ref ab), (.int nl)])
  obtain ⟨cl25, Ar25, -, S25, M25, -, -⟩ := id (V0)
  have al25 := X0.arraylength hx (by rw [e0]; exact Ar25.1) (State.isArrayOf_alike hZ.alike Ar25.2.1) (g := (mkF m 2 #[.val (.ref ab), .val (.int nl), .unset] [(.ref ab), (.int nl)])) rfl rfl (hb hby d8_2)
  rw [len_of S25 M25] at al25
  refine Go.step al25 ?_
  show Go _ _ _ _ _ _ _ s₁ (mkF m 3 #[.val (.ref ab), .val (.int nl), .unset] [(.int nN), (.int nl)])
  have hc3_26 : ¬ (nl = nN) := h1_
  refine Go.step (fun _ k => XS.icmpYes X0.here hx rfl (pc0 := 3) (pc' := 14) rfl (hb hby d8_3) rfl (feq hc3_26).2 (by decide) (by decide) k) ?_
  show Go _ _ _ _ _ _ _ s₁ (mkF m 14 #[.val (.ref ab), .val (.int nl), .unset] [])
  refine Go.step (fun _ k => XS.iloadN X0.here hx rfl (hb hby d8_14) rfl k) ?_
  show Go _ _ _ _ _ _ _ s₁ (mkF m 15 #[.val (.ref ab), .val (.int nl), .unset] [(.int nl)])
  obtain ⟨T27, h27, k27, X27, e27, E27, A27, st27⟩ := newP X0 hx hZ (hw _ (List.mem_of_getElem? (i := 10) rfl)) e0 (g := (mkF m 15 #[.val (.ref ab), .val (.int nl), .unset] [(.int nl)])) rfl (hb hby d8_15) rfl h0_ (cap := 8) (by have q := own_tle h2_; exact Nat.le_trans q (by decide)) (by decide) (by decide) (by decide)
  obtain ⟨b27, g27⟩ : ∃ z, z = h0.size := ⟨_, rfl⟩
  rw [← g27] at A27 st27
  refine Go.step st27 ?_
  have g_b27 : n0 ≤ b27 := Nat.le_trans Z0 (Nat.le_of_eq g27.symm)
  have sz_b27 : h0.size ≤ b27 := Nat.le_trans (Keep.refl h0 []).1 (Nat.le_of_eq g27.symm)
  have ne_ab_b27 : ab ≠ b27 := Nat.ne_of_lt (Nat.lt_of_lt_of_le V0.lt (Nat.le_of_eq g27.symm))
  have Z27 : n0 ≤ h27.size := Nat.le_trans Z0 E27.1
  have KK27 : Keep h0 h27 [] := (Keep.refl h0 []).ext E27
  have V27 : Arv Z h27 b27 k27 .byte nl [] (.int (0 : Int32)) := Arv.new A27 h0_
  show Go _ _ _ _ _ _ _ T27 (mkF m 17 #[.val (.ref ab), .val (.int nl), .unset] [(.ref b27)])
  have V28 : Arv Z h27 b27 k27 .byte nl (List.replicate nl.toNatClampNeg (.int (0 : Int32))) (.int (0 : Int32)) := (V27).pad (pad_rep [] (.int (0 : Int32)) nl.toNatClampNeg)
  refine Go.step (fun _ k => XS.astoreN X27.here hx rfl (hb hby d8_17) rfl rfl (l' := #[.val (.ref ab), .val (.int nl), .val (.ref b27)]) rfl k) ?_
  show Go _ _ _ _ _ _ _ T27 (mkF m 18 #[.val (.ref ab), .val (.int nl), .val (.ref b27)] [])
  refine Go.step (fun _ k => XS.aloadN X27.here hx rfl (hb hby d8_18) rfl rfl k) ?_
  show Go _ _ _ _ _ _ _ T27 (mkF m 19 #[.val (.ref ab), .val (.int nl), .val (.ref b27)] [(.ref ab)])
  refine Go.step (fun _ k => XS.iconst X27.here hx rfl (hb hby d8_19) k) ?_
  show Go _ _ _ _ _ _ _ T27 (mkF m 20 #[.val (.ref ab), .val (.int nl), .val (.ref b27)] [(.int (0 : Int32)), (.ref ab)])
  refine Go.step (fun _ k => XS.aloadN X27.here hx rfl (hb hby d8_20) rfl rfl k) ?_
  show Go _ _ _ _ _ _ _ T27 (mkF m 21 #[.val (.ref ab), .val (.int nl), .val (.ref b27)] [(.ref b27), (.int (0 : Int32)), (.ref ab)])
  refine Go.step (fun _ k => XS.iconst X27.here hx rfl (hb hby d8_21) k) ?_
  show Go _ _ _ _ _ _ _ T27 (mkF m 22 #[.val (.ref ab), .val (.int nl), .val (.ref b27)] [(.int (0 : Int32)), (.ref b27), (.int (0 : Int32)), (.ref ab)])
  refine Go.step (fun _ k => XS.aloadN X27.here hx rfl (hb hby d8_22) rfl rfl k) ?_
  show Go _ _ _ _ _ _ _ T27 (mkF m 23 #[.val (.ref ab), .val (.int nl), .val (.ref b27)] [(.ref ab), (.int (0 : Int32)), (.ref b27), (.int (0 : Int32)), (.ref ab)])
  have f29 : Arv Z h27 ab kb .byte nN vs (.int (0 : Int32)) := (V0.ext E27)
  obtain ⟨cl30, Ar30, -, S30, M30, -, -⟩ := id (f29)
  have al30 := X27.arraylength hx (by rw [e27]; exact Ar30.1) (State.isArrayOf_alike hZ.alike Ar30.2.1) (g := (mkF m 23 #[.val (.ref ab), .val (.int nl), .val (.ref b27)] [(.ref ab), (.int (0 : Int32)), (.ref b27), (.int (0 : Int32)), (.ref ab)])) rfl rfl (hb hby d8_23)
  rw [len_of S30 M30] at al30
  refine Go.step al30 ?_
  show Go _ _ _ _ _ _ _ T27 (mkF m 24 #[.val (.ref ab), .val (.int nl), .val (.ref b27)] [(.int nN), (.int (0 : Int32)), (.ref b27), (.int (0 : Int32)), (.ref ab)])
  refine Go.step (fun _ k => XS.iloadN X27.here hx rfl (hb hby d8_24) rfl k) ?_
  show Go _ _ _ _ _ _ _ T27 (mkF m 25 #[.val (.ref ab), .val (.int nl), .val (.ref b27)] [(.int nl), (.int nN), (.int (0 : Int32)), (.ref b27), (.int (0 : Int32)), (.ref ab)])
  obtain ⟨_, _, ⟨T31, L31, k31, n31⟩, -, X31, ⟨Lc31, hQ31, l31, y31, z31⟩, st31⟩ := Jvm.LawKit.callS X27 hx (y := (⟨"java/lang/Math", "min", "(II)I"⟩ : MethodName)) hown (mvT hZ (hw _ (List.mem_of_getElem? (i := 45) rfl))) (mvT hZ (hw _ (List.mem_of_getElem? (i := 46) rfl))) (mvT hZ (hw _ (List.mem_of_getElem? (i := 47) rfl))) (mvT hZ (hw _ (List.mem_of_getElem? (i := 48) rfl))) (by decide) (backOf (W := 4) (rmMi l Z a0 hw [] nN nl h27 n0 Z27 ) hZ (hw _ (List.mem_of_getElem? (i := 48) rfl)) (hw _ (List.mem_of_getElem? (i := 47) rfl)) (by decide) (by decide)) (g := (mkF m 25 #[.val (.ref ab), .val (.int nl), .val (.ref b27)] [(.int nl), (.int nN), (.int (0 : Int32)), (.ref b27), (.int (0 : Int32)), (.ref ab)])) rfl (by rw [hml]; rfl) (argsL := [(.int nN), (.int nl)]) (rest := [(.int (0 : Int32)), (.ref b27), (.int (0 : Int32)), (.ref ab)]) (lenOf pd__II_I rfl) rfl (by show 2 * 0 + _ ≤ _; exact Nat.le_of_eq rfl) (hb hby d8_25) (fun _ _ => ⟨rfl, e27, (by decide : 1 + 0 ≤ _), (by decide : 8 + 0 ≤ _)⟩)
  dsimp only [Pt.U, Pt.locs, Pt.cells, Pt.slots] at X31 l31 y31 z31 st31 hQ31
  subst l31 y31 z31
  obtain ⟨h31, e31⟩ : ∃ h, T31.heap = h := ⟨_, rfl⟩
  rw [e31] at hQ31
  obtain ⟨rfl, Nq31, hs31⟩ := hQ31
  have N31 := Fr.app N0 Nq31
  rw [hs31] at e31
  refine Go.step st31 ?_
  show Go _ _ _ _ _ _ _ T31 (mkF m 28 #[.val (.ref ab), .val (.int nl), .val (.ref b27)] [(.int (own_imin nN nl)), (.int (0 : Int32)), (.ref b27), (.int (0 : Int32)), (.ref ab)])
  have hm0 : ¬ (own_imin nN nl < 0) := by unfold own_imin; split <;> assumption
  have hm1 : ¬ (nN < own_imin nN nl) := by unfold own_imin; split <;> (rename_i q; simp only [Int32.lt_iff_toInt_lt] at q ⊢; omega)
  have hm2 : ¬ (nl < own_imin nN nl) := by unfold own_imin; split <;> (rename_i q; simp only [Int32.lt_iff_toInt_lt] at q ⊢; omega)
  obtain ⟨T32, h32, L32, X32, e32, N32, Kc32, V32, st32⟩ := cpA X31 hx hZ hown (hw _ (List.mem_of_getElem? (i := 49) rfl)) (hw _ (List.mem_of_getElem? (i := 52) rfl)) (hw _ (List.mem_of_getElem? (i := 50) rfl)) (hw _ (List.mem_of_getElem? (i := 51) rfl)) e31 (sp := (0 : Int32)) (dp := (0 : Int32)) (nn := (own_imin nN nl)) f29 V28 (Or.inl ⟨rfl, rfl⟩) (by decide) (by decide) hm0 (by show 0 + _ ≤ _; rw [Nat.zero_add]; exact own_tle hm1) (by show 0 + _ ≤ _; rw [Nat.zero_add]; exact own_tle hm2) rfl (by show 0 + _ ≤ _; rw [Nat.zero_add, List.length_replicate]; exact own_tle hm2) N31 g_b27 (g := (mkF m 28 #[.val (.ref ab), .val (.int nl), .val (.ref b27)] [(.int (own_imin nN nl)), (.int (0 : Int32)), (.ref b27), (.int (0 : Int32)), (.ref ab)])) rfl (by rw [hml]; rfl) rfl (hb hby d8_28) (by decide) (W := 0) (by show 2 * 0 + _ ≤ _; exact Nat.le_of_eq rfl) (by decide)
  refine Go.step st32 ?_
  have Z32 : n0 ≤ h32.size := Nat.le_trans Z27 Kc32.1
  have KK32 : Keep h0 h32 [] := KK27.trans Kc32 (allS (Or.inr sz_b27) all0)
  have Vc32 : Arv Z h32 b27 k27 .byte nl (own_cpl vs (own_imin nN nl).toNatClampNeg nl.toNatClampNeg) (.int (0 : Int32)) := V32
  show Go _ _ _ _ _ _ _ T32 (mkF m 31 #[.val (.ref ab), .val (.int nl), .val (.ref b27)] [])
  refine Go.step (fun _ k => XS.aloadN X32.here hx rfl (hb hby d8_31) rfl rfl k) ?_
  show Go _ _ _ _ _ _ _ T32 (mkF m 32 #[.val (.ref ab), .val (.int nl), .val (.ref b27)] [(.ref b27)])
  exact Go.retA X32 hx hret hlk rfl rfl (hb hby d8_32) e32 (by decide) (by decide) ⟨b27, k27, (own_cpl vs (own_imin nN nl).toNatClampNeg nl.toNatClampNeg), rfl, N32, KK32, sz_b27, Vc32, (own_cpl_len (own_tle hm2)), (fun i q => own_cpl_at q)⟩
theorem d7_0 : decode prog_38_method_2_code 0 = .ok (.aload_n 0, 1) := by decide +kernel
theorem d7_1 : decode prog_38_method_2_code 1 = .ok (.getfield 11, 3) := by decide +kernel
theorem d7_4 : decode prog_38_method_2_code 4 = .ok (.aload_n 0, 1) := by decide +kernel
theorem d7_5 : decode prog_38_method_2_code 5 = .ok (.getfield 15, 3) := by decide +kernel
theorem d7_8 : decode prog_38_method_2_code 8 = .ok (.invokestatic 19, 3) := by decide +kernel
theorem d7_11 : decode prog_38_method_2_code 11 = .ok (.areturn, 1) := by decide +kernel
theorem pd___BI__B : parseMethodDescriptor "([BI)[B" = some ⟨[(.array .byte), .int], some (.array .byte)⟩ := by decide +kernel
theorem ef_rmTb (m : MethodId) (ao : Addr) : entryFrame m #[(.ref ao)] 1 = mkF m 0 #[.val (.ref ao)] [] := by first | (simp [entryFrame, mkF, argsToLocals, Value.category]; done) | rfl
def Q_rmTb (Z : State) (ao : Addr) (ab : Addr) (kb : ClassId) (nN : Int32) (sz : Int32) (vs : List Value) (h0 : Heap) (n0 : Nat) (v : Option Value) (h : Heap) (L : List Loc) : Prop := ∃ ar : Addr, ∃ kr : ClassId, ∃ vr : List Value, (v = some (.ref ar)) ∧ (Fr n0 L) ∧ (Keep h0 h []) ∧ (h0.size ≤ ar) ∧ (Arv Z h ar kr .byte sz vr (.int (0 : Int32))) ∧ (vr.length = sz.toNatClampNeg) ∧ (∀ i, i < sz.toNatClampNeg → vr.getD i (.int (0 : Int32)) = vs.getD i (.int (0 : Int32)))
set_option maxRecDepth 65536 in
set_option maxHeartbeats 40000000 in
theorem rmTb (l : Launch) (Z : State) (a0 : Array Value) (hw : ∀ d ∈ tables_1, d.before a0 Z = true) (ws : List Jvm.Cond) (ao : Addr) (ab : Addr) (kb : ClassId) (nN : Int32) (sz : Int32) (vs : List Value) (h0 : Heap) (n0 : Nat) (Z0 : n0 ≤ h0.size) (E0 : Exa Z h0 ao "com/example/stitchwire/stitchwire/Output") (Fb : Fld Z h0 ao "com/example/stitchwire/stitchwire/Output" "buffer" "[B" (.ref ab)) (Fs : Fld Z h0 ao "com/example/stitchwire/stitchwire/Output" "size" "I" (.int sz)) (V0 : Arv Z h0 ab kb .byte nN vs (.int (0 : Int32))) (hlen : vs.length = nN.toNatClampNeg) (hs0 : ¬ (sz < (0 : Int32))) (hs1 : sz < nN) (hs2 : ¬ ((8 : Int32) < sz)) :
    MetFree l (⟨"com/example/stitchwire/stitchwire/Output", "toByteArray", "()[B"⟩ : MethodName) (head1 (Jvm.Cond.code (⟨"com/example/stitchwire/stitchwire/Output", "toByteArray", "()[B"⟩ : MethodName) prog_38_method_2_code 1 (some (.array .byte)) :: ws) ({ frames := 2, cells := 1, slots := 8, locals := 38 } : Room)) (fun aA U => aA = #[(.ref ao)] ∧ Z.Warmed39 U.vm ∧ U.heap = h0) (fun _ _ _ _ _ => True) (fun _ U o U' => ∃ v L, o = .returned v ∧ Q_rmTb Z ao ab kb nN sz vs h0 n0 v U'.heap L ∧ FrameEnd U o U' L ({ frames := 2, cells := 1, slots := 8, locals := 38 } : Room).cells ({ frames := 2, cells := 1, slots := 8, locals := 38 } : Room).slots) := by
  refine MetFree.of_bodySF (plainFor_of_name pn_com_example_stitchwire_stitchwire_Output) hisR ?_
  intro p e s m args below meth c s₁ Bd hml0 hP hK
  obtain ⟨rfl, hZ, hh⟩ := hP
  have hx := Bd.exec
  have hby := Bd.bytes
  have hml : c.maxLocals = 1 := hml0
  have hown : s.vm.findClass "com/example/stitchwire/stitchwire/Output" = some m.cls := findClass_of_methodNamed Bd.named
  have hnm := (name_of_methodNamed Bd.named Bd.method).1
  have hret := Bd.returns
  have hlk : meth.locks = false := BodyLoose.notSynchronized Bd
  have X0 : Stand p l e ({ frames := 2, cells := 1, slots := 8, locals := 38 } : Room) s m #[(.ref ao)] below meth c s₁ [] 0 0 := Stand.of_body Bd
  have e0 : s₁.heap = h0 := by rw [← hh, Bd.state]; rfl
  have N0 := Fr.nil n0
  suffices hgo : Go p e below s ({ frames := 2, cells := 1, slots := 8, locals := 38 } : Room).cells ({ frames := 2, cells := 1, slots := 8, locals := 38 } : Room).slots (Q_rmTb Z ao ab kb nN sz vs h0 n0) s₁ (mkF m 0 #[.val (.ref ao)] []) from hgo.enter (ef_rmTb m ao)
  refine Go.step (fun _ k => XS.aloadN X0.here hx rfl (hb hby d7_0) rfl rfl k) ?_
  show Go _ _ _ _ _ _ _ s₁ (mkF m 1 #[.val (.ref ao)] [(.ref ao)])
  obtain ⟨T33, X33, e33, st33⟩ := getF X0 hx hZ hown (host := "") (Or.inl (hw _ (List.mem_of_getElem? (i := 11) rfl))) Via.refl e0 Fb (g := (mkF m 1 #[.val (.ref ao)] [(.ref ao)])) rfl rfl (hb hby d7_1)
  refine Go.step st33 ?_
  show Go _ _ _ _ _ _ _ T33 (mkF m 4 #[.val (.ref ao)] [(.ref ab)])
  refine Go.step (fun _ k => XS.aloadN X33.here hx rfl (hb hby d7_4) rfl rfl k) ?_
  show Go _ _ _ _ _ _ _ T33 (mkF m 5 #[.val (.ref ao)] [(.ref ao), (.ref ab)])
  obtain ⟨T34, X34, e34, st34⟩ := getF X33 hx hZ hown (host := "") (Or.inl (hw _ (List.mem_of_getElem? (i := 22) rfl))) Via.refl e33 Fs (g := (mkF m 5 #[.val (.ref ao)] [(.ref ao), (.ref ab)])) rfl rfl (hb hby d7_5)
  refine Go.step st34 ?_
  show Go _ _ _ _ _ _ _ T34 (mkF m 8 #[.val (.ref ao)] [(.int sz), (.ref ab)])
  obtain ⟨_, _, ⟨T35, L35, k35, n35⟩, -, X35, ⟨Lc35, hQ35, l35, y35, z35⟩, st35⟩ := Jvm.LawKit.callS X34 hx (y := (⟨"java/util/Arrays", "copyOf", "([BI)[B"⟩ : MethodName)) hown (mvT hZ (hw _ (List.mem_of_getElem? (i := 41) rfl))) (mvT hZ (hw _ (List.mem_of_getElem? (i := 42) rfl))) (mvT hZ (hw _ (List.mem_of_getElem? (i := 43) rfl))) (mvT hZ (hw _ (List.mem_of_getElem? (i := 44) rfl))) (by decide) (backOf (W := 0) (rmCo l Z a0 hw [] ab sz kb nN vs h0 n0 Z0 V0 hs0 (fun q => by rw [q] at hs1; rw [Int32.lt_iff_toInt_lt] at hs1; omega) hs2 (by simp only [Int32.lt_iff_toInt_lt] at hs0 hs1 ⊢; have : (0 : Int32).toInt = 0 := rfl; omega) hlen) hZ (hw _ (List.mem_of_getElem? (i := 44) rfl)) (hw _ (List.mem_of_getElem? (i := 43) rfl)) (by decide) (by decide)) (g := (mkF m 8 #[.val (.ref ao)] [(.int sz), (.ref ab)])) rfl (by rw [hml]; rfl) (argsL := [(.ref ab), (.int sz)]) (rest := []) (lenOf pd___BI__B rfl) rfl (by show 2 * 0 + _ ≤ _; exact Nat.le_of_eq rfl) (hb hby d7_8) (fun _ _ => ⟨rfl, e34, (by decide : 0 + 1 ≤ _), (by decide : 0 + 8 ≤ _)⟩)
  dsimp only [Pt.U, Pt.locs, Pt.cells, Pt.slots] at X35 l35 y35 z35 st35 hQ35
  subst l35 y35 z35
  obtain ⟨h35, e35⟩ : ∃ h, T35.heap = h := ⟨_, rfl⟩
  rw [e35] at hQ35
  obtain ⟨ar_35, kr_35, vr_35, rfl, Nq35, Kq35, sz__35, V1_35, pl_35, pa_35⟩ := hQ35
  have N35 := Fr.app N0 Nq35
  have Z35 : n0 ≤ h35.size := Nat.le_trans Z0 Kq35.1
  have KK35 : Keep h0 h35 [] := (Keep.refl h0 []).trans Kq35 all0
  have g_ar_35 : n0 ≤ ar_35 := Nat.le_trans Z0 sz__35
  have sz_ar_35 : h0.size ≤ ar_35 := Nat.le_trans (Keep.refl h0 []).1 sz__35
  have ne_ab_ar_35 : ab ≠ ar_35 := Nat.ne_of_lt (Nat.lt_of_lt_of_le V0.lt sz__35)
  have ne_ao_ar_35 : ao ≠ ar_35 := Nat.ne_of_lt (Nat.lt_of_lt_of_le E0.lt sz__35)
  refine Go.step st35 ?_
  show Go _ _ _ _ _ _ _ T35 (mkF m 11 #[.val (.ref ao)] [(.ref ar_35)])
  exact Go.retA X35 hx hret hlk rfl rfl (hb hby d7_11) e35 (by decide) (by decide) ⟨ar_35, kr_35, vr_35, rfl, N35, KK35, sz_ar_35, V1_35, pl_35, (fun i q => pa_35 i (by rw [show own_imin nN sz = sz from if_pos hs1]; exact q))⟩
theorem d5_0 : decode prog_38_method_5_code 0 = .ok (.getstatic 25, 3) := by decide +kernel
theorem d5_3 : decode prog_38_method_5_code 3 = .ok (.ifCond .ne 29, 3) := by decide +kernel
theorem d5_6 : decode prog_38_method_5_code 6 = .ok (.iload_n 1, 1) := by decide +kernel
theorem d5_7 : decode prog_38_method_5_code 7 = .ok (.aload_n 0, 1) := by decide +kernel
theorem d5_8 : decode prog_38_method_5_code 8 = .ok (.getfield 15, 3) := by decide +kernel
theorem d5_11 : decode prog_38_method_5_code 11 = .ok (.if_icmp .le 21, 3) := by decide +kernel
theorem d5_14 : decode prog_38_method_5_code 14 = .ok (.new 29, 3) := by decide +kernel
theorem d5_17 : decode prog_38_method_5_code 17 = .ok (.dup, 1) := by decide +kernel
theorem d5_18 : decode prog_38_method_5_code 18 = .ok (.iload_n 1, 1) := by decide +kernel
theorem d5_19 : decode prog_38_method_5_code 19 = .ok (.aload_n 0, 1) := by decide +kernel
theorem d5_20 : decode prog_38_method_5_code 20 = .ok (.getfield 15, 3) := by decide +kernel
theorem d5_28 : decode prog_38_method_5_code 28 = .ok (.invokespecial 35, 3) := by decide +kernel
theorem d5_31 : decode prog_38_method_5_code 31 = .ok (.athrow, 1) := by decide +kernel
theorem d5_32 : decode prog_38_method_5_code 32 = .ok (.aload_n 0, 1) := by decide +kernel
theorem d5_33 : decode prog_38_method_5_code 33 = .ok (.iload_n 1, 1) := by decide +kernel
theorem d5_34 : decode prog_38_method_5_code 34 = .ok (.putfield 15, 3) := by decide +kernel
theorem d5_37 : decode prog_38_method_5_code 37 = .ok (.return_, 1) := by decide +kernel
theorem ef_rmTr (m : MethodId) (ao : Addr) (tl : Int32) : entryFrame m #[(.ref ao), (.int tl)] 2 = mkF m 0 #[.val (.ref ao), .val (.int tl)] [] := by first | (simp [entryFrame, mkF, argsToLocals, Value.category]; done) | rfl
def Q_rmTr (Z : State) (ao : Addr) (tl : Int32) (sz : Int32) (za : Int32) (ab : Addr) (h0 : Heap) (n0 : Nat) (v : Option Value) (h : Heap) (L : List Loc) : Prop := (v = none) ∧ (Fr n0 L) ∧ (Keep h0 h [ao]) ∧ (Exa Z h ao "com/example/stitchwire/stitchwire/Output") ∧ (Fld Z h ao "com/example/stitchwire/stitchwire/Output" "buffer" "[B" (.ref ab)) ∧ (Fld Z h ao "com/example/stitchwire/stitchwire/Output" "size" "I" (.int tl))
set_option maxRecDepth 65536 in
set_option maxHeartbeats 40000000 in
theorem rmTr (l : Launch) (Z : State) (a0 : Array Value) (hw : ∀ d ∈ tables_1, d.before a0 Z = true) (ws : List Jvm.Cond) (ao : Addr) (tl : Int32) (sz : Int32) (za : Int32) (ab : Addr) (h0 : Heap) (n0 : Nat) (Z0 : n0 ≤ h0.size) (E0 : Exa Z h0 ao "com/example/stitchwire/stitchwire/Output") (Fb : Fld Z h0 ao "com/example/stitchwire/stitchwire/Output" "buffer" "[B" (.ref ab)) (Fs : Fld Z h0 ao "com/example/stitchwire/stitchwire/Output" "size" "I" (.int sz)) (g0 : n0 ≤ ao) (SA : Sta Z h0 "com/example/stitchwire/stitchwire/Output" "$assertionsDisabled" "Z" (.int za)) (ht : ¬ (sz < tl)) :
    MetFree l (⟨"com/example/stitchwire/stitchwire/Output", "truncate", "(I)V"⟩ : MethodName) (head1 (Jvm.Cond.code (⟨"com/example/stitchwire/stitchwire/Output", "truncate", "(I)V"⟩ : MethodName) prog_38_method_5_code 2 none :: ws) ({ frames := 0, cells := 0, slots := 0, locals := 0 } : Room)) (fun aA U => aA = #[(.ref ao), (.int tl)] ∧ Z.Warmed39 U.vm ∧ U.heap = h0) (fun _ _ _ _ _ => True) (fun _ U o U' => ∃ v L, o = .returned v ∧ Q_rmTr Z ao tl sz za ab h0 n0 v U'.heap L ∧ FrameEnd U o U' L ({ frames := 0, cells := 0, slots := 0, locals := 0 } : Room).cells ({ frames := 0, cells := 0, slots := 0, locals := 0 } : Room).slots) := by
  refine MetFree.of_bodySF (plainFor_of_name pn_com_example_stitchwire_stitchwire_Output) hisR ?_
  intro p e s m args below meth c s₁ Bd hml0 hP hK
  obtain ⟨rfl, hZ, hh⟩ := hP
  have hx := Bd.exec
  have hby := Bd.bytes
  have hml : c.maxLocals = 2 := hml0
  have hown : s.vm.findClass "com/example/stitchwire/stitchwire/Output" = some m.cls := findClass_of_methodNamed Bd.named
  have hnm := (name_of_methodNamed Bd.named Bd.method).1
  have hret := Bd.returns
  have hlk : meth.locks = false := BodyLoose.notSynchronized Bd
  have X0 : Stand p l e ({ frames := 0, cells := 0, slots := 0, locals := 0 } : Room) s m #[(.ref ao), (.int tl)] below meth c s₁ [] 0 0 := Stand.of_body Bd
  have e0 : s₁.heap = h0 := by rw [← hh, Bd.state]; rfl
  have N0 := Fr.nil n0
  suffices hgo : Go p e below s ({ frames := 0, cells := 0, slots := 0, locals := 0 } : Room).cells ({ frames := 0, cells := 0, slots := 0, locals := 0 } : Room).slots (Q_rmTr Z ao tl sz za ab h0 n0) s₁ (mkF m 0 #[.val (.ref ao), .val (.int tl)] []) from hgo.enter (ef_rmTr m ao tl)
  obtain ⟨T36, X36, e36, st36⟩ := getS2 X0 hx hZ hown (host := "") (Or.inl (hw _ (List.mem_of_getElem? (i := 29) rfl))) Via.refl e0 SA (g := (mkF m 0 #[.val (.ref ao), .val (.int tl)] [])) rfl (hb hby d5_0)
  refine Go.step st36 ?_
  show Go _ _ _ _ _ _ _ T36 (mkF m 3 #[.val (.ref ao), .val (.int tl)] [(.int za)])
  by_cases hc3_37 : za = (0 : Int32)
  · refine Go.step (fun _ k => XS.ifNo X36.here hx rfl (hb hby d5_3) rfl ((if0 _ _).trans (teq hc3_37).2) k) ?_
    show Go _ _ _ _ _ _ _ T36 (mkF m 6 #[.val (.ref ao), .val (.int tl)] [])
    refine Go.step (fun _ k => XS.iloadN X36.here hx rfl (hb hby d5_6) rfl k) ?_
    show Go _ _ _ _ _ _ _ T36 (mkF m 7 #[.val (.ref ao), .val (.int tl)] [(.int tl)])
    refine Go.step (fun _ k => XS.aloadN X36.here hx rfl (hb hby d5_7) rfl rfl k) ?_
    show Go _ _ _ _ _ _ _ T36 (mkF m 8 #[.val (.ref ao), .val (.int tl)] [(.ref ao), (.int tl)])
    obtain ⟨T38, X38, e38, st38⟩ := getF X36 hx hZ hown (host := "") (Or.inl (hw _ (List.mem_of_getElem? (i := 22) rfl))) Via.refl e36 Fs (g := (mkF m 8 #[.val (.ref ao), .val (.int tl)] [(.ref ao), (.int tl)])) rfl rfl (hb hby d5_8)
    refine Go.step st38 ?_
    show Go _ _ _ _ _ _ _ T38 (mkF m 11 #[.val (.ref ao), .val (.int tl)] [(.int sz), (.int tl)])
    have hc11_39 : ¬ (sz < tl) := ht
    refine Go.step (fun _ k => XS.icmpYes X38.here hx rfl (pc0 := 11) (pc' := 32) rfl (hb hby d5_11) rfl (flt hc11_39).2.2.2 (by decide) (by decide) k) ?_
    show Go _ _ _ _ _ _ _ T38 (mkF m 32 #[.val (.ref ao), .val (.int tl)] [])
    refine Go.step (fun _ k => XS.aloadN X38.here hx rfl (hb hby d5_32) rfl rfl k) ?_
    show Go _ _ _ _ _ _ _ T38 (mkF m 33 #[.val (.ref ao), .val (.int tl)] [(.ref ao)])
    refine Go.step (fun _ k => XS.iloadN X38.here hx rfl (hb hby d5_33) rfl k) ?_
    show Go _ _ _ _ _ _ _ T38 (mkF m 34 #[.val (.ref ao), .val (.int tl)] [(.int tl), (.ref ao)])
    obtain ⟨T40, h40, X40, e40, W40, st40⟩ := putF X38 hx hZ hown (host := "") (Or.inl (hw _ (List.mem_of_getElem? (i := 22) rfl))) Via.refl e38 Fs E0 (Or.inl (hw _ (List.mem_of_getElem? (i := 23) rfl))) (hw _ (List.mem_of_getElem? (i := 2) rfl)) (ty := .int) (by decide) rfl rfl (g := (mkF m 34 #[.val (.ref ao), .val (.int tl)] [(.int tl), (.ref ao)])) rfl rfl (hb hby d5_34)
    refine Go.step st40 ?_
    have Fw40 := Fs.same W40
    have N40 := Fr.snoc X40 N0 g0
    have Z40 : n0 ≤ h40.size := Nat.le_trans Z0 (Keep.of_wr W40).1
    have KK40 : Keep h0 h40 [ao] := (Keep.refl h0 [ao]).wr W40 (Or.inl (List.mem_of_getElem? (i := 0) rfl))
    show Go _ _ _ _ _ _ _ T40 (mkF m 37 #[.val (.ref ao), .val (.int tl)] [])
    have f41 : Exa Z h40 ao "com/example/stitchwire/stitchwire/Output" := (E0.wr W40)
    have f42 : Fld Z h40 ao "com/example/stitchwire/stitchwire/Output" "buffer" "[B" (.ref ab) := (Fb.other W40 (Or.inr (slot_ne (a0 := a0) (C := "com/example/stitchwire/stitchwire/Output") (Or.inl (hw _ (List.mem_of_getElem? (i := 12) rfl))) (Or.inl (hw _ (List.mem_of_getElem? (i := 23) rfl))) (by decide) (t := (.array .byte)) (t' := .int) (by decide) (by decide))))
    exact Go.ret0 X40 hx hret hlk (hb hby d5_37) e40 (by decide) (by decide) ⟨rfl, N40, KK40, f41, f42, Fw40⟩
  · refine Go.step (fun _ k => XS.ifYes X36.here hx rfl (pc0 := 3) (pc' := 32) rfl (hb hby d5_3) rfl ((if0 _ _).trans (feq hc3_37).2) (by decide) (by decide) k) ?_
    show Go _ _ _ _ _ _ _ T36 (mkF m 32 #[.val (.ref ao), .val (.int tl)] [])
    refine Go.step (fun _ k => XS.aloadN X36.here hx rfl (hb hby d5_32) rfl rfl k) ?_
    show Go _ _ _ _ _ _ _ T36 (mkF m 33 #[.val (.ref ao), .val (.int tl)] [(.ref ao)])
    refine Go.step (fun _ k => XS.iloadN X36.here hx rfl (hb hby d5_33) rfl k) ?_
    show Go _ _ _ _ _ _ _ T36 (mkF m 34 #[.val (.ref ao), .val (.int tl)] [(.int tl), (.ref ao)])
    obtain ⟨T43, h43, X43, e43, W43, st43⟩ := putF X36 hx hZ hown (host := "") (Or.inl (hw _ (List.mem_of_getElem? (i := 22) rfl))) Via.refl e36 Fs E0 (Or.inl (hw _ (List.mem_of_getElem? (i := 23) rfl))) (hw _ (List.mem_of_getElem? (i := 2) rfl)) (ty := .int) (by decide) rfl rfl (g := (mkF m 34 #[.val (.ref ao), .val (.int tl)] [(.int tl), (.ref ao)])) rfl rfl (hb hby d5_34)
    refine Go.step st43 ?_
    have Fw43 := Fs.same W43
    have N43 := Fr.snoc X43 N0 g0
    have Z43 : n0 ≤ h43.size := Nat.le_trans Z0 (Keep.of_wr W43).1
    have KK43 : Keep h0 h43 [ao] := (Keep.refl h0 [ao]).wr W43 (Or.inl (List.mem_of_getElem? (i := 0) rfl))
    show Go _ _ _ _ _ _ _ T43 (mkF m 37 #[.val (.ref ao), .val (.int tl)] [])
    have f44 : Exa Z h43 ao "com/example/stitchwire/stitchwire/Output" := (E0.wr W43)
    have f45 : Fld Z h43 ao "com/example/stitchwire/stitchwire/Output" "buffer" "[B" (.ref ab) := (Fb.other W43 (Or.inr (slot_ne (a0 := a0) (C := "com/example/stitchwire/stitchwire/Output") (Or.inl (hw _ (List.mem_of_getElem? (i := 12) rfl))) (Or.inl (hw _ (List.mem_of_getElem? (i := 23) rfl))) (by decide) (t := (.array .byte)) (t' := .int) (by decide) (by decide))))
    exact Go.ret0 X43 hx hret hlk (hb hby d5_37) e43 (by decide) (by decide) ⟨rfl, N43, KK43, f44, f45, Fw43⟩
theorem own_k (x : Int32) (h : 0 ≤ x.toInt ∧ x.toInt < 5) : x = 0 ∨ x = 1 ∨ x = 2 ∨ x = 3 ∨ x = 4 := by
  have : (0 : Int32).toInt = 0 := rfl; have : (1 : Int32).toInt = 1 := rfl; have : (2 : Int32).toInt = 2 := rfl; have : (3 : Int32).toInt = 3 := rfl; have : (4 : Int32).toInt = 4 := rfl
  simp only [← Int32.toInt_inj]; omega
theorem pd___I : parseMethodDescriptor "()I" = some ⟨[], some .int⟩ := by decide +kernel
theorem pd____B : parseMethodDescriptor "()[B" = some ⟨[], some (.array .byte)⟩ := by decide +kernel
theorem pn_com_example_stitchwire_stitchwire_OutputTruncatePinLaw : plainName "com/example/stitchwire/stitchwire/OutputTruncatePinLaw" = true := by first | (simp [plainName, overriddenIn]; done) | decide +kernel
theorem ef_rm0 (m : MethodId) (jw : Int64) (in_ : Int32) (il : Int32) (iv : Int32) : entryFrame m #[(.long jw), (.int in_), (.int il), (.int iv)] maxLocals = mkF m 0 #[.val (.long jw), .second, .val (.int in_), .val (.int il), .val (.int iv), .unset, .unset, .unset, .unset, .unset] [] := by first | (simp [entryFrame, mkF, argsToLocals, Value.category, maxLocals]; done) | rfl
def Q_rm0 (Z : State) (jw : Int64) (in_ : Int32) (il : Int32) (iv : Int32) (za : Int32) (h0 : Heap) (n0 : Nat) (v : Option Value) (h : Heap) (L : List Loc) : Prop := (v = some (.int (1 : Int32))) ∧ (Fr n0 L) ∧ (True)
set_option maxRecDepth 65536 in
set_option maxHeartbeats 40000000 in
theorem rm0 (l : Launch) (Z : State) (a0 : Array Value) (hw : ∀ d ∈ tables_1, d.before a0 Z = true) (ws : List Jvm.Cond) (jw : Int64) (in_ : Int32) (il : Int32) (iv : Int32) (za : Int32) (h0 : Heap) (n0 : Nat) (Z0 : n0 ≤ h0.size) (O0 : Old Z n0 h0) (SA : Sta Z Z.heap "com/example/stitchwire/stitchwire/Output" "$assertionsDisabled" "Z" (.int za)) :
    MetFree l x (head1 (Jvm.Cond.code x code maxLocals ret :: ws) room_1) (fun aA U => aA = #[(.long jw), (.int in_), (.int il), (.int iv)] ∧ Z.Warmed39 U.vm ∧ U.heap = h0) (fun _ _ _ _ _ => True) (fun _ U o U' => ∃ v L, o = .returned v ∧ Q_rm0 Z jw in_ il iv za h0 n0 v U'.heap L ∧ FrameEnd U o U' L room_1.cells room_1.slots) := by
  refine MetFree.of_bodySF (plainFor_of_name pn_com_example_stitchwire_stitchwire_OutputTruncatePinLaw) hisR ?_
  intro p e s m args below meth c s₁ Bd hml0 hP hK
  obtain ⟨rfl, hZ, hh⟩ := hP
  have hx := Bd.exec
  have hby := Bd.bytes
  have hml : c.maxLocals = 10 := hml0
  have hown : s.vm.findClass "com/example/stitchwire/stitchwire/OutputTruncatePinLaw" = some m.cls := findClass_of_methodNamed Bd.named
  have hnm := (name_of_methodNamed Bd.named Bd.method).1
  have hret := Bd.returns
  have hlk : meth.locks = false := BodyLoose.notSynchronized Bd
  have X0 : Stand p l e room_1 s m #[(.long jw), (.int in_), (.int il), (.int iv)] below meth c s₁ [] 0 0 := Stand.of_body Bd
  have e0 : s₁.heap = h0 := by rw [← hh, Bd.state]; rfl
  have N0 := Fr.nil n0
  suffices hgo : Go p e below s room_1.cells room_1.slots (Q_rm0 Z jw in_ il iv za h0 n0) s₁ (mkF m 0 #[.val (.long jw), .second, .val (.int in_), .val (.int il), .val (.int iv), .unset, .unset, .unset, .unset, .unset] []) from hgo.enter (ef_rm0 m jw in_ il iv)
  refine Go.step (fun _ k => XS.iloadN X0.here hx rfl (hb hby at_0) rfl k) ?_
  show Go _ _ _ _ _ _ _ s₁ (mkF m 1 #[.val (.long jw), .second, .val (.int in_), .val (.int il), .val (.int iv), .unset, .unset, .unset, .unset, .unset] [(.int in_)])
  refine Go.step (fun _ k => XS.bipush X0.here hx rfl (hb hby at_1) k) ?_
  show Go _ _ _ _ _ _ _ s₁ (mkF m 3 #[.val (.long jw), .second, .val (.int in_), .val (.int il), .val (.int iv), .unset, .unset, .unset, .unset, .unset] [(.int (7 : Int32)), (.int in_)])
  refine Go.step (fun _ k => XS.iand X0.here hx rfl (hb hby at_3) rfl k) ?_
  show Go _ _ _ _ _ _ _ s₁ (mkF m 4 #[.val (.long jw), .second, .val (.int in_), .val (.int il), .val (.int iv), .unset, .unset, .unset, .unset, .unset] [(.int (in_ &&& (7 : Int32)))])
  refine Go.step (fun _ k => XS.iconst X0.here hx rfl (hb hby at_4) k) ?_
  show Go _ _ _ _ _ _ _ s₁ (mkF m 5 #[.val (.long jw), .second, .val (.int in_), .val (.int il), .val (.int iv), .unset, .unset, .unset, .unset, .unset] [(.int (5 : Int32)), (.int (in_ &&& (7 : Int32)))])
  refine Go.step (fun _ k => iremM X0 hx rfl (hb hby at_5) rfl (by decide) k) ?_
  show Go _ _ _ _ _ _ _ s₁ (mkF m 6 #[.val (.long jw), .second, .val (.int in_), .val (.int il), .val (.int iv), .unset, .unset, .unset, .unset, .unset] [(.int ((in_ &&& (7 : Int32)) % (5 : Int32)))])
  refine Go.step (fun _ k => XS.istore X0.here hx rfl (hb hby at_6) rfl (l' := #[.val (.long jw), .second, .val (.int in_), .val (.int il), .val (.int iv), .val (.int ((in_ &&& (7 : Int32)) % (5 : Int32))), .unset, .unset, .unset, .unset]) rfl k) ?_
  show Go _ _ _ _ _ _ _ s₁ (mkF m 8 #[.val (.long jw), .second, .val (.int in_), .val (.int il), .val (.int iv), .val (.int ((in_ &&& (7 : Int32)) % (5 : Int32))), .unset, .unset, .unset, .unset] [])
  have bk : 0 ≤ ((in_ &&& (7 : Int32)) % (5 : Int32)).toInt ∧ ((in_ &&& (7 : Int32)) % (5 : Int32)).toInt < 5 := (by have := rng32 in_; have : (7 : Int32).toInt = 7 := rfl; have := rng32 (in_ &&& (7 : Int32)); have := c_mask in_ (7 : Int32) 3 (by decide) (by decide); have : (5 : Int32).toInt = 5 := rfl; have := rng32 ((in_ &&& (7 : Int32)) % (5 : Int32)); have := c_irem (in_ &&& (7 : Int32)) (5 : Int32) 5 rfl; omega)
  generalize ((in_ &&& (7 : Int32)) % (5 : Int32)) = vk at bk ⊢
  show Go _ _ _ _ _ _ _ s₁ (mkF m 8 #[.val (.long jw), .second, .val (.int in_), .val (.int il), .val (.int iv), .val (.int vk), .unset, .unset, .unset, .unset] [])
  refine Go.step (fun _ k => XS.iloadN X0.here hx rfl (hb hby at_8) rfl k) ?_
  show Go _ _ _ _ _ _ _ s₁ (mkF m 9 #[.val (.long jw), .second, .val (.int in_), .val (.int il), .val (.int iv), .val (.int vk), .unset, .unset, .unset, .unset] [(.int il)])
  refine Go.step (X0.ldcInt hx hown (mvT hZ (hw _ (List.mem_of_getElem? (i := 0) rfl))) (g := (mkF m 9 #[.val (.long jw), .second, .val (.int in_), .val (.int il), .val (.int iv), .val (.int vk), .unset, .unset, .unset, .unset] [(.int il)])) rfl (hb hby at_9)) ?_
  show Go _ _ _ _ _ _ _ s₁ (mkF m 11 #[.val (.long jw), .second, .val (.int in_), .val (.int il), .val (.int iv), .val (.int vk), .unset, .unset, .unset, .unset] [(.int (2147483647 : Int32)), (.int il)])
  refine Go.step (fun _ k => XS.iand X0.here hx rfl (hb hby at_11) rfl k) ?_
  show Go _ _ _ _ _ _ _ s₁ (mkF m 12 #[.val (.long jw), .second, .val (.int in_), .val (.int il), .val (.int iv), .val (.int vk), .unset, .unset, .unset, .unset] [(.int (il &&& (2147483647 : Int32)))])
  refine Go.step (fun _ k => XS.iload X0.here hx rfl (hb hby at_12) rfl k) ?_
  show Go _ _ _ _ _ _ _ s₁ (mkF m 14 #[.val (.long jw), .second, .val (.int in_), .val (.int il), .val (.int iv), .val (.int vk), .unset, .unset, .unset, .unset] [(.int vk), (.int (il &&& (2147483647 : Int32)))])
  refine Go.step (fun _ k => XS.iconst X0.here hx rfl (hb hby at_14) k) ?_
  show Go _ _ _ _ _ _ _ s₁ (mkF m 15 #[.val (.long jw), .second, .val (.int in_), .val (.int il), .val (.int iv), .val (.int vk), .unset, .unset, .unset, .unset] [(.int (1 : Int32)), (.int vk), (.int (il &&& (2147483647 : Int32)))])
  refine Go.step (fun _ k => XS.iadd X0.here hx rfl (hb hby at_15) rfl k) ?_
  show Go _ _ _ _ _ _ _ s₁ (mkF m 16 #[.val (.long jw), .second, .val (.int in_), .val (.int il), .val (.int iv), .val (.int vk), .unset, .unset, .unset, .unset] [(.int (vk + (1 : Int32))), (.int (il &&& (2147483647 : Int32)))])
  refine Go.step (fun _ k => iremM X0 hx rfl (hb hby at_16) rfl (by have := rng32 vk; have : (1 : Int32).toInt = 1 := rfl; have := rng32 (vk + (1 : Int32)); have := c_iadd vk (1 : Int32); have : (0 : Int32).toInt = 0 := rfl; intro q; rw [← Int32.toInt_inj] at q; omega) k) ?_
  show Go _ _ _ _ _ _ _ s₁ (mkF m 17 #[.val (.long jw), .second, .val (.int in_), .val (.int il), .val (.int iv), .val (.int vk), .unset, .unset, .unset, .unset] [(.int ((il &&& (2147483647 : Int32)) % (vk + (1 : Int32))))])
  refine Go.step (fun _ k => XS.istore X0.here hx rfl (hb hby at_17) rfl (l' := #[.val (.long jw), .second, .val (.int in_), .val (.int il), .val (.int iv), .val (.int vk), .val (.int ((il &&& (2147483647 : Int32)) % (vk + (1 : Int32)))), .unset, .unset, .unset]) rfl k) ?_
  show Go _ _ _ _ _ _ _ s₁ (mkF m 19 #[.val (.long jw), .second, .val (.int in_), .val (.int il), .val (.int iv), .val (.int vk), .val (.int ((il &&& (2147483647 : Int32)) % (vk + (1 : Int32)))), .unset, .unset, .unset] [])
  have bl : 0 ≤ ((il &&& (2147483647 : Int32)) % (vk + (1 : Int32))).toInt ∧ ((il &&& (2147483647 : Int32)) % (vk + (1 : Int32))).toInt ≤ vk.toInt := (by have := rng32 il; have : (2147483647 : Int32).toInt = 2147483647 := rfl; have := rng32 (il &&& (2147483647 : Int32)); have := c_mask il (2147483647 : Int32) 31 (by decide) (by decide); have := rng32 vk; have : (1 : Int32).toInt = 1 := rfl; have := rng32 (vk + (1 : Int32)); have := c_iadd vk (1 : Int32); have := rng32 ((il &&& (2147483647 : Int32)) % (vk + (1 : Int32))); have := c_iremV (il &&& (2147483647 : Int32)) (vk + (1 : Int32)); omega)
  generalize ((il &&& (2147483647 : Int32)) % (vk + (1 : Int32))) = vl at bl ⊢
  show Go _ _ _ _ _ _ _ s₁ (mkF m 19 #[.val (.long jw), .second, .val (.int in_), .val (.int il), .val (.int iv), .val (.int vk), .val (.int vl), .unset, .unset, .unset] [])
  obtain ⟨T46, h46, X46, e46, E46, A46, D46, -, st46⟩ := newO X0 hx hZ hown (hw _ (List.mem_of_getElem? (i := 1) rfl)) (hw _ (List.mem_of_getElem? (i := 2) rfl)) (hw _ (List.mem_of_getElem? (i := 3) rfl)) e0 (g := (mkF m 19 #[.val (.long jw), .second, .val (.int in_), .val (.int il), .val (.int iv), .val (.int vk), .val (.int vl), .unset, .unset, .unset] [])) rfl (hb hby at_19) (by decide) (by decide)
  obtain ⟨b46, g46⟩ : ∃ z, z = h0.size := ⟨_, rfl⟩
  rw [← g46] at A46 D46 st46
  refine Go.step st46 ?_
  have g_b46 : n0 ≤ b46 := Nat.le_trans Z0 (Nat.le_of_eq g46.symm)
  have Z46 : n0 ≤ h46.size := Nat.le_trans Z0 E46.1
  have Fbuffer_46 : Fld Z h46 b46 "com/example/stitchwire/stitchwire/Output" "buffer" "[B" .null := D46 (Or.inl (hw _ (List.mem_of_getElem? (i := 12) rfl))) (ty := (.array .byte)) (by decide)
  have Fsize_46 : Fld Z h46 b46 "com/example/stitchwire/stitchwire/Output" "size" "I" (.int (0 : Int32)) := D46 (Or.inl (hw _ (List.mem_of_getElem? (i := 23) rfl))) (ty := .int) (by decide)
  show Go _ _ _ _ _ _ _ T46 (mkF m 22 #[.val (.long jw), .second, .val (.int in_), .val (.int il), .val (.int iv), .val (.int vk), .val (.int vl), .unset, .unset, .unset] [(.ref b46)])
  refine Go.step (fun _ k => XS.dup X46.here hx rfl (hb hby at_22) rfl rfl k) ?_
  show Go _ _ _ _ _ _ _ T46 (mkF m 23 #[.val (.long jw), .second, .val (.int in_), .val (.int il), .val (.int iv), .val (.int vk), .val (.int vl), .unset, .unset, .unset] [(.ref b46), (.ref b46)])
  obtain ⟨_, _, ⟨T47, L47, k47, n47⟩, -, X47, ⟨Lc47, hQ47, l47, y47, z47⟩, st47⟩ := X46.specialBack hx (y := (⟨"com/example/stitchwire/stitchwire/Output", "<init>", "()V"⟩ : MethodName)) rfl hown (mvT hZ (hw _ (List.mem_of_getElem? (i := 4) rfl))) (mvT hZ (hw _ (List.mem_of_getElem? (i := 5) rfl))) (mvT hZ (hw _ (List.mem_of_getElem? (i := 6) rfl))) (by decide) (backOf (W := 1) (rmIn l Z a0 hw [] b46 h46 n0 Z46 A46 Fbuffer_46 Fsize_46 g_b46) hZ (hw _ (List.mem_of_getElem? (i := 6) rfl)) (hw _ (List.mem_of_getElem? (i := 3) rfl)) (by decide) (by decide)) (g := (mkF m 23 #[.val (.long jw), .second, .val (.int in_), .val (.int il), .val (.int iv), .val (.int vk), .val (.int vl), .unset, .unset, .unset] [(.ref b46), (.ref b46)])) rfl (by rw [hml]; rfl) (Steps.refl _) (a := b46) (argsL := []) (rest := [(.ref b46)]) (lenOf pd___V rfl) rfl (by show 2 * 0 + _ ≤ _; exact Nat.le_of_eq rfl) (hb hby at_23) (fun _ _ => ⟨rfl, e46, (by decide : 1 + 1 ≤ _), (by decide : 2 + 64 ≤ _)⟩)
  dsimp only [Pt.U, Pt.locs, Pt.cells, Pt.slots] at X47 l47 y47 z47 st47 hQ47
  subst l47 y47 z47
  obtain ⟨h47, e47⟩ : ∃ h, T47.heap = h := ⟨_, rfl⟩
  rw [e47] at hQ47
  obtain ⟨ab_47, kb_47, rfl, Nq47, Kq47, sz__47, E1_47, Fb1_47, Fs1_47, V1_47⟩ := hQ47
  have N47 := Fr.app N0 Nq47
  have Z47 : n0 ≤ h47.size := Nat.le_trans Z46 Kq47.1
  have g_ab_47 : n0 ≤ ab_47 := Nat.le_trans Z46 sz__47
  have ne_b46_ab_47 : b46 ≠ ab_47 := Nat.ne_of_lt (Nat.lt_of_lt_of_le A46.lt sz__47)
  refine Go.trans st47 ?_
  show Go _ _ _ _ _ _ _ T47 (mkF m 26 #[.val (.long jw), .second, .val (.int in_), .val (.int il), .val (.int iv), .val (.int vk), .val (.int vl), .unset, .unset, .unset] [(.ref b46)])
  refine Go.step (fun _ k => XS.astore X47.here hx rfl (hb hby at_26) rfl rfl (l' := #[.val (.long jw), .second, .val (.int in_), .val (.int il), .val (.int iv), .val (.int vk), .val (.int vl), .val (.ref b46), .unset, .unset]) rfl k) ?_
  show Go _ _ _ _ _ _ _ T47 (mkF m 28 #[.val (.long jw), .second, .val (.int in_), .val (.int il), .val (.int iv), .val (.int vk), .val (.int vl), .val (.ref b46), .unset, .unset] [])
  have J : ∀ (TJ : State) (hJ : Heap) (LJ : List Loc) (vs : List Value) (sk : Int32) (kj : Int32), (Stand p l e room_1 s m #[(.long jw), (.int in_), (.int il), (.int iv)] below meth c TJ LJ 2 66) → (TJ.heap = hJ) → (Fr n0 LJ) → (n0 ≤ hJ.size) → (Exa Z hJ b46 "com/example/stitchwire/stitchwire/Output") → (Fld Z hJ b46 "com/example/stitchwire/stitchwire/Output" "buffer" "[B" (.ref ab_47)) → (Fld Z hJ b46 "com/example/stitchwire/stitchwire/Output" "size" "I" (.int sk)) → (Arv Z hJ ab_47 kb_47 .byte (64 : Int32) vs (.int (0 : Int32))) → (Old Z n0 hJ) → (vs.length = 64) → (¬ (sk < vl)) → (0 < vl.toInt → vs.getD 0 (.int (0 : Int32)) = (.int (nar .byte (jw.toInt32).toInt8.toInt32))) → (1 < vl.toInt → vs.getD 1 (.int (0 : Int32)) = (.int (nar .byte (((jw.toUInt64 >>> ((8 : Int32) &&& 0x3f).toInt64.toUInt64).toInt64).toInt32).toInt8.toInt32))) → (2 < vl.toInt → vs.getD 2 (.int (0 : Int32)) = (.int (nar .byte (((jw.toUInt64 >>> ((16 : Int32) &&& 0x3f).toInt64.toUInt64).toInt64).toInt32).toInt8.toInt32))) → (3 < vl.toInt → vs.getD 3 (.int (0 : Int32)) = (.int (nar .byte (((jw.toUInt64 >>> ((24 : Int32) &&& 0x3f).toInt64.toUInt64).toInt64).toInt32).toInt8.toInt32))) → Go p e below s room_1.cells room_1.slots (Q_rm0 Z jw in_ il iv za h0 n0) TJ (mkF m 88 #[.val (.long jw), .second, .val (.int in_), .val (.int il), .val (.int iv), .val (.int kj), .val (.int vl), .val (.ref b46), .unset, .unset] []) := by
    intro TJ hJ LJ vs sk kj XJ eJ NJ ZJ Ej Fbj Fsj Vj Oj hlj hsk c0 c1 c2 c3
    refine Go.step (fun _ k => XS.aload XJ.here hx rfl (hb hby at_88) rfl rfl k) ?_
    show Go _ _ _ _ _ _ _ TJ (mkF m 90 #[.val (.long jw), .second, .val (.int in_), .val (.int il), .val (.int iv), .val (.int kj), .val (.int vl), .val (.ref b46), .unset, .unset] [(.ref b46)])
    refine Go.step (fun _ k => XS.iload XJ.here hx rfl (hb hby at_90) rfl k) ?_
    show Go _ _ _ _ _ _ _ TJ (mkF m 92 #[.val (.long jw), .second, .val (.int in_), .val (.int il), .val (.int iv), .val (.int kj), .val (.int vl), .val (.ref b46), .unset, .unset] [(.int vl), (.ref b46)])
    obtain ⟨cq48, kq48, q48a, q48b, q48c⟩ := isOf hZ eJ Ej
    obtain ⟨_, _, ⟨T48, L48, k48, n48⟩, -, X48, ⟨Lc48, hQ48, l48, y48, z48⟩, st48⟩ := XJ.virtualBack hx (y := (⟨"com/example/stitchwire/stitchwire/Output", "truncate", "(I)V"⟩ : MethodName)) (z := (⟨"com/example/stitchwire/stitchwire/Output", "truncate", "(I)V"⟩ : MethodName)) hown (mvT hZ (hw _ (List.mem_of_getElem? (i := 24) rfl))) (mvT hZ (hw _ (List.mem_of_getElem? (i := 25) rfl))) (notFace_of_selects (args := #[]) (mvT hZ (hw _ (List.mem_of_getElem? (i := 27) rfl)))) (mvT hZ (hw _ (List.mem_of_getElem? (i := 27) rfl))) (mvT hZ (hw _ (List.mem_of_getElem? (i := 26) rfl))) (by decide) (backOf (W := 0) (rmTr l Z a0 hw [] b46 vl sk za ab_47 hJ n0 ZJ Ej Fbj Fsj g_b46 (SA.ext Oj.2) hsk) hZ (hw _ (List.mem_of_getElem? (i := 28) rfl)) (hw _ (List.mem_of_getElem? (i := 3) rfl)) (by decide) (by decide)) q48a q48c (g := (mkF m 92 #[.val (.long jw), .second, .val (.int in_), .val (.int il), .val (.int iv), .val (.int kj), .val (.int vl), .val (.ref b46), .unset, .unset] [(.int vl), (.ref b46)])) rfl (by rw [hml]; rfl) (Steps.refl _) (argsL := [(.int vl)]) (rest := []) (lenOf pd__I_V rfl) rfl (by show 2 * 0 + _ ≤ _; exact Nat.le_of_eq rfl) (hb hby at_92) (fun _ _ => ⟨rfl, eJ, (by decide : 2 + 0 ≤ _), (by decide : 66 + 0 ≤ _)⟩)
    dsimp only [Pt.U, Pt.locs, Pt.cells, Pt.slots] at X48 l48 y48 z48 st48 hQ48
    subst l48 y48 z48
    obtain ⟨h48, e48⟩ : ∃ h, T48.heap = h := ⟨_, rfl⟩
    rw [e48] at hQ48
    obtain ⟨rfl, Nq48, Kq48, E1_48, Fb1_48, Fs1_48⟩ := hQ48
    have N48 := Fr.app NJ Nq48
    have Z48 : n0 ≤ h48.size := Nat.le_trans ZJ Kq48.1
    refine Go.trans st48 ?_
    show Go _ _ _ _ _ _ _ T48 (mkF m 95 #[.val (.long jw), .second, .val (.int in_), .val (.int il), .val (.int iv), .val (.int kj), .val (.int vl), .val (.ref b46), .unset, .unset] [])
    refine Go.step (fun _ k => XS.aload X48.here hx rfl (hb hby at_95) rfl rfl k) ?_
    show Go _ _ _ _ _ _ _ T48 (mkF m 97 #[.val (.long jw), .second, .val (.int in_), .val (.int il), .val (.int iv), .val (.int kj), .val (.int vl), .val (.ref b46), .unset, .unset] [(.ref b46)])
    obtain ⟨cq49, kq49, q49a, q49b, q49c⟩ := isOf hZ e48 E1_48
    obtain ⟨_, _, ⟨T49, L49, k49, n49⟩, -, X49, ⟨Lc49, hQ49, l49, y49, z49⟩, st49⟩ := X48.virtualBack hx (y := (⟨"com/example/stitchwire/stitchwire/Output", "size", "()I"⟩ : MethodName)) (z := (⟨"com/example/stitchwire/stitchwire/Output", "size", "()I"⟩ : MethodName)) hown (mvT hZ (hw _ (List.mem_of_getElem? (i := 31) rfl))) (mvT hZ (hw _ (List.mem_of_getElem? (i := 32) rfl))) (notFace_of_selects (args := #[]) (mvT hZ (hw _ (List.mem_of_getElem? (i := 34) rfl)))) (mvT hZ (hw _ (List.mem_of_getElem? (i := 34) rfl))) (mvT hZ (hw _ (List.mem_of_getElem? (i := 33) rfl))) (by decide) (backOf (W := 0) (rmSi l Z a0 hw [] b46 vl h48 n0 Z48 E1_48 Fs1_48) hZ (hw _ (List.mem_of_getElem? (i := 35) rfl)) (hw _ (List.mem_of_getElem? (i := 3) rfl)) (by decide) (by decide)) q49a q49c (g := (mkF m 97 #[.val (.long jw), .second, .val (.int in_), .val (.int il), .val (.int iv), .val (.int kj), .val (.int vl), .val (.ref b46), .unset, .unset] [(.ref b46)])) rfl (by rw [hml]; rfl) (Steps.refl _) (argsL := []) (rest := []) (lenOf pd___I rfl) rfl (by show 2 * 0 + _ ≤ _; exact Nat.le_of_eq rfl) (hb hby at_97) (fun _ _ => ⟨rfl, e48, (by decide : 2 + 0 ≤ _), (by decide : 66 + 0 ≤ _)⟩)
    dsimp only [Pt.U, Pt.locs, Pt.cells, Pt.slots] at X49 l49 y49 z49 st49 hQ49
    subst l49 y49 z49
    obtain ⟨h49, e49⟩ : ∃ h, T49.heap = h := ⟨_, rfl⟩
    rw [e49] at hQ49
    obtain ⟨rfl, Nq49, hs49⟩ := hQ49
    have N49 := Fr.app N48 Nq49
    rw [hs49] at e49
    refine Go.trans st49 ?_
    show Go _ _ _ _ _ _ _ T49 (mkF m 100 #[.val (.long jw), .second, .val (.int in_), .val (.int il), .val (.int iv), .val (.int kj), .val (.int vl), .val (.ref b46), .unset, .unset] [(.int vl)])
    refine Go.step (fun _ k => XS.iload X49.here hx rfl (hb hby at_100) rfl k) ?_
    show Go _ _ _ _ _ _ _ T49 (mkF m 102 #[.val (.long jw), .second, .val (.int in_), .val (.int il), .val (.int iv), .val (.int kj), .val (.int vl), .val (.ref b46), .unset, .unset] [(.int vl), (.int vl)])
    have hc102_50 : vl = vl := rfl
    refine Go.step (fun _ k => XS.icmpNo X49.here hx rfl (hb hby at_102) rfl (teq hc102_50).2 k) ?_
    show Go _ _ _ _ _ _ _ T49 (mkF m 105 #[.val (.long jw), .second, .val (.int in_), .val (.int il), .val (.int iv), .val (.int kj), .val (.int vl), .val (.ref b46), .unset, .unset] [])
    refine Go.step (fun _ k => XS.iconst X49.here hx rfl (hb hby at_105) k) ?_
    show Go _ _ _ _ _ _ _ T49 (mkF m 106 #[.val (.long jw), .second, .val (.int in_), .val (.int il), .val (.int iv), .val (.int kj), .val (.int vl), .val (.ref b46), .unset, .unset] [(.int (1 : Int32))])
    refine Go.step (fun _ k => XS.goto X49.here hx rfl (pc0 := 106) (pc' := 110) rfl (hb hby at_106) (by decide) (by decide) k) ?_
    show Go _ _ _ _ _ _ _ T49 (mkF m 110 #[.val (.long jw), .second, .val (.int in_), .val (.int il), .val (.int iv), .val (.int kj), .val (.int vl), .val (.ref b46), .unset, .unset] [(.int (1 : Int32))])
    refine Go.step (fun _ k => XS.istore X49.here hx rfl (hb hby at_110) rfl (l' := #[.val (.long jw), .second, .val (.int in_), .val (.int il), .val (.int iv), .val (.int kj), .val (.int vl), .val (.ref b46), .val (.int (1 : Int32)), .unset]) rfl k) ?_
    show Go _ _ _ _ _ _ _ T49 (mkF m 112 #[.val (.long jw), .second, .val (.int in_), .val (.int il), .val (.int iv), .val (.int kj), .val (.int vl), .val (.ref b46), .val (.int (1 : Int32)), .unset] [])
    refine Go.step (fun _ k => XS.aload X49.here hx rfl (hb hby at_112) rfl rfl k) ?_
    show Go _ _ _ _ _ _ _ T49 (mkF m 114 #[.val (.long jw), .second, .val (.int in_), .val (.int il), .val (.int iv), .val (.int kj), .val (.int vl), .val (.ref b46), .val (.int (1 : Int32)), .unset] [(.ref b46)])
    refine Go.step (fun _ k => XS.iload X49.here hx rfl (hb hby at_114) rfl k) ?_
    show Go _ _ _ _ _ _ _ T49 (mkF m 116 #[.val (.long jw), .second, .val (.int in_), .val (.int il), .val (.int iv), .val (.int kj), .val (.int vl), .val (.ref b46), .val (.int (1 : Int32)), .unset] [(.int iv), (.ref b46)])
    have f52 : Arv Z h48 ab_47 kb_47 .byte (64 : Int32) vs (.int (0 : Int32)) := (Vj.keep Kq48 (ninS (Ne.symm ne_b46_ab_47) nin0))
    obtain ⟨cq51, kq51, q51a, q51b, q51c⟩ := isOf hZ e49 E1_48
    obtain ⟨_, _, ⟨T51, L51, k51, n51⟩, -, X51, ⟨Lc51, hQ51, l51, y51, z51⟩, st51⟩ := X49.virtualBack hx (y := (⟨"com/example/stitchwire/stitchwire/Output", "writeByte", "(I)V"⟩ : MethodName)) (z := (⟨"com/example/stitchwire/stitchwire/Output", "writeByte", "(I)V"⟩ : MethodName)) hown (mvT hZ (hw _ (List.mem_of_getElem? (i := 13) rfl))) (mvT hZ (hw _ (List.mem_of_getElem? (i := 14) rfl))) (notFace_of_selects (args := #[]) (mvT hZ (hw _ (List.mem_of_getElem? (i := 16) rfl)))) (mvT hZ (hw _ (List.mem_of_getElem? (i := 16) rfl))) (mvT hZ (hw _ (List.mem_of_getElem? (i := 15) rfl))) (by decide) (backOf (W := 0) (rmWb l Z a0 hw [] b46 iv ab_47 kb_47 (64 : Int32) vl vs h48 n0 Z48 E1_48 Fb1_48 Fs1_48 f52 g_b46 g_ab_47 ne_b46_ab_47 hlj (by have : (64 : Int32).toInt = 64 := rfl; have := rng32 vl; have := rng32 ((64 : Int32) - vl); have := c_isub (64 : Int32) vl; have : (0 : Int32).toInt = 0 := rfl; have : (1 : Int32).toInt = 1 := rfl; have := bl; have := bk; simp only [Int32.lt_iff_toInt_lt, Int32.le_iff_toInt_le, ← Int32.toInt_inj, Int64.lt_iff_toInt_lt, Int64.le_iff_toInt_le, ← Int64.toInt_inj]; omega) (by have : (64 : Int32).toInt = 64 := rfl; have := rng32 vl; have := rng32 ((64 : Int32) - vl); have := c_isub (64 : Int32) vl; have : (0 : Int32).toInt = 0 := rfl; have : (1 : Int32).toInt = 1 := rfl; have := bl; have := bk; simp only [Int32.lt_iff_toInt_lt, Int32.le_iff_toInt_le, ← Int32.toInt_inj, Int64.lt_iff_toInt_lt, Int64.le_iff_toInt_le, ← Int64.toInt_inj]; omega) (by have : (64 : Int32).toInt = 64 := rfl; have := rng32 vl; have := rng32 ((64 : Int32) - vl); have := c_isub (64 : Int32) vl; have : (0 : Int32).toInt = 0 := rfl; have : (1 : Int32).toInt = 1 := rfl; have := bl; have := bk; simp only [Int32.lt_iff_toInt_lt, Int32.le_iff_toInt_le, ← Int32.toInt_inj, Int64.lt_iff_toInt_lt, Int64.le_iff_toInt_le, ← Int64.toInt_inj]; omega)) hZ (hw _ (List.mem_of_getElem? (i := 17) rfl)) (hw _ (List.mem_of_getElem? (i := 3) rfl)) (by decide) (by decide)) q51a q51c (g := (mkF m 116 #[.val (.long jw), .second, .val (.int in_), .val (.int il), .val (.int iv), .val (.int kj), .val (.int vl), .val (.ref b46), .val (.int (1 : Int32)), .unset] [(.int iv), (.ref b46)])) rfl (by rw [hml]; rfl) (Steps.refl _) (argsL := [(.int iv)]) (rest := []) (lenOf pd__I_V rfl) rfl (by show 2 * 0 + _ ≤ _; exact Nat.le_of_eq rfl) (hb hby at_116) (fun _ _ => ⟨rfl, e49, (by decide : 2 + 0 ≤ _), (by decide : 66 + 0 ≤ _)⟩)
    dsimp only [Pt.U, Pt.locs, Pt.cells, Pt.slots] at X51 l51 y51 z51 st51 hQ51
    subst l51 y51 z51
    obtain ⟨h51, e51⟩ : ∃ h, T51.heap = h := ⟨_, rfl⟩
    rw [e51] at hQ51
    obtain ⟨rfl, Nq51, Kq51, E1_51, Fb1_51, Fs1_51, V1_51⟩ := hQ51
    have N51 := Fr.app N49 Nq51
    have Z51 : n0 ≤ h51.size := Nat.le_trans Z48 Kq51.1
    refine Go.trans st51 ?_
    show Go _ _ _ _ _ _ _ T51 (mkF m 119 #[.val (.long jw), .second, .val (.int in_), .val (.int il), .val (.int iv), .val (.int kj), .val (.int vl), .val (.ref b46), .val (.int (1 : Int32)), .unset] [])
    refine Go.step (fun _ k => XS.iload X51.here hx rfl (hb hby at_119) rfl k) ?_
    show Go _ _ _ _ _ _ _ T51 (mkF m 121 #[.val (.long jw), .second, .val (.int in_), .val (.int il), .val (.int iv), .val (.int kj), .val (.int vl), .val (.ref b46), .val (.int (1 : Int32)), .unset] [(.int (1 : Int32))])
    have hc121_53 : ¬ ((1 : Int32) = (0 : Int32)) := (by decide)
    refine Go.step (fun _ k => XS.ifNo X51.here hx rfl (hb hby at_121) rfl ((if0 _ _).trans (feq hc121_53).1) k) ?_
    show Go _ _ _ _ _ _ _ T51 (mkF m 124 #[.val (.long jw), .second, .val (.int in_), .val (.int il), .val (.int iv), .val (.int kj), .val (.int vl), .val (.ref b46), .val (.int (1 : Int32)), .unset] [])
    refine Go.step (fun _ k => XS.aload X51.here hx rfl (hb hby at_124) rfl rfl k) ?_
    show Go _ _ _ _ _ _ _ T51 (mkF m 126 #[.val (.long jw), .second, .val (.int in_), .val (.int il), .val (.int iv), .val (.int kj), .val (.int vl), .val (.ref b46), .val (.int (1 : Int32)), .unset] [(.ref b46)])
    obtain ⟨cq54, kq54, q54a, q54b, q54c⟩ := isOf hZ e51 E1_51
    obtain ⟨_, _, ⟨T54, L54, k54, n54⟩, -, X54, ⟨Lc54, hQ54, l54, y54, z54⟩, st54⟩ := X51.virtualBack hx (y := (⟨"com/example/stitchwire/stitchwire/Output", "size", "()I"⟩ : MethodName)) (z := (⟨"com/example/stitchwire/stitchwire/Output", "size", "()I"⟩ : MethodName)) hown (mvT hZ (hw _ (List.mem_of_getElem? (i := 31) rfl))) (mvT hZ (hw _ (List.mem_of_getElem? (i := 32) rfl))) (notFace_of_selects (args := #[]) (mvT hZ (hw _ (List.mem_of_getElem? (i := 34) rfl)))) (mvT hZ (hw _ (List.mem_of_getElem? (i := 34) rfl))) (mvT hZ (hw _ (List.mem_of_getElem? (i := 33) rfl))) (by decide) (backOf (W := 0) (rmSi l Z a0 hw [] b46 (vl + (1 : Int32)) h51 n0 Z51 E1_51 Fs1_51) hZ (hw _ (List.mem_of_getElem? (i := 35) rfl)) (hw _ (List.mem_of_getElem? (i := 3) rfl)) (by decide) (by decide)) q54a q54c (g := (mkF m 126 #[.val (.long jw), .second, .val (.int in_), .val (.int il), .val (.int iv), .val (.int kj), .val (.int vl), .val (.ref b46), .val (.int (1 : Int32)), .unset] [(.ref b46)])) rfl (by rw [hml]; rfl) (Steps.refl _) (argsL := []) (rest := []) (lenOf pd___I rfl) rfl (by show 2 * 0 + _ ≤ _; exact Nat.le_of_eq rfl) (hb hby at_126) (fun _ _ => ⟨rfl, e51, (by decide : 2 + 0 ≤ _), (by decide : 66 + 0 ≤ _)⟩)
    dsimp only [Pt.U, Pt.locs, Pt.cells, Pt.slots] at X54 l54 y54 z54 st54 hQ54
    subst l54 y54 z54
    obtain ⟨h54, e54⟩ : ∃ h, T54.heap = h := ⟨_, rfl⟩
    rw [e54] at hQ54
    obtain ⟨rfl, Nq54, hs54⟩ := hQ54
    have N54 := Fr.app N51 Nq54
    rw [hs54] at e54
    refine Go.trans st54 ?_
    show Go _ _ _ _ _ _ _ T54 (mkF m 129 #[.val (.long jw), .second, .val (.int in_), .val (.int il), .val (.int iv), .val (.int kj), .val (.int vl), .val (.ref b46), .val (.int (1 : Int32)), .unset] [(.int (vl + (1 : Int32)))])
    refine Go.step (fun _ k => XS.iload X54.here hx rfl (hb hby at_129) rfl k) ?_
    show Go _ _ _ _ _ _ _ T54 (mkF m 131 #[.val (.long jw), .second, .val (.int in_), .val (.int il), .val (.int iv), .val (.int kj), .val (.int vl), .val (.ref b46), .val (.int (1 : Int32)), .unset] [(.int vl), (.int (vl + (1 : Int32)))])
    refine Go.step (fun _ k => XS.iconst X54.here hx rfl (hb hby at_131) k) ?_
    show Go _ _ _ _ _ _ _ T54 (mkF m 132 #[.val (.long jw), .second, .val (.int in_), .val (.int il), .val (.int iv), .val (.int kj), .val (.int vl), .val (.ref b46), .val (.int (1 : Int32)), .unset] [(.int (1 : Int32)), (.int vl), (.int (vl + (1 : Int32)))])
    refine Go.step (fun _ k => XS.iadd X54.here hx rfl (hb hby at_132) rfl k) ?_
    show Go _ _ _ _ _ _ _ T54 (mkF m 133 #[.val (.long jw), .second, .val (.int in_), .val (.int il), .val (.int iv), .val (.int kj), .val (.int vl), .val (.ref b46), .val (.int (1 : Int32)), .unset] [(.int (vl + (1 : Int32))), (.int (vl + (1 : Int32)))])
    have hc133_55 : (vl + (1 : Int32)) = (vl + (1 : Int32)) := rfl
    refine Go.step (fun _ k => XS.icmpNo X54.here hx rfl (hb hby at_133) rfl (teq hc133_55).2 k) ?_
    show Go _ _ _ _ _ _ _ T54 (mkF m 136 #[.val (.long jw), .second, .val (.int in_), .val (.int il), .val (.int iv), .val (.int kj), .val (.int vl), .val (.ref b46), .val (.int (1 : Int32)), .unset] [])
    refine Go.step (fun _ k => XS.iconst X54.here hx rfl (hb hby at_136) k) ?_
    show Go _ _ _ _ _ _ _ T54 (mkF m 137 #[.val (.long jw), .second, .val (.int in_), .val (.int il), .val (.int iv), .val (.int kj), .val (.int vl), .val (.ref b46), .val (.int (1 : Int32)), .unset] [(.int (1 : Int32))])
    refine Go.step (fun _ k => XS.goto X54.here hx rfl (pc0 := 137) (pc' := 141) rfl (hb hby at_137) (by decide) (by decide) k) ?_
    show Go _ _ _ _ _ _ _ T54 (mkF m 141 #[.val (.long jw), .second, .val (.int in_), .val (.int il), .val (.int iv), .val (.int kj), .val (.int vl), .val (.ref b46), .val (.int (1 : Int32)), .unset] [(.int (1 : Int32))])
    refine Go.step (fun _ k => XS.istore X54.here hx rfl (hb hby at_141) rfl (l' := #[.val (.long jw), .second, .val (.int in_), .val (.int il), .val (.int iv), .val (.int kj), .val (.int vl), .val (.ref b46), .val (.int (1 : Int32)), .unset]) rfl k) ?_
    show Go _ _ _ _ _ _ _ T54 (mkF m 143 #[.val (.long jw), .second, .val (.int in_), .val (.int il), .val (.int iv), .val (.int kj), .val (.int vl), .val (.ref b46), .val (.int (1 : Int32)), .unset] [])
    refine Go.step (fun _ k => XS.aload X54.here hx rfl (hb hby at_143) rfl rfl k) ?_
    show Go _ _ _ _ _ _ _ T54 (mkF m 145 #[.val (.long jw), .second, .val (.int in_), .val (.int il), .val (.int iv), .val (.int kj), .val (.int vl), .val (.ref b46), .val (.int (1 : Int32)), .unset] [(.ref b46)])
    obtain ⟨cq56, kq56, q56a, q56b, q56c⟩ := isOf hZ e54 E1_51
    obtain ⟨_, _, ⟨T56, L56, k56, n56⟩, -, X56, ⟨Lc56, hQ56, l56, y56, z56⟩, st56⟩ := X54.virtualBack hx (y := (⟨"com/example/stitchwire/stitchwire/Output", "toByteArray", "()[B"⟩ : MethodName)) (z := (⟨"com/example/stitchwire/stitchwire/Output", "toByteArray", "()[B"⟩ : MethodName)) hown (mvT hZ (hw _ (List.mem_of_getElem? (i := 36) rfl))) (mvT hZ (hw _ (List.mem_of_getElem? (i := 37) rfl))) (notFace_of_selects (args := #[]) (mvT hZ (hw _ (List.mem_of_getElem? (i := 39) rfl)))) (mvT hZ (hw _ (List.mem_of_getElem? (i := 39) rfl))) (mvT hZ (hw _ (List.mem_of_getElem? (i := 38) rfl))) (by decide) (backOf (W := 0) (rmTb l Z a0 hw [] b46 ab_47 kb_47 (64 : Int32) (vl + (1 : Int32)) (vs.set vl.toNatClampNeg (.int (nar .byte iv.toInt8.toInt32))) h51 n0 Z51 E1_51 Fb1_51 Fs1_51 V1_51 (by rw [List.length_set]; exact hlj) (by have := rng32 vl; have : (1 : Int32).toInt = 1 := rfl; have := rng32 (vl + (1 : Int32)); have := c_iadd vl (1 : Int32); have : (0 : Int32).toInt = 0 := rfl; have : (8 : Int32).toInt = 8 := rfl; have : (64 : Int32).toInt = 64 := rfl; have := bl; have := bk; simp only [Int32.lt_iff_toInt_lt, Int32.le_iff_toInt_le, ← Int32.toInt_inj, Int64.lt_iff_toInt_lt, Int64.le_iff_toInt_le, ← Int64.toInt_inj]; omega) (by have := rng32 vl; have : (1 : Int32).toInt = 1 := rfl; have := rng32 (vl + (1 : Int32)); have := c_iadd vl (1 : Int32); have : (0 : Int32).toInt = 0 := rfl; have : (8 : Int32).toInt = 8 := rfl; have : (64 : Int32).toInt = 64 := rfl; have := bl; have := bk; simp only [Int32.lt_iff_toInt_lt, Int32.le_iff_toInt_le, ← Int32.toInt_inj, Int64.lt_iff_toInt_lt, Int64.le_iff_toInt_le, ← Int64.toInt_inj]; omega) (by have := rng32 vl; have : (1 : Int32).toInt = 1 := rfl; have := rng32 (vl + (1 : Int32)); have := c_iadd vl (1 : Int32); have : (0 : Int32).toInt = 0 := rfl; have : (8 : Int32).toInt = 8 := rfl; have : (64 : Int32).toInt = 64 := rfl; have := bl; have := bk; simp only [Int32.lt_iff_toInt_lt, Int32.le_iff_toInt_le, ← Int32.toInt_inj, Int64.lt_iff_toInt_lt, Int64.le_iff_toInt_le, ← Int64.toInt_inj]; omega)) hZ (hw _ (List.mem_of_getElem? (i := 40) rfl)) (hw _ (List.mem_of_getElem? (i := 3) rfl)) (by decide) (by decide)) q56a q56c (g := (mkF m 145 #[.val (.long jw), .second, .val (.int in_), .val (.int il), .val (.int iv), .val (.int kj), .val (.int vl), .val (.ref b46), .val (.int (1 : Int32)), .unset] [(.ref b46)])) rfl (by rw [hml]; rfl) (Steps.refl _) (argsL := []) (rest := []) (lenOf pd____B rfl) rfl (by show 2 * 0 + _ ≤ _; exact Nat.le_of_eq rfl) (hb hby at_145) (fun _ _ => ⟨rfl, e54, (by decide : 2 + 1 ≤ _), (by decide : 66 + 8 ≤ _)⟩)
    dsimp only [Pt.U, Pt.locs, Pt.cells, Pt.slots] at X56 l56 y56 z56 st56 hQ56
    subst l56 y56 z56
    obtain ⟨h56, e56⟩ : ∃ h, T56.heap = h := ⟨_, rfl⟩
    rw [e56] at hQ56
    obtain ⟨ar_56, kr_56, vr_56, rfl, Nq56, Kq56, sz__56, V1_56, pl_56, pa_56⟩ := hQ56
    have N56 := Fr.app N54 Nq56
    have Z56 : n0 ≤ h56.size := Nat.le_trans Z51 Kq56.1
    have g_ar_56 : n0 ≤ ar_56 := Nat.le_trans Z51 sz__56
    have ne_ab_47_ar_56 : ab_47 ≠ ar_56 := Nat.ne_of_lt (Nat.lt_of_lt_of_le V1_51.lt sz__56)
    have ne_b46_ar_56 : b46 ≠ ar_56 := Nat.ne_of_lt (Nat.lt_of_lt_of_le E1_51.lt sz__56)
    refine Go.trans st56 ?_
    show Go _ _ _ _ _ _ _ T56 (mkF m 148 #[.val (.long jw), .second, .val (.int in_), .val (.int il), .val (.int iv), .val (.int kj), .val (.int vl), .val (.ref b46), .val (.int (1 : Int32)), .unset] [(.ref ar_56)])
    refine Go.step (fun _ k => XS.astore X56.here hx rfl (hb hby at_148) rfl rfl (l' := #[.val (.long jw), .second, .val (.int in_), .val (.int il), .val (.int iv), .val (.int kj), .val (.int vl), .val (.ref b46), .val (.int (1 : Int32)), .val (.ref ar_56)]) rfl k) ?_
    show Go _ _ _ _ _ _ _ T56 (mkF m 150 #[.val (.long jw), .second, .val (.int in_), .val (.int il), .val (.int iv), .val (.int kj), .val (.int vl), .val (.ref b46), .val (.int (1 : Int32)), .val (.ref ar_56)] [])
    refine Go.step (fun _ k => XS.aload X56.here hx rfl (hb hby at_150) rfl rfl k) ?_
    show Go _ _ _ _ _ _ _ T56 (mkF m 152 #[.val (.long jw), .second, .val (.int in_), .val (.int il), .val (.int iv), .val (.int kj), .val (.int vl), .val (.ref b46), .val (.int (1 : Int32)), .val (.ref ar_56)] [(.ref ar_56)])
    obtain ⟨cl57, Ar57, -, S57, M57, -, -⟩ := id (V1_56)
    have al57 := X56.arraylength hx (by rw [e56]; exact Ar57.1) (State.isArrayOf_alike hZ.alike Ar57.2.1) (g := (mkF m 152 #[.val (.long jw), .second, .val (.int in_), .val (.int il), .val (.int iv), .val (.int kj), .val (.int vl), .val (.ref b46), .val (.int (1 : Int32)), .val (.ref ar_56)] [(.ref ar_56)])) rfl rfl (hb hby at_152)
    rw [len_of S57 M57] at al57
    refine Go.step al57 ?_
    show Go _ _ _ _ _ _ _ T56 (mkF m 153 #[.val (.long jw), .second, .val (.int in_), .val (.int il), .val (.int iv), .val (.int kj), .val (.int vl), .val (.ref b46), .val (.int (1 : Int32)), .val (.ref ar_56)] [(.int (vl + (1 : Int32)))])
    refine Go.step (fun _ k => XS.iload X56.here hx rfl (hb hby at_153) rfl k) ?_
    show Go _ _ _ _ _ _ _ T56 (mkF m 155 #[.val (.long jw), .second, .val (.int in_), .val (.int il), .val (.int iv), .val (.int kj), .val (.int vl), .val (.ref b46), .val (.int (1 : Int32)), .val (.ref ar_56)] [(.int vl), (.int (vl + (1 : Int32)))])
    refine Go.step (fun _ k => XS.iconst X56.here hx rfl (hb hby at_155) k) ?_
    show Go _ _ _ _ _ _ _ T56 (mkF m 156 #[.val (.long jw), .second, .val (.int in_), .val (.int il), .val (.int iv), .val (.int kj), .val (.int vl), .val (.ref b46), .val (.int (1 : Int32)), .val (.ref ar_56)] [(.int (1 : Int32)), (.int vl), (.int (vl + (1 : Int32)))])
    refine Go.step (fun _ k => XS.iadd X56.here hx rfl (hb hby at_156) rfl k) ?_
    show Go _ _ _ _ _ _ _ T56 (mkF m 157 #[.val (.long jw), .second, .val (.int in_), .val (.int il), .val (.int iv), .val (.int kj), .val (.int vl), .val (.ref b46), .val (.int (1 : Int32)), .val (.ref ar_56)] [(.int (vl + (1 : Int32))), (.int (vl + (1 : Int32)))])
    have hc157_58 : (vl + (1 : Int32)) = (vl + (1 : Int32)) := rfl
    refine Go.step (fun _ k => XS.icmpYes X56.here hx rfl (pc0 := 157) (pc' := 162) rfl (hb hby at_157) rfl (teq hc157_58).1 (by decide) (by decide) k) ?_
    show Go _ _ _ _ _ _ _ T56 (mkF m 162 #[.val (.long jw), .second, .val (.int in_), .val (.int il), .val (.int iv), .val (.int kj), .val (.int vl), .val (.ref b46), .val (.int (1 : Int32)), .val (.ref ar_56)] [])
    refine Go.step (fun _ k => XS.iload X56.here hx rfl (hb hby at_162) rfl k) ?_
    show Go _ _ _ _ _ _ _ T56 (mkF m 164 #[.val (.long jw), .second, .val (.int in_), .val (.int il), .val (.int iv), .val (.int kj), .val (.int vl), .val (.ref b46), .val (.int (1 : Int32)), .val (.ref ar_56)] [(.int vl)])
    by_cases hc164_59 : (0 : Int32) < vl
    · refine Go.step (fun _ k => XS.ifNo X56.here hx rfl (hb hby at_164) rfl ((if0 _ _).trans (tlt hc164_59).2.2.2) k) ?_
      show Go _ _ _ _ _ _ _ T56 (mkF m 167 #[.val (.long jw), .second, .val (.int in_), .val (.int il), .val (.int iv), .val (.int kj), .val (.int vl), .val (.ref b46), .val (.int (1 : Int32)), .val (.ref ar_56)] [])
      refine Go.step (fun _ k => XS.aload X56.here hx rfl (hb hby at_167) rfl rfl k) ?_
      show Go _ _ _ _ _ _ _ T56 (mkF m 169 #[.val (.long jw), .second, .val (.int in_), .val (.int il), .val (.int iv), .val (.int kj), .val (.int vl), .val (.ref b46), .val (.int (1 : Int32)), .val (.ref ar_56)] [(.ref ar_56)])
      refine Go.step (fun _ k => XS.iconst X56.here hx rfl (hb hby at_169) k) ?_
      show Go _ _ _ _ _ _ _ T56 (mkF m 170 #[.val (.long jw), .second, .val (.int in_), .val (.int il), .val (.int iv), .val (.int kj), .val (.int vl), .val (.ref b46), .val (.int (1 : Int32)), .val (.ref ar_56)] [(.int (0 : Int32)), (.ref ar_56)])
      obtain ⟨cl60, Ar60, q60, S60, M60, H60, G60⟩ := id (V1_56)
      have hin60 : ¬ ((0 : Int32) < 0 ∨ cl60.slots.size ≤ ((0 : Int32)).toNatClampNeg) := inb_of S60 ⟨(by have := rng32 vl; have : (1 : Int32).toInt = 1 := rfl; have := rng32 (vl + (1 : Int32)); have := c_iadd vl (1 : Int32); have : (0 : Int32).toInt = 0 := rfl; have := bl; have := bk; simp only [Int32.lt_iff_toInt_lt, Int32.le_iff_toInt_le, ← Int32.toInt_inj, Int64.lt_iff_toInt_lt, Int64.le_iff_toInt_le, ← Int64.toInt_inj] at hc164_59 ⊢; omega), (by have := rng32 vl; have : (1 : Int32).toInt = 1 := rfl; have := rng32 (vl + (1 : Int32)); have := c_iadd vl (1 : Int32); have : (0 : Int32).toInt = 0 := rfl; have := bl; have := bk; simp only [Int32.lt_iff_toInt_lt, Int32.le_iff_toInt_le, ← Int32.toInt_inj, Int64.lt_iff_toInt_lt, Int64.le_iff_toInt_le, ← Int64.toInt_inj] at hc164_59 ⊢; omega)⟩
      have hat60 : cl60.slots[((0 : Int32)).toNatClampNeg]? = some (.int (nar .byte (jw.toInt32).toInt8.toInt32)) := H60.at hin60 ((pa_56 _ (own_tlt (by have := rng32 vl; have : (1 : Int32).toInt = 1 := rfl; have := rng32 (vl + (1 : Int32)); have := c_iadd vl (1 : Int32); have : (0 : Int32).toInt = 0 := rfl; have := bl; have := bk; simp only [Int32.lt_iff_toInt_lt, Int32.le_iff_toInt_le, ← Int32.toInt_inj, Int64.lt_iff_toInt_lt, Int64.le_iff_toInt_le, ← Int64.toInt_inj] at hc164_59 ⊢; omega) (by have := rng32 vl; have : (1 : Int32).toInt = 1 := rfl; have := rng32 (vl + (1 : Int32)); have := c_iadd vl (1 : Int32); have : (0 : Int32).toInt = 0 := rfl; have := bl; have := bk; simp only [Int32.lt_iff_toInt_lt, Int32.le_iff_toInt_le, ← Int32.toInt_inj, Int64.lt_iff_toInt_lt, Int64.le_iff_toInt_le, ← Int64.toInt_inj] at hc164_59 ⊢; omega))).trans ((own_n (by have := own_tlt (a := (0 : Int32)) (b := vl) (by decide) hc164_59; intro q; rw [q] at this; exact absurd this (by decide))).trans (c0 (by have := rng32 vl; have : (0 : Int32).toInt = 0 := rfl; simp only [Int32.lt_iff_toInt_lt, Int32.le_iff_toInt_le, ← Int32.toInt_inj, Int64.lt_iff_toInt_lt, Int64.le_iff_toInt_le, ← Int64.toInt_inj] at hc164_59; omega))))
      refine Go.step (X56.baloadBytes hx (j := (0 : Int32)) (v := (.int (nar .byte (jw.toInt32).toInt8.toInt32))) (by rw [e56]; exact Ar60.1) (State.isArrayOf_alike hZ.alike Ar60.2.1) Ar60.2.2 hin60 hat60 (g := (mkF m 170 #[.val (.long jw), .second, .val (.int in_), .val (.int il), .val (.int iv), .val (.int kj), .val (.int vl), .val (.ref b46), .val (.int (1 : Int32)), .val (.ref ar_56)] [(.int (0 : Int32)), (.ref ar_56)])) rfl rfl (hb hby at_170)) ?_
      show Go _ _ _ _ _ _ _ T56 (mkF m 171 #[.val (.long jw), .second, .val (.int in_), .val (.int il), .val (.int iv), .val (.int kj), .val (.int vl), .val (.ref b46), .val (.int (1 : Int32)), .val (.ref ar_56)] [(.int (nar .byte (jw.toInt32).toInt8.toInt32))])
      refine Go.step (fun _ k => XS.lloadN X56.here hx rfl (hb hby at_171) rfl k) ?_
      show Go _ _ _ _ _ _ _ T56 (mkF m 172 #[.val (.long jw), .second, .val (.int in_), .val (.int il), .val (.int iv), .val (.int kj), .val (.int vl), .val (.ref b46), .val (.int (1 : Int32)), .val (.ref ar_56)] [(.long jw), (.int (nar .byte (jw.toInt32).toInt8.toInt32))])
      refine Go.step (fun _ k => XS.l2i X56.here hx rfl (hb hby at_172) rfl k) ?_
      show Go _ _ _ _ _ _ _ T56 (mkF m 173 #[.val (.long jw), .second, .val (.int in_), .val (.int il), .val (.int iv), .val (.int kj), .val (.int vl), .val (.ref b46), .val (.int (1 : Int32)), .val (.ref ar_56)] [(.int (jw.toInt32)), (.int (nar .byte (jw.toInt32).toInt8.toInt32))])
      refine Go.step (fun _ k => XS.i2b X56.here hx rfl (hb hby at_173) rfl k) ?_
      show Go _ _ _ _ _ _ _ T56 (mkF m 174 #[.val (.long jw), .second, .val (.int in_), .val (.int il), .val (.int iv), .val (.int kj), .val (.int vl), .val (.ref b46), .val (.int (1 : Int32)), .val (.ref ar_56)] [(.int ((jw.toInt32).toInt8.toInt32)), (.int (nar .byte (jw.toInt32).toInt8.toInt32))])
      have hc174_61 : (nar .byte (jw.toInt32).toInt8.toInt32) = ((jw.toInt32).toInt8.toInt32) := own_i2b2 _
      refine Go.step (fun _ k => XS.icmpYes X56.here hx rfl (pc0 := 174) (pc' := 180) rfl (hb hby at_174) rfl (teq hc174_61).1 (by decide) (by decide) k) ?_
      show Go _ _ _ _ _ _ _ T56 (mkF m 180 #[.val (.long jw), .second, .val (.int in_), .val (.int il), .val (.int iv), .val (.int kj), .val (.int vl), .val (.ref b46), .val (.int (1 : Int32)), .val (.ref ar_56)] [])
      refine Go.step (fun _ k => XS.iload X56.here hx rfl (hb hby at_180) rfl k) ?_
      show Go _ _ _ _ _ _ _ T56 (mkF m 182 #[.val (.long jw), .second, .val (.int in_), .val (.int il), .val (.int iv), .val (.int kj), .val (.int vl), .val (.ref b46), .val (.int (1 : Int32)), .val (.ref ar_56)] [(.int vl)])
      refine Go.step (fun _ k => XS.iconst X56.here hx rfl (hb hby at_182) k) ?_
      show Go _ _ _ _ _ _ _ T56 (mkF m 183 #[.val (.long jw), .second, .val (.int in_), .val (.int il), .val (.int iv), .val (.int kj), .val (.int vl), .val (.ref b46), .val (.int (1 : Int32)), .val (.ref ar_56)] [(.int (1 : Int32)), (.int vl)])
      by_cases hc183_62 : (1 : Int32) < vl
      · refine Go.step (fun _ k => XS.icmpNo X56.here hx rfl (hb hby at_183) rfl (tlt hc183_62).2.2.2 k) ?_
        show Go _ _ _ _ _ _ _ T56 (mkF m 186 #[.val (.long jw), .second, .val (.int in_), .val (.int il), .val (.int iv), .val (.int kj), .val (.int vl), .val (.ref b46), .val (.int (1 : Int32)), .val (.ref ar_56)] [])
        refine Go.step (fun _ k => XS.aload X56.here hx rfl (hb hby at_186) rfl rfl k) ?_
        show Go _ _ _ _ _ _ _ T56 (mkF m 188 #[.val (.long jw), .second, .val (.int in_), .val (.int il), .val (.int iv), .val (.int kj), .val (.int vl), .val (.ref b46), .val (.int (1 : Int32)), .val (.ref ar_56)] [(.ref ar_56)])
        refine Go.step (fun _ k => XS.iconst X56.here hx rfl (hb hby at_188) k) ?_
        show Go _ _ _ _ _ _ _ T56 (mkF m 189 #[.val (.long jw), .second, .val (.int in_), .val (.int il), .val (.int iv), .val (.int kj), .val (.int vl), .val (.ref b46), .val (.int (1 : Int32)), .val (.ref ar_56)] [(.int (1 : Int32)), (.ref ar_56)])
        obtain ⟨cl63, Ar63, q63, S63, M63, H63, G63⟩ := id (V1_56)
        have hin63 : ¬ ((1 : Int32) < 0 ∨ cl63.slots.size ≤ ((1 : Int32)).toNatClampNeg) := inb_of S63 ⟨(by have := rng32 vl; have : (1 : Int32).toInt = 1 := rfl; have := rng32 (vl + (1 : Int32)); have := c_iadd vl (1 : Int32); have : (0 : Int32).toInt = 0 := rfl; have := bl; have := bk; simp only [Int32.lt_iff_toInt_lt, Int32.le_iff_toInt_le, ← Int32.toInt_inj, Int64.lt_iff_toInt_lt, Int64.le_iff_toInt_le, ← Int64.toInt_inj] at hc164_59 hc183_62 ⊢; omega), (by have := rng32 vl; have : (1 : Int32).toInt = 1 := rfl; have := rng32 (vl + (1 : Int32)); have := c_iadd vl (1 : Int32); have : (0 : Int32).toInt = 0 := rfl; have := bl; have := bk; simp only [Int32.lt_iff_toInt_lt, Int32.le_iff_toInt_le, ← Int32.toInt_inj, Int64.lt_iff_toInt_lt, Int64.le_iff_toInt_le, ← Int64.toInt_inj] at hc164_59 hc183_62 ⊢; omega)⟩
        have hat63 : cl63.slots[((1 : Int32)).toNatClampNeg]? = some (.int (nar .byte (((jw.toUInt64 >>> ((8 : Int32) &&& 0x3f).toInt64.toUInt64).toInt64).toInt32).toInt8.toInt32)) := H63.at hin63 ((pa_56 _ (own_tlt (by have := rng32 vl; have : (1 : Int32).toInt = 1 := rfl; have := rng32 (vl + (1 : Int32)); have := c_iadd vl (1 : Int32); have : (0 : Int32).toInt = 0 := rfl; have := bl; have := bk; simp only [Int32.lt_iff_toInt_lt, Int32.le_iff_toInt_le, ← Int32.toInt_inj, Int64.lt_iff_toInt_lt, Int64.le_iff_toInt_le, ← Int64.toInt_inj] at hc164_59 hc183_62 ⊢; omega) (by have := rng32 vl; have : (1 : Int32).toInt = 1 := rfl; have := rng32 (vl + (1 : Int32)); have := c_iadd vl (1 : Int32); have : (0 : Int32).toInt = 0 := rfl; have := bl; have := bk; simp only [Int32.lt_iff_toInt_lt, Int32.le_iff_toInt_le, ← Int32.toInt_inj, Int64.lt_iff_toInt_lt, Int64.le_iff_toInt_le, ← Int64.toInt_inj] at hc164_59 hc183_62 ⊢; omega))).trans ((own_n (by have := own_tlt (a := (1 : Int32)) (b := vl) (by decide) hc183_62; intro q; rw [q] at this; exact absurd this (by decide))).trans (c1 (by have := rng32 vl; have : (1 : Int32).toInt = 1 := rfl; simp only [Int32.lt_iff_toInt_lt, Int32.le_iff_toInt_le, ← Int32.toInt_inj, Int64.lt_iff_toInt_lt, Int64.le_iff_toInt_le, ← Int64.toInt_inj] at hc183_62; omega))))
        refine Go.step (X56.baloadBytes hx (j := (1 : Int32)) (v := (.int (nar .byte (((jw.toUInt64 >>> ((8 : Int32) &&& 0x3f).toInt64.toUInt64).toInt64).toInt32).toInt8.toInt32))) (by rw [e56]; exact Ar63.1) (State.isArrayOf_alike hZ.alike Ar63.2.1) Ar63.2.2 hin63 hat63 (g := (mkF m 189 #[.val (.long jw), .second, .val (.int in_), .val (.int il), .val (.int iv), .val (.int kj), .val (.int vl), .val (.ref b46), .val (.int (1 : Int32)), .val (.ref ar_56)] [(.int (1 : Int32)), (.ref ar_56)])) rfl rfl (hb hby at_189)) ?_
        show Go _ _ _ _ _ _ _ T56 (mkF m 190 #[.val (.long jw), .second, .val (.int in_), .val (.int il), .val (.int iv), .val (.int kj), .val (.int vl), .val (.ref b46), .val (.int (1 : Int32)), .val (.ref ar_56)] [(.int (nar .byte (((jw.toUInt64 >>> ((8 : Int32) &&& 0x3f).toInt64.toUInt64).toInt64).toInt32).toInt8.toInt32))])
        refine Go.step (fun _ k => XS.lloadN X56.here hx rfl (hb hby at_190) rfl k) ?_
        show Go _ _ _ _ _ _ _ T56 (mkF m 191 #[.val (.long jw), .second, .val (.int in_), .val (.int il), .val (.int iv), .val (.int kj), .val (.int vl), .val (.ref b46), .val (.int (1 : Int32)), .val (.ref ar_56)] [(.long jw), (.int (nar .byte (((jw.toUInt64 >>> ((8 : Int32) &&& 0x3f).toInt64.toUInt64).toInt64).toInt32).toInt8.toInt32))])
        refine Go.step (fun _ k => XS.bipush X56.here hx rfl (hb hby at_191) k) ?_
        show Go _ _ _ _ _ _ _ T56 (mkF m 193 #[.val (.long jw), .second, .val (.int in_), .val (.int il), .val (.int iv), .val (.int kj), .val (.int vl), .val (.ref b46), .val (.int (1 : Int32)), .val (.ref ar_56)] [(.int (8 : Int32)), (.long jw), (.int (nar .byte (((jw.toUInt64 >>> ((8 : Int32) &&& 0x3f).toInt64.toUInt64).toInt64).toInt32).toInt8.toInt32))])
        refine Go.step (fun _ k => XS.lushr X56.here hx rfl (hb hby at_193) rfl k) ?_
        show Go _ _ _ _ _ _ _ T56 (mkF m 194 #[.val (.long jw), .second, .val (.int in_), .val (.int il), .val (.int iv), .val (.int kj), .val (.int vl), .val (.ref b46), .val (.int (1 : Int32)), .val (.ref ar_56)] [(.long ((jw.toUInt64 >>> ((8 : Int32) &&& 0x3f).toInt64.toUInt64).toInt64)), (.int (nar .byte (((jw.toUInt64 >>> ((8 : Int32) &&& 0x3f).toInt64.toUInt64).toInt64).toInt32).toInt8.toInt32))])
        refine Go.step (fun _ k => XS.l2i X56.here hx rfl (hb hby at_194) rfl k) ?_
        show Go _ _ _ _ _ _ _ T56 (mkF m 195 #[.val (.long jw), .second, .val (.int in_), .val (.int il), .val (.int iv), .val (.int kj), .val (.int vl), .val (.ref b46), .val (.int (1 : Int32)), .val (.ref ar_56)] [(.int (((jw.toUInt64 >>> ((8 : Int32) &&& 0x3f).toInt64.toUInt64).toInt64).toInt32)), (.int (nar .byte (((jw.toUInt64 >>> ((8 : Int32) &&& 0x3f).toInt64.toUInt64).toInt64).toInt32).toInt8.toInt32))])
        refine Go.step (fun _ k => XS.i2b X56.here hx rfl (hb hby at_195) rfl k) ?_
        show Go _ _ _ _ _ _ _ T56 (mkF m 196 #[.val (.long jw), .second, .val (.int in_), .val (.int il), .val (.int iv), .val (.int kj), .val (.int vl), .val (.ref b46), .val (.int (1 : Int32)), .val (.ref ar_56)] [(.int ((((jw.toUInt64 >>> ((8 : Int32) &&& 0x3f).toInt64.toUInt64).toInt64).toInt32).toInt8.toInt32)), (.int (nar .byte (((jw.toUInt64 >>> ((8 : Int32) &&& 0x3f).toInt64.toUInt64).toInt64).toInt32).toInt8.toInt32))])
        have hc196_64 : (nar .byte (((jw.toUInt64 >>> ((8 : Int32) &&& 0x3f).toInt64.toUInt64).toInt64).toInt32).toInt8.toInt32) = ((((jw.toUInt64 >>> ((8 : Int32) &&& 0x3f).toInt64.toUInt64).toInt64).toInt32).toInt8.toInt32) := own_i2b2 _
        refine Go.step (fun _ k => XS.icmpYes X56.here hx rfl (pc0 := 196) (pc' := 202) rfl (hb hby at_196) rfl (teq hc196_64).1 (by decide) (by decide) k) ?_
        show Go _ _ _ _ _ _ _ T56 (mkF m 202 #[.val (.long jw), .second, .val (.int in_), .val (.int il), .val (.int iv), .val (.int kj), .val (.int vl), .val (.ref b46), .val (.int (1 : Int32)), .val (.ref ar_56)] [])
        refine Go.step (fun _ k => XS.iload X56.here hx rfl (hb hby at_202) rfl k) ?_
        show Go _ _ _ _ _ _ _ T56 (mkF m 204 #[.val (.long jw), .second, .val (.int in_), .val (.int il), .val (.int iv), .val (.int kj), .val (.int vl), .val (.ref b46), .val (.int (1 : Int32)), .val (.ref ar_56)] [(.int vl)])
        refine Go.step (fun _ k => XS.iconst X56.here hx rfl (hb hby at_204) k) ?_
        show Go _ _ _ _ _ _ _ T56 (mkF m 205 #[.val (.long jw), .second, .val (.int in_), .val (.int il), .val (.int iv), .val (.int kj), .val (.int vl), .val (.ref b46), .val (.int (1 : Int32)), .val (.ref ar_56)] [(.int (2 : Int32)), (.int vl)])
        by_cases hc205_65 : (2 : Int32) < vl
        · refine Go.step (fun _ k => XS.icmpNo X56.here hx rfl (hb hby at_205) rfl (tlt hc205_65).2.2.2 k) ?_
          show Go _ _ _ _ _ _ _ T56 (mkF m 208 #[.val (.long jw), .second, .val (.int in_), .val (.int il), .val (.int iv), .val (.int kj), .val (.int vl), .val (.ref b46), .val (.int (1 : Int32)), .val (.ref ar_56)] [])
          refine Go.step (fun _ k => XS.aload X56.here hx rfl (hb hby at_208) rfl rfl k) ?_
          show Go _ _ _ _ _ _ _ T56 (mkF m 210 #[.val (.long jw), .second, .val (.int in_), .val (.int il), .val (.int iv), .val (.int kj), .val (.int vl), .val (.ref b46), .val (.int (1 : Int32)), .val (.ref ar_56)] [(.ref ar_56)])
          refine Go.step (fun _ k => XS.iconst X56.here hx rfl (hb hby at_210) k) ?_
          show Go _ _ _ _ _ _ _ T56 (mkF m 211 #[.val (.long jw), .second, .val (.int in_), .val (.int il), .val (.int iv), .val (.int kj), .val (.int vl), .val (.ref b46), .val (.int (1 : Int32)), .val (.ref ar_56)] [(.int (2 : Int32)), (.ref ar_56)])
          obtain ⟨cl66, Ar66, q66, S66, M66, H66, G66⟩ := id (V1_56)
          have hin66 : ¬ ((2 : Int32) < 0 ∨ cl66.slots.size ≤ ((2 : Int32)).toNatClampNeg) := inb_of S66 ⟨(by have := rng32 vl; have : (1 : Int32).toInt = 1 := rfl; have := rng32 (vl + (1 : Int32)); have := c_iadd vl (1 : Int32); have : (2 : Int32).toInt = 2 := rfl; have : (0 : Int32).toInt = 0 := rfl; have := bl; have := bk; simp only [Int32.lt_iff_toInt_lt, Int32.le_iff_toInt_le, ← Int32.toInt_inj, Int64.lt_iff_toInt_lt, Int64.le_iff_toInt_le, ← Int64.toInt_inj] at hc164_59 hc183_62 hc205_65 ⊢; omega), (by have := rng32 vl; have : (1 : Int32).toInt = 1 := rfl; have := rng32 (vl + (1 : Int32)); have := c_iadd vl (1 : Int32); have : (2 : Int32).toInt = 2 := rfl; have : (0 : Int32).toInt = 0 := rfl; have := bl; have := bk; simp only [Int32.lt_iff_toInt_lt, Int32.le_iff_toInt_le, ← Int32.toInt_inj, Int64.lt_iff_toInt_lt, Int64.le_iff_toInt_le, ← Int64.toInt_inj] at hc164_59 hc183_62 hc205_65 ⊢; omega)⟩
          have hat66 : cl66.slots[((2 : Int32)).toNatClampNeg]? = some (.int (nar .byte (((jw.toUInt64 >>> ((16 : Int32) &&& 0x3f).toInt64.toUInt64).toInt64).toInt32).toInt8.toInt32)) := H66.at hin66 ((pa_56 _ (own_tlt (by have := rng32 vl; have : (1 : Int32).toInt = 1 := rfl; have := rng32 (vl + (1 : Int32)); have := c_iadd vl (1 : Int32); have : (2 : Int32).toInt = 2 := rfl; have : (0 : Int32).toInt = 0 := rfl; have := bl; have := bk; simp only [Int32.lt_iff_toInt_lt, Int32.le_iff_toInt_le, ← Int32.toInt_inj, Int64.lt_iff_toInt_lt, Int64.le_iff_toInt_le, ← Int64.toInt_inj] at hc164_59 hc183_62 hc205_65 ⊢; omega) (by have := rng32 vl; have : (1 : Int32).toInt = 1 := rfl; have := rng32 (vl + (1 : Int32)); have := c_iadd vl (1 : Int32); have : (2 : Int32).toInt = 2 := rfl; have : (0 : Int32).toInt = 0 := rfl; have := bl; have := bk; simp only [Int32.lt_iff_toInt_lt, Int32.le_iff_toInt_le, ← Int32.toInt_inj, Int64.lt_iff_toInt_lt, Int64.le_iff_toInt_le, ← Int64.toInt_inj] at hc164_59 hc183_62 hc205_65 ⊢; omega))).trans ((own_n (by have := own_tlt (a := (2 : Int32)) (b := vl) (by decide) hc205_65; intro q; rw [q] at this; exact absurd this (by decide))).trans (c2 (by have := rng32 vl; have : (2 : Int32).toInt = 2 := rfl; simp only [Int32.lt_iff_toInt_lt, Int32.le_iff_toInt_le, ← Int32.toInt_inj, Int64.lt_iff_toInt_lt, Int64.le_iff_toInt_le, ← Int64.toInt_inj] at hc205_65; omega))))
          refine Go.step (X56.baloadBytes hx (j := (2 : Int32)) (v := (.int (nar .byte (((jw.toUInt64 >>> ((16 : Int32) &&& 0x3f).toInt64.toUInt64).toInt64).toInt32).toInt8.toInt32))) (by rw [e56]; exact Ar66.1) (State.isArrayOf_alike hZ.alike Ar66.2.1) Ar66.2.2 hin66 hat66 (g := (mkF m 211 #[.val (.long jw), .second, .val (.int in_), .val (.int il), .val (.int iv), .val (.int kj), .val (.int vl), .val (.ref b46), .val (.int (1 : Int32)), .val (.ref ar_56)] [(.int (2 : Int32)), (.ref ar_56)])) rfl rfl (hb hby at_211)) ?_
          show Go _ _ _ _ _ _ _ T56 (mkF m 212 #[.val (.long jw), .second, .val (.int in_), .val (.int il), .val (.int iv), .val (.int kj), .val (.int vl), .val (.ref b46), .val (.int (1 : Int32)), .val (.ref ar_56)] [(.int (nar .byte (((jw.toUInt64 >>> ((16 : Int32) &&& 0x3f).toInt64.toUInt64).toInt64).toInt32).toInt8.toInt32))])
          refine Go.step (fun _ k => XS.lloadN X56.here hx rfl (hb hby at_212) rfl k) ?_
          show Go _ _ _ _ _ _ _ T56 (mkF m 213 #[.val (.long jw), .second, .val (.int in_), .val (.int il), .val (.int iv), .val (.int kj), .val (.int vl), .val (.ref b46), .val (.int (1 : Int32)), .val (.ref ar_56)] [(.long jw), (.int (nar .byte (((jw.toUInt64 >>> ((16 : Int32) &&& 0x3f).toInt64.toUInt64).toInt64).toInt32).toInt8.toInt32))])
          refine Go.step (fun _ k => XS.bipush X56.here hx rfl (hb hby at_213) k) ?_
          show Go _ _ _ _ _ _ _ T56 (mkF m 215 #[.val (.long jw), .second, .val (.int in_), .val (.int il), .val (.int iv), .val (.int kj), .val (.int vl), .val (.ref b46), .val (.int (1 : Int32)), .val (.ref ar_56)] [(.int (16 : Int32)), (.long jw), (.int (nar .byte (((jw.toUInt64 >>> ((16 : Int32) &&& 0x3f).toInt64.toUInt64).toInt64).toInt32).toInt8.toInt32))])
          refine Go.step (fun _ k => XS.lushr X56.here hx rfl (hb hby at_215) rfl k) ?_
          show Go _ _ _ _ _ _ _ T56 (mkF m 216 #[.val (.long jw), .second, .val (.int in_), .val (.int il), .val (.int iv), .val (.int kj), .val (.int vl), .val (.ref b46), .val (.int (1 : Int32)), .val (.ref ar_56)] [(.long ((jw.toUInt64 >>> ((16 : Int32) &&& 0x3f).toInt64.toUInt64).toInt64)), (.int (nar .byte (((jw.toUInt64 >>> ((16 : Int32) &&& 0x3f).toInt64.toUInt64).toInt64).toInt32).toInt8.toInt32))])
          refine Go.step (fun _ k => XS.l2i X56.here hx rfl (hb hby at_216) rfl k) ?_
          show Go _ _ _ _ _ _ _ T56 (mkF m 217 #[.val (.long jw), .second, .val (.int in_), .val (.int il), .val (.int iv), .val (.int kj), .val (.int vl), .val (.ref b46), .val (.int (1 : Int32)), .val (.ref ar_56)] [(.int (((jw.toUInt64 >>> ((16 : Int32) &&& 0x3f).toInt64.toUInt64).toInt64).toInt32)), (.int (nar .byte (((jw.toUInt64 >>> ((16 : Int32) &&& 0x3f).toInt64.toUInt64).toInt64).toInt32).toInt8.toInt32))])
          refine Go.step (fun _ k => XS.i2b X56.here hx rfl (hb hby at_217) rfl k) ?_
          show Go _ _ _ _ _ _ _ T56 (mkF m 218 #[.val (.long jw), .second, .val (.int in_), .val (.int il), .val (.int iv), .val (.int kj), .val (.int vl), .val (.ref b46), .val (.int (1 : Int32)), .val (.ref ar_56)] [(.int ((((jw.toUInt64 >>> ((16 : Int32) &&& 0x3f).toInt64.toUInt64).toInt64).toInt32).toInt8.toInt32)), (.int (nar .byte (((jw.toUInt64 >>> ((16 : Int32) &&& 0x3f).toInt64.toUInt64).toInt64).toInt32).toInt8.toInt32))])
          have hc218_67 : (nar .byte (((jw.toUInt64 >>> ((16 : Int32) &&& 0x3f).toInt64.toUInt64).toInt64).toInt32).toInt8.toInt32) = ((((jw.toUInt64 >>> ((16 : Int32) &&& 0x3f).toInt64.toUInt64).toInt64).toInt32).toInt8.toInt32) := own_i2b2 _
          refine Go.step (fun _ k => XS.icmpYes X56.here hx rfl (pc0 := 218) (pc' := 224) rfl (hb hby at_218) rfl (teq hc218_67).1 (by decide) (by decide) k) ?_
          show Go _ _ _ _ _ _ _ T56 (mkF m 224 #[.val (.long jw), .second, .val (.int in_), .val (.int il), .val (.int iv), .val (.int kj), .val (.int vl), .val (.ref b46), .val (.int (1 : Int32)), .val (.ref ar_56)] [])
          refine Go.step (fun _ k => XS.iload X56.here hx rfl (hb hby at_224) rfl k) ?_
          show Go _ _ _ _ _ _ _ T56 (mkF m 226 #[.val (.long jw), .second, .val (.int in_), .val (.int il), .val (.int iv), .val (.int kj), .val (.int vl), .val (.ref b46), .val (.int (1 : Int32)), .val (.ref ar_56)] [(.int vl)])
          refine Go.step (fun _ k => XS.iconst X56.here hx rfl (hb hby at_226) k) ?_
          show Go _ _ _ _ _ _ _ T56 (mkF m 227 #[.val (.long jw), .second, .val (.int in_), .val (.int il), .val (.int iv), .val (.int kj), .val (.int vl), .val (.ref b46), .val (.int (1 : Int32)), .val (.ref ar_56)] [(.int (3 : Int32)), (.int vl)])
          by_cases hc227_68 : (3 : Int32) < vl
          · refine Go.step (fun _ k => XS.icmpNo X56.here hx rfl (hb hby at_227) rfl (tlt hc227_68).2.2.2 k) ?_
            show Go _ _ _ _ _ _ _ T56 (mkF m 230 #[.val (.long jw), .second, .val (.int in_), .val (.int il), .val (.int iv), .val (.int kj), .val (.int vl), .val (.ref b46), .val (.int (1 : Int32)), .val (.ref ar_56)] [])
            refine Go.step (fun _ k => XS.aload X56.here hx rfl (hb hby at_230) rfl rfl k) ?_
            show Go _ _ _ _ _ _ _ T56 (mkF m 232 #[.val (.long jw), .second, .val (.int in_), .val (.int il), .val (.int iv), .val (.int kj), .val (.int vl), .val (.ref b46), .val (.int (1 : Int32)), .val (.ref ar_56)] [(.ref ar_56)])
            refine Go.step (fun _ k => XS.iconst X56.here hx rfl (hb hby at_232) k) ?_
            show Go _ _ _ _ _ _ _ T56 (mkF m 233 #[.val (.long jw), .second, .val (.int in_), .val (.int il), .val (.int iv), .val (.int kj), .val (.int vl), .val (.ref b46), .val (.int (1 : Int32)), .val (.ref ar_56)] [(.int (3 : Int32)), (.ref ar_56)])
            obtain ⟨cl69, Ar69, q69, S69, M69, H69, G69⟩ := id (V1_56)
            have hin69 : ¬ ((3 : Int32) < 0 ∨ cl69.slots.size ≤ ((3 : Int32)).toNatClampNeg) := inb_of S69 ⟨(by have := rng32 vl; have : (1 : Int32).toInt = 1 := rfl; have := rng32 (vl + (1 : Int32)); have := c_iadd vl (1 : Int32); have : (3 : Int32).toInt = 3 := rfl; have : (0 : Int32).toInt = 0 := rfl; have := bl; have := bk; simp only [Int32.lt_iff_toInt_lt, Int32.le_iff_toInt_le, ← Int32.toInt_inj, Int64.lt_iff_toInt_lt, Int64.le_iff_toInt_le, ← Int64.toInt_inj] at hc164_59 hc183_62 hc205_65 hc227_68 ⊢; omega), (by have := rng32 vl; have : (1 : Int32).toInt = 1 := rfl; have := rng32 (vl + (1 : Int32)); have := c_iadd vl (1 : Int32); have : (3 : Int32).toInt = 3 := rfl; have : (0 : Int32).toInt = 0 := rfl; have := bl; have := bk; simp only [Int32.lt_iff_toInt_lt, Int32.le_iff_toInt_le, ← Int32.toInt_inj, Int64.lt_iff_toInt_lt, Int64.le_iff_toInt_le, ← Int64.toInt_inj] at hc164_59 hc183_62 hc205_65 hc227_68 ⊢; omega)⟩
            have hat69 : cl69.slots[((3 : Int32)).toNatClampNeg]? = some (.int (nar .byte (((jw.toUInt64 >>> ((24 : Int32) &&& 0x3f).toInt64.toUInt64).toInt64).toInt32).toInt8.toInt32)) := H69.at hin69 ((pa_56 _ (own_tlt (by have := rng32 vl; have : (1 : Int32).toInt = 1 := rfl; have := rng32 (vl + (1 : Int32)); have := c_iadd vl (1 : Int32); have : (3 : Int32).toInt = 3 := rfl; have : (0 : Int32).toInt = 0 := rfl; have := bl; have := bk; simp only [Int32.lt_iff_toInt_lt, Int32.le_iff_toInt_le, ← Int32.toInt_inj, Int64.lt_iff_toInt_lt, Int64.le_iff_toInt_le, ← Int64.toInt_inj] at hc164_59 hc183_62 hc205_65 hc227_68 ⊢; omega) (by have := rng32 vl; have : (1 : Int32).toInt = 1 := rfl; have := rng32 (vl + (1 : Int32)); have := c_iadd vl (1 : Int32); have : (3 : Int32).toInt = 3 := rfl; have : (0 : Int32).toInt = 0 := rfl; have := bl; have := bk; simp only [Int32.lt_iff_toInt_lt, Int32.le_iff_toInt_le, ← Int32.toInt_inj, Int64.lt_iff_toInt_lt, Int64.le_iff_toInt_le, ← Int64.toInt_inj] at hc164_59 hc183_62 hc205_65 hc227_68 ⊢; omega))).trans ((own_n (by have := own_tlt (a := (3 : Int32)) (b := vl) (by decide) hc227_68; intro q; rw [q] at this; exact absurd this (by decide))).trans (c3 (by have := rng32 vl; have : (3 : Int32).toInt = 3 := rfl; simp only [Int32.lt_iff_toInt_lt, Int32.le_iff_toInt_le, ← Int32.toInt_inj, Int64.lt_iff_toInt_lt, Int64.le_iff_toInt_le, ← Int64.toInt_inj] at hc227_68; omega))))
            refine Go.step (X56.baloadBytes hx (j := (3 : Int32)) (v := (.int (nar .byte (((jw.toUInt64 >>> ((24 : Int32) &&& 0x3f).toInt64.toUInt64).toInt64).toInt32).toInt8.toInt32))) (by rw [e56]; exact Ar69.1) (State.isArrayOf_alike hZ.alike Ar69.2.1) Ar69.2.2 hin69 hat69 (g := (mkF m 233 #[.val (.long jw), .second, .val (.int in_), .val (.int il), .val (.int iv), .val (.int kj), .val (.int vl), .val (.ref b46), .val (.int (1 : Int32)), .val (.ref ar_56)] [(.int (3 : Int32)), (.ref ar_56)])) rfl rfl (hb hby at_233)) ?_
            show Go _ _ _ _ _ _ _ T56 (mkF m 234 #[.val (.long jw), .second, .val (.int in_), .val (.int il), .val (.int iv), .val (.int kj), .val (.int vl), .val (.ref b46), .val (.int (1 : Int32)), .val (.ref ar_56)] [(.int (nar .byte (((jw.toUInt64 >>> ((24 : Int32) &&& 0x3f).toInt64.toUInt64).toInt64).toInt32).toInt8.toInt32))])
            refine Go.step (fun _ k => XS.lloadN X56.here hx rfl (hb hby at_234) rfl k) ?_
            show Go _ _ _ _ _ _ _ T56 (mkF m 235 #[.val (.long jw), .second, .val (.int in_), .val (.int il), .val (.int iv), .val (.int kj), .val (.int vl), .val (.ref b46), .val (.int (1 : Int32)), .val (.ref ar_56)] [(.long jw), (.int (nar .byte (((jw.toUInt64 >>> ((24 : Int32) &&& 0x3f).toInt64.toUInt64).toInt64).toInt32).toInt8.toInt32))])
            refine Go.step (fun _ k => XS.bipush X56.here hx rfl (hb hby at_235) k) ?_
            show Go _ _ _ _ _ _ _ T56 (mkF m 237 #[.val (.long jw), .second, .val (.int in_), .val (.int il), .val (.int iv), .val (.int kj), .val (.int vl), .val (.ref b46), .val (.int (1 : Int32)), .val (.ref ar_56)] [(.int (24 : Int32)), (.long jw), (.int (nar .byte (((jw.toUInt64 >>> ((24 : Int32) &&& 0x3f).toInt64.toUInt64).toInt64).toInt32).toInt8.toInt32))])
            refine Go.step (fun _ k => XS.lushr X56.here hx rfl (hb hby at_237) rfl k) ?_
            show Go _ _ _ _ _ _ _ T56 (mkF m 238 #[.val (.long jw), .second, .val (.int in_), .val (.int il), .val (.int iv), .val (.int kj), .val (.int vl), .val (.ref b46), .val (.int (1 : Int32)), .val (.ref ar_56)] [(.long ((jw.toUInt64 >>> ((24 : Int32) &&& 0x3f).toInt64.toUInt64).toInt64)), (.int (nar .byte (((jw.toUInt64 >>> ((24 : Int32) &&& 0x3f).toInt64.toUInt64).toInt64).toInt32).toInt8.toInt32))])
            refine Go.step (fun _ k => XS.l2i X56.here hx rfl (hb hby at_238) rfl k) ?_
            show Go _ _ _ _ _ _ _ T56 (mkF m 239 #[.val (.long jw), .second, .val (.int in_), .val (.int il), .val (.int iv), .val (.int kj), .val (.int vl), .val (.ref b46), .val (.int (1 : Int32)), .val (.ref ar_56)] [(.int (((jw.toUInt64 >>> ((24 : Int32) &&& 0x3f).toInt64.toUInt64).toInt64).toInt32)), (.int (nar .byte (((jw.toUInt64 >>> ((24 : Int32) &&& 0x3f).toInt64.toUInt64).toInt64).toInt32).toInt8.toInt32))])
            refine Go.step (fun _ k => XS.i2b X56.here hx rfl (hb hby at_239) rfl k) ?_
            show Go _ _ _ _ _ _ _ T56 (mkF m 240 #[.val (.long jw), .second, .val (.int in_), .val (.int il), .val (.int iv), .val (.int kj), .val (.int vl), .val (.ref b46), .val (.int (1 : Int32)), .val (.ref ar_56)] [(.int ((((jw.toUInt64 >>> ((24 : Int32) &&& 0x3f).toInt64.toUInt64).toInt64).toInt32).toInt8.toInt32)), (.int (nar .byte (((jw.toUInt64 >>> ((24 : Int32) &&& 0x3f).toInt64.toUInt64).toInt64).toInt32).toInt8.toInt32))])
            have hc240_70 : (nar .byte (((jw.toUInt64 >>> ((24 : Int32) &&& 0x3f).toInt64.toUInt64).toInt64).toInt32).toInt8.toInt32) = ((((jw.toUInt64 >>> ((24 : Int32) &&& 0x3f).toInt64.toUInt64).toInt64).toInt32).toInt8.toInt32) := own_i2b2 _
            refine Go.step (fun _ k => XS.icmpYes X56.here hx rfl (pc0 := 240) (pc' := 246) rfl (hb hby at_240) rfl (teq hc240_70).1 (by decide) (by decide) k) ?_
            show Go _ _ _ _ _ _ _ T56 (mkF m 246 #[.val (.long jw), .second, .val (.int in_), .val (.int il), .val (.int iv), .val (.int kj), .val (.int vl), .val (.ref b46), .val (.int (1 : Int32)), .val (.ref ar_56)] [])
            refine Go.step (fun _ k => XS.iload X56.here hx rfl (hb hby at_246) rfl k) ?_
            show Go _ _ _ _ _ _ _ T56 (mkF m 248 #[.val (.long jw), .second, .val (.int in_), .val (.int il), .val (.int iv), .val (.int kj), .val (.int vl), .val (.ref b46), .val (.int (1 : Int32)), .val (.ref ar_56)] [(.int (1 : Int32))])
            have hc248_71 : ¬ ((1 : Int32) = (0 : Int32)) := (by decide)
            refine Go.step (fun _ k => XS.ifNo X56.here hx rfl (hb hby at_248) rfl ((if0 _ _).trans (feq hc248_71).1) k) ?_
            show Go _ _ _ _ _ _ _ T56 (mkF m 251 #[.val (.long jw), .second, .val (.int in_), .val (.int il), .val (.int iv), .val (.int kj), .val (.int vl), .val (.ref b46), .val (.int (1 : Int32)), .val (.ref ar_56)] [])
            refine Go.step (fun _ k => XS.aload X56.here hx rfl (hb hby at_251) rfl rfl k) ?_
            show Go _ _ _ _ _ _ _ T56 (mkF m 253 #[.val (.long jw), .second, .val (.int in_), .val (.int il), .val (.int iv), .val (.int kj), .val (.int vl), .val (.ref b46), .val (.int (1 : Int32)), .val (.ref ar_56)] [(.ref ar_56)])
            refine Go.step (fun _ k => XS.iload X56.here hx rfl (hb hby at_253) rfl k) ?_
            show Go _ _ _ _ _ _ _ T56 (mkF m 255 #[.val (.long jw), .second, .val (.int in_), .val (.int il), .val (.int iv), .val (.int kj), .val (.int vl), .val (.ref b46), .val (.int (1 : Int32)), .val (.ref ar_56)] [(.int vl), (.ref ar_56)])
            obtain ⟨cl72, Ar72, q72, S72, M72, H72, G72⟩ := id (V1_56)
            have hin72 : ¬ (vl < 0 ∨ cl72.slots.size ≤ (vl).toNatClampNeg) := inb_of S72 ⟨(by have := rng32 vl; have : (1 : Int32).toInt = 1 := rfl; have := rng32 (vl + (1 : Int32)); have := c_iadd vl (1 : Int32); have : (0 : Int32).toInt = 0 := rfl; have := bl; have := bk; simp only [Int32.lt_iff_toInt_lt, Int32.le_iff_toInt_le, ← Int32.toInt_inj, Int64.lt_iff_toInt_lt, Int64.le_iff_toInt_le, ← Int64.toInt_inj] at hc164_59 hc183_62 hc205_65 hc227_68 ⊢; omega), (by have := rng32 vl; have : (1 : Int32).toInt = 1 := rfl; have := rng32 (vl + (1 : Int32)); have := c_iadd vl (1 : Int32); have : (0 : Int32).toInt = 0 := rfl; have := bl; have := bk; simp only [Int32.lt_iff_toInt_lt, Int32.le_iff_toInt_le, ← Int32.toInt_inj, Int64.lt_iff_toInt_lt, Int64.le_iff_toInt_le, ← Int64.toInt_inj] at hc164_59 hc183_62 hc205_65 hc227_68 ⊢; omega)⟩
            have hat72 : cl72.slots[(vl).toNatClampNeg]? = some (.int (nar .byte iv.toInt8.toInt32)) := H72.at hin72 ((pa_56 _ (own_tlt (by have := rng32 vl; have : (1 : Int32).toInt = 1 := rfl; have := rng32 (vl + (1 : Int32)); have := c_iadd vl (1 : Int32); have : (0 : Int32).toInt = 0 := rfl; have := bl; have := bk; simp only [Int32.lt_iff_toInt_lt, Int32.le_iff_toInt_le, ← Int32.toInt_inj, Int64.lt_iff_toInt_lt, Int64.le_iff_toInt_le, ← Int64.toInt_inj] at hc164_59 hc183_62 hc205_65 hc227_68 ⊢; omega) (by have := rng32 vl; have : (1 : Int32).toInt = 1 := rfl; have := rng32 (vl + (1 : Int32)); have := c_iadd vl (1 : Int32); have : (0 : Int32).toInt = 0 := rfl; have := bl; have := bk; simp only [Int32.lt_iff_toInt_lt, Int32.le_iff_toInt_le, ← Int32.toInt_inj, Int64.lt_iff_toInt_lt, Int64.le_iff_toInt_le, ← Int64.toInt_inj] at hc164_59 hc183_62 hc205_65 hc227_68 ⊢; omega))).trans (own_g (by rw [hlj]; exact own_tn (n := 64) (by have := rng32 vl; omega) (by have := rng32 vl; have := bl; have := bk; omega))))
            refine Go.step (X56.baloadBytes hx (j := vl) (v := (.int (nar .byte iv.toInt8.toInt32))) (by rw [e56]; exact Ar72.1) (State.isArrayOf_alike hZ.alike Ar72.2.1) Ar72.2.2 hin72 hat72 (g := (mkF m 255 #[.val (.long jw), .second, .val (.int in_), .val (.int il), .val (.int iv), .val (.int kj), .val (.int vl), .val (.ref b46), .val (.int (1 : Int32)), .val (.ref ar_56)] [(.int vl), (.ref ar_56)])) rfl rfl (hb hby at_255)) ?_
            show Go _ _ _ _ _ _ _ T56 (mkF m 256 #[.val (.long jw), .second, .val (.int in_), .val (.int il), .val (.int iv), .val (.int kj), .val (.int vl), .val (.ref b46), .val (.int (1 : Int32)), .val (.ref ar_56)] [(.int (nar .byte iv.toInt8.toInt32))])
            refine Go.step (fun _ k => XS.iload X56.here hx rfl (hb hby at_256) rfl k) ?_
            show Go _ _ _ _ _ _ _ T56 (mkF m 258 #[.val (.long jw), .second, .val (.int in_), .val (.int il), .val (.int iv), .val (.int kj), .val (.int vl), .val (.ref b46), .val (.int (1 : Int32)), .val (.ref ar_56)] [(.int iv), (.int (nar .byte iv.toInt8.toInt32))])
            refine Go.step (fun _ k => XS.i2b X56.here hx rfl (hb hby at_258) rfl k) ?_
            show Go _ _ _ _ _ _ _ T56 (mkF m 259 #[.val (.long jw), .second, .val (.int in_), .val (.int il), .val (.int iv), .val (.int kj), .val (.int vl), .val (.ref b46), .val (.int (1 : Int32)), .val (.ref ar_56)] [(.int (iv.toInt8.toInt32)), (.int (nar .byte iv.toInt8.toInt32))])
            have hc259_73 : (nar .byte iv.toInt8.toInt32) = (iv.toInt8.toInt32) := own_i2b2 _
            refine Go.step (fun _ k => XS.icmpNo X56.here hx rfl (hb hby at_259) rfl (teq hc259_73).2 k) ?_
            show Go _ _ _ _ _ _ _ T56 (mkF m 262 #[.val (.long jw), .second, .val (.int in_), .val (.int il), .val (.int iv), .val (.int kj), .val (.int vl), .val (.ref b46), .val (.int (1 : Int32)), .val (.ref ar_56)] [])
            refine Go.step (fun _ k => XS.iconst X56.here hx rfl (hb hby at_262) k) ?_
            show Go _ _ _ _ _ _ _ T56 (mkF m 263 #[.val (.long jw), .second, .val (.int in_), .val (.int il), .val (.int iv), .val (.int kj), .val (.int vl), .val (.ref b46), .val (.int (1 : Int32)), .val (.ref ar_56)] [(.int (1 : Int32))])
            refine Go.step (fun _ k => XS.goto X56.here hx rfl (pc0 := 263) (pc' := 267) rfl (hb hby at_263) (by decide) (by decide) k) ?_
            show Go _ _ _ _ _ _ _ T56 (mkF m 267 #[.val (.long jw), .second, .val (.int in_), .val (.int il), .val (.int iv), .val (.int kj), .val (.int vl), .val (.ref b46), .val (.int (1 : Int32)), .val (.ref ar_56)] [(.int (1 : Int32))])
            exact Go.retN X56 hx (t := .boolean) hret hlk (by simp) (hb hby at_267) e56 (by decide) (by decide) ⟨rfl, N56, trivial⟩
          · refine Go.step (fun _ k => XS.icmpYes X56.here hx rfl (pc0 := 227) (pc' := 246) rfl (hb hby at_227) rfl (flt hc227_68).2.2.2 (by decide) (by decide) k) ?_
            show Go _ _ _ _ _ _ _ T56 (mkF m 246 #[.val (.long jw), .second, .val (.int in_), .val (.int il), .val (.int iv), .val (.int kj), .val (.int vl), .val (.ref b46), .val (.int (1 : Int32)), .val (.ref ar_56)] [])
            refine Go.step (fun _ k => XS.iload X56.here hx rfl (hb hby at_246) rfl k) ?_
            show Go _ _ _ _ _ _ _ T56 (mkF m 248 #[.val (.long jw), .second, .val (.int in_), .val (.int il), .val (.int iv), .val (.int kj), .val (.int vl), .val (.ref b46), .val (.int (1 : Int32)), .val (.ref ar_56)] [(.int (1 : Int32))])
            have hc248_74 : ¬ ((1 : Int32) = (0 : Int32)) := (by decide)
            refine Go.step (fun _ k => XS.ifNo X56.here hx rfl (hb hby at_248) rfl ((if0 _ _).trans (feq hc248_74).1) k) ?_
            show Go _ _ _ _ _ _ _ T56 (mkF m 251 #[.val (.long jw), .second, .val (.int in_), .val (.int il), .val (.int iv), .val (.int kj), .val (.int vl), .val (.ref b46), .val (.int (1 : Int32)), .val (.ref ar_56)] [])
            refine Go.step (fun _ k => XS.aload X56.here hx rfl (hb hby at_251) rfl rfl k) ?_
            show Go _ _ _ _ _ _ _ T56 (mkF m 253 #[.val (.long jw), .second, .val (.int in_), .val (.int il), .val (.int iv), .val (.int kj), .val (.int vl), .val (.ref b46), .val (.int (1 : Int32)), .val (.ref ar_56)] [(.ref ar_56)])
            refine Go.step (fun _ k => XS.iload X56.here hx rfl (hb hby at_253) rfl k) ?_
            show Go _ _ _ _ _ _ _ T56 (mkF m 255 #[.val (.long jw), .second, .val (.int in_), .val (.int il), .val (.int iv), .val (.int kj), .val (.int vl), .val (.ref b46), .val (.int (1 : Int32)), .val (.ref ar_56)] [(.int vl), (.ref ar_56)])
            obtain ⟨cl75, Ar75, q75, S75, M75, H75, G75⟩ := id (V1_56)
            have hin75 : ¬ (vl < 0 ∨ cl75.slots.size ≤ (vl).toNatClampNeg) := inb_of S75 ⟨(by have := rng32 vl; have : (1 : Int32).toInt = 1 := rfl; have := rng32 (vl + (1 : Int32)); have := c_iadd vl (1 : Int32); have : (0 : Int32).toInt = 0 := rfl; have := bl; have := bk; simp only [Int32.lt_iff_toInt_lt, Int32.le_iff_toInt_le, ← Int32.toInt_inj, Int64.lt_iff_toInt_lt, Int64.le_iff_toInt_le, ← Int64.toInt_inj] at hc164_59 hc183_62 hc205_65 hc227_68 ⊢; omega), (by have := rng32 vl; have : (1 : Int32).toInt = 1 := rfl; have := rng32 (vl + (1 : Int32)); have := c_iadd vl (1 : Int32); have : (0 : Int32).toInt = 0 := rfl; have := bl; have := bk; simp only [Int32.lt_iff_toInt_lt, Int32.le_iff_toInt_le, ← Int32.toInt_inj, Int64.lt_iff_toInt_lt, Int64.le_iff_toInt_le, ← Int64.toInt_inj] at hc164_59 hc183_62 hc205_65 hc227_68 ⊢; omega)⟩
            have hat75 : cl75.slots[(vl).toNatClampNeg]? = some (.int (nar .byte iv.toInt8.toInt32)) := H75.at hin75 ((pa_56 _ (own_tlt (by have := rng32 vl; have : (1 : Int32).toInt = 1 := rfl; have := rng32 (vl + (1 : Int32)); have := c_iadd vl (1 : Int32); have : (0 : Int32).toInt = 0 := rfl; have := bl; have := bk; simp only [Int32.lt_iff_toInt_lt, Int32.le_iff_toInt_le, ← Int32.toInt_inj, Int64.lt_iff_toInt_lt, Int64.le_iff_toInt_le, ← Int64.toInt_inj] at hc164_59 hc183_62 hc205_65 hc227_68 ⊢; omega) (by have := rng32 vl; have : (1 : Int32).toInt = 1 := rfl; have := rng32 (vl + (1 : Int32)); have := c_iadd vl (1 : Int32); have : (0 : Int32).toInt = 0 := rfl; have := bl; have := bk; simp only [Int32.lt_iff_toInt_lt, Int32.le_iff_toInt_le, ← Int32.toInt_inj, Int64.lt_iff_toInt_lt, Int64.le_iff_toInt_le, ← Int64.toInt_inj] at hc164_59 hc183_62 hc205_65 hc227_68 ⊢; omega))).trans (own_g (by rw [hlj]; exact own_tn (n := 64) (by have := rng32 vl; omega) (by have := rng32 vl; have := bl; have := bk; omega))))
            refine Go.step (X56.baloadBytes hx (j := vl) (v := (.int (nar .byte iv.toInt8.toInt32))) (by rw [e56]; exact Ar75.1) (State.isArrayOf_alike hZ.alike Ar75.2.1) Ar75.2.2 hin75 hat75 (g := (mkF m 255 #[.val (.long jw), .second, .val (.int in_), .val (.int il), .val (.int iv), .val (.int kj), .val (.int vl), .val (.ref b46), .val (.int (1 : Int32)), .val (.ref ar_56)] [(.int vl), (.ref ar_56)])) rfl rfl (hb hby at_255)) ?_
            show Go _ _ _ _ _ _ _ T56 (mkF m 256 #[.val (.long jw), .second, .val (.int in_), .val (.int il), .val (.int iv), .val (.int kj), .val (.int vl), .val (.ref b46), .val (.int (1 : Int32)), .val (.ref ar_56)] [(.int (nar .byte iv.toInt8.toInt32))])
            refine Go.step (fun _ k => XS.iload X56.here hx rfl (hb hby at_256) rfl k) ?_
            show Go _ _ _ _ _ _ _ T56 (mkF m 258 #[.val (.long jw), .second, .val (.int in_), .val (.int il), .val (.int iv), .val (.int kj), .val (.int vl), .val (.ref b46), .val (.int (1 : Int32)), .val (.ref ar_56)] [(.int iv), (.int (nar .byte iv.toInt8.toInt32))])
            refine Go.step (fun _ k => XS.i2b X56.here hx rfl (hb hby at_258) rfl k) ?_
            show Go _ _ _ _ _ _ _ T56 (mkF m 259 #[.val (.long jw), .second, .val (.int in_), .val (.int il), .val (.int iv), .val (.int kj), .val (.int vl), .val (.ref b46), .val (.int (1 : Int32)), .val (.ref ar_56)] [(.int (iv.toInt8.toInt32)), (.int (nar .byte iv.toInt8.toInt32))])
            have hc259_76 : (nar .byte iv.toInt8.toInt32) = (iv.toInt8.toInt32) := own_i2b2 _
            refine Go.step (fun _ k => XS.icmpNo X56.here hx rfl (hb hby at_259) rfl (teq hc259_76).2 k) ?_
            show Go _ _ _ _ _ _ _ T56 (mkF m 262 #[.val (.long jw), .second, .val (.int in_), .val (.int il), .val (.int iv), .val (.int kj), .val (.int vl), .val (.ref b46), .val (.int (1 : Int32)), .val (.ref ar_56)] [])
            refine Go.step (fun _ k => XS.iconst X56.here hx rfl (hb hby at_262) k) ?_
            show Go _ _ _ _ _ _ _ T56 (mkF m 263 #[.val (.long jw), .second, .val (.int in_), .val (.int il), .val (.int iv), .val (.int kj), .val (.int vl), .val (.ref b46), .val (.int (1 : Int32)), .val (.ref ar_56)] [(.int (1 : Int32))])
            refine Go.step (fun _ k => XS.goto X56.here hx rfl (pc0 := 263) (pc' := 267) rfl (hb hby at_263) (by decide) (by decide) k) ?_
            show Go _ _ _ _ _ _ _ T56 (mkF m 267 #[.val (.long jw), .second, .val (.int in_), .val (.int il), .val (.int iv), .val (.int kj), .val (.int vl), .val (.ref b46), .val (.int (1 : Int32)), .val (.ref ar_56)] [(.int (1 : Int32))])
            exact Go.retN X56 hx (t := .boolean) hret hlk (by simp) (hb hby at_267) e56 (by decide) (by decide) ⟨rfl, N56, trivial⟩
        · refine Go.step (fun _ k => XS.icmpYes X56.here hx rfl (pc0 := 205) (pc' := 224) rfl (hb hby at_205) rfl (flt hc205_65).2.2.2 (by decide) (by decide) k) ?_
          show Go _ _ _ _ _ _ _ T56 (mkF m 224 #[.val (.long jw), .second, .val (.int in_), .val (.int il), .val (.int iv), .val (.int kj), .val (.int vl), .val (.ref b46), .val (.int (1 : Int32)), .val (.ref ar_56)] [])
          refine Go.step (fun _ k => XS.iload X56.here hx rfl (hb hby at_224) rfl k) ?_
          show Go _ _ _ _ _ _ _ T56 (mkF m 226 #[.val (.long jw), .second, .val (.int in_), .val (.int il), .val (.int iv), .val (.int kj), .val (.int vl), .val (.ref b46), .val (.int (1 : Int32)), .val (.ref ar_56)] [(.int vl)])
          refine Go.step (fun _ k => XS.iconst X56.here hx rfl (hb hby at_226) k) ?_
          show Go _ _ _ _ _ _ _ T56 (mkF m 227 #[.val (.long jw), .second, .val (.int in_), .val (.int il), .val (.int iv), .val (.int kj), .val (.int vl), .val (.ref b46), .val (.int (1 : Int32)), .val (.ref ar_56)] [(.int (3 : Int32)), (.int vl)])
          have hc227_77 : ¬ ((3 : Int32) < vl) := (by have := rng32 vl; have : (0 : Int32).toInt = 0 := rfl; have : (1 : Int32).toInt = 1 := rfl; have : (2 : Int32).toInt = 2 := rfl; have : (3 : Int32).toInt = 3 := rfl; simp only [Int32.lt_iff_toInt_lt, Int32.le_iff_toInt_le, ← Int32.toInt_inj, Int64.lt_iff_toInt_lt, Int64.le_iff_toInt_le, ← Int64.toInt_inj] at hc205_65 ⊢; omega)
          refine Go.step (fun _ k => XS.icmpYes X56.here hx rfl (pc0 := 227) (pc' := 246) rfl (hb hby at_227) rfl (flt hc227_77).2.2.2 (by decide) (by decide) k) ?_
          show Go _ _ _ _ _ _ _ T56 (mkF m 246 #[.val (.long jw), .second, .val (.int in_), .val (.int il), .val (.int iv), .val (.int kj), .val (.int vl), .val (.ref b46), .val (.int (1 : Int32)), .val (.ref ar_56)] [])
          refine Go.step (fun _ k => XS.iload X56.here hx rfl (hb hby at_246) rfl k) ?_
          show Go _ _ _ _ _ _ _ T56 (mkF m 248 #[.val (.long jw), .second, .val (.int in_), .val (.int il), .val (.int iv), .val (.int kj), .val (.int vl), .val (.ref b46), .val (.int (1 : Int32)), .val (.ref ar_56)] [(.int (1 : Int32))])
          have hc248_78 : ¬ ((1 : Int32) = (0 : Int32)) := (by decide)
          refine Go.step (fun _ k => XS.ifNo X56.here hx rfl (hb hby at_248) rfl ((if0 _ _).trans (feq hc248_78).1) k) ?_
          show Go _ _ _ _ _ _ _ T56 (mkF m 251 #[.val (.long jw), .second, .val (.int in_), .val (.int il), .val (.int iv), .val (.int kj), .val (.int vl), .val (.ref b46), .val (.int (1 : Int32)), .val (.ref ar_56)] [])
          refine Go.step (fun _ k => XS.aload X56.here hx rfl (hb hby at_251) rfl rfl k) ?_
          show Go _ _ _ _ _ _ _ T56 (mkF m 253 #[.val (.long jw), .second, .val (.int in_), .val (.int il), .val (.int iv), .val (.int kj), .val (.int vl), .val (.ref b46), .val (.int (1 : Int32)), .val (.ref ar_56)] [(.ref ar_56)])
          refine Go.step (fun _ k => XS.iload X56.here hx rfl (hb hby at_253) rfl k) ?_
          show Go _ _ _ _ _ _ _ T56 (mkF m 255 #[.val (.long jw), .second, .val (.int in_), .val (.int il), .val (.int iv), .val (.int kj), .val (.int vl), .val (.ref b46), .val (.int (1 : Int32)), .val (.ref ar_56)] [(.int vl), (.ref ar_56)])
          obtain ⟨cl79, Ar79, q79, S79, M79, H79, G79⟩ := id (V1_56)
          have hin79 : ¬ (vl < 0 ∨ cl79.slots.size ≤ (vl).toNatClampNeg) := inb_of S79 ⟨(by have := rng32 vl; have : (1 : Int32).toInt = 1 := rfl; have := rng32 (vl + (1 : Int32)); have := c_iadd vl (1 : Int32); have : (0 : Int32).toInt = 0 := rfl; have := bl; have := bk; simp only [Int32.lt_iff_toInt_lt, Int32.le_iff_toInt_le, ← Int32.toInt_inj, Int64.lt_iff_toInt_lt, Int64.le_iff_toInt_le, ← Int64.toInt_inj] at hc164_59 hc183_62 hc205_65 hc227_77 ⊢; omega), (by have := rng32 vl; have : (1 : Int32).toInt = 1 := rfl; have := rng32 (vl + (1 : Int32)); have := c_iadd vl (1 : Int32); have : (0 : Int32).toInt = 0 := rfl; have := bl; have := bk; simp only [Int32.lt_iff_toInt_lt, Int32.le_iff_toInt_le, ← Int32.toInt_inj, Int64.lt_iff_toInt_lt, Int64.le_iff_toInt_le, ← Int64.toInt_inj] at hc164_59 hc183_62 hc205_65 hc227_77 ⊢; omega)⟩
          have hat79 : cl79.slots[(vl).toNatClampNeg]? = some (.int (nar .byte iv.toInt8.toInt32)) := H79.at hin79 ((pa_56 _ (own_tlt (by have := rng32 vl; have : (1 : Int32).toInt = 1 := rfl; have := rng32 (vl + (1 : Int32)); have := c_iadd vl (1 : Int32); have : (0 : Int32).toInt = 0 := rfl; have := bl; have := bk; simp only [Int32.lt_iff_toInt_lt, Int32.le_iff_toInt_le, ← Int32.toInt_inj, Int64.lt_iff_toInt_lt, Int64.le_iff_toInt_le, ← Int64.toInt_inj] at hc164_59 hc183_62 hc205_65 hc227_77 ⊢; omega) (by have := rng32 vl; have : (1 : Int32).toInt = 1 := rfl; have := rng32 (vl + (1 : Int32)); have := c_iadd vl (1 : Int32); have : (0 : Int32).toInt = 0 := rfl; have := bl; have := bk; simp only [Int32.lt_iff_toInt_lt, Int32.le_iff_toInt_le, ← Int32.toInt_inj, Int64.lt_iff_toInt_lt, Int64.le_iff_toInt_le, ← Int64.toInt_inj] at hc164_59 hc183_62 hc205_65 hc227_77 ⊢; omega))).trans (own_g (by rw [hlj]; exact own_tn (n := 64) (by have := rng32 vl; omega) (by have := rng32 vl; have := bl; have := bk; omega))))
          refine Go.step (X56.baloadBytes hx (j := vl) (v := (.int (nar .byte iv.toInt8.toInt32))) (by rw [e56]; exact Ar79.1) (State.isArrayOf_alike hZ.alike Ar79.2.1) Ar79.2.2 hin79 hat79 (g := (mkF m 255 #[.val (.long jw), .second, .val (.int in_), .val (.int il), .val (.int iv), .val (.int kj), .val (.int vl), .val (.ref b46), .val (.int (1 : Int32)), .val (.ref ar_56)] [(.int vl), (.ref ar_56)])) rfl rfl (hb hby at_255)) ?_
          show Go _ _ _ _ _ _ _ T56 (mkF m 256 #[.val (.long jw), .second, .val (.int in_), .val (.int il), .val (.int iv), .val (.int kj), .val (.int vl), .val (.ref b46), .val (.int (1 : Int32)), .val (.ref ar_56)] [(.int (nar .byte iv.toInt8.toInt32))])
          refine Go.step (fun _ k => XS.iload X56.here hx rfl (hb hby at_256) rfl k) ?_
          show Go _ _ _ _ _ _ _ T56 (mkF m 258 #[.val (.long jw), .second, .val (.int in_), .val (.int il), .val (.int iv), .val (.int kj), .val (.int vl), .val (.ref b46), .val (.int (1 : Int32)), .val (.ref ar_56)] [(.int iv), (.int (nar .byte iv.toInt8.toInt32))])
          refine Go.step (fun _ k => XS.i2b X56.here hx rfl (hb hby at_258) rfl k) ?_
          show Go _ _ _ _ _ _ _ T56 (mkF m 259 #[.val (.long jw), .second, .val (.int in_), .val (.int il), .val (.int iv), .val (.int kj), .val (.int vl), .val (.ref b46), .val (.int (1 : Int32)), .val (.ref ar_56)] [(.int (iv.toInt8.toInt32)), (.int (nar .byte iv.toInt8.toInt32))])
          have hc259_80 : (nar .byte iv.toInt8.toInt32) = (iv.toInt8.toInt32) := own_i2b2 _
          refine Go.step (fun _ k => XS.icmpNo X56.here hx rfl (hb hby at_259) rfl (teq hc259_80).2 k) ?_
          show Go _ _ _ _ _ _ _ T56 (mkF m 262 #[.val (.long jw), .second, .val (.int in_), .val (.int il), .val (.int iv), .val (.int kj), .val (.int vl), .val (.ref b46), .val (.int (1 : Int32)), .val (.ref ar_56)] [])
          refine Go.step (fun _ k => XS.iconst X56.here hx rfl (hb hby at_262) k) ?_
          show Go _ _ _ _ _ _ _ T56 (mkF m 263 #[.val (.long jw), .second, .val (.int in_), .val (.int il), .val (.int iv), .val (.int kj), .val (.int vl), .val (.ref b46), .val (.int (1 : Int32)), .val (.ref ar_56)] [(.int (1 : Int32))])
          refine Go.step (fun _ k => XS.goto X56.here hx rfl (pc0 := 263) (pc' := 267) rfl (hb hby at_263) (by decide) (by decide) k) ?_
          show Go _ _ _ _ _ _ _ T56 (mkF m 267 #[.val (.long jw), .second, .val (.int in_), .val (.int il), .val (.int iv), .val (.int kj), .val (.int vl), .val (.ref b46), .val (.int (1 : Int32)), .val (.ref ar_56)] [(.int (1 : Int32))])
          exact Go.retN X56 hx (t := .boolean) hret hlk (by simp) (hb hby at_267) e56 (by decide) (by decide) ⟨rfl, N56, trivial⟩
      · refine Go.step (fun _ k => XS.icmpYes X56.here hx rfl (pc0 := 183) (pc' := 202) rfl (hb hby at_183) rfl (flt hc183_62).2.2.2 (by decide) (by decide) k) ?_
        show Go _ _ _ _ _ _ _ T56 (mkF m 202 #[.val (.long jw), .second, .val (.int in_), .val (.int il), .val (.int iv), .val (.int kj), .val (.int vl), .val (.ref b46), .val (.int (1 : Int32)), .val (.ref ar_56)] [])
        refine Go.step (fun _ k => XS.iload X56.here hx rfl (hb hby at_202) rfl k) ?_
        show Go _ _ _ _ _ _ _ T56 (mkF m 204 #[.val (.long jw), .second, .val (.int in_), .val (.int il), .val (.int iv), .val (.int kj), .val (.int vl), .val (.ref b46), .val (.int (1 : Int32)), .val (.ref ar_56)] [(.int vl)])
        refine Go.step (fun _ k => XS.iconst X56.here hx rfl (hb hby at_204) k) ?_
        show Go _ _ _ _ _ _ _ T56 (mkF m 205 #[.val (.long jw), .second, .val (.int in_), .val (.int il), .val (.int iv), .val (.int kj), .val (.int vl), .val (.ref b46), .val (.int (1 : Int32)), .val (.ref ar_56)] [(.int (2 : Int32)), (.int vl)])
        have hc205_81 : ¬ ((2 : Int32) < vl) := (by have := rng32 vl; have : (0 : Int32).toInt = 0 := rfl; have : (1 : Int32).toInt = 1 := rfl; have : (2 : Int32).toInt = 2 := rfl; have : (3 : Int32).toInt = 3 := rfl; simp only [Int32.lt_iff_toInt_lt, Int32.le_iff_toInt_le, ← Int32.toInt_inj, Int64.lt_iff_toInt_lt, Int64.le_iff_toInt_le, ← Int64.toInt_inj] at hc183_62 ⊢; omega)
        refine Go.step (fun _ k => XS.icmpYes X56.here hx rfl (pc0 := 205) (pc' := 224) rfl (hb hby at_205) rfl (flt hc205_81).2.2.2 (by decide) (by decide) k) ?_
        show Go _ _ _ _ _ _ _ T56 (mkF m 224 #[.val (.long jw), .second, .val (.int in_), .val (.int il), .val (.int iv), .val (.int kj), .val (.int vl), .val (.ref b46), .val (.int (1 : Int32)), .val (.ref ar_56)] [])
        refine Go.step (fun _ k => XS.iload X56.here hx rfl (hb hby at_224) rfl k) ?_
        show Go _ _ _ _ _ _ _ T56 (mkF m 226 #[.val (.long jw), .second, .val (.int in_), .val (.int il), .val (.int iv), .val (.int kj), .val (.int vl), .val (.ref b46), .val (.int (1 : Int32)), .val (.ref ar_56)] [(.int vl)])
        refine Go.step (fun _ k => XS.iconst X56.here hx rfl (hb hby at_226) k) ?_
        show Go _ _ _ _ _ _ _ T56 (mkF m 227 #[.val (.long jw), .second, .val (.int in_), .val (.int il), .val (.int iv), .val (.int kj), .val (.int vl), .val (.ref b46), .val (.int (1 : Int32)), .val (.ref ar_56)] [(.int (3 : Int32)), (.int vl)])
        have hc227_82 : ¬ ((3 : Int32) < vl) := (by have := rng32 vl; have : (0 : Int32).toInt = 0 := rfl; have : (1 : Int32).toInt = 1 := rfl; have : (2 : Int32).toInt = 2 := rfl; have : (3 : Int32).toInt = 3 := rfl; simp only [Int32.lt_iff_toInt_lt, Int32.le_iff_toInt_le, ← Int32.toInt_inj, Int64.lt_iff_toInt_lt, Int64.le_iff_toInt_le, ← Int64.toInt_inj] at hc183_62 ⊢; omega)
        refine Go.step (fun _ k => XS.icmpYes X56.here hx rfl (pc0 := 227) (pc' := 246) rfl (hb hby at_227) rfl (flt hc227_82).2.2.2 (by decide) (by decide) k) ?_
        show Go _ _ _ _ _ _ _ T56 (mkF m 246 #[.val (.long jw), .second, .val (.int in_), .val (.int il), .val (.int iv), .val (.int kj), .val (.int vl), .val (.ref b46), .val (.int (1 : Int32)), .val (.ref ar_56)] [])
        refine Go.step (fun _ k => XS.iload X56.here hx rfl (hb hby at_246) rfl k) ?_
        show Go _ _ _ _ _ _ _ T56 (mkF m 248 #[.val (.long jw), .second, .val (.int in_), .val (.int il), .val (.int iv), .val (.int kj), .val (.int vl), .val (.ref b46), .val (.int (1 : Int32)), .val (.ref ar_56)] [(.int (1 : Int32))])
        have hc248_83 : ¬ ((1 : Int32) = (0 : Int32)) := (by decide)
        refine Go.step (fun _ k => XS.ifNo X56.here hx rfl (hb hby at_248) rfl ((if0 _ _).trans (feq hc248_83).1) k) ?_
        show Go _ _ _ _ _ _ _ T56 (mkF m 251 #[.val (.long jw), .second, .val (.int in_), .val (.int il), .val (.int iv), .val (.int kj), .val (.int vl), .val (.ref b46), .val (.int (1 : Int32)), .val (.ref ar_56)] [])
        refine Go.step (fun _ k => XS.aload X56.here hx rfl (hb hby at_251) rfl rfl k) ?_
        show Go _ _ _ _ _ _ _ T56 (mkF m 253 #[.val (.long jw), .second, .val (.int in_), .val (.int il), .val (.int iv), .val (.int kj), .val (.int vl), .val (.ref b46), .val (.int (1 : Int32)), .val (.ref ar_56)] [(.ref ar_56)])
        refine Go.step (fun _ k => XS.iload X56.here hx rfl (hb hby at_253) rfl k) ?_
        show Go _ _ _ _ _ _ _ T56 (mkF m 255 #[.val (.long jw), .second, .val (.int in_), .val (.int il), .val (.int iv), .val (.int kj), .val (.int vl), .val (.ref b46), .val (.int (1 : Int32)), .val (.ref ar_56)] [(.int vl), (.ref ar_56)])
        obtain ⟨cl84, Ar84, q84, S84, M84, H84, G84⟩ := id (V1_56)
        have hin84 : ¬ (vl < 0 ∨ cl84.slots.size ≤ (vl).toNatClampNeg) := inb_of S84 ⟨(by have := rng32 vl; have : (1 : Int32).toInt = 1 := rfl; have := rng32 (vl + (1 : Int32)); have := c_iadd vl (1 : Int32); have : (0 : Int32).toInt = 0 := rfl; have := bl; have := bk; simp only [Int32.lt_iff_toInt_lt, Int32.le_iff_toInt_le, ← Int32.toInt_inj, Int64.lt_iff_toInt_lt, Int64.le_iff_toInt_le, ← Int64.toInt_inj] at hc164_59 hc183_62 hc205_81 hc227_82 ⊢; omega), (by have := rng32 vl; have : (1 : Int32).toInt = 1 := rfl; have := rng32 (vl + (1 : Int32)); have := c_iadd vl (1 : Int32); have : (0 : Int32).toInt = 0 := rfl; have := bl; have := bk; simp only [Int32.lt_iff_toInt_lt, Int32.le_iff_toInt_le, ← Int32.toInt_inj, Int64.lt_iff_toInt_lt, Int64.le_iff_toInt_le, ← Int64.toInt_inj] at hc164_59 hc183_62 hc205_81 hc227_82 ⊢; omega)⟩
        have hat84 : cl84.slots[(vl).toNatClampNeg]? = some (.int (nar .byte iv.toInt8.toInt32)) := H84.at hin84 ((pa_56 _ (own_tlt (by have := rng32 vl; have : (1 : Int32).toInt = 1 := rfl; have := rng32 (vl + (1 : Int32)); have := c_iadd vl (1 : Int32); have : (0 : Int32).toInt = 0 := rfl; have := bl; have := bk; simp only [Int32.lt_iff_toInt_lt, Int32.le_iff_toInt_le, ← Int32.toInt_inj, Int64.lt_iff_toInt_lt, Int64.le_iff_toInt_le, ← Int64.toInt_inj] at hc164_59 hc183_62 hc205_81 hc227_82 ⊢; omega) (by have := rng32 vl; have : (1 : Int32).toInt = 1 := rfl; have := rng32 (vl + (1 : Int32)); have := c_iadd vl (1 : Int32); have : (0 : Int32).toInt = 0 := rfl; have := bl; have := bk; simp only [Int32.lt_iff_toInt_lt, Int32.le_iff_toInt_le, ← Int32.toInt_inj, Int64.lt_iff_toInt_lt, Int64.le_iff_toInt_le, ← Int64.toInt_inj] at hc164_59 hc183_62 hc205_81 hc227_82 ⊢; omega))).trans (own_g (by rw [hlj]; exact own_tn (n := 64) (by have := rng32 vl; omega) (by have := rng32 vl; have := bl; have := bk; omega))))
        refine Go.step (X56.baloadBytes hx (j := vl) (v := (.int (nar .byte iv.toInt8.toInt32))) (by rw [e56]; exact Ar84.1) (State.isArrayOf_alike hZ.alike Ar84.2.1) Ar84.2.2 hin84 hat84 (g := (mkF m 255 #[.val (.long jw), .second, .val (.int in_), .val (.int il), .val (.int iv), .val (.int kj), .val (.int vl), .val (.ref b46), .val (.int (1 : Int32)), .val (.ref ar_56)] [(.int vl), (.ref ar_56)])) rfl rfl (hb hby at_255)) ?_
        show Go _ _ _ _ _ _ _ T56 (mkF m 256 #[.val (.long jw), .second, .val (.int in_), .val (.int il), .val (.int iv), .val (.int kj), .val (.int vl), .val (.ref b46), .val (.int (1 : Int32)), .val (.ref ar_56)] [(.int (nar .byte iv.toInt8.toInt32))])
        refine Go.step (fun _ k => XS.iload X56.here hx rfl (hb hby at_256) rfl k) ?_
        show Go _ _ _ _ _ _ _ T56 (mkF m 258 #[.val (.long jw), .second, .val (.int in_), .val (.int il), .val (.int iv), .val (.int kj), .val (.int vl), .val (.ref b46), .val (.int (1 : Int32)), .val (.ref ar_56)] [(.int iv), (.int (nar .byte iv.toInt8.toInt32))])
        refine Go.step (fun _ k => XS.i2b X56.here hx rfl (hb hby at_258) rfl k) ?_
        show Go _ _ _ _ _ _ _ T56 (mkF m 259 #[.val (.long jw), .second, .val (.int in_), .val (.int il), .val (.int iv), .val (.int kj), .val (.int vl), .val (.ref b46), .val (.int (1 : Int32)), .val (.ref ar_56)] [(.int (iv.toInt8.toInt32)), (.int (nar .byte iv.toInt8.toInt32))])
        have hc259_85 : (nar .byte iv.toInt8.toInt32) = (iv.toInt8.toInt32) := own_i2b2 _
        refine Go.step (fun _ k => XS.icmpNo X56.here hx rfl (hb hby at_259) rfl (teq hc259_85).2 k) ?_
        show Go _ _ _ _ _ _ _ T56 (mkF m 262 #[.val (.long jw), .second, .val (.int in_), .val (.int il), .val (.int iv), .val (.int kj), .val (.int vl), .val (.ref b46), .val (.int (1 : Int32)), .val (.ref ar_56)] [])
        refine Go.step (fun _ k => XS.iconst X56.here hx rfl (hb hby at_262) k) ?_
        show Go _ _ _ _ _ _ _ T56 (mkF m 263 #[.val (.long jw), .second, .val (.int in_), .val (.int il), .val (.int iv), .val (.int kj), .val (.int vl), .val (.ref b46), .val (.int (1 : Int32)), .val (.ref ar_56)] [(.int (1 : Int32))])
        refine Go.step (fun _ k => XS.goto X56.here hx rfl (pc0 := 263) (pc' := 267) rfl (hb hby at_263) (by decide) (by decide) k) ?_
        show Go _ _ _ _ _ _ _ T56 (mkF m 267 #[.val (.long jw), .second, .val (.int in_), .val (.int il), .val (.int iv), .val (.int kj), .val (.int vl), .val (.ref b46), .val (.int (1 : Int32)), .val (.ref ar_56)] [(.int (1 : Int32))])
        exact Go.retN X56 hx (t := .boolean) hret hlk (by simp) (hb hby at_267) e56 (by decide) (by decide) ⟨rfl, N56, trivial⟩
    · refine Go.step (fun _ k => XS.ifYes X56.here hx rfl (pc0 := 164) (pc' := 180) rfl (hb hby at_164) rfl ((if0 _ _).trans (flt hc164_59).2.2.2) (by decide) (by decide) k) ?_
      show Go _ _ _ _ _ _ _ T56 (mkF m 180 #[.val (.long jw), .second, .val (.int in_), .val (.int il), .val (.int iv), .val (.int kj), .val (.int vl), .val (.ref b46), .val (.int (1 : Int32)), .val (.ref ar_56)] [])
      refine Go.step (fun _ k => XS.iload X56.here hx rfl (hb hby at_180) rfl k) ?_
      show Go _ _ _ _ _ _ _ T56 (mkF m 182 #[.val (.long jw), .second, .val (.int in_), .val (.int il), .val (.int iv), .val (.int kj), .val (.int vl), .val (.ref b46), .val (.int (1 : Int32)), .val (.ref ar_56)] [(.int vl)])
      refine Go.step (fun _ k => XS.iconst X56.here hx rfl (hb hby at_182) k) ?_
      show Go _ _ _ _ _ _ _ T56 (mkF m 183 #[.val (.long jw), .second, .val (.int in_), .val (.int il), .val (.int iv), .val (.int kj), .val (.int vl), .val (.ref b46), .val (.int (1 : Int32)), .val (.ref ar_56)] [(.int (1 : Int32)), (.int vl)])
      have hc183_86 : ¬ ((1 : Int32) < vl) := (by have := rng32 vl; have : (0 : Int32).toInt = 0 := rfl; have : (1 : Int32).toInt = 1 := rfl; have : (2 : Int32).toInt = 2 := rfl; have : (3 : Int32).toInt = 3 := rfl; simp only [Int32.lt_iff_toInt_lt, Int32.le_iff_toInt_le, ← Int32.toInt_inj, Int64.lt_iff_toInt_lt, Int64.le_iff_toInt_le, ← Int64.toInt_inj] at hc164_59 ⊢; omega)
      refine Go.step (fun _ k => XS.icmpYes X56.here hx rfl (pc0 := 183) (pc' := 202) rfl (hb hby at_183) rfl (flt hc183_86).2.2.2 (by decide) (by decide) k) ?_
      show Go _ _ _ _ _ _ _ T56 (mkF m 202 #[.val (.long jw), .second, .val (.int in_), .val (.int il), .val (.int iv), .val (.int kj), .val (.int vl), .val (.ref b46), .val (.int (1 : Int32)), .val (.ref ar_56)] [])
      refine Go.step (fun _ k => XS.iload X56.here hx rfl (hb hby at_202) rfl k) ?_
      show Go _ _ _ _ _ _ _ T56 (mkF m 204 #[.val (.long jw), .second, .val (.int in_), .val (.int il), .val (.int iv), .val (.int kj), .val (.int vl), .val (.ref b46), .val (.int (1 : Int32)), .val (.ref ar_56)] [(.int vl)])
      refine Go.step (fun _ k => XS.iconst X56.here hx rfl (hb hby at_204) k) ?_
      show Go _ _ _ _ _ _ _ T56 (mkF m 205 #[.val (.long jw), .second, .val (.int in_), .val (.int il), .val (.int iv), .val (.int kj), .val (.int vl), .val (.ref b46), .val (.int (1 : Int32)), .val (.ref ar_56)] [(.int (2 : Int32)), (.int vl)])
      have hc205_87 : ¬ ((2 : Int32) < vl) := (by have := rng32 vl; have : (0 : Int32).toInt = 0 := rfl; have : (1 : Int32).toInt = 1 := rfl; have : (2 : Int32).toInt = 2 := rfl; have : (3 : Int32).toInt = 3 := rfl; simp only [Int32.lt_iff_toInt_lt, Int32.le_iff_toInt_le, ← Int32.toInt_inj, Int64.lt_iff_toInt_lt, Int64.le_iff_toInt_le, ← Int64.toInt_inj] at hc164_59 ⊢; omega)
      refine Go.step (fun _ k => XS.icmpYes X56.here hx rfl (pc0 := 205) (pc' := 224) rfl (hb hby at_205) rfl (flt hc205_87).2.2.2 (by decide) (by decide) k) ?_
      show Go _ _ _ _ _ _ _ T56 (mkF m 224 #[.val (.long jw), .second, .val (.int in_), .val (.int il), .val (.int iv), .val (.int kj), .val (.int vl), .val (.ref b46), .val (.int (1 : Int32)), .val (.ref ar_56)] [])
      refine Go.step (fun _ k => XS.iload X56.here hx rfl (hb hby at_224) rfl k) ?_
      show Go _ _ _ _ _ _ _ T56 (mkF m 226 #[.val (.long jw), .second, .val (.int in_), .val (.int il), .val (.int iv), .val (.int kj), .val (.int vl), .val (.ref b46), .val (.int (1 : Int32)), .val (.ref ar_56)] [(.int vl)])
      refine Go.step (fun _ k => XS.iconst X56.here hx rfl (hb hby at_226) k) ?_
      show Go _ _ _ _ _ _ _ T56 (mkF m 227 #[.val (.long jw), .second, .val (.int in_), .val (.int il), .val (.int iv), .val (.int kj), .val (.int vl), .val (.ref b46), .val (.int (1 : Int32)), .val (.ref ar_56)] [(.int (3 : Int32)), (.int vl)])
      have hc227_88 : ¬ ((3 : Int32) < vl) := (by have := rng32 vl; have : (0 : Int32).toInt = 0 := rfl; have : (1 : Int32).toInt = 1 := rfl; have : (2 : Int32).toInt = 2 := rfl; have : (3 : Int32).toInt = 3 := rfl; simp only [Int32.lt_iff_toInt_lt, Int32.le_iff_toInt_le, ← Int32.toInt_inj, Int64.lt_iff_toInt_lt, Int64.le_iff_toInt_le, ← Int64.toInt_inj] at hc164_59 ⊢; omega)
      refine Go.step (fun _ k => XS.icmpYes X56.here hx rfl (pc0 := 227) (pc' := 246) rfl (hb hby at_227) rfl (flt hc227_88).2.2.2 (by decide) (by decide) k) ?_
      show Go _ _ _ _ _ _ _ T56 (mkF m 246 #[.val (.long jw), .second, .val (.int in_), .val (.int il), .val (.int iv), .val (.int kj), .val (.int vl), .val (.ref b46), .val (.int (1 : Int32)), .val (.ref ar_56)] [])
      refine Go.step (fun _ k => XS.iload X56.here hx rfl (hb hby at_246) rfl k) ?_
      show Go _ _ _ _ _ _ _ T56 (mkF m 248 #[.val (.long jw), .second, .val (.int in_), .val (.int il), .val (.int iv), .val (.int kj), .val (.int vl), .val (.ref b46), .val (.int (1 : Int32)), .val (.ref ar_56)] [(.int (1 : Int32))])
      have hc248_89 : ¬ ((1 : Int32) = (0 : Int32)) := (by decide)
      refine Go.step (fun _ k => XS.ifNo X56.here hx rfl (hb hby at_248) rfl ((if0 _ _).trans (feq hc248_89).1) k) ?_
      show Go _ _ _ _ _ _ _ T56 (mkF m 251 #[.val (.long jw), .second, .val (.int in_), .val (.int il), .val (.int iv), .val (.int kj), .val (.int vl), .val (.ref b46), .val (.int (1 : Int32)), .val (.ref ar_56)] [])
      refine Go.step (fun _ k => XS.aload X56.here hx rfl (hb hby at_251) rfl rfl k) ?_
      show Go _ _ _ _ _ _ _ T56 (mkF m 253 #[.val (.long jw), .second, .val (.int in_), .val (.int il), .val (.int iv), .val (.int kj), .val (.int vl), .val (.ref b46), .val (.int (1 : Int32)), .val (.ref ar_56)] [(.ref ar_56)])
      refine Go.step (fun _ k => XS.iload X56.here hx rfl (hb hby at_253) rfl k) ?_
      show Go _ _ _ _ _ _ _ T56 (mkF m 255 #[.val (.long jw), .second, .val (.int in_), .val (.int il), .val (.int iv), .val (.int kj), .val (.int vl), .val (.ref b46), .val (.int (1 : Int32)), .val (.ref ar_56)] [(.int vl), (.ref ar_56)])
      obtain ⟨cl90, Ar90, q90, S90, M90, H90, G90⟩ := id (V1_56)
      have hin90 : ¬ (vl < 0 ∨ cl90.slots.size ≤ (vl).toNatClampNeg) := inb_of S90 ⟨(by have := rng32 vl; have : (1 : Int32).toInt = 1 := rfl; have := rng32 (vl + (1 : Int32)); have := c_iadd vl (1 : Int32); have : (0 : Int32).toInt = 0 := rfl; have := bl; have := bk; simp only [Int32.lt_iff_toInt_lt, Int32.le_iff_toInt_le, ← Int32.toInt_inj, Int64.lt_iff_toInt_lt, Int64.le_iff_toInt_le, ← Int64.toInt_inj] at hc164_59 hc183_86 hc205_87 hc227_88 ⊢; omega), (by have := rng32 vl; have : (1 : Int32).toInt = 1 := rfl; have := rng32 (vl + (1 : Int32)); have := c_iadd vl (1 : Int32); have : (0 : Int32).toInt = 0 := rfl; have := bl; have := bk; simp only [Int32.lt_iff_toInt_lt, Int32.le_iff_toInt_le, ← Int32.toInt_inj, Int64.lt_iff_toInt_lt, Int64.le_iff_toInt_le, ← Int64.toInt_inj] at hc164_59 hc183_86 hc205_87 hc227_88 ⊢; omega)⟩
      have hat90 : cl90.slots[(vl).toNatClampNeg]? = some (.int (nar .byte iv.toInt8.toInt32)) := H90.at hin90 ((pa_56 _ (own_tlt (by have := rng32 vl; have : (1 : Int32).toInt = 1 := rfl; have := rng32 (vl + (1 : Int32)); have := c_iadd vl (1 : Int32); have : (0 : Int32).toInt = 0 := rfl; have := bl; have := bk; simp only [Int32.lt_iff_toInt_lt, Int32.le_iff_toInt_le, ← Int32.toInt_inj, Int64.lt_iff_toInt_lt, Int64.le_iff_toInt_le, ← Int64.toInt_inj] at hc164_59 hc183_86 hc205_87 hc227_88 ⊢; omega) (by have := rng32 vl; have : (1 : Int32).toInt = 1 := rfl; have := rng32 (vl + (1 : Int32)); have := c_iadd vl (1 : Int32); have : (0 : Int32).toInt = 0 := rfl; have := bl; have := bk; simp only [Int32.lt_iff_toInt_lt, Int32.le_iff_toInt_le, ← Int32.toInt_inj, Int64.lt_iff_toInt_lt, Int64.le_iff_toInt_le, ← Int64.toInt_inj] at hc164_59 hc183_86 hc205_87 hc227_88 ⊢; omega))).trans (own_g (by rw [hlj]; exact own_tn (n := 64) (by have := rng32 vl; omega) (by have := rng32 vl; have := bl; have := bk; omega))))
      refine Go.step (X56.baloadBytes hx (j := vl) (v := (.int (nar .byte iv.toInt8.toInt32))) (by rw [e56]; exact Ar90.1) (State.isArrayOf_alike hZ.alike Ar90.2.1) Ar90.2.2 hin90 hat90 (g := (mkF m 255 #[.val (.long jw), .second, .val (.int in_), .val (.int il), .val (.int iv), .val (.int kj), .val (.int vl), .val (.ref b46), .val (.int (1 : Int32)), .val (.ref ar_56)] [(.int vl), (.ref ar_56)])) rfl rfl (hb hby at_255)) ?_
      show Go _ _ _ _ _ _ _ T56 (mkF m 256 #[.val (.long jw), .second, .val (.int in_), .val (.int il), .val (.int iv), .val (.int kj), .val (.int vl), .val (.ref b46), .val (.int (1 : Int32)), .val (.ref ar_56)] [(.int (nar .byte iv.toInt8.toInt32))])
      refine Go.step (fun _ k => XS.iload X56.here hx rfl (hb hby at_256) rfl k) ?_
      show Go _ _ _ _ _ _ _ T56 (mkF m 258 #[.val (.long jw), .second, .val (.int in_), .val (.int il), .val (.int iv), .val (.int kj), .val (.int vl), .val (.ref b46), .val (.int (1 : Int32)), .val (.ref ar_56)] [(.int iv), (.int (nar .byte iv.toInt8.toInt32))])
      refine Go.step (fun _ k => XS.i2b X56.here hx rfl (hb hby at_258) rfl k) ?_
      show Go _ _ _ _ _ _ _ T56 (mkF m 259 #[.val (.long jw), .second, .val (.int in_), .val (.int il), .val (.int iv), .val (.int kj), .val (.int vl), .val (.ref b46), .val (.int (1 : Int32)), .val (.ref ar_56)] [(.int (iv.toInt8.toInt32)), (.int (nar .byte iv.toInt8.toInt32))])
      have hc259_91 : (nar .byte iv.toInt8.toInt32) = (iv.toInt8.toInt32) := own_i2b2 _
      refine Go.step (fun _ k => XS.icmpNo X56.here hx rfl (hb hby at_259) rfl (teq hc259_91).2 k) ?_
      show Go _ _ _ _ _ _ _ T56 (mkF m 262 #[.val (.long jw), .second, .val (.int in_), .val (.int il), .val (.int iv), .val (.int kj), .val (.int vl), .val (.ref b46), .val (.int (1 : Int32)), .val (.ref ar_56)] [])
      refine Go.step (fun _ k => XS.iconst X56.here hx rfl (hb hby at_262) k) ?_
      show Go _ _ _ _ _ _ _ T56 (mkF m 263 #[.val (.long jw), .second, .val (.int in_), .val (.int il), .val (.int iv), .val (.int kj), .val (.int vl), .val (.ref b46), .val (.int (1 : Int32)), .val (.ref ar_56)] [(.int (1 : Int32))])
      refine Go.step (fun _ k => XS.goto X56.here hx rfl (pc0 := 263) (pc' := 267) rfl (hb hby at_263) (by decide) (by decide) k) ?_
      show Go _ _ _ _ _ _ _ T56 (mkF m 267 #[.val (.long jw), .second, .val (.int in_), .val (.int il), .val (.int iv), .val (.int kj), .val (.int vl), .val (.ref b46), .val (.int (1 : Int32)), .val (.ref ar_56)] [(.int (1 : Int32))])
      exact Go.retN X56 hx (t := .boolean) hret hlk (by simp) (hb hby at_267) e56 (by decide) (by decide) ⟨rfl, N56, trivial⟩
  rcases own_k vk bk with rfl | rfl | rfl | rfl | rfl
  · show Go _ _ _ _ _ _ _ T47 (mkF m 28 #[.val (.long jw), .second, .val (.int in_), .val (.int il), .val (.int iv), .val (.int (0 : Int32)), .val (.int vl), .val (.ref b46), .unset, .unset] [])
    refine Go.step (fun _ k => XS.iload X47.here hx rfl (hb hby at_28) rfl k) ?_
    show Go _ _ _ _ _ _ _ T47 (mkF m 30 #[.val (.long jw), .second, .val (.int in_), .val (.int il), .val (.int iv), .val (.int (0 : Int32)), .val (.int vl), .val (.ref b46), .unset, .unset] [(.int (0 : Int32))])
    have hc30_92 : ¬ ((0 : Int32) < (0 : Int32)) := (by decide)
    refine Go.step (fun _ k => XS.ifYes X47.here hx rfl (pc0 := 30) (pc' := 40) rfl (hb hby at_30) rfl ((if0 _ _).trans (flt hc30_92).2.2.2) (by decide) (by decide) k) ?_
    show Go _ _ _ _ _ _ _ T47 (mkF m 40 #[.val (.long jw), .second, .val (.int in_), .val (.int il), .val (.int iv), .val (.int (0 : Int32)), .val (.int vl), .val (.ref b46), .unset, .unset] [])
    refine Go.step (fun _ k => XS.iload X47.here hx rfl (hb hby at_40) rfl k) ?_
    show Go _ _ _ _ _ _ _ T47 (mkF m 42 #[.val (.long jw), .second, .val (.int in_), .val (.int il), .val (.int iv), .val (.int (0 : Int32)), .val (.int vl), .val (.ref b46), .unset, .unset] [(.int (0 : Int32))])
    refine Go.step (fun _ k => XS.iconst X47.here hx rfl (hb hby at_42) k) ?_
    show Go _ _ _ _ _ _ _ T47 (mkF m 43 #[.val (.long jw), .second, .val (.int in_), .val (.int il), .val (.int iv), .val (.int (0 : Int32)), .val (.int vl), .val (.ref b46), .unset, .unset] [(.int (1 : Int32)), (.int (0 : Int32))])
    have hc43_93 : ¬ ((1 : Int32) < (0 : Int32)) := (by decide)
    refine Go.step (fun _ k => XS.icmpYes X47.here hx rfl (pc0 := 43) (pc' := 56) rfl (hb hby at_43) rfl (flt hc43_93).2.2.2 (by decide) (by decide) k) ?_
    show Go _ _ _ _ _ _ _ T47 (mkF m 56 #[.val (.long jw), .second, .val (.int in_), .val (.int il), .val (.int iv), .val (.int (0 : Int32)), .val (.int vl), .val (.ref b46), .unset, .unset] [])
    refine Go.step (fun _ k => XS.iload X47.here hx rfl (hb hby at_56) rfl k) ?_
    show Go _ _ _ _ _ _ _ T47 (mkF m 58 #[.val (.long jw), .second, .val (.int in_), .val (.int il), .val (.int iv), .val (.int (0 : Int32)), .val (.int vl), .val (.ref b46), .unset, .unset] [(.int (0 : Int32))])
    refine Go.step (fun _ k => XS.iconst X47.here hx rfl (hb hby at_58) k) ?_
    show Go _ _ _ _ _ _ _ T47 (mkF m 59 #[.val (.long jw), .second, .val (.int in_), .val (.int il), .val (.int iv), .val (.int (0 : Int32)), .val (.int vl), .val (.ref b46), .unset, .unset] [(.int (2 : Int32)), (.int (0 : Int32))])
    have hc59_94 : ¬ ((2 : Int32) < (0 : Int32)) := (by decide)
    refine Go.step (fun _ k => XS.icmpYes X47.here hx rfl (pc0 := 59) (pc' := 72) rfl (hb hby at_59) rfl (flt hc59_94).2.2.2 (by decide) (by decide) k) ?_
    show Go _ _ _ _ _ _ _ T47 (mkF m 72 #[.val (.long jw), .second, .val (.int in_), .val (.int il), .val (.int iv), .val (.int (0 : Int32)), .val (.int vl), .val (.ref b46), .unset, .unset] [])
    refine Go.step (fun _ k => XS.iload X47.here hx rfl (hb hby at_72) rfl k) ?_
    show Go _ _ _ _ _ _ _ T47 (mkF m 74 #[.val (.long jw), .second, .val (.int in_), .val (.int il), .val (.int iv), .val (.int (0 : Int32)), .val (.int vl), .val (.ref b46), .unset, .unset] [(.int (0 : Int32))])
    refine Go.step (fun _ k => XS.iconst X47.here hx rfl (hb hby at_74) k) ?_
    show Go _ _ _ _ _ _ _ T47 (mkF m 75 #[.val (.long jw), .second, .val (.int in_), .val (.int il), .val (.int iv), .val (.int (0 : Int32)), .val (.int vl), .val (.ref b46), .unset, .unset] [(.int (3 : Int32)), (.int (0 : Int32))])
    have hc75_95 : ¬ ((3 : Int32) < (0 : Int32)) := (by decide)
    refine Go.step (fun _ k => XS.icmpYes X47.here hx rfl (pc0 := 75) (pc' := 88) rfl (hb hby at_75) rfl (flt hc75_95).2.2.2 (by decide) (by decide) k) ?_
    show Go _ _ _ _ _ _ _ T47 (mkF m 88 #[.val (.long jw), .second, .val (.int in_), .val (.int il), .val (.int iv), .val (.int (0 : Int32)), .val (.int vl), .val (.ref b46), .unset, .unset] [])
    have f96 : Old Z n0 h47 := ((O0.ext E46).keep Kq47 (allS g_b46 all0))
    exact J T47 h47 _ (List.replicate 64 (.int (0 : Int32))) (0 : Int32) (0 : Int32) (X47.more (by decide) (by decide)) e47 N47 Z47 E1_47 Fb1_47 Fs1_47 V1_47 f96 (by simp [List.length_set]) (by have := bl; simp only [Int32.lt_iff_toInt_lt]; omega) (fun q => absurd q (by have := bl; have : (0 : Int32).toInt = 0 := rfl; omega)) (fun q => absurd q (by have := bl; have : (0 : Int32).toInt = 0 := rfl; omega)) (fun q => absurd q (by have := bl; have : (0 : Int32).toInt = 0 := rfl; omega)) (fun q => absurd q (by have := bl; have : (0 : Int32).toInt = 0 := rfl; omega))
  · show Go _ _ _ _ _ _ _ T47 (mkF m 28 #[.val (.long jw), .second, .val (.int in_), .val (.int il), .val (.int iv), .val (.int (1 : Int32)), .val (.int vl), .val (.ref b46), .unset, .unset] [])
    refine Go.step (fun _ k => XS.iload X47.here hx rfl (hb hby at_28) rfl k) ?_
    show Go _ _ _ _ _ _ _ T47 (mkF m 30 #[.val (.long jw), .second, .val (.int in_), .val (.int il), .val (.int iv), .val (.int (1 : Int32)), .val (.int vl), .val (.ref b46), .unset, .unset] [(.int (1 : Int32))])
    have hc30_97 : (0 : Int32) < (1 : Int32) := (by decide)
    refine Go.step (fun _ k => XS.ifNo X47.here hx rfl (hb hby at_30) rfl ((if0 _ _).trans (tlt hc30_97).2.2.2) k) ?_
    show Go _ _ _ _ _ _ _ T47 (mkF m 33 #[.val (.long jw), .second, .val (.int in_), .val (.int il), .val (.int iv), .val (.int (1 : Int32)), .val (.int vl), .val (.ref b46), .unset, .unset] [])
    refine Go.step (fun _ k => XS.aload X47.here hx rfl (hb hby at_33) rfl rfl k) ?_
    show Go _ _ _ _ _ _ _ T47 (mkF m 35 #[.val (.long jw), .second, .val (.int in_), .val (.int il), .val (.int iv), .val (.int (1 : Int32)), .val (.int vl), .val (.ref b46), .unset, .unset] [(.ref b46)])
    refine Go.step (fun _ k => XS.lloadN X47.here hx rfl (hb hby at_35) rfl k) ?_
    show Go _ _ _ _ _ _ _ T47 (mkF m 36 #[.val (.long jw), .second, .val (.int in_), .val (.int il), .val (.int iv), .val (.int (1 : Int32)), .val (.int vl), .val (.ref b46), .unset, .unset] [(.long jw), (.ref b46)])
    refine Go.step (fun _ k => XS.l2i X47.here hx rfl (hb hby at_36) rfl k) ?_
    show Go _ _ _ _ _ _ _ T47 (mkF m 37 #[.val (.long jw), .second, .val (.int in_), .val (.int il), .val (.int iv), .val (.int (1 : Int32)), .val (.int vl), .val (.ref b46), .unset, .unset] [(.int (jw.toInt32)), (.ref b46)])
    obtain ⟨cq98, kq98, q98a, q98b, q98c⟩ := isOf hZ e47 E1_47
    obtain ⟨_, _, ⟨T98, L98, k98, n98⟩, -, X98, ⟨Lc98, hQ98, l98, y98, z98⟩, st98⟩ := X47.virtualBack hx (y := (⟨"com/example/stitchwire/stitchwire/Output", "writeByte", "(I)V"⟩ : MethodName)) (z := (⟨"com/example/stitchwire/stitchwire/Output", "writeByte", "(I)V"⟩ : MethodName)) hown (mvT hZ (hw _ (List.mem_of_getElem? (i := 13) rfl))) (mvT hZ (hw _ (List.mem_of_getElem? (i := 14) rfl))) (notFace_of_selects (args := #[]) (mvT hZ (hw _ (List.mem_of_getElem? (i := 16) rfl)))) (mvT hZ (hw _ (List.mem_of_getElem? (i := 16) rfl))) (mvT hZ (hw _ (List.mem_of_getElem? (i := 15) rfl))) (by decide) (backOf (W := 0) (rmWb l Z a0 hw [] b46 (jw.toInt32) ab_47 kb_47 (64 : Int32) (0 : Int32) (List.replicate 64 (.int (0 : Int32))) h47 n0 Z47 E1_47 Fb1_47 Fs1_47 V1_47 g_b46 g_ab_47 ne_b46_ab_47 (by first | (simp [List.length_set]; done) | (simp [List.length_set]; rfl)) (by decide) (by decide) (by decide)) hZ (hw _ (List.mem_of_getElem? (i := 17) rfl)) (hw _ (List.mem_of_getElem? (i := 3) rfl)) (by decide) (by decide)) q98a q98c (g := (mkF m 37 #[.val (.long jw), .second, .val (.int in_), .val (.int il), .val (.int iv), .val (.int (1 : Int32)), .val (.int vl), .val (.ref b46), .unset, .unset] [(.int (jw.toInt32)), (.ref b46)])) rfl (by rw [hml]; rfl) (Steps.refl _) (argsL := [(.int (jw.toInt32))]) (rest := []) (lenOf pd__I_V rfl) rfl (by show 2 * 0 + _ ≤ _; exact Nat.le_of_eq rfl) (hb hby at_37) (fun _ _ => ⟨rfl, e47, (by decide : 2 + 0 ≤ _), (by decide : 66 + 0 ≤ _)⟩)
    dsimp only [Pt.U, Pt.locs, Pt.cells, Pt.slots] at X98 l98 y98 z98 st98 hQ98
    subst l98 y98 z98
    obtain ⟨h98, e98⟩ : ∃ h, T98.heap = h := ⟨_, rfl⟩
    rw [e98] at hQ98
    obtain ⟨rfl, Nq98, Kq98, E1_98, Fb1_98, Fs1_98, V1_98⟩ := hQ98
    have N98 := Fr.app N47 Nq98
    have Z98 : n0 ≤ h98.size := Nat.le_trans Z47 Kq98.1
    have Fs1_98 : Fld Z h98 b46 "com/example/stitchwire/stitchwire/Output" "size" "I" (.int (1 : Int32)) := Fs1_98
    refine Go.trans st98 ?_
    show Go _ _ _ _ _ _ _ T98 (mkF m 40 #[.val (.long jw), .second, .val (.int in_), .val (.int il), .val (.int iv), .val (.int (1 : Int32)), .val (.int vl), .val (.ref b46), .unset, .unset] [])
    refine Go.step (fun _ k => XS.iload X98.here hx rfl (hb hby at_40) rfl k) ?_
    show Go _ _ _ _ _ _ _ T98 (mkF m 42 #[.val (.long jw), .second, .val (.int in_), .val (.int il), .val (.int iv), .val (.int (1 : Int32)), .val (.int vl), .val (.ref b46), .unset, .unset] [(.int (1 : Int32))])
    refine Go.step (fun _ k => XS.iconst X98.here hx rfl (hb hby at_42) k) ?_
    show Go _ _ _ _ _ _ _ T98 (mkF m 43 #[.val (.long jw), .second, .val (.int in_), .val (.int il), .val (.int iv), .val (.int (1 : Int32)), .val (.int vl), .val (.ref b46), .unset, .unset] [(.int (1 : Int32)), (.int (1 : Int32))])
    have hc43_99 : ¬ ((1 : Int32) < (1 : Int32)) := (by decide)
    refine Go.step (fun _ k => XS.icmpYes X98.here hx rfl (pc0 := 43) (pc' := 56) rfl (hb hby at_43) rfl (flt hc43_99).2.2.2 (by decide) (by decide) k) ?_
    show Go _ _ _ _ _ _ _ T98 (mkF m 56 #[.val (.long jw), .second, .val (.int in_), .val (.int il), .val (.int iv), .val (.int (1 : Int32)), .val (.int vl), .val (.ref b46), .unset, .unset] [])
    refine Go.step (fun _ k => XS.iload X98.here hx rfl (hb hby at_56) rfl k) ?_
    show Go _ _ _ _ _ _ _ T98 (mkF m 58 #[.val (.long jw), .second, .val (.int in_), .val (.int il), .val (.int iv), .val (.int (1 : Int32)), .val (.int vl), .val (.ref b46), .unset, .unset] [(.int (1 : Int32))])
    refine Go.step (fun _ k => XS.iconst X98.here hx rfl (hb hby at_58) k) ?_
    show Go _ _ _ _ _ _ _ T98 (mkF m 59 #[.val (.long jw), .second, .val (.int in_), .val (.int il), .val (.int iv), .val (.int (1 : Int32)), .val (.int vl), .val (.ref b46), .unset, .unset] [(.int (2 : Int32)), (.int (1 : Int32))])
    have hc59_100 : ¬ ((2 : Int32) < (1 : Int32)) := (by decide)
    refine Go.step (fun _ k => XS.icmpYes X98.here hx rfl (pc0 := 59) (pc' := 72) rfl (hb hby at_59) rfl (flt hc59_100).2.2.2 (by decide) (by decide) k) ?_
    show Go _ _ _ _ _ _ _ T98 (mkF m 72 #[.val (.long jw), .second, .val (.int in_), .val (.int il), .val (.int iv), .val (.int (1 : Int32)), .val (.int vl), .val (.ref b46), .unset, .unset] [])
    refine Go.step (fun _ k => XS.iload X98.here hx rfl (hb hby at_72) rfl k) ?_
    show Go _ _ _ _ _ _ _ T98 (mkF m 74 #[.val (.long jw), .second, .val (.int in_), .val (.int il), .val (.int iv), .val (.int (1 : Int32)), .val (.int vl), .val (.ref b46), .unset, .unset] [(.int (1 : Int32))])
    refine Go.step (fun _ k => XS.iconst X98.here hx rfl (hb hby at_74) k) ?_
    show Go _ _ _ _ _ _ _ T98 (mkF m 75 #[.val (.long jw), .second, .val (.int in_), .val (.int il), .val (.int iv), .val (.int (1 : Int32)), .val (.int vl), .val (.ref b46), .unset, .unset] [(.int (3 : Int32)), (.int (1 : Int32))])
    have hc75_101 : ¬ ((3 : Int32) < (1 : Int32)) := (by decide)
    refine Go.step (fun _ k => XS.icmpYes X98.here hx rfl (pc0 := 75) (pc' := 88) rfl (hb hby at_75) rfl (flt hc75_101).2.2.2 (by decide) (by decide) k) ?_
    show Go _ _ _ _ _ _ _ T98 (mkF m 88 #[.val (.long jw), .second, .val (.int in_), .val (.int il), .val (.int iv), .val (.int (1 : Int32)), .val (.int vl), .val (.ref b46), .unset, .unset] [])
    have f102 : Old Z n0 h98 := (((O0.ext E46).keep Kq47 (allS g_b46 all0)).keep Kq98 (allS g_b46 (allS g_ab_47 all0)))
    exact J T98 h98 _ ((List.replicate 64 (.int (0 : Int32))).set (0 : Int32).toNatClampNeg (.int (nar .byte (jw.toInt32).toInt8.toInt32))) (1 : Int32) (1 : Int32) (X98.more (by decide) (by decide)) e98 N98 Z98 E1_98 Fb1_98 Fs1_98 V1_98 f102 (by simp [List.length_set]) (by have := bl; simp only [Int32.lt_iff_toInt_lt]; omega) (fun _ => (own_g (by simp [List.length_set]))) (fun q => absurd q (by have := bl; have : (1 : Int32).toInt = 1 := rfl; omega)) (fun q => absurd q (by have := bl; have : (1 : Int32).toInt = 1 := rfl; omega)) (fun q => absurd q (by have := bl; have : (1 : Int32).toInt = 1 := rfl; omega))
  · show Go _ _ _ _ _ _ _ T47 (mkF m 28 #[.val (.long jw), .second, .val (.int in_), .val (.int il), .val (.int iv), .val (.int (2 : Int32)), .val (.int vl), .val (.ref b46), .unset, .unset] [])
    refine Go.step (fun _ k => XS.iload X47.here hx rfl (hb hby at_28) rfl k) ?_
    show Go _ _ _ _ _ _ _ T47 (mkF m 30 #[.val (.long jw), .second, .val (.int in_), .val (.int il), .val (.int iv), .val (.int (2 : Int32)), .val (.int vl), .val (.ref b46), .unset, .unset] [(.int (2 : Int32))])
    have hc30_103 : (0 : Int32) < (2 : Int32) := (by decide)
    refine Go.step (fun _ k => XS.ifNo X47.here hx rfl (hb hby at_30) rfl ((if0 _ _).trans (tlt hc30_103).2.2.2) k) ?_
    show Go _ _ _ _ _ _ _ T47 (mkF m 33 #[.val (.long jw), .second, .val (.int in_), .val (.int il), .val (.int iv), .val (.int (2 : Int32)), .val (.int vl), .val (.ref b46), .unset, .unset] [])
    refine Go.step (fun _ k => XS.aload X47.here hx rfl (hb hby at_33) rfl rfl k) ?_
    show Go _ _ _ _ _ _ _ T47 (mkF m 35 #[.val (.long jw), .second, .val (.int in_), .val (.int il), .val (.int iv), .val (.int (2 : Int32)), .val (.int vl), .val (.ref b46), .unset, .unset] [(.ref b46)])
    refine Go.step (fun _ k => XS.lloadN X47.here hx rfl (hb hby at_35) rfl k) ?_
    show Go _ _ _ _ _ _ _ T47 (mkF m 36 #[.val (.long jw), .second, .val (.int in_), .val (.int il), .val (.int iv), .val (.int (2 : Int32)), .val (.int vl), .val (.ref b46), .unset, .unset] [(.long jw), (.ref b46)])
    refine Go.step (fun _ k => XS.l2i X47.here hx rfl (hb hby at_36) rfl k) ?_
    show Go _ _ _ _ _ _ _ T47 (mkF m 37 #[.val (.long jw), .second, .val (.int in_), .val (.int il), .val (.int iv), .val (.int (2 : Int32)), .val (.int vl), .val (.ref b46), .unset, .unset] [(.int (jw.toInt32)), (.ref b46)])
    obtain ⟨cq104, kq104, q104a, q104b, q104c⟩ := isOf hZ e47 E1_47
    obtain ⟨_, _, ⟨T104, L104, k104, n104⟩, -, X104, ⟨Lc104, hQ104, l104, y104, z104⟩, st104⟩ := X47.virtualBack hx (y := (⟨"com/example/stitchwire/stitchwire/Output", "writeByte", "(I)V"⟩ : MethodName)) (z := (⟨"com/example/stitchwire/stitchwire/Output", "writeByte", "(I)V"⟩ : MethodName)) hown (mvT hZ (hw _ (List.mem_of_getElem? (i := 13) rfl))) (mvT hZ (hw _ (List.mem_of_getElem? (i := 14) rfl))) (notFace_of_selects (args := #[]) (mvT hZ (hw _ (List.mem_of_getElem? (i := 16) rfl)))) (mvT hZ (hw _ (List.mem_of_getElem? (i := 16) rfl))) (mvT hZ (hw _ (List.mem_of_getElem? (i := 15) rfl))) (by decide) (backOf (W := 0) (rmWb l Z a0 hw [] b46 (jw.toInt32) ab_47 kb_47 (64 : Int32) (0 : Int32) (List.replicate 64 (.int (0 : Int32))) h47 n0 Z47 E1_47 Fb1_47 Fs1_47 V1_47 g_b46 g_ab_47 ne_b46_ab_47 (by first | (simp [List.length_set]; done) | (simp [List.length_set]; rfl)) (by decide) (by decide) (by decide)) hZ (hw _ (List.mem_of_getElem? (i := 17) rfl)) (hw _ (List.mem_of_getElem? (i := 3) rfl)) (by decide) (by decide)) q104a q104c (g := (mkF m 37 #[.val (.long jw), .second, .val (.int in_), .val (.int il), .val (.int iv), .val (.int (2 : Int32)), .val (.int vl), .val (.ref b46), .unset, .unset] [(.int (jw.toInt32)), (.ref b46)])) rfl (by rw [hml]; rfl) (Steps.refl _) (argsL := [(.int (jw.toInt32))]) (rest := []) (lenOf pd__I_V rfl) rfl (by show 2 * 0 + _ ≤ _; exact Nat.le_of_eq rfl) (hb hby at_37) (fun _ _ => ⟨rfl, e47, (by decide : 2 + 0 ≤ _), (by decide : 66 + 0 ≤ _)⟩)
    dsimp only [Pt.U, Pt.locs, Pt.cells, Pt.slots] at X104 l104 y104 z104 st104 hQ104
    subst l104 y104 z104
    obtain ⟨h104, e104⟩ : ∃ h, T104.heap = h := ⟨_, rfl⟩
    rw [e104] at hQ104
    obtain ⟨rfl, Nq104, Kq104, E1_104, Fb1_104, Fs1_104, V1_104⟩ := hQ104
    have N104 := Fr.app N47 Nq104
    have Z104 : n0 ≤ h104.size := Nat.le_trans Z47 Kq104.1
    have Fs1_104 : Fld Z h104 b46 "com/example/stitchwire/stitchwire/Output" "size" "I" (.int (1 : Int32)) := Fs1_104
    refine Go.trans st104 ?_
    show Go _ _ _ _ _ _ _ T104 (mkF m 40 #[.val (.long jw), .second, .val (.int in_), .val (.int il), .val (.int iv), .val (.int (2 : Int32)), .val (.int vl), .val (.ref b46), .unset, .unset] [])
    refine Go.step (fun _ k => XS.iload X104.here hx rfl (hb hby at_40) rfl k) ?_
    show Go _ _ _ _ _ _ _ T104 (mkF m 42 #[.val (.long jw), .second, .val (.int in_), .val (.int il), .val (.int iv), .val (.int (2 : Int32)), .val (.int vl), .val (.ref b46), .unset, .unset] [(.int (2 : Int32))])
    refine Go.step (fun _ k => XS.iconst X104.here hx rfl (hb hby at_42) k) ?_
    show Go _ _ _ _ _ _ _ T104 (mkF m 43 #[.val (.long jw), .second, .val (.int in_), .val (.int il), .val (.int iv), .val (.int (2 : Int32)), .val (.int vl), .val (.ref b46), .unset, .unset] [(.int (1 : Int32)), (.int (2 : Int32))])
    have hc43_105 : (1 : Int32) < (2 : Int32) := (by decide)
    refine Go.step (fun _ k => XS.icmpNo X104.here hx rfl (hb hby at_43) rfl (tlt hc43_105).2.2.2 k) ?_
    show Go _ _ _ _ _ _ _ T104 (mkF m 46 #[.val (.long jw), .second, .val (.int in_), .val (.int il), .val (.int iv), .val (.int (2 : Int32)), .val (.int vl), .val (.ref b46), .unset, .unset] [])
    refine Go.step (fun _ k => XS.aload X104.here hx rfl (hb hby at_46) rfl rfl k) ?_
    show Go _ _ _ _ _ _ _ T104 (mkF m 48 #[.val (.long jw), .second, .val (.int in_), .val (.int il), .val (.int iv), .val (.int (2 : Int32)), .val (.int vl), .val (.ref b46), .unset, .unset] [(.ref b46)])
    refine Go.step (fun _ k => XS.lloadN X104.here hx rfl (hb hby at_48) rfl k) ?_
    show Go _ _ _ _ _ _ _ T104 (mkF m 49 #[.val (.long jw), .second, .val (.int in_), .val (.int il), .val (.int iv), .val (.int (2 : Int32)), .val (.int vl), .val (.ref b46), .unset, .unset] [(.long jw), (.ref b46)])
    refine Go.step (fun _ k => XS.bipush X104.here hx rfl (hb hby at_49) k) ?_
    show Go _ _ _ _ _ _ _ T104 (mkF m 51 #[.val (.long jw), .second, .val (.int in_), .val (.int il), .val (.int iv), .val (.int (2 : Int32)), .val (.int vl), .val (.ref b46), .unset, .unset] [(.int (8 : Int32)), (.long jw), (.ref b46)])
    refine Go.step (fun _ k => XS.lushr X104.here hx rfl (hb hby at_51) rfl k) ?_
    show Go _ _ _ _ _ _ _ T104 (mkF m 52 #[.val (.long jw), .second, .val (.int in_), .val (.int il), .val (.int iv), .val (.int (2 : Int32)), .val (.int vl), .val (.ref b46), .unset, .unset] [(.long ((jw.toUInt64 >>> ((8 : Int32) &&& 0x3f).toInt64.toUInt64).toInt64)), (.ref b46)])
    refine Go.step (fun _ k => XS.l2i X104.here hx rfl (hb hby at_52) rfl k) ?_
    show Go _ _ _ _ _ _ _ T104 (mkF m 53 #[.val (.long jw), .second, .val (.int in_), .val (.int il), .val (.int iv), .val (.int (2 : Int32)), .val (.int vl), .val (.ref b46), .unset, .unset] [(.int (((jw.toUInt64 >>> ((8 : Int32) &&& 0x3f).toInt64.toUInt64).toInt64).toInt32)), (.ref b46)])
    obtain ⟨cq106, kq106, q106a, q106b, q106c⟩ := isOf hZ e104 E1_104
    obtain ⟨_, _, ⟨T106, L106, k106, n106⟩, -, X106, ⟨Lc106, hQ106, l106, y106, z106⟩, st106⟩ := X104.virtualBack hx (y := (⟨"com/example/stitchwire/stitchwire/Output", "writeByte", "(I)V"⟩ : MethodName)) (z := (⟨"com/example/stitchwire/stitchwire/Output", "writeByte", "(I)V"⟩ : MethodName)) hown (mvT hZ (hw _ (List.mem_of_getElem? (i := 13) rfl))) (mvT hZ (hw _ (List.mem_of_getElem? (i := 14) rfl))) (notFace_of_selects (args := #[]) (mvT hZ (hw _ (List.mem_of_getElem? (i := 16) rfl)))) (mvT hZ (hw _ (List.mem_of_getElem? (i := 16) rfl))) (mvT hZ (hw _ (List.mem_of_getElem? (i := 15) rfl))) (by decide) (backOf (W := 0) (rmWb l Z a0 hw [] b46 (((jw.toUInt64 >>> ((8 : Int32) &&& 0x3f).toInt64.toUInt64).toInt64).toInt32) ab_47 kb_47 (64 : Int32) (1 : Int32) ((List.replicate 64 (.int (0 : Int32))).set (0 : Int32).toNatClampNeg (.int (nar .byte (jw.toInt32).toInt8.toInt32))) h104 n0 Z104 E1_104 Fb1_104 Fs1_104 V1_104 g_b46 g_ab_47 ne_b46_ab_47 (by first | (simp [List.length_set]; done) | (simp [List.length_set]; rfl)) (by decide) (by decide) (by decide)) hZ (hw _ (List.mem_of_getElem? (i := 17) rfl)) (hw _ (List.mem_of_getElem? (i := 3) rfl)) (by decide) (by decide)) q106a q106c (g := (mkF m 53 #[.val (.long jw), .second, .val (.int in_), .val (.int il), .val (.int iv), .val (.int (2 : Int32)), .val (.int vl), .val (.ref b46), .unset, .unset] [(.int (((jw.toUInt64 >>> ((8 : Int32) &&& 0x3f).toInt64.toUInt64).toInt64).toInt32)), (.ref b46)])) rfl (by rw [hml]; rfl) (Steps.refl _) (argsL := [(.int (((jw.toUInt64 >>> ((8 : Int32) &&& 0x3f).toInt64.toUInt64).toInt64).toInt32))]) (rest := []) (lenOf pd__I_V rfl) rfl (by show 2 * 0 + _ ≤ _; exact Nat.le_of_eq rfl) (hb hby at_53) (fun _ _ => ⟨rfl, e104, (by decide : 2 + 0 ≤ _), (by decide : 66 + 0 ≤ _)⟩)
    dsimp only [Pt.U, Pt.locs, Pt.cells, Pt.slots] at X106 l106 y106 z106 st106 hQ106
    subst l106 y106 z106
    obtain ⟨h106, e106⟩ : ∃ h, T106.heap = h := ⟨_, rfl⟩
    rw [e106] at hQ106
    obtain ⟨rfl, Nq106, Kq106, E1_106, Fb1_106, Fs1_106, V1_106⟩ := hQ106
    have N106 := Fr.app N104 Nq106
    have Z106 : n0 ≤ h106.size := Nat.le_trans Z104 Kq106.1
    have Fs1_106 : Fld Z h106 b46 "com/example/stitchwire/stitchwire/Output" "size" "I" (.int (2 : Int32)) := Fs1_106
    refine Go.trans st106 ?_
    show Go _ _ _ _ _ _ _ T106 (mkF m 56 #[.val (.long jw), .second, .val (.int in_), .val (.int il), .val (.int iv), .val (.int (2 : Int32)), .val (.int vl), .val (.ref b46), .unset, .unset] [])
    refine Go.step (fun _ k => XS.iload X106.here hx rfl (hb hby at_56) rfl k) ?_
    show Go _ _ _ _ _ _ _ T106 (mkF m 58 #[.val (.long jw), .second, .val (.int in_), .val (.int il), .val (.int iv), .val (.int (2 : Int32)), .val (.int vl), .val (.ref b46), .unset, .unset] [(.int (2 : Int32))])
    refine Go.step (fun _ k => XS.iconst X106.here hx rfl (hb hby at_58) k) ?_
    show Go _ _ _ _ _ _ _ T106 (mkF m 59 #[.val (.long jw), .second, .val (.int in_), .val (.int il), .val (.int iv), .val (.int (2 : Int32)), .val (.int vl), .val (.ref b46), .unset, .unset] [(.int (2 : Int32)), (.int (2 : Int32))])
    have hc59_107 : ¬ ((2 : Int32) < (2 : Int32)) := (by decide)
    refine Go.step (fun _ k => XS.icmpYes X106.here hx rfl (pc0 := 59) (pc' := 72) rfl (hb hby at_59) rfl (flt hc59_107).2.2.2 (by decide) (by decide) k) ?_
    show Go _ _ _ _ _ _ _ T106 (mkF m 72 #[.val (.long jw), .second, .val (.int in_), .val (.int il), .val (.int iv), .val (.int (2 : Int32)), .val (.int vl), .val (.ref b46), .unset, .unset] [])
    refine Go.step (fun _ k => XS.iload X106.here hx rfl (hb hby at_72) rfl k) ?_
    show Go _ _ _ _ _ _ _ T106 (mkF m 74 #[.val (.long jw), .second, .val (.int in_), .val (.int il), .val (.int iv), .val (.int (2 : Int32)), .val (.int vl), .val (.ref b46), .unset, .unset] [(.int (2 : Int32))])
    refine Go.step (fun _ k => XS.iconst X106.here hx rfl (hb hby at_74) k) ?_
    show Go _ _ _ _ _ _ _ T106 (mkF m 75 #[.val (.long jw), .second, .val (.int in_), .val (.int il), .val (.int iv), .val (.int (2 : Int32)), .val (.int vl), .val (.ref b46), .unset, .unset] [(.int (3 : Int32)), (.int (2 : Int32))])
    have hc75_108 : ¬ ((3 : Int32) < (2 : Int32)) := (by decide)
    refine Go.step (fun _ k => XS.icmpYes X106.here hx rfl (pc0 := 75) (pc' := 88) rfl (hb hby at_75) rfl (flt hc75_108).2.2.2 (by decide) (by decide) k) ?_
    show Go _ _ _ _ _ _ _ T106 (mkF m 88 #[.val (.long jw), .second, .val (.int in_), .val (.int il), .val (.int iv), .val (.int (2 : Int32)), .val (.int vl), .val (.ref b46), .unset, .unset] [])
    have f109 : Old Z n0 h106 := ((((O0.ext E46).keep Kq47 (allS g_b46 all0)).keep Kq104 (allS g_b46 (allS g_ab_47 all0))).keep Kq106 (allS g_b46 (allS g_ab_47 all0)))
    exact J T106 h106 _ (((List.replicate 64 (.int (0 : Int32))).set (0 : Int32).toNatClampNeg (.int (nar .byte (jw.toInt32).toInt8.toInt32))).set (1 : Int32).toNatClampNeg (.int (nar .byte (((jw.toUInt64 >>> ((8 : Int32) &&& 0x3f).toInt64.toUInt64).toInt64).toInt32).toInt8.toInt32))) (2 : Int32) (2 : Int32) (X106.more (by decide) (by decide)) e106 N106 Z106 E1_106 Fb1_106 Fs1_106 V1_106 f109 (by simp [List.length_set]) (by have := bl; simp only [Int32.lt_iff_toInt_lt]; omega) (fun _ => ((own_n (by decide)).trans (own_g (by simp [List.length_set])))) (fun _ => (own_g (by simp [List.length_set]))) (fun q => absurd q (by have := bl; have : (2 : Int32).toInt = 2 := rfl; omega)) (fun q => absurd q (by have := bl; have : (2 : Int32).toInt = 2 := rfl; omega))
  · show Go _ _ _ _ _ _ _ T47 (mkF m 28 #[.val (.long jw), .second, .val (.int in_), .val (.int il), .val (.int iv), .val (.int (3 : Int32)), .val (.int vl), .val (.ref b46), .unset, .unset] [])
    refine Go.step (fun _ k => XS.iload X47.here hx rfl (hb hby at_28) rfl k) ?_
    show Go _ _ _ _ _ _ _ T47 (mkF m 30 #[.val (.long jw), .second, .val (.int in_), .val (.int il), .val (.int iv), .val (.int (3 : Int32)), .val (.int vl), .val (.ref b46), .unset, .unset] [(.int (3 : Int32))])
    have hc30_110 : (0 : Int32) < (3 : Int32) := (by decide)
    refine Go.step (fun _ k => XS.ifNo X47.here hx rfl (hb hby at_30) rfl ((if0 _ _).trans (tlt hc30_110).2.2.2) k) ?_
    show Go _ _ _ _ _ _ _ T47 (mkF m 33 #[.val (.long jw), .second, .val (.int in_), .val (.int il), .val (.int iv), .val (.int (3 : Int32)), .val (.int vl), .val (.ref b46), .unset, .unset] [])
    refine Go.step (fun _ k => XS.aload X47.here hx rfl (hb hby at_33) rfl rfl k) ?_
    show Go _ _ _ _ _ _ _ T47 (mkF m 35 #[.val (.long jw), .second, .val (.int in_), .val (.int il), .val (.int iv), .val (.int (3 : Int32)), .val (.int vl), .val (.ref b46), .unset, .unset] [(.ref b46)])
    refine Go.step (fun _ k => XS.lloadN X47.here hx rfl (hb hby at_35) rfl k) ?_
    show Go _ _ _ _ _ _ _ T47 (mkF m 36 #[.val (.long jw), .second, .val (.int in_), .val (.int il), .val (.int iv), .val (.int (3 : Int32)), .val (.int vl), .val (.ref b46), .unset, .unset] [(.long jw), (.ref b46)])
    refine Go.step (fun _ k => XS.l2i X47.here hx rfl (hb hby at_36) rfl k) ?_
    show Go _ _ _ _ _ _ _ T47 (mkF m 37 #[.val (.long jw), .second, .val (.int in_), .val (.int il), .val (.int iv), .val (.int (3 : Int32)), .val (.int vl), .val (.ref b46), .unset, .unset] [(.int (jw.toInt32)), (.ref b46)])
    obtain ⟨cq111, kq111, q111a, q111b, q111c⟩ := isOf hZ e47 E1_47
    obtain ⟨_, _, ⟨T111, L111, k111, n111⟩, -, X111, ⟨Lc111, hQ111, l111, y111, z111⟩, st111⟩ := X47.virtualBack hx (y := (⟨"com/example/stitchwire/stitchwire/Output", "writeByte", "(I)V"⟩ : MethodName)) (z := (⟨"com/example/stitchwire/stitchwire/Output", "writeByte", "(I)V"⟩ : MethodName)) hown (mvT hZ (hw _ (List.mem_of_getElem? (i := 13) rfl))) (mvT hZ (hw _ (List.mem_of_getElem? (i := 14) rfl))) (notFace_of_selects (args := #[]) (mvT hZ (hw _ (List.mem_of_getElem? (i := 16) rfl)))) (mvT hZ (hw _ (List.mem_of_getElem? (i := 16) rfl))) (mvT hZ (hw _ (List.mem_of_getElem? (i := 15) rfl))) (by decide) (backOf (W := 0) (rmWb l Z a0 hw [] b46 (jw.toInt32) ab_47 kb_47 (64 : Int32) (0 : Int32) (List.replicate 64 (.int (0 : Int32))) h47 n0 Z47 E1_47 Fb1_47 Fs1_47 V1_47 g_b46 g_ab_47 ne_b46_ab_47 (by first | (simp [List.length_set]; done) | (simp [List.length_set]; rfl)) (by decide) (by decide) (by decide)) hZ (hw _ (List.mem_of_getElem? (i := 17) rfl)) (hw _ (List.mem_of_getElem? (i := 3) rfl)) (by decide) (by decide)) q111a q111c (g := (mkF m 37 #[.val (.long jw), .second, .val (.int in_), .val (.int il), .val (.int iv), .val (.int (3 : Int32)), .val (.int vl), .val (.ref b46), .unset, .unset] [(.int (jw.toInt32)), (.ref b46)])) rfl (by rw [hml]; rfl) (Steps.refl _) (argsL := [(.int (jw.toInt32))]) (rest := []) (lenOf pd__I_V rfl) rfl (by show 2 * 0 + _ ≤ _; exact Nat.le_of_eq rfl) (hb hby at_37) (fun _ _ => ⟨rfl, e47, (by decide : 2 + 0 ≤ _), (by decide : 66 + 0 ≤ _)⟩)
    dsimp only [Pt.U, Pt.locs, Pt.cells, Pt.slots] at X111 l111 y111 z111 st111 hQ111
    subst l111 y111 z111
    obtain ⟨h111, e111⟩ : ∃ h, T111.heap = h := ⟨_, rfl⟩
    rw [e111] at hQ111
    obtain ⟨rfl, Nq111, Kq111, E1_111, Fb1_111, Fs1_111, V1_111⟩ := hQ111
    have N111 := Fr.app N47 Nq111
    have Z111 : n0 ≤ h111.size := Nat.le_trans Z47 Kq111.1
    have Fs1_111 : Fld Z h111 b46 "com/example/stitchwire/stitchwire/Output" "size" "I" (.int (1 : Int32)) := Fs1_111
    refine Go.trans st111 ?_
    show Go _ _ _ _ _ _ _ T111 (mkF m 40 #[.val (.long jw), .second, .val (.int in_), .val (.int il), .val (.int iv), .val (.int (3 : Int32)), .val (.int vl), .val (.ref b46), .unset, .unset] [])
    refine Go.step (fun _ k => XS.iload X111.here hx rfl (hb hby at_40) rfl k) ?_
    show Go _ _ _ _ _ _ _ T111 (mkF m 42 #[.val (.long jw), .second, .val (.int in_), .val (.int il), .val (.int iv), .val (.int (3 : Int32)), .val (.int vl), .val (.ref b46), .unset, .unset] [(.int (3 : Int32))])
    refine Go.step (fun _ k => XS.iconst X111.here hx rfl (hb hby at_42) k) ?_
    show Go _ _ _ _ _ _ _ T111 (mkF m 43 #[.val (.long jw), .second, .val (.int in_), .val (.int il), .val (.int iv), .val (.int (3 : Int32)), .val (.int vl), .val (.ref b46), .unset, .unset] [(.int (1 : Int32)), (.int (3 : Int32))])
    have hc43_112 : (1 : Int32) < (3 : Int32) := (by decide)
    refine Go.step (fun _ k => XS.icmpNo X111.here hx rfl (hb hby at_43) rfl (tlt hc43_112).2.2.2 k) ?_
    show Go _ _ _ _ _ _ _ T111 (mkF m 46 #[.val (.long jw), .second, .val (.int in_), .val (.int il), .val (.int iv), .val (.int (3 : Int32)), .val (.int vl), .val (.ref b46), .unset, .unset] [])
    refine Go.step (fun _ k => XS.aload X111.here hx rfl (hb hby at_46) rfl rfl k) ?_
    show Go _ _ _ _ _ _ _ T111 (mkF m 48 #[.val (.long jw), .second, .val (.int in_), .val (.int il), .val (.int iv), .val (.int (3 : Int32)), .val (.int vl), .val (.ref b46), .unset, .unset] [(.ref b46)])
    refine Go.step (fun _ k => XS.lloadN X111.here hx rfl (hb hby at_48) rfl k) ?_
    show Go _ _ _ _ _ _ _ T111 (mkF m 49 #[.val (.long jw), .second, .val (.int in_), .val (.int il), .val (.int iv), .val (.int (3 : Int32)), .val (.int vl), .val (.ref b46), .unset, .unset] [(.long jw), (.ref b46)])
    refine Go.step (fun _ k => XS.bipush X111.here hx rfl (hb hby at_49) k) ?_
    show Go _ _ _ _ _ _ _ T111 (mkF m 51 #[.val (.long jw), .second, .val (.int in_), .val (.int il), .val (.int iv), .val (.int (3 : Int32)), .val (.int vl), .val (.ref b46), .unset, .unset] [(.int (8 : Int32)), (.long jw), (.ref b46)])
    refine Go.step (fun _ k => XS.lushr X111.here hx rfl (hb hby at_51) rfl k) ?_
    show Go _ _ _ _ _ _ _ T111 (mkF m 52 #[.val (.long jw), .second, .val (.int in_), .val (.int il), .val (.int iv), .val (.int (3 : Int32)), .val (.int vl), .val (.ref b46), .unset, .unset] [(.long ((jw.toUInt64 >>> ((8 : Int32) &&& 0x3f).toInt64.toUInt64).toInt64)), (.ref b46)])
    refine Go.step (fun _ k => XS.l2i X111.here hx rfl (hb hby at_52) rfl k) ?_
    show Go _ _ _ _ _ _ _ T111 (mkF m 53 #[.val (.long jw), .second, .val (.int in_), .val (.int il), .val (.int iv), .val (.int (3 : Int32)), .val (.int vl), .val (.ref b46), .unset, .unset] [(.int (((jw.toUInt64 >>> ((8 : Int32) &&& 0x3f).toInt64.toUInt64).toInt64).toInt32)), (.ref b46)])
    obtain ⟨cq113, kq113, q113a, q113b, q113c⟩ := isOf hZ e111 E1_111
    obtain ⟨_, _, ⟨T113, L113, k113, n113⟩, -, X113, ⟨Lc113, hQ113, l113, y113, z113⟩, st113⟩ := X111.virtualBack hx (y := (⟨"com/example/stitchwire/stitchwire/Output", "writeByte", "(I)V"⟩ : MethodName)) (z := (⟨"com/example/stitchwire/stitchwire/Output", "writeByte", "(I)V"⟩ : MethodName)) hown (mvT hZ (hw _ (List.mem_of_getElem? (i := 13) rfl))) (mvT hZ (hw _ (List.mem_of_getElem? (i := 14) rfl))) (notFace_of_selects (args := #[]) (mvT hZ (hw _ (List.mem_of_getElem? (i := 16) rfl)))) (mvT hZ (hw _ (List.mem_of_getElem? (i := 16) rfl))) (mvT hZ (hw _ (List.mem_of_getElem? (i := 15) rfl))) (by decide) (backOf (W := 0) (rmWb l Z a0 hw [] b46 (((jw.toUInt64 >>> ((8 : Int32) &&& 0x3f).toInt64.toUInt64).toInt64).toInt32) ab_47 kb_47 (64 : Int32) (1 : Int32) ((List.replicate 64 (.int (0 : Int32))).set (0 : Int32).toNatClampNeg (.int (nar .byte (jw.toInt32).toInt8.toInt32))) h111 n0 Z111 E1_111 Fb1_111 Fs1_111 V1_111 g_b46 g_ab_47 ne_b46_ab_47 (by first | (simp [List.length_set]; done) | (simp [List.length_set]; rfl)) (by decide) (by decide) (by decide)) hZ (hw _ (List.mem_of_getElem? (i := 17) rfl)) (hw _ (List.mem_of_getElem? (i := 3) rfl)) (by decide) (by decide)) q113a q113c (g := (mkF m 53 #[.val (.long jw), .second, .val (.int in_), .val (.int il), .val (.int iv), .val (.int (3 : Int32)), .val (.int vl), .val (.ref b46), .unset, .unset] [(.int (((jw.toUInt64 >>> ((8 : Int32) &&& 0x3f).toInt64.toUInt64).toInt64).toInt32)), (.ref b46)])) rfl (by rw [hml]; rfl) (Steps.refl _) (argsL := [(.int (((jw.toUInt64 >>> ((8 : Int32) &&& 0x3f).toInt64.toUInt64).toInt64).toInt32))]) (rest := []) (lenOf pd__I_V rfl) rfl (by show 2 * 0 + _ ≤ _; exact Nat.le_of_eq rfl) (hb hby at_53) (fun _ _ => ⟨rfl, e111, (by decide : 2 + 0 ≤ _), (by decide : 66 + 0 ≤ _)⟩)
    dsimp only [Pt.U, Pt.locs, Pt.cells, Pt.slots] at X113 l113 y113 z113 st113 hQ113
    subst l113 y113 z113
    obtain ⟨h113, e113⟩ : ∃ h, T113.heap = h := ⟨_, rfl⟩
    rw [e113] at hQ113
    obtain ⟨rfl, Nq113, Kq113, E1_113, Fb1_113, Fs1_113, V1_113⟩ := hQ113
    have N113 := Fr.app N111 Nq113
    have Z113 : n0 ≤ h113.size := Nat.le_trans Z111 Kq113.1
    have Fs1_113 : Fld Z h113 b46 "com/example/stitchwire/stitchwire/Output" "size" "I" (.int (2 : Int32)) := Fs1_113
    refine Go.trans st113 ?_
    show Go _ _ _ _ _ _ _ T113 (mkF m 56 #[.val (.long jw), .second, .val (.int in_), .val (.int il), .val (.int iv), .val (.int (3 : Int32)), .val (.int vl), .val (.ref b46), .unset, .unset] [])
    refine Go.step (fun _ k => XS.iload X113.here hx rfl (hb hby at_56) rfl k) ?_
    show Go _ _ _ _ _ _ _ T113 (mkF m 58 #[.val (.long jw), .second, .val (.int in_), .val (.int il), .val (.int iv), .val (.int (3 : Int32)), .val (.int vl), .val (.ref b46), .unset, .unset] [(.int (3 : Int32))])
    refine Go.step (fun _ k => XS.iconst X113.here hx rfl (hb hby at_58) k) ?_
    show Go _ _ _ _ _ _ _ T113 (mkF m 59 #[.val (.long jw), .second, .val (.int in_), .val (.int il), .val (.int iv), .val (.int (3 : Int32)), .val (.int vl), .val (.ref b46), .unset, .unset] [(.int (2 : Int32)), (.int (3 : Int32))])
    have hc59_114 : (2 : Int32) < (3 : Int32) := (by decide)
    refine Go.step (fun _ k => XS.icmpNo X113.here hx rfl (hb hby at_59) rfl (tlt hc59_114).2.2.2 k) ?_
    show Go _ _ _ _ _ _ _ T113 (mkF m 62 #[.val (.long jw), .second, .val (.int in_), .val (.int il), .val (.int iv), .val (.int (3 : Int32)), .val (.int vl), .val (.ref b46), .unset, .unset] [])
    refine Go.step (fun _ k => XS.aload X113.here hx rfl (hb hby at_62) rfl rfl k) ?_
    show Go _ _ _ _ _ _ _ T113 (mkF m 64 #[.val (.long jw), .second, .val (.int in_), .val (.int il), .val (.int iv), .val (.int (3 : Int32)), .val (.int vl), .val (.ref b46), .unset, .unset] [(.ref b46)])
    refine Go.step (fun _ k => XS.lloadN X113.here hx rfl (hb hby at_64) rfl k) ?_
    show Go _ _ _ _ _ _ _ T113 (mkF m 65 #[.val (.long jw), .second, .val (.int in_), .val (.int il), .val (.int iv), .val (.int (3 : Int32)), .val (.int vl), .val (.ref b46), .unset, .unset] [(.long jw), (.ref b46)])
    refine Go.step (fun _ k => XS.bipush X113.here hx rfl (hb hby at_65) k) ?_
    show Go _ _ _ _ _ _ _ T113 (mkF m 67 #[.val (.long jw), .second, .val (.int in_), .val (.int il), .val (.int iv), .val (.int (3 : Int32)), .val (.int vl), .val (.ref b46), .unset, .unset] [(.int (16 : Int32)), (.long jw), (.ref b46)])
    refine Go.step (fun _ k => XS.lushr X113.here hx rfl (hb hby at_67) rfl k) ?_
    show Go _ _ _ _ _ _ _ T113 (mkF m 68 #[.val (.long jw), .second, .val (.int in_), .val (.int il), .val (.int iv), .val (.int (3 : Int32)), .val (.int vl), .val (.ref b46), .unset, .unset] [(.long ((jw.toUInt64 >>> ((16 : Int32) &&& 0x3f).toInt64.toUInt64).toInt64)), (.ref b46)])
    refine Go.step (fun _ k => XS.l2i X113.here hx rfl (hb hby at_68) rfl k) ?_
    show Go _ _ _ _ _ _ _ T113 (mkF m 69 #[.val (.long jw), .second, .val (.int in_), .val (.int il), .val (.int iv), .val (.int (3 : Int32)), .val (.int vl), .val (.ref b46), .unset, .unset] [(.int (((jw.toUInt64 >>> ((16 : Int32) &&& 0x3f).toInt64.toUInt64).toInt64).toInt32)), (.ref b46)])
    obtain ⟨cq115, kq115, q115a, q115b, q115c⟩ := isOf hZ e113 E1_113
    obtain ⟨_, _, ⟨T115, L115, k115, n115⟩, -, X115, ⟨Lc115, hQ115, l115, y115, z115⟩, st115⟩ := X113.virtualBack hx (y := (⟨"com/example/stitchwire/stitchwire/Output", "writeByte", "(I)V"⟩ : MethodName)) (z := (⟨"com/example/stitchwire/stitchwire/Output", "writeByte", "(I)V"⟩ : MethodName)) hown (mvT hZ (hw _ (List.mem_of_getElem? (i := 13) rfl))) (mvT hZ (hw _ (List.mem_of_getElem? (i := 14) rfl))) (notFace_of_selects (args := #[]) (mvT hZ (hw _ (List.mem_of_getElem? (i := 16) rfl)))) (mvT hZ (hw _ (List.mem_of_getElem? (i := 16) rfl))) (mvT hZ (hw _ (List.mem_of_getElem? (i := 15) rfl))) (by decide) (backOf (W := 0) (rmWb l Z a0 hw [] b46 (((jw.toUInt64 >>> ((16 : Int32) &&& 0x3f).toInt64.toUInt64).toInt64).toInt32) ab_47 kb_47 (64 : Int32) (2 : Int32) (((List.replicate 64 (.int (0 : Int32))).set (0 : Int32).toNatClampNeg (.int (nar .byte (jw.toInt32).toInt8.toInt32))).set (1 : Int32).toNatClampNeg (.int (nar .byte (((jw.toUInt64 >>> ((8 : Int32) &&& 0x3f).toInt64.toUInt64).toInt64).toInt32).toInt8.toInt32))) h113 n0 Z113 E1_113 Fb1_113 Fs1_113 V1_113 g_b46 g_ab_47 ne_b46_ab_47 (by first | (simp [List.length_set]; done) | (simp [List.length_set]; rfl)) (by decide) (by decide) (by decide)) hZ (hw _ (List.mem_of_getElem? (i := 17) rfl)) (hw _ (List.mem_of_getElem? (i := 3) rfl)) (by decide) (by decide)) q115a q115c (g := (mkF m 69 #[.val (.long jw), .second, .val (.int in_), .val (.int il), .val (.int iv), .val (.int (3 : Int32)), .val (.int vl), .val (.ref b46), .unset, .unset] [(.int (((jw.toUInt64 >>> ((16 : Int32) &&& 0x3f).toInt64.toUInt64).toInt64).toInt32)), (.ref b46)])) rfl (by rw [hml]; rfl) (Steps.refl _) (argsL := [(.int (((jw.toUInt64 >>> ((16 : Int32) &&& 0x3f).toInt64.toUInt64).toInt64).toInt32))]) (rest := []) (lenOf pd__I_V rfl) rfl (by show 2 * 0 + _ ≤ _; exact Nat.le_of_eq rfl) (hb hby at_69) (fun _ _ => ⟨rfl, e113, (by decide : 2 + 0 ≤ _), (by decide : 66 + 0 ≤ _)⟩)
    dsimp only [Pt.U, Pt.locs, Pt.cells, Pt.slots] at X115 l115 y115 z115 st115 hQ115
    subst l115 y115 z115
    obtain ⟨h115, e115⟩ : ∃ h, T115.heap = h := ⟨_, rfl⟩
    rw [e115] at hQ115
    obtain ⟨rfl, Nq115, Kq115, E1_115, Fb1_115, Fs1_115, V1_115⟩ := hQ115
    have N115 := Fr.app N113 Nq115
    have Z115 : n0 ≤ h115.size := Nat.le_trans Z113 Kq115.1
    have Fs1_115 : Fld Z h115 b46 "com/example/stitchwire/stitchwire/Output" "size" "I" (.int (3 : Int32)) := Fs1_115
    refine Go.trans st115 ?_
    show Go _ _ _ _ _ _ _ T115 (mkF m 72 #[.val (.long jw), .second, .val (.int in_), .val (.int il), .val (.int iv), .val (.int (3 : Int32)), .val (.int vl), .val (.ref b46), .unset, .unset] [])
    refine Go.step (fun _ k => XS.iload X115.here hx rfl (hb hby at_72) rfl k) ?_
    show Go _ _ _ _ _ _ _ T115 (mkF m 74 #[.val (.long jw), .second, .val (.int in_), .val (.int il), .val (.int iv), .val (.int (3 : Int32)), .val (.int vl), .val (.ref b46), .unset, .unset] [(.int (3 : Int32))])
    refine Go.step (fun _ k => XS.iconst X115.here hx rfl (hb hby at_74) k) ?_
    show Go _ _ _ _ _ _ _ T115 (mkF m 75 #[.val (.long jw), .second, .val (.int in_), .val (.int il), .val (.int iv), .val (.int (3 : Int32)), .val (.int vl), .val (.ref b46), .unset, .unset] [(.int (3 : Int32)), (.int (3 : Int32))])
    have hc75_116 : ¬ ((3 : Int32) < (3 : Int32)) := (by decide)
    refine Go.step (fun _ k => XS.icmpYes X115.here hx rfl (pc0 := 75) (pc' := 88) rfl (hb hby at_75) rfl (flt hc75_116).2.2.2 (by decide) (by decide) k) ?_
    show Go _ _ _ _ _ _ _ T115 (mkF m 88 #[.val (.long jw), .second, .val (.int in_), .val (.int il), .val (.int iv), .val (.int (3 : Int32)), .val (.int vl), .val (.ref b46), .unset, .unset] [])
    have f117 : Old Z n0 h115 := (((((O0.ext E46).keep Kq47 (allS g_b46 all0)).keep Kq111 (allS g_b46 (allS g_ab_47 all0))).keep Kq113 (allS g_b46 (allS g_ab_47 all0))).keep Kq115 (allS g_b46 (allS g_ab_47 all0)))
    exact J T115 h115 _ ((((List.replicate 64 (.int (0 : Int32))).set (0 : Int32).toNatClampNeg (.int (nar .byte (jw.toInt32).toInt8.toInt32))).set (1 : Int32).toNatClampNeg (.int (nar .byte (((jw.toUInt64 >>> ((8 : Int32) &&& 0x3f).toInt64.toUInt64).toInt64).toInt32).toInt8.toInt32))).set (2 : Int32).toNatClampNeg (.int (nar .byte (((jw.toUInt64 >>> ((16 : Int32) &&& 0x3f).toInt64.toUInt64).toInt64).toInt32).toInt8.toInt32))) (3 : Int32) (3 : Int32) (X115.more (by decide) (by decide)) e115 N115 Z115 E1_115 Fb1_115 Fs1_115 V1_115 f117 (by simp [List.length_set]) (by have := bl; simp only [Int32.lt_iff_toInt_lt]; omega) (fun _ => ((own_n (by decide)).trans ((own_n (by decide)).trans (own_g (by simp [List.length_set]))))) (fun _ => ((own_n (by decide)).trans (own_g (by simp [List.length_set])))) (fun _ => (own_g (by simp [List.length_set]))) (fun q => absurd q (by have := bl; have : (3 : Int32).toInt = 3 := rfl; omega))
  · show Go _ _ _ _ _ _ _ T47 (mkF m 28 #[.val (.long jw), .second, .val (.int in_), .val (.int il), .val (.int iv), .val (.int (4 : Int32)), .val (.int vl), .val (.ref b46), .unset, .unset] [])
    refine Go.step (fun _ k => XS.iload X47.here hx rfl (hb hby at_28) rfl k) ?_
    show Go _ _ _ _ _ _ _ T47 (mkF m 30 #[.val (.long jw), .second, .val (.int in_), .val (.int il), .val (.int iv), .val (.int (4 : Int32)), .val (.int vl), .val (.ref b46), .unset, .unset] [(.int (4 : Int32))])
    have hc30_118 : (0 : Int32) < (4 : Int32) := (by decide)
    refine Go.step (fun _ k => XS.ifNo X47.here hx rfl (hb hby at_30) rfl ((if0 _ _).trans (tlt hc30_118).2.2.2) k) ?_
    show Go _ _ _ _ _ _ _ T47 (mkF m 33 #[.val (.long jw), .second, .val (.int in_), .val (.int il), .val (.int iv), .val (.int (4 : Int32)), .val (.int vl), .val (.ref b46), .unset, .unset] [])
    refine Go.step (fun _ k => XS.aload X47.here hx rfl (hb hby at_33) rfl rfl k) ?_
    show Go _ _ _ _ _ _ _ T47 (mkF m 35 #[.val (.long jw), .second, .val (.int in_), .val (.int il), .val (.int iv), .val (.int (4 : Int32)), .val (.int vl), .val (.ref b46), .unset, .unset] [(.ref b46)])
    refine Go.step (fun _ k => XS.lloadN X47.here hx rfl (hb hby at_35) rfl k) ?_
    show Go _ _ _ _ _ _ _ T47 (mkF m 36 #[.val (.long jw), .second, .val (.int in_), .val (.int il), .val (.int iv), .val (.int (4 : Int32)), .val (.int vl), .val (.ref b46), .unset, .unset] [(.long jw), (.ref b46)])
    refine Go.step (fun _ k => XS.l2i X47.here hx rfl (hb hby at_36) rfl k) ?_
    show Go _ _ _ _ _ _ _ T47 (mkF m 37 #[.val (.long jw), .second, .val (.int in_), .val (.int il), .val (.int iv), .val (.int (4 : Int32)), .val (.int vl), .val (.ref b46), .unset, .unset] [(.int (jw.toInt32)), (.ref b46)])
    obtain ⟨cq119, kq119, q119a, q119b, q119c⟩ := isOf hZ e47 E1_47
    obtain ⟨_, _, ⟨T119, L119, k119, n119⟩, -, X119, ⟨Lc119, hQ119, l119, y119, z119⟩, st119⟩ := X47.virtualBack hx (y := (⟨"com/example/stitchwire/stitchwire/Output", "writeByte", "(I)V"⟩ : MethodName)) (z := (⟨"com/example/stitchwire/stitchwire/Output", "writeByte", "(I)V"⟩ : MethodName)) hown (mvT hZ (hw _ (List.mem_of_getElem? (i := 13) rfl))) (mvT hZ (hw _ (List.mem_of_getElem? (i := 14) rfl))) (notFace_of_selects (args := #[]) (mvT hZ (hw _ (List.mem_of_getElem? (i := 16) rfl)))) (mvT hZ (hw _ (List.mem_of_getElem? (i := 16) rfl))) (mvT hZ (hw _ (List.mem_of_getElem? (i := 15) rfl))) (by decide) (backOf (W := 0) (rmWb l Z a0 hw [] b46 (jw.toInt32) ab_47 kb_47 (64 : Int32) (0 : Int32) (List.replicate 64 (.int (0 : Int32))) h47 n0 Z47 E1_47 Fb1_47 Fs1_47 V1_47 g_b46 g_ab_47 ne_b46_ab_47 (by first | (simp [List.length_set]; done) | (simp [List.length_set]; rfl)) (by decide) (by decide) (by decide)) hZ (hw _ (List.mem_of_getElem? (i := 17) rfl)) (hw _ (List.mem_of_getElem? (i := 3) rfl)) (by decide) (by decide)) q119a q119c (g := (mkF m 37 #[.val (.long jw), .second, .val (.int in_), .val (.int il), .val (.int iv), .val (.int (4 : Int32)), .val (.int vl), .val (.ref b46), .unset, .unset] [(.int (jw.toInt32)), (.ref b46)])) rfl (by rw [hml]; rfl) (Steps.refl _) (argsL := [(.int (jw.toInt32))]) (rest := []) (lenOf pd__I_V rfl) rfl (by show 2 * 0 + _ ≤ _; exact Nat.le_of_eq rfl) (hb hby at_37) (fun _ _ => ⟨rfl, e47, (by decide : 2 + 0 ≤ _), (by decide : 66 + 0 ≤ _)⟩)
    dsimp only [Pt.U, Pt.locs, Pt.cells, Pt.slots] at X119 l119 y119 z119 st119 hQ119
    subst l119 y119 z119
    obtain ⟨h119, e119⟩ : ∃ h, T119.heap = h := ⟨_, rfl⟩
    rw [e119] at hQ119
    obtain ⟨rfl, Nq119, Kq119, E1_119, Fb1_119, Fs1_119, V1_119⟩ := hQ119
    have N119 := Fr.app N47 Nq119
    have Z119 : n0 ≤ h119.size := Nat.le_trans Z47 Kq119.1
    have Fs1_119 : Fld Z h119 b46 "com/example/stitchwire/stitchwire/Output" "size" "I" (.int (1 : Int32)) := Fs1_119
    refine Go.trans st119 ?_
    show Go _ _ _ _ _ _ _ T119 (mkF m 40 #[.val (.long jw), .second, .val (.int in_), .val (.int il), .val (.int iv), .val (.int (4 : Int32)), .val (.int vl), .val (.ref b46), .unset, .unset] [])
    refine Go.step (fun _ k => XS.iload X119.here hx rfl (hb hby at_40) rfl k) ?_
    show Go _ _ _ _ _ _ _ T119 (mkF m 42 #[.val (.long jw), .second, .val (.int in_), .val (.int il), .val (.int iv), .val (.int (4 : Int32)), .val (.int vl), .val (.ref b46), .unset, .unset] [(.int (4 : Int32))])
    refine Go.step (fun _ k => XS.iconst X119.here hx rfl (hb hby at_42) k) ?_
    show Go _ _ _ _ _ _ _ T119 (mkF m 43 #[.val (.long jw), .second, .val (.int in_), .val (.int il), .val (.int iv), .val (.int (4 : Int32)), .val (.int vl), .val (.ref b46), .unset, .unset] [(.int (1 : Int32)), (.int (4 : Int32))])
    have hc43_120 : (1 : Int32) < (4 : Int32) := (by decide)
    refine Go.step (fun _ k => XS.icmpNo X119.here hx rfl (hb hby at_43) rfl (tlt hc43_120).2.2.2 k) ?_
    show Go _ _ _ _ _ _ _ T119 (mkF m 46 #[.val (.long jw), .second, .val (.int in_), .val (.int il), .val (.int iv), .val (.int (4 : Int32)), .val (.int vl), .val (.ref b46), .unset, .unset] [])
    refine Go.step (fun _ k => XS.aload X119.here hx rfl (hb hby at_46) rfl rfl k) ?_
    show Go _ _ _ _ _ _ _ T119 (mkF m 48 #[.val (.long jw), .second, .val (.int in_), .val (.int il), .val (.int iv), .val (.int (4 : Int32)), .val (.int vl), .val (.ref b46), .unset, .unset] [(.ref b46)])
    refine Go.step (fun _ k => XS.lloadN X119.here hx rfl (hb hby at_48) rfl k) ?_
    show Go _ _ _ _ _ _ _ T119 (mkF m 49 #[.val (.long jw), .second, .val (.int in_), .val (.int il), .val (.int iv), .val (.int (4 : Int32)), .val (.int vl), .val (.ref b46), .unset, .unset] [(.long jw), (.ref b46)])
    refine Go.step (fun _ k => XS.bipush X119.here hx rfl (hb hby at_49) k) ?_
    show Go _ _ _ _ _ _ _ T119 (mkF m 51 #[.val (.long jw), .second, .val (.int in_), .val (.int il), .val (.int iv), .val (.int (4 : Int32)), .val (.int vl), .val (.ref b46), .unset, .unset] [(.int (8 : Int32)), (.long jw), (.ref b46)])
    refine Go.step (fun _ k => XS.lushr X119.here hx rfl (hb hby at_51) rfl k) ?_
    show Go _ _ _ _ _ _ _ T119 (mkF m 52 #[.val (.long jw), .second, .val (.int in_), .val (.int il), .val (.int iv), .val (.int (4 : Int32)), .val (.int vl), .val (.ref b46), .unset, .unset] [(.long ((jw.toUInt64 >>> ((8 : Int32) &&& 0x3f).toInt64.toUInt64).toInt64)), (.ref b46)])
    refine Go.step (fun _ k => XS.l2i X119.here hx rfl (hb hby at_52) rfl k) ?_
    show Go _ _ _ _ _ _ _ T119 (mkF m 53 #[.val (.long jw), .second, .val (.int in_), .val (.int il), .val (.int iv), .val (.int (4 : Int32)), .val (.int vl), .val (.ref b46), .unset, .unset] [(.int (((jw.toUInt64 >>> ((8 : Int32) &&& 0x3f).toInt64.toUInt64).toInt64).toInt32)), (.ref b46)])
    obtain ⟨cq121, kq121, q121a, q121b, q121c⟩ := isOf hZ e119 E1_119
    obtain ⟨_, _, ⟨T121, L121, k121, n121⟩, -, X121, ⟨Lc121, hQ121, l121, y121, z121⟩, st121⟩ := X119.virtualBack hx (y := (⟨"com/example/stitchwire/stitchwire/Output", "writeByte", "(I)V"⟩ : MethodName)) (z := (⟨"com/example/stitchwire/stitchwire/Output", "writeByte", "(I)V"⟩ : MethodName)) hown (mvT hZ (hw _ (List.mem_of_getElem? (i := 13) rfl))) (mvT hZ (hw _ (List.mem_of_getElem? (i := 14) rfl))) (notFace_of_selects (args := #[]) (mvT hZ (hw _ (List.mem_of_getElem? (i := 16) rfl)))) (mvT hZ (hw _ (List.mem_of_getElem? (i := 16) rfl))) (mvT hZ (hw _ (List.mem_of_getElem? (i := 15) rfl))) (by decide) (backOf (W := 0) (rmWb l Z a0 hw [] b46 (((jw.toUInt64 >>> ((8 : Int32) &&& 0x3f).toInt64.toUInt64).toInt64).toInt32) ab_47 kb_47 (64 : Int32) (1 : Int32) ((List.replicate 64 (.int (0 : Int32))).set (0 : Int32).toNatClampNeg (.int (nar .byte (jw.toInt32).toInt8.toInt32))) h119 n0 Z119 E1_119 Fb1_119 Fs1_119 V1_119 g_b46 g_ab_47 ne_b46_ab_47 (by first | (simp [List.length_set]; done) | (simp [List.length_set]; rfl)) (by decide) (by decide) (by decide)) hZ (hw _ (List.mem_of_getElem? (i := 17) rfl)) (hw _ (List.mem_of_getElem? (i := 3) rfl)) (by decide) (by decide)) q121a q121c (g := (mkF m 53 #[.val (.long jw), .second, .val (.int in_), .val (.int il), .val (.int iv), .val (.int (4 : Int32)), .val (.int vl), .val (.ref b46), .unset, .unset] [(.int (((jw.toUInt64 >>> ((8 : Int32) &&& 0x3f).toInt64.toUInt64).toInt64).toInt32)), (.ref b46)])) rfl (by rw [hml]; rfl) (Steps.refl _) (argsL := [(.int (((jw.toUInt64 >>> ((8 : Int32) &&& 0x3f).toInt64.toUInt64).toInt64).toInt32))]) (rest := []) (lenOf pd__I_V rfl) rfl (by show 2 * 0 + _ ≤ _; exact Nat.le_of_eq rfl) (hb hby at_53) (fun _ _ => ⟨rfl, e119, (by decide : 2 + 0 ≤ _), (by decide : 66 + 0 ≤ _)⟩)
    dsimp only [Pt.U, Pt.locs, Pt.cells, Pt.slots] at X121 l121 y121 z121 st121 hQ121
    subst l121 y121 z121
    obtain ⟨h121, e121⟩ : ∃ h, T121.heap = h := ⟨_, rfl⟩
    rw [e121] at hQ121
    obtain ⟨rfl, Nq121, Kq121, E1_121, Fb1_121, Fs1_121, V1_121⟩ := hQ121
    have N121 := Fr.app N119 Nq121
    have Z121 : n0 ≤ h121.size := Nat.le_trans Z119 Kq121.1
    have Fs1_121 : Fld Z h121 b46 "com/example/stitchwire/stitchwire/Output" "size" "I" (.int (2 : Int32)) := Fs1_121
    refine Go.trans st121 ?_
    show Go _ _ _ _ _ _ _ T121 (mkF m 56 #[.val (.long jw), .second, .val (.int in_), .val (.int il), .val (.int iv), .val (.int (4 : Int32)), .val (.int vl), .val (.ref b46), .unset, .unset] [])
    refine Go.step (fun _ k => XS.iload X121.here hx rfl (hb hby at_56) rfl k) ?_
    show Go _ _ _ _ _ _ _ T121 (mkF m 58 #[.val (.long jw), .second, .val (.int in_), .val (.int il), .val (.int iv), .val (.int (4 : Int32)), .val (.int vl), .val (.ref b46), .unset, .unset] [(.int (4 : Int32))])
    refine Go.step (fun _ k => XS.iconst X121.here hx rfl (hb hby at_58) k) ?_
    show Go _ _ _ _ _ _ _ T121 (mkF m 59 #[.val (.long jw), .second, .val (.int in_), .val (.int il), .val (.int iv), .val (.int (4 : Int32)), .val (.int vl), .val (.ref b46), .unset, .unset] [(.int (2 : Int32)), (.int (4 : Int32))])
    have hc59_122 : (2 : Int32) < (4 : Int32) := (by decide)
    refine Go.step (fun _ k => XS.icmpNo X121.here hx rfl (hb hby at_59) rfl (tlt hc59_122).2.2.2 k) ?_
    show Go _ _ _ _ _ _ _ T121 (mkF m 62 #[.val (.long jw), .second, .val (.int in_), .val (.int il), .val (.int iv), .val (.int (4 : Int32)), .val (.int vl), .val (.ref b46), .unset, .unset] [])
    refine Go.step (fun _ k => XS.aload X121.here hx rfl (hb hby at_62) rfl rfl k) ?_
    show Go _ _ _ _ _ _ _ T121 (mkF m 64 #[.val (.long jw), .second, .val (.int in_), .val (.int il), .val (.int iv), .val (.int (4 : Int32)), .val (.int vl), .val (.ref b46), .unset, .unset] [(.ref b46)])
    refine Go.step (fun _ k => XS.lloadN X121.here hx rfl (hb hby at_64) rfl k) ?_
    show Go _ _ _ _ _ _ _ T121 (mkF m 65 #[.val (.long jw), .second, .val (.int in_), .val (.int il), .val (.int iv), .val (.int (4 : Int32)), .val (.int vl), .val (.ref b46), .unset, .unset] [(.long jw), (.ref b46)])
    refine Go.step (fun _ k => XS.bipush X121.here hx rfl (hb hby at_65) k) ?_
    show Go _ _ _ _ _ _ _ T121 (mkF m 67 #[.val (.long jw), .second, .val (.int in_), .val (.int il), .val (.int iv), .val (.int (4 : Int32)), .val (.int vl), .val (.ref b46), .unset, .unset] [(.int (16 : Int32)), (.long jw), (.ref b46)])
    refine Go.step (fun _ k => XS.lushr X121.here hx rfl (hb hby at_67) rfl k) ?_
    show Go _ _ _ _ _ _ _ T121 (mkF m 68 #[.val (.long jw), .second, .val (.int in_), .val (.int il), .val (.int iv), .val (.int (4 : Int32)), .val (.int vl), .val (.ref b46), .unset, .unset] [(.long ((jw.toUInt64 >>> ((16 : Int32) &&& 0x3f).toInt64.toUInt64).toInt64)), (.ref b46)])
    refine Go.step (fun _ k => XS.l2i X121.here hx rfl (hb hby at_68) rfl k) ?_
    show Go _ _ _ _ _ _ _ T121 (mkF m 69 #[.val (.long jw), .second, .val (.int in_), .val (.int il), .val (.int iv), .val (.int (4 : Int32)), .val (.int vl), .val (.ref b46), .unset, .unset] [(.int (((jw.toUInt64 >>> ((16 : Int32) &&& 0x3f).toInt64.toUInt64).toInt64).toInt32)), (.ref b46)])
    obtain ⟨cq123, kq123, q123a, q123b, q123c⟩ := isOf hZ e121 E1_121
    obtain ⟨_, _, ⟨T123, L123, k123, n123⟩, -, X123, ⟨Lc123, hQ123, l123, y123, z123⟩, st123⟩ := X121.virtualBack hx (y := (⟨"com/example/stitchwire/stitchwire/Output", "writeByte", "(I)V"⟩ : MethodName)) (z := (⟨"com/example/stitchwire/stitchwire/Output", "writeByte", "(I)V"⟩ : MethodName)) hown (mvT hZ (hw _ (List.mem_of_getElem? (i := 13) rfl))) (mvT hZ (hw _ (List.mem_of_getElem? (i := 14) rfl))) (notFace_of_selects (args := #[]) (mvT hZ (hw _ (List.mem_of_getElem? (i := 16) rfl)))) (mvT hZ (hw _ (List.mem_of_getElem? (i := 16) rfl))) (mvT hZ (hw _ (List.mem_of_getElem? (i := 15) rfl))) (by decide) (backOf (W := 0) (rmWb l Z a0 hw [] b46 (((jw.toUInt64 >>> ((16 : Int32) &&& 0x3f).toInt64.toUInt64).toInt64).toInt32) ab_47 kb_47 (64 : Int32) (2 : Int32) (((List.replicate 64 (.int (0 : Int32))).set (0 : Int32).toNatClampNeg (.int (nar .byte (jw.toInt32).toInt8.toInt32))).set (1 : Int32).toNatClampNeg (.int (nar .byte (((jw.toUInt64 >>> ((8 : Int32) &&& 0x3f).toInt64.toUInt64).toInt64).toInt32).toInt8.toInt32))) h121 n0 Z121 E1_121 Fb1_121 Fs1_121 V1_121 g_b46 g_ab_47 ne_b46_ab_47 (by first | (simp [List.length_set]; done) | (simp [List.length_set]; rfl)) (by decide) (by decide) (by decide)) hZ (hw _ (List.mem_of_getElem? (i := 17) rfl)) (hw _ (List.mem_of_getElem? (i := 3) rfl)) (by decide) (by decide)) q123a q123c (g := (mkF m 69 #[.val (.long jw), .second, .val (.int in_), .val (.int il), .val (.int iv), .val (.int (4 : Int32)), .val (.int vl), .val (.ref b46), .unset, .unset] [(.int (((jw.toUInt64 >>> ((16 : Int32) &&& 0x3f).toInt64.toUInt64).toInt64).toInt32)), (.ref b46)])) rfl (by rw [hml]; rfl) (Steps.refl _) (argsL := [(.int (((jw.toUInt64 >>> ((16 : Int32) &&& 0x3f).toInt64.toUInt64).toInt64).toInt32))]) (rest := []) (lenOf pd__I_V rfl) rfl (by show 2 * 0 + _ ≤ _; exact Nat.le_of_eq rfl) (hb hby at_69) (fun _ _ => ⟨rfl, e121, (by decide : 2 + 0 ≤ _), (by decide : 66 + 0 ≤ _)⟩)
    dsimp only [Pt.U, Pt.locs, Pt.cells, Pt.slots] at X123 l123 y123 z123 st123 hQ123
    subst l123 y123 z123
    obtain ⟨h123, e123⟩ : ∃ h, T123.heap = h := ⟨_, rfl⟩
    rw [e123] at hQ123
    obtain ⟨rfl, Nq123, Kq123, E1_123, Fb1_123, Fs1_123, V1_123⟩ := hQ123
    have N123 := Fr.app N121 Nq123
    have Z123 : n0 ≤ h123.size := Nat.le_trans Z121 Kq123.1
    have Fs1_123 : Fld Z h123 b46 "com/example/stitchwire/stitchwire/Output" "size" "I" (.int (3 : Int32)) := Fs1_123
    refine Go.trans st123 ?_
    show Go _ _ _ _ _ _ _ T123 (mkF m 72 #[.val (.long jw), .second, .val (.int in_), .val (.int il), .val (.int iv), .val (.int (4 : Int32)), .val (.int vl), .val (.ref b46), .unset, .unset] [])
    refine Go.step (fun _ k => XS.iload X123.here hx rfl (hb hby at_72) rfl k) ?_
    show Go _ _ _ _ _ _ _ T123 (mkF m 74 #[.val (.long jw), .second, .val (.int in_), .val (.int il), .val (.int iv), .val (.int (4 : Int32)), .val (.int vl), .val (.ref b46), .unset, .unset] [(.int (4 : Int32))])
    refine Go.step (fun _ k => XS.iconst X123.here hx rfl (hb hby at_74) k) ?_
    show Go _ _ _ _ _ _ _ T123 (mkF m 75 #[.val (.long jw), .second, .val (.int in_), .val (.int il), .val (.int iv), .val (.int (4 : Int32)), .val (.int vl), .val (.ref b46), .unset, .unset] [(.int (3 : Int32)), (.int (4 : Int32))])
    have hc75_124 : (3 : Int32) < (4 : Int32) := (by decide)
    refine Go.step (fun _ k => XS.icmpNo X123.here hx rfl (hb hby at_75) rfl (tlt hc75_124).2.2.2 k) ?_
    show Go _ _ _ _ _ _ _ T123 (mkF m 78 #[.val (.long jw), .second, .val (.int in_), .val (.int il), .val (.int iv), .val (.int (4 : Int32)), .val (.int vl), .val (.ref b46), .unset, .unset] [])
    refine Go.step (fun _ k => XS.aload X123.here hx rfl (hb hby at_78) rfl rfl k) ?_
    show Go _ _ _ _ _ _ _ T123 (mkF m 80 #[.val (.long jw), .second, .val (.int in_), .val (.int il), .val (.int iv), .val (.int (4 : Int32)), .val (.int vl), .val (.ref b46), .unset, .unset] [(.ref b46)])
    refine Go.step (fun _ k => XS.lloadN X123.here hx rfl (hb hby at_80) rfl k) ?_
    show Go _ _ _ _ _ _ _ T123 (mkF m 81 #[.val (.long jw), .second, .val (.int in_), .val (.int il), .val (.int iv), .val (.int (4 : Int32)), .val (.int vl), .val (.ref b46), .unset, .unset] [(.long jw), (.ref b46)])
    refine Go.step (fun _ k => XS.bipush X123.here hx rfl (hb hby at_81) k) ?_
    show Go _ _ _ _ _ _ _ T123 (mkF m 83 #[.val (.long jw), .second, .val (.int in_), .val (.int il), .val (.int iv), .val (.int (4 : Int32)), .val (.int vl), .val (.ref b46), .unset, .unset] [(.int (24 : Int32)), (.long jw), (.ref b46)])
    refine Go.step (fun _ k => XS.lushr X123.here hx rfl (hb hby at_83) rfl k) ?_
    show Go _ _ _ _ _ _ _ T123 (mkF m 84 #[.val (.long jw), .second, .val (.int in_), .val (.int il), .val (.int iv), .val (.int (4 : Int32)), .val (.int vl), .val (.ref b46), .unset, .unset] [(.long ((jw.toUInt64 >>> ((24 : Int32) &&& 0x3f).toInt64.toUInt64).toInt64)), (.ref b46)])
    refine Go.step (fun _ k => XS.l2i X123.here hx rfl (hb hby at_84) rfl k) ?_
    show Go _ _ _ _ _ _ _ T123 (mkF m 85 #[.val (.long jw), .second, .val (.int in_), .val (.int il), .val (.int iv), .val (.int (4 : Int32)), .val (.int vl), .val (.ref b46), .unset, .unset] [(.int (((jw.toUInt64 >>> ((24 : Int32) &&& 0x3f).toInt64.toUInt64).toInt64).toInt32)), (.ref b46)])
    obtain ⟨cq125, kq125, q125a, q125b, q125c⟩ := isOf hZ e123 E1_123
    obtain ⟨_, _, ⟨T125, L125, k125, n125⟩, -, X125, ⟨Lc125, hQ125, l125, y125, z125⟩, st125⟩ := X123.virtualBack hx (y := (⟨"com/example/stitchwire/stitchwire/Output", "writeByte", "(I)V"⟩ : MethodName)) (z := (⟨"com/example/stitchwire/stitchwire/Output", "writeByte", "(I)V"⟩ : MethodName)) hown (mvT hZ (hw _ (List.mem_of_getElem? (i := 13) rfl))) (mvT hZ (hw _ (List.mem_of_getElem? (i := 14) rfl))) (notFace_of_selects (args := #[]) (mvT hZ (hw _ (List.mem_of_getElem? (i := 16) rfl)))) (mvT hZ (hw _ (List.mem_of_getElem? (i := 16) rfl))) (mvT hZ (hw _ (List.mem_of_getElem? (i := 15) rfl))) (by decide) (backOf (W := 0) (rmWb l Z a0 hw [] b46 (((jw.toUInt64 >>> ((24 : Int32) &&& 0x3f).toInt64.toUInt64).toInt64).toInt32) ab_47 kb_47 (64 : Int32) (3 : Int32) ((((List.replicate 64 (.int (0 : Int32))).set (0 : Int32).toNatClampNeg (.int (nar .byte (jw.toInt32).toInt8.toInt32))).set (1 : Int32).toNatClampNeg (.int (nar .byte (((jw.toUInt64 >>> ((8 : Int32) &&& 0x3f).toInt64.toUInt64).toInt64).toInt32).toInt8.toInt32))).set (2 : Int32).toNatClampNeg (.int (nar .byte (((jw.toUInt64 >>> ((16 : Int32) &&& 0x3f).toInt64.toUInt64).toInt64).toInt32).toInt8.toInt32))) h123 n0 Z123 E1_123 Fb1_123 Fs1_123 V1_123 g_b46 g_ab_47 ne_b46_ab_47 (by first | (simp [List.length_set]; done) | (simp [List.length_set]; rfl)) (by decide) (by decide) (by decide)) hZ (hw _ (List.mem_of_getElem? (i := 17) rfl)) (hw _ (List.mem_of_getElem? (i := 3) rfl)) (by decide) (by decide)) q125a q125c (g := (mkF m 85 #[.val (.long jw), .second, .val (.int in_), .val (.int il), .val (.int iv), .val (.int (4 : Int32)), .val (.int vl), .val (.ref b46), .unset, .unset] [(.int (((jw.toUInt64 >>> ((24 : Int32) &&& 0x3f).toInt64.toUInt64).toInt64).toInt32)), (.ref b46)])) rfl (by rw [hml]; rfl) (Steps.refl _) (argsL := [(.int (((jw.toUInt64 >>> ((24 : Int32) &&& 0x3f).toInt64.toUInt64).toInt64).toInt32))]) (rest := []) (lenOf pd__I_V rfl) rfl (by show 2 * 0 + _ ≤ _; exact Nat.le_of_eq rfl) (hb hby at_85) (fun _ _ => ⟨rfl, e123, (by decide : 2 + 0 ≤ _), (by decide : 66 + 0 ≤ _)⟩)
    dsimp only [Pt.U, Pt.locs, Pt.cells, Pt.slots] at X125 l125 y125 z125 st125 hQ125
    subst l125 y125 z125
    obtain ⟨h125, e125⟩ : ∃ h, T125.heap = h := ⟨_, rfl⟩
    rw [e125] at hQ125
    obtain ⟨rfl, Nq125, Kq125, E1_125, Fb1_125, Fs1_125, V1_125⟩ := hQ125
    have N125 := Fr.app N123 Nq125
    have Z125 : n0 ≤ h125.size := Nat.le_trans Z123 Kq125.1
    have Fs1_125 : Fld Z h125 b46 "com/example/stitchwire/stitchwire/Output" "size" "I" (.int (4 : Int32)) := Fs1_125
    refine Go.trans st125 ?_
    show Go _ _ _ _ _ _ _ T125 (mkF m 88 #[.val (.long jw), .second, .val (.int in_), .val (.int il), .val (.int iv), .val (.int (4 : Int32)), .val (.int vl), .val (.ref b46), .unset, .unset] [])
    have f126 : Old Z n0 h125 := ((((((O0.ext E46).keep Kq47 (allS g_b46 all0)).keep Kq119 (allS g_b46 (allS g_ab_47 all0))).keep Kq121 (allS g_b46 (allS g_ab_47 all0))).keep Kq123 (allS g_b46 (allS g_ab_47 all0))).keep Kq125 (allS g_b46 (allS g_ab_47 all0)))
    exact J T125 h125 _ (((((List.replicate 64 (.int (0 : Int32))).set (0 : Int32).toNatClampNeg (.int (nar .byte (jw.toInt32).toInt8.toInt32))).set (1 : Int32).toNatClampNeg (.int (nar .byte (((jw.toUInt64 >>> ((8 : Int32) &&& 0x3f).toInt64.toUInt64).toInt64).toInt32).toInt8.toInt32))).set (2 : Int32).toNatClampNeg (.int (nar .byte (((jw.toUInt64 >>> ((16 : Int32) &&& 0x3f).toInt64.toUInt64).toInt64).toInt32).toInt8.toInt32))).set (3 : Int32).toNatClampNeg (.int (nar .byte (((jw.toUInt64 >>> ((24 : Int32) &&& 0x3f).toInt64.toUInt64).toInt64).toInt32).toInt8.toInt32))) (4 : Int32) (4 : Int32) (X125.more (by decide) (by decide)) e125 N125 Z125 E1_125 Fb1_125 Fs1_125 V1_125 f126 (by simp [List.length_set]) (by have := bl; simp only [Int32.lt_iff_toInt_lt]; omega) (fun _ => ((own_n (by decide)).trans ((own_n (by decide)).trans ((own_n (by decide)).trans (own_g (by simp [List.length_set])))))) (fun _ => ((own_n (by decide)).trans ((own_n (by decide)).trans (own_g (by simp [List.length_set]))))) (fun _ => ((own_n (by decide)).trans (own_g (by simp [List.length_set])))) (fun _ => (own_g (by simp [List.length_set])))
set_option maxRecDepth 65536 in
set_option maxHeartbeats 40000000 in
theorem comes_1 {Post : Tables → Env → Array Value → State → Outcome → State → Prop} (hpost : ∀ tb e args s v u, (limb_1_1.after args s (.returned v) u = true ∧ limb_1_2.after args s (.returned v) u = true ∧ True) → FrameEnd s (.returned v) u (Jvm.fieldLocs frame_1_writes args s ++ Jvm.arrayLocs frame_1_arrays args s ++ Jvm.staticLocs frame_1_statics s) 16 256 → Post tb e args s (.returned v) u) :
    ArmFor flags0 classFile x code maxLocals ret World_1 tables_1 room_1 Calls_1 rest_1 Pre_1 Post := by
  intro l hfl _ _ p e ha hc hk s m args below hf hA hF happ hP
  obtain ⟨hcalls, hrest, hpre⟩ := hP
  obtain ⟨-, -, -, hnamed, -, -, -, hat⟩ := (Spec.applies_iff hf).mp happ
  obtain ⟨hg, hn⟩ := and_e (Cond.before_iff.mp (show (Jvm.Cond.and given_1 narrow_1).before args s = true from hpre))
  obtain ⟨gg1, gg2⟩ := and_e hg
  obtain ⟨gg3, gg4⟩ := and_e gg2
  obtain ⟨gg5, gg6⟩ := and_e gg4
  obtain ⟨gg7, gg8⟩ := and_e gg6
  obtain ⟨w0, w1, w2, w3, rfl⟩ : ∃ w0 w1 w2 w3 : Value, args = #[w0, w1, w2, w3] := by
    have hs : args.size = 4 := by simpa [Cond.value, given_1] using gg1
    obtain ⟨L⟩ := args
    match L, hs with
    | [w0, w1, w2, w3], _ => exact ⟨w0, w1, w2, w3, rfl⟩
  have hw := fun d (hd : d ∈ tables_1) => atoms_spec (ws := Jvm.Cond.code x code maxLocals ret :: tables_1) hat d (List.mem_cons_of_mem _ hd)
  have hfit : Fit s := fun {y c} hc i hi => by
    obtain ⟨ha, rfl⟩ := Array.getElem?_eq_some_iff.mp hc
    have q := List.all_eq_true.mp ((Array.all_eq_true_iff_forall_mem.mp hF) _ (Array.getElem_mem ha)) i (List.mem_range.mpr hi)
    simpa [Array.getElem?_eq_getElem hi] using q
  obtain ⟨jw, ei0⟩ := isL_v gg3
  obtain rfl : w0 = (.long jw) := Option.some.inj ei0
  obtain ⟨in_, ei1⟩ := is_v gg5
  obtain rfl : w1 = (.int in_) := Option.some.inj ei1
  obtain ⟨il, ei2⟩ := is_v gg7
  obtain rfl : w2 = (.int il) := Option.some.inj ei2
  obtain ⟨iv, ei3⟩ := is_v gg8
  obtain rfl : w3 = (.int iv) := Option.some.inj ei3
  obtain ⟨va, ea, fa⟩ := static_fit hfit (hw _ (List.mem_of_getElem? (i := 30) rfl)) (ty := .boolean) (by decide)
  obtain ⟨za, rfl⟩ := fit_I fa (by simp)
  have SA0 := Sta.start ea (Or.inr ⟨(hw _ (List.mem_of_getElem? (i := 3) rfl)), (hw _ (List.mem_of_getElem? (i := 30) rfl))⟩)
  obtain ⟨n, o, h1, h2, h3, _, L, rfl, ⟨rfl, N, -⟩, hq⟩ := rm0 l s _ hw tables_1 jw in_ il iv za s.heap s.heap.size (Nat.le_refl _) (Old.start s) SA0 p e ha hc hk s m _ below hf ((Spec.applies_iff_loose hf).mp happ).1 ⟨rfl, State.Warmed39.refl s, rfl⟩ trivial
  refine ⟨n, _, h1, h2, h3, hpost _ _ _ _ _ _ ⟨Cond.after_iff.mpr rfl, Cond.after_iff.mpr (eq_i res_at (Term.int_eval (1)) rfl), trivial⟩ ⟨hq.1, hq.2.1, (hq.2.2.sift fun y hy => Or.inr (N y hy)).mono (by decide) (by decide)⟩⟩
theorem main_1_1 : Claimed_1_1 := comes_1 fun _ _ _ _ _ _ h hF => ⟨h.1, hF⟩
theorem main_1_2 : Claimed_1_2 := comes_1 fun _ _ _ _ _ _ h hF => ⟨h.2.1, hF⟩
end Jvm.Pilot.@@N@@
namespace Jvm.Pilot.@@N@@
open Jvm Jvm.ClassFile Sem Op Lib Jvm.Free Jvm.Stand Jvm.Pilot.@@N@@.Jvm.D
/-! MADE BY PROGRAM (witnessworld.py) out of the Statement's table words and the real class files: 12 classes; the members and pool entries that the words name. The judged class is class 1, her method 1. -/
namespace start1
open Jvm.ClassFile
def u (s : String) : CpInfo := .utf8 (stringToUtf16 s)
/-- a pool by its gaps: so many unusable entries, then the entry; so many at the end -/
def gap : Nat → List CpInfo → List CpInfo
  | 0, r => r
  | n + 1, r => .unusable :: gap n r
def poolList (es : List (Nat × CpInfo)) (last : Nat) : List CpInfo := es.foldr (fun e r => gap e.1 (e.2 :: r)) (gap last [])
def pool (es : List (Nat × CpInfo)) (last : Nat) : Array CpInfo := ⟨poolList es last⟩
def fileOf (pool : Array CpInfo) (this : Nat) (attrs : Array Attribute := #[]) (ms : Array MethodInfo := #[]) (fl : Nat := 33) (sup : Nat := 0) (ifs : Array Nat := #[]) (fds : Array FieldInfo := #[]) : ClassFile where
  minorVersion := 0
  majorVersion := 65
  constantPool := pool
  accessFlags := fl
  thisClass := this
  superClass := sup
  interfaces := ifs
  fields := fds
  methods := ms
  attributes := attrs
def plain (name : String) (sup : Option ClassId) : Class where
  name := name
  kind := .ordinary
  loader := none
  accessFlags := 33
  super := sup
  interfaces := #[]
  cf := none
  fields := #[]
  methods := #[]
  instanceTypes := #[]
  staticTypes := #[]
  resolved := #[]
  callSites := []
  init := .initialized
  statics := none
  mirror := none

def pool0 : Array CpInfo := pool [(5, u "<init>"), (0, u "()V"), (1, .class_ 10), (1, u "java/lang/Object")] 113

def k0c0 : Code := { maxStack := 0, maxLocals := 1, code := object_method_1_code, exceptionTable := #[], attributes := #[] }
def k0m0 : Method := { name := "<init>", desc := "()V", sig := { parameters := [], returnType := none }, accessFlags := 1, code := some k0c0 }
/-- java/lang/Object -/
def k0 : Class := { plain "java/lang/Object" none with
  accessFlags := 33
  interfaces := #[]
  cf := some (fileOf pool0 8 #[] #[{ accessFlags := 1, nameIndex := 5, descriptorIndex := 6, attributes := #[] }] 33 0 #[] #[])
  fields := #[]
  methods := #[k0m0]
  instanceTypes := #[]
  staticTypes := #[]
  resolved := Array.replicate 124 none
  statics := none }

def pool1 : Array CpInfo := pool [(2, .class_ 4), (0, .nameAndType 5 6), (0, u "java/lang/Object"), (0, u "<init>"), (0, u "()V"), (0, .integer 2147483647), (0, .class_ 9), (0, u "com/example/stitchwire/stitchwire/Output"), (0, .methodref 8 3), (0, .methodref 8 12), (0, .nameAndType 13 14), (0, u "writeByte"), (0, u "(I)V"), (0, .methodref 8 16), (0, .nameAndType 17 14), (0, u "truncate"), (0, .methodref 8 19), (0, .nameAndType 20 21), (0, u "size"), (0, u "()I"), (0, .methodref 8 23), (0, .nameAndType 24 25), (0, u "toByteArray"), (0, u "()[B"), (0, .class_ 27), (0, u "com/example/stitchwire/stitchwire/OutputTruncatePinLaw"), (2, u "law"), (0, u "(JIII)Z")] 5

def k1m0 : Method := { name := "<init>", desc := "()V", sig := { parameters := [], returnType := none }, accessFlags := 1, code := none }
def k1c1 : Code := { maxStack := 4, maxLocals := 10, code := code, exceptionTable := #[], attributes := #[] }
def k1m1 : Method := { name := "law", desc := "(JIII)Z", sig := { parameters := [.long, .int, .int, .int], returnType := some .boolean }, accessFlags := 9, code := some k1c1 }
/-- com/example/stitchwire/stitchwire/OutputTruncatePinLaw -/
def k1 : Class := { plain "com/example/stitchwire/stitchwire/OutputTruncatePinLaw" (some 0) with
  accessFlags := 49
  interfaces := #[]
  cf := some (fileOf pool1 26 #[] #[{ accessFlags := 1, nameIndex := 5, descriptorIndex := 6, attributes := #[] }, { accessFlags := 9, nameIndex := 30, descriptorIndex := 31, attributes := #[] }] 49 2 #[] #[])
  fields := #[]
  methods := #[k1m0, k1m1]
  instanceTypes := #[]
  staticTypes := #[]
  resolved := Array.replicate 37 none
  statics := none }

def pool2 : Array CpInfo := pool [(3, .class_ 4), (0, u "com/example/stitchwire/stitchwire/Output"), (0, .methodref 6 7), (0, .class_ 8), (0, .nameAndType 9 10), (0, u "java/lang/Object"), (0, u "<init>"), (0, u "()V"), (0, .fieldref 3 12), (0, .nameAndType 13 14), (0, u "buffer"), (0, u "[B"), (0, .fieldref 3 16), (0, .nameAndType 17 18), (0, u "size"), (0, u "I"), (0, .methodref 20 21), (0, .class_ 22), (0, .nameAndType 23 24), (0, u "java/util/Arrays"), (0, u "copyOf"), (0, u "([BI)[B"), (0, .fieldref 3 26), (0, .nameAndType 27 28), (0, u "$assertionsDisabled"), (0, u "Z"), (28, u "()I"), (6, .methodref 3 65), (0, .nameAndType 66 67), (0, u "ensureRoom"), (0, u "(I)V"), (11, u "writeByte"), (109, u "LONGS"), (0, u "Ljava/lang/invoke/VarHandle;"), (109, u "MAX_SIZE"), (2, u "EIGHT_QUESTION_MARKS"), (0, u "J"), (0, u "EIGHT_ONES"), (0, u "EIGHT_HIGH_BITS"), (0, u "INITIAL_SIZE"), (1, u "MAX_VARINT_BYTES"), (1, u "MAX_HEAD_BYTES"), (3, u "toByteArray"), (0, u "()[B"), (2, u "truncate")] 52

def k2c0 : Code := { maxStack := 2, maxLocals := 1, code := prog_38_method_1_code, exceptionTable := #[], attributes := #[] }
def k2m0 : Method := { name := "<init>", desc := "()V", sig := { parameters := [], returnType := none }, accessFlags := 0, code := some k2c0 }
def k2c1 : Code := { maxStack := 2, maxLocals := 1, code := prog_38_method_2_code, exceptionTable := #[], attributes := #[] }
def k2m1 : Method := { name := "toByteArray", desc := "()[B", sig := { parameters := [], returnType := some (.array .byte) }, accessFlags := 0, code := some k2c1 }
def k2c2 : Code := { maxStack := 1, maxLocals := 1, code := prog_38_method_4_code, exceptionTable := #[], attributes := #[] }
def k2m2 : Method := { name := "size", desc := "()I", sig := { parameters := [], returnType := some .int }, accessFlags := 0, code := some k2c2 }
def k2c3 : Code := { maxStack := 4, maxLocals := 2, code := prog_38_method_5_code, exceptionTable := #[], attributes := #[] }
def k2m3 : Method := { name := "truncate", desc := "(I)V", sig := { parameters := [.int], returnType := none }, accessFlags := 0, code := some k2c3 }
def k2c4 : Code := { maxStack := 5, maxLocals := 2, code := prog_38_method_7_code, exceptionTable := #[], attributes := #[] }
def k2m4 : Method := { name := "writeByte", desc := "(I)V", sig := { parameters := [.int], returnType := none }, accessFlags := 0, code := some k2c4 }
def k2c5 : Code := { maxStack := 3, maxLocals := 2, code := prog_38_method_33_code, exceptionTable := #[], attributes := #[] }
def k2m5 : Method := { name := "ensureRoom", desc := "(I)V", sig := { parameters := [.int], returnType := none }, accessFlags := 2, code := some k2c5 }
/-- com/example/stitchwire/stitchwire/Output -/
def k2 : Class := { plain "com/example/stitchwire/stitchwire/Output" (some 0) with
  accessFlags := 48
  interfaces := #[]
  cf := some (fileOf pool2 3 #[] #[{ accessFlags := 0, nameIndex := 9, descriptorIndex := 10, attributes := #[] }, { accessFlags := 0, nameIndex := 315, descriptorIndex := 316, attributes := #[] }, { accessFlags := 0, nameIndex := 17, descriptorIndex := 57, attributes := #[] }, { accessFlags := 0, nameIndex := 319, descriptorIndex := 67, attributes := #[] }, { accessFlags := 0, nameIndex := 79, descriptorIndex := 67, attributes := #[] }, { accessFlags := 2, nameIndex := 66, descriptorIndex := 67, attributes := #[] }] 48 6 #[] #[{ accessFlags := 26, nameIndex := 300, descriptorIndex := 18, attributes := #[] }, { accessFlags := 26, nameIndex := 189, descriptorIndex := 190, attributes := #[] }, { accessFlags := 26, nameIndex := 303, descriptorIndex := 304, attributes := #[] }, { accessFlags := 26, nameIndex := 305, descriptorIndex := 304, attributes := #[] }, { accessFlags := 26, nameIndex := 306, descriptorIndex := 304, attributes := #[] }, { accessFlags := 26, nameIndex := 307, descriptorIndex := 18, attributes := #[] }, { accessFlags := 26, nameIndex := 309, descriptorIndex := 18, attributes := #[] }, { accessFlags := 26, nameIndex := 311, descriptorIndex := 18, attributes := #[] }, { accessFlags := 2, nameIndex := 13, descriptorIndex := 14, attributes := #[] }, { accessFlags := 2, nameIndex := 17, descriptorIndex := 18, attributes := #[] }, { accessFlags := 4120, nameIndex := 27, descriptorIndex := 28, attributes := #[] }])
  fields := #[{ name := "MAX_SIZE", type := .int, accessFlags := 26, slot := 0, constantValue := 0 }, { name := "LONGS", type := (.object "java/lang/invoke/VarHandle"), accessFlags := 26, slot := 1, constantValue := 0 }, { name := "EIGHT_QUESTION_MARKS", type := .long, accessFlags := 26, slot := 2, constantValue := 0 }, { name := "EIGHT_ONES", type := .long, accessFlags := 26, slot := 3, constantValue := 0 }, { name := "EIGHT_HIGH_BITS", type := .long, accessFlags := 26, slot := 4, constantValue := 0 }, { name := "INITIAL_SIZE", type := .int, accessFlags := 26, slot := 5, constantValue := 0 }, { name := "MAX_VARINT_BYTES", type := .int, accessFlags := 26, slot := 6, constantValue := 0 }, { name := "MAX_HEAD_BYTES", type := .int, accessFlags := 26, slot := 7, constantValue := 0 }, { name := "buffer", type := (.array .byte), accessFlags := 2, slot := 0, constantValue := 0 }, { name := "size", type := .int, accessFlags := 2, slot := 1, constantValue := 0 }, { name := "$assertionsDisabled", type := .boolean, accessFlags := 4120, slot := 8, constantValue := 0 }]
  methods := #[k2m0, k2m1, k2m2, k2m3, k2m4, k2m5]
  instanceTypes := #[(.array .byte), .int]
  staticTypes := #[.int, (.object "java/lang/invoke/VarHandle"), .long, .long, .long, .int, .int, .int, .boolean]
  resolved := Array.replicate 372 none
  statics := some 0 }

def pool3 : Array CpInfo := pool [(2, .class_ 4), (1, u "java/lang/Object"), (0, u "<init>"), (0, u "()V"), (7, .class_ 16), (1, u "java/util/Arrays"), (57, .class_ 76), (1, u "java/util/Arrays$NaturalOrder"), (36, .class_ 115), (1, u "java/util/Arrays$LegacyMergeSort"), (1, u "Z"), (32, .methodref 151 152), (0, .class_ 153), (0, .nameAndType 154 155), (0, u "java/lang/System"), (0, u "arraycopy"), (0, u "(Ljava/lang/Object;ILjava/lang/Object;II)V"), (146, u "copyOf"), (1, .methodref 305 306), (0, .class_ 307), (0, .nameAndType 308 309), (0, u "java/lang/Math"), (0, u "min"), (0, u "(II)I"), (65, .class_ 376), (0, u "java/util/Arrays$ArrayList"), (68, u "$assertionsDisabled"), (269, u "MIN_ARRAY_SORT_GRAN"), (0, u "I"), (2, u "INSERTIONSORT_THRESHOLD"), (149, u "([BI)[B"), (105, .class_ 976), (0, u "java/util/Arrays$ArrayItr")] 52

def k3m0 : Method := { name := "<init>", desc := "()V", sig := { parameters := [], returnType := none }, accessFlags := 2, code := none }
def k3c1 : Code := { maxStack := 6, maxLocals := 3, code := jdk_65_method_121_code, exceptionTable := #[], attributes := #[] }
def k3m1 : Method := { name := "copyOf", desc := "([BI)[B", sig := { parameters := [(.array .byte), .int], returnType := some (.array .byte) }, accessFlags := 9, code := some k3c1 }
/-- java/util/Arrays -/
def k3 : Class := { plain "java/util/Arrays" (some 0) with
  accessFlags := 49
  interfaces := #[]
  cf := some (fileOf pool3 14 #[.nestMembers #[975, 375, 113, 74]] #[{ accessFlags := 2, nameIndex := 5, descriptorIndex := 6, attributes := #[] }, { accessFlags := 9, nameIndex := 302, descriptorIndex := 869, attributes := #[] }] 49 2 #[] #[{ accessFlags := 26, nameIndex := 715, descriptorIndex := 716, attributes := #[] }, { accessFlags := 26, nameIndex := 719, descriptorIndex := 716, attributes := #[] }, { accessFlags := 4120, nameIndex := 445, descriptorIndex := 117, attributes := #[] }])
  fields := #[{ name := "MIN_ARRAY_SORT_GRAN", type := .int, accessFlags := 26, slot := 0, constantValue := 0 }, { name := "INSERTIONSORT_THRESHOLD", type := .int, accessFlags := 26, slot := 1, constantValue := 0 }, { name := "$assertionsDisabled", type := .boolean, accessFlags := 4120, slot := 2, constantValue := 0 }]
  methods := #[k3m0, k3m1]
  instanceTypes := #[]
  staticTypes := #[.int, .int, .boolean]
  resolved := Array.replicate 1029 none
  statics := none }

def pool4 : Array CpInfo := pool [(1, .class_ 2), (0, u "java/lang/Math"), (1, .class_ 6), (1, u "java/lang/Object"), (0, u "<init>"), (0, u "()V"), (89, .class_ 100), (1, u "java/lang/Math$RandomNumberGeneratorHolder"), (71, u "negativeZeroFloatBits"), (0, u "J"), (2, u "negativeZeroDoubleBits"), (24, u "min"), (43, u "$assertionsDisabled"), (0, u "Z"), (88, u "(II)I"), (2, u "twoToTheDoubleScaleDown"), (0, u "D"), (4, u "twoToTheDoubleScaleUp"), (9, u "E"), (3, u "PI"), (2, u "TAU"), (2, u "DEGREES_TO_RADIANS"), (0, u "RADIANS_TO_DEGREES")] 94

def k4m0 : Method := { name := "<init>", desc := "()V", sig := { parameters := [], returnType := none }, accessFlags := 2, code := none }
def k4c1 : Code := { maxStack := 2, maxLocals := 2, code := jdk_29_method_69_code, exceptionTable := #[], attributes := #[] }
def k4m1 : Method := { name := "min", desc := "(II)I", sig := { parameters := [.int, .int], returnType := some .int }, accessFlags := 9, code := some k4c1 }
/-- java/lang/Math -/
def k4 : Class := { plain "java/lang/Math" (some 0) with
  accessFlags := 49
  interfaces := #[]
  cf := some (fileOf pool4 1 #[.nestMembers #[98]] #[{ accessFlags := 2, nameIndex := 7, descriptorIndex := 8, attributes := #[] }, { accessFlags := 9, nameIndex := 201, descriptorIndex := 335, attributes := #[] }] 49 4 #[] #[{ accessFlags := 25, nameIndex := 354, descriptorIndex := 339, attributes := #[] }, { accessFlags := 25, nameIndex := 358, descriptorIndex := 339, attributes := #[] }, { accessFlags := 25, nameIndex := 361, descriptorIndex := 339, attributes := #[] }, { accessFlags := 26, nameIndex := 364, descriptorIndex := 339, attributes := #[] }, { accessFlags := 26, nameIndex := 365, descriptorIndex := 339, attributes := #[] }, { accessFlags := 26, nameIndex := 172, descriptorIndex := 173, attributes := #[] }, { accessFlags := 26, nameIndex := 176, descriptorIndex := 173, attributes := #[] }, { accessFlags := 8, nameIndex := 344, descriptorIndex := 339, attributes := #[] }, { accessFlags := 8, nameIndex := 338, descriptorIndex := 339, attributes := #[] }, { accessFlags := 4120, nameIndex := 245, descriptorIndex := 246, attributes := #[] }])
  fields := #[{ name := "E", type := .double, accessFlags := 25, slot := 0, constantValue := 0 }, { name := "PI", type := .double, accessFlags := 25, slot := 1, constantValue := 0 }, { name := "TAU", type := .double, accessFlags := 25, slot := 2, constantValue := 0 }, { name := "DEGREES_TO_RADIANS", type := .double, accessFlags := 26, slot := 3, constantValue := 0 }, { name := "RADIANS_TO_DEGREES", type := .double, accessFlags := 26, slot := 4, constantValue := 0 }, { name := "negativeZeroFloatBits", type := .long, accessFlags := 26, slot := 5, constantValue := 0 }, { name := "negativeZeroDoubleBits", type := .long, accessFlags := 26, slot := 6, constantValue := 0 }, { name := "twoToTheDoubleScaleUp", type := .double, accessFlags := 8, slot := 7, constantValue := 0 }, { name := "twoToTheDoubleScaleDown", type := .double, accessFlags := 8, slot := 8, constantValue := 0 }, { name := "$assertionsDisabled", type := .boolean, accessFlags := 4120, slot := 9, constantValue := 0 }]
  methods := #[k4m0, k4m1]
  instanceTypes := #[]
  staticTypes := #[.double, .double, .double, .double, .double, .long, .long, .double, .double, .boolean]
  resolved := Array.replicate 460 none
  statics := none }

def pool5 : Array CpInfo := pool [(2, .class_ 4), (1, u "java/lang/Object"), (0, u "<init>"), (0, u "()V"), (1, .class_ 10), (1, u "java/lang/System"), (0, u "allowSecurityManager"), (0, u "I"), (16, u "cons"), (0, u "Ljava/io/Console;"), (77, .class_ 110), (1, u "java/lang/System$CallersHolder"), (43, u "initialErrStream"), (0, u "Ljava/io/PrintStream;"), (19, u "security"), (0, u "Ljava/lang/SecurityManager;"), (31, .class_ 209), (0, u "java/lang/System$1"), (7, u "props"), (0, u "Ljava/util/Properties;"), (2, u "lineSeparator"), (0, u "Ljava/lang/String;"), (96, .class_ 321), (1, u "java/lang/System$LoggerFinder"), (5, .class_ 328), (0, u "java/lang/System$Logger"), (67, u "err"), (2, u "out"), (91, u "notSupportedJnuEncoding"), (15, u "in"), (17, u "initialIn"), (0, u "Ljava/io/InputStream;"), (35, u "bootLayer"), (0, u "Ljava/lang/ModuleLayer;"), (99, .class_ 664), (0, u "java/lang/System$2"), (9, u "NEVER"), (2, u "MAYBE"), (49, u "arraycopy"), (0, u "(Ljava/lang/Object;ILjava/lang/Object;II)V"), (72, .class_ 802), (0, u "java/lang/System$Logger$Level")] 31

def k5m0 : Method := { name := "<init>", desc := "()V", sig := { parameters := [], returnType := none }, accessFlags := 2, code := none }
def k5m1 : Method := { name := "arraycopy", desc := "(Ljava/lang/Object;ILjava/lang/Object;II)V", sig := { parameters := [(.object "java/lang/Object"), .int, (.object "java/lang/Object"), .int, .int], returnType := none }, accessFlags := 265, code := none }
/-- java/lang/System -/
def k5 : Class := { plain "java/lang/System" (some 0) with
  accessFlags := 49
  interfaces := #[]
  cf := some (fileOf pool5 8 #[.nestMembers #[319, 327, 801, 108, 663, 208]] #[{ accessFlags := 2, nameIndex := 5, descriptorIndex := 6, attributes := #[] }, { accessFlags := 265, nameIndex := 727, descriptorIndex := 728, attributes := #[] }] 49 2 #[] #[{ accessFlags := 25, nameIndex := 507, descriptorIndex := 526, attributes := #[] }, { accessFlags := 25, nameIndex := 399, descriptorIndex := 155, attributes := #[] }, { accessFlags := 25, nameIndex := 396, descriptorIndex := 155, attributes := #[] }, { accessFlags := 10, nameIndex := 525, descriptorIndex := 526, attributes := #[] }, { accessFlags := 26, nameIndex := 674, descriptorIndex := 12, attributes := #[] }, { accessFlags := 26, nameIndex := 677, descriptorIndex := 12, attributes := #[] }, { accessFlags := 10, nameIndex := 11, descriptorIndex := 12, attributes := #[] }, { accessFlags := 74, nameIndex := 175, descriptorIndex := 176, attributes := #[] }, { accessFlags := 10, nameIndex := 491, descriptorIndex := 222, attributes := #[] }, { accessFlags := 74, nameIndex := 29, descriptorIndex := 30, attributes := #[] }, { accessFlags := 74, nameIndex := 154, descriptorIndex := 155, attributes := #[] }, { accessFlags := 10, nameIndex := 217, descriptorIndex := 218, attributes := #[] }, { accessFlags := 10, nameIndex := 221, descriptorIndex := 222, attributes := #[] }, { accessFlags := 8, nameIndex := 562, descriptorIndex := 563, attributes := #[] }])
  fields := #[{ name := "in", type := (.object "java/io/InputStream"), accessFlags := 25, slot := 0, constantValue := 0 }, { name := "out", type := (.object "java/io/PrintStream"), accessFlags := 25, slot := 1, constantValue := 0 }, { name := "err", type := (.object "java/io/PrintStream"), accessFlags := 25, slot := 2, constantValue := 0 }, { name := "initialIn", type := (.object "java/io/InputStream"), accessFlags := 10, slot := 3, constantValue := 0 }, { name := "NEVER", type := .int, accessFlags := 26, slot := 4, constantValue := 0 }, { name := "MAYBE", type := .int, accessFlags := 26, slot := 5, constantValue := 0 }, { name := "allowSecurityManager", type := .int, accessFlags := 10, slot := 6, constantValue := 0 }, { name := "security", type := (.object "java/lang/SecurityManager"), accessFlags := 74, slot := 7, constantValue := 0 }, { name := "notSupportedJnuEncoding", type := (.object "java/lang/String"), accessFlags := 10, slot := 8, constantValue := 0 }, { name := "cons", type := (.object "java/io/Console"), accessFlags := 74, slot := 9, constantValue := 0 }, { name := "initialErrStream", type := (.object "java/io/PrintStream"), accessFlags := 74, slot := 10, constantValue := 0 }, { name := "props", type := (.object "java/util/Properties"), accessFlags := 10, slot := 11, constantValue := 0 }, { name := "lineSeparator", type := (.object "java/lang/String"), accessFlags := 10, slot := 12, constantValue := 0 }, { name := "bootLayer", type := (.object "java/lang/ModuleLayer"), accessFlags := 8, slot := 13, constantValue := 0 }]
  methods := #[k5m0, k5m1]
  instanceTypes := #[]
  staticTypes := #[(.object "java/io/InputStream"), (.object "java/io/PrintStream"), (.object "java/io/PrintStream"), (.object "java/io/InputStream"), .int, .int, .int, (.object "java/lang/SecurityManager"), (.object "java/lang/String"), (.object "java/io/Console"), (.object "java/io/PrintStream"), (.object "java/util/Properties"), (.object "java/lang/String"), (.object "java/lang/ModuleLayer")]
  resolved := Array.replicate 834 none
  statics := none }

def pool6 : Array CpInfo := pool [(1, u "java/lang/Cloneable"), (0, .class_ 1), (0, u "java/lang/Object"), (0, .class_ 3)] 3

/-- java/lang/Cloneable -/
def k6 : Class := { plain "java/lang/Cloneable" (some 0) with
  accessFlags := 1537
  interfaces := #[]
  cf := some (fileOf pool6 2 #[] #[] 1537 4 #[] #[])
  fields := #[]
  methods := #[]
  instanceTypes := #[]
  staticTypes := #[]
  resolved := Array.replicate 8 none
  statics := none }

def pool7 : Array CpInfo := pool [(1, u "java/io/Serializable"), (0, .class_ 1), (0, u "java/lang/Object"), (0, .class_ 3)] 3

/-- java/io/Serializable -/
def k7 : Class := { plain "java/io/Serializable" (some 0) with
  accessFlags := 1537
  interfaces := #[]
  cf := some (fileOf pool7 2 #[] #[] 1537 4 #[] #[])
  fields := #[]
  methods := #[]
  instanceTypes := #[]
  staticTypes := #[]
  resolved := Array.replicate 8 none
  statics := none }

/-- the primitive byte -/
def k8 : Class := { plain "byte" none with kind := .primitive 'B', accessFlags := 0x411 }
/-- [B -/
def k9 : Class := { plain "[B" (some 0) with kind := .array 8 .byte, interfaces := #[6, 7], accessFlags := 1041 }

/-- the primitive int -/
def k10 : Class := { plain "int" none with kind := .primitive 'I', accessFlags := 0x411 }
/-- [I -/
def k11 : Class := { plain "[I" (some 0) with kind := .array 10 .int, interfaces := #[6, 7], accessFlags := 1041 }

def heap : Heap := #[{ cls := 2, slots := #[.int 0, .null, .long 0, .long 0, .long 0, .int 0, .int 0, .int 0, .int 1], vm := .statics 2 }]
def classes : Array Class := #[k0, k1, k2, k3, k4, k5, k6, k7, k8, k9, k10, k11]
def interned : List (Array UInt16 × Addr) := []
def slotsUsed : Nat := 9
def theMethod : MethodId := ⟨1, 1⟩
def args0 : Array Value := #[.long 5, .int 7, .int 3, .int 2]
def aboutOver (below : List Frame) : State where
  vm := { classes := classes, interned := interned.toArray }
  heap := heap
  slotsUsed := slotsUsed
  threads := #[{ frames := .invoking theMethod args0 :: below }]
def below0 : List Frame := [.native { method := ⟨0, 0⟩, args := #[] }]
def about1 : State := aboutOver below0
def p0 : Program := .bare "" "" ""
def e0 : Env := launch0.env 0 0 0
theorem w_frames : about1.frames = Frame.invoking theMethod args0 :: below0 := rfl
set_option maxRecDepth 65536 in
theorem w_args : argsFit about1.vm theMethod args0 = true := by decide +kernel
set_option maxRecDepth 65536 in
theorem w_heap : heapFits about1 = true := by decide +kernel
set_option maxRecDepth 65536 in
theorem w_runnable : about1.curStatus? = some .runnable := by decide +kernel
set_option maxRecDepth 65536 in
theorem w_alone : about1.alone = true := by decide +kernel
set_option maxRecDepth 65536 in
theorem w_named : about1.methodNamed? x = some theMethod := by decide +kernel
set_option maxRecDepth 65536 in
theorem w_hears : about1.hears theMethod below0 = true := by decide +kernel
set_option maxRecDepth 65536 in
theorem w_ripe : about1.ripe theMethod args0 below0 = true := by decide +kernel
theorem w_running : about1.status = .running := rfl
set_option maxRecDepth 65536 in
theorem w_room : about1.hasRoom e0.platform room_1 = true :=
  launch0.hasRoom_least _ room_1 (by decide +kernel) (by decide +kernel) (by decide +kernel) (by decide +kernel) (by decide +kernel) (by decide +kernel)
theorem allAtoms_all (ts : List Jvm.Cond) (a : Array Jvm.Value) (st : Jvm.State) : (allAtoms ts).before a st = ts.all (fun c => c.before a st) := by
  induction ts with
  | nil => rfl
  | cons c t ih =>
    show (Jvm.Cond.and c (allAtoms t)).before a st = _
    rw [Jvm.Cond.before_and, ih, List.all_cons]
def words1 : List Jvm.Cond := Jvm.Cond.code x code maxLocals ret :: tables_1
/-- a 'code' word, met by the world's own term for the bytes: nothing is compared byte by byte -/
theorem code_word {y : MethodName} {bytes : ByteArray} {mx : Nat} {rt : Option FieldType} {a : Array Value} {s : State} {m : MethodId} {meth : Method} {c : Code} (h1 : s.methodNamed? y = some m) (h2 : s.vm.method? m = some meth) (h3 : meth.code = some c) (h4 : c.code = bytes)
    (h5 : (c.maxLocals == mx && c.exceptionTable.isEmpty && decide (c.maxStack ≤ mostOperands) && decide (meth.sig.returnType = rt) && !meth.locks && decide (parseMethodDescriptor y.desc = some meth.sig)) = true) : (Jvm.Cond.code y bytes mx rt).before a s = true := by
  simp only [Bool.and_eq_true, beq_iff_eq, Bool.not_eq_true', decide_eq_true_eq] at h5
  obtain ⟨⟨⟨⟨⟨g1, g2⟩, g3⟩, g4⟩, g5⟩, g6⟩ := h5
  simp [Cond.before, Cond.holds, Cond.value, h1, h2, h3, h4, g1, g2, g3, g4, g5, g6]
def isCode : Jvm.Cond → Bool
  | .code _ _ _ _ => true
  | _ => false
theorem all_split {L : List Jvm.Cond} {P : Jvm.Cond → Bool} (h1 : L.all (fun c => isCode c || P c) = true) (h2 : ∀ c ∈ L.filter isCode, P c = true) : L.all P = true := by
  refine List.all_eq_true.mpr fun c hc => ?_
  have h := List.all_eq_true.mp h1 c hc
  rcases Bool.eq_false_or_eq_true (isCode c) with hi | hi
  · exact h2 c (List.mem_filter.mpr ⟨hc, hi⟩)
  · simpa [hi] using h
set_option maxRecDepth 65536 in
theorem w_c0 : (Jvm.Cond.code x code maxLocals ret).before args0 about1 = true := code_word (m := ⟨1, 1⟩) (meth := k1m1) (c := k1c1) (by decide +kernel) rfl rfl rfl (by decide +kernel)
set_option maxRecDepth 65536 in
theorem w_c1 : (Jvm.Cond.code ({ cls := "com/example/stitchwire/stitchwire/Output", name := "<init>", desc := "()V" } : Jvm.MethodName) prog_38_method_1_code (1 : Nat) (Option.none : Option Jvm.ClassFile.FieldType)).before args0 about1 = true := code_word (m := ⟨2, 0⟩) (meth := k2m0) (c := k2c0) (by decide +kernel) rfl rfl rfl (by decide +kernel)
set_option maxRecDepth 65536 in
theorem w_c2 : (Jvm.Cond.code ({ cls := "java/lang/Object", name := "<init>", desc := "()V" } : Jvm.MethodName) object_method_1_code (1 : Nat) (Option.none : Option Jvm.ClassFile.FieldType)).before args0 about1 = true := code_word (m := ⟨0, 0⟩) (meth := k0m0) (c := k0c0) (by decide +kernel) rfl rfl rfl (by decide +kernel)
set_option maxRecDepth 65536 in
theorem w_c3 : (Jvm.Cond.code ({ cls := "com/example/stitchwire/stitchwire/Output", name := "writeByte", desc := "(I)V" } : Jvm.MethodName) prog_38_method_7_code (2 : Nat) (Option.none : Option Jvm.ClassFile.FieldType)).before args0 about1 = true := code_word (m := ⟨2, 4⟩) (meth := k2m4) (c := k2c4) (by decide +kernel) rfl rfl rfl (by decide +kernel)
set_option maxRecDepth 65536 in
theorem w_c4 : (Jvm.Cond.code ({ cls := "com/example/stitchwire/stitchwire/Output", name := "ensureRoom", desc := "(I)V" } : Jvm.MethodName) prog_38_method_33_code (2 : Nat) (Option.none : Option Jvm.ClassFile.FieldType)).before args0 about1 = true := code_word (m := ⟨2, 5⟩) (meth := k2m5) (c := k2c5) (by decide +kernel) rfl rfl rfl (by decide +kernel)
set_option maxRecDepth 65536 in
theorem w_c5 : (Jvm.Cond.code ({ cls := "com/example/stitchwire/stitchwire/Output", name := "truncate", desc := "(I)V" } : Jvm.MethodName) prog_38_method_5_code (2 : Nat) (Option.none : Option Jvm.ClassFile.FieldType)).before args0 about1 = true := code_word (m := ⟨2, 3⟩) (meth := k2m3) (c := k2c3) (by decide +kernel) rfl rfl rfl (by decide +kernel)
set_option maxRecDepth 65536 in
theorem w_c6 : (Jvm.Cond.code ({ cls := "com/example/stitchwire/stitchwire/Output", name := "size", desc := "()I" } : Jvm.MethodName) prog_38_method_4_code (1 : Nat) (Option.some Jvm.ClassFile.FieldType.int)).before args0 about1 = true := code_word (m := ⟨2, 2⟩) (meth := k2m2) (c := k2c2) (by decide +kernel) rfl rfl rfl (by decide +kernel)
set_option maxRecDepth 65536 in
theorem w_c7 : (Jvm.Cond.code ({ cls := "com/example/stitchwire/stitchwire/Output", name := "toByteArray", desc := "()[B" } : Jvm.MethodName) prog_38_method_2_code (1 : Nat) (Option.some (Jvm.ClassFile.FieldType.array Jvm.ClassFile.FieldType.byte))).before args0 about1 = true := code_word (m := ⟨2, 1⟩) (meth := k2m1) (c := k2c1) (by decide +kernel) rfl rfl rfl (by decide +kernel)
set_option maxRecDepth 65536 in
theorem w_c8 : (Jvm.Cond.code ({ cls := "java/util/Arrays", name := "copyOf", desc := "([BI)[B" } : Jvm.MethodName) jdk_65_method_121_code (3 : Nat) (Option.some (Jvm.ClassFile.FieldType.array Jvm.ClassFile.FieldType.byte))).before args0 about1 = true := code_word (m := ⟨3, 1⟩) (meth := k3m1) (c := k3c1) (by decide +kernel) rfl rfl rfl (by decide +kernel)
set_option maxRecDepth 65536 in
theorem w_c9 : (Jvm.Cond.code ({ cls := "java/lang/Math", name := "min", desc := "(II)I" } : Jvm.MethodName) jdk_29_method_69_code (2 : Nat) (Option.some Jvm.ClassFile.FieldType.int)).before args0 about1 = true := code_word (m := ⟨4, 1⟩) (meth := k4m1) (c := k4c1) (by decide +kernel) rfl rfl rfl (by decide +kernel)
def codes1 : List Jvm.Cond := [Jvm.Cond.code x code maxLocals ret, Jvm.Cond.code ({ cls := "com/example/stitchwire/stitchwire/Output", name := "<init>", desc := "()V" } : Jvm.MethodName) prog_38_method_1_code (1 : Nat) (Option.none : Option Jvm.ClassFile.FieldType), Jvm.Cond.code ({ cls := "java/lang/Object", name := "<init>", desc := "()V" } : Jvm.MethodName) object_method_1_code (1 : Nat) (Option.none : Option Jvm.ClassFile.FieldType), Jvm.Cond.code ({ cls := "com/example/stitchwire/stitchwire/Output", name := "writeByte", desc := "(I)V" } : Jvm.MethodName) prog_38_method_7_code (2 : Nat) (Option.none : Option Jvm.ClassFile.FieldType), Jvm.Cond.code ({ cls := "com/example/stitchwire/stitchwire/Output", name := "ensureRoom", desc := "(I)V" } : Jvm.MethodName) prog_38_method_33_code (2 : Nat) (Option.none : Option Jvm.ClassFile.FieldType), Jvm.Cond.code ({ cls := "com/example/stitchwire/stitchwire/Output", name := "truncate", desc := "(I)V" } : Jvm.MethodName) prog_38_method_5_code (2 : Nat) (Option.none : Option Jvm.ClassFile.FieldType), Jvm.Cond.code ({ cls := "com/example/stitchwire/stitchwire/Output", name := "size", desc := "()I" } : Jvm.MethodName) prog_38_method_4_code (1 : Nat) (Option.some Jvm.ClassFile.FieldType.int), Jvm.Cond.code ({ cls := "com/example/stitchwire/stitchwire/Output", name := "toByteArray", desc := "()[B" } : Jvm.MethodName) prog_38_method_2_code (1 : Nat) (Option.some (Jvm.ClassFile.FieldType.array Jvm.ClassFile.FieldType.byte)), Jvm.Cond.code ({ cls := "java/util/Arrays", name := "copyOf", desc := "([BI)[B" } : Jvm.MethodName) jdk_65_method_121_code (3 : Nat) (Option.some (Jvm.ClassFile.FieldType.array Jvm.ClassFile.FieldType.byte)), Jvm.Cond.code ({ cls := "java/lang/Math", name := "min", desc := "(II)I" } : Jvm.MethodName) jdk_29_method_69_code (2 : Nat) (Option.some Jvm.ClassFile.FieldType.int)]
set_option maxRecDepth 65536 in
theorem codes_eq : words1.filter isCode = codes1 := rfl
theorem w_codes : ∀ c ∈ words1.filter isCode, c.before args0 about1 = true := by
  rw [codes_eq]
  intro c hc
  simp only [codes1, List.mem_cons, List.not_mem_nil, or_false] at hc
  rcases hc with rfl | rfl | rfl | rfl | rfl | rfl | rfl | rfl | rfl | rfl
  · exact w_c0
  · exact w_c1
  · exact w_c2
  · exact w_c3
  · exact w_c4
  · exact w_c5
  · exact w_c6
  · exact w_c7
  · exact w_c8
  · exact w_c9
set_option maxRecDepth 65536 in
theorem w_t1 : (words1.take 24).all (fun c => isCode c || c.before args0 about1) = true := by decide +kernel
set_option maxRecDepth 65536 in
theorem w_t2 : ((words1.drop 24).take 24).all (fun c => isCode c || c.before args0 about1) = true := by decide +kernel
set_option maxRecDepth 65536 in
theorem w_t3 : ((words1.drop 24).drop 24).all (fun c => isCode c || c.before args0 about1) = true := by decide +kernel
theorem w_tables : (allAtoms (Jvm.Cond.code x code maxLocals ret :: tables_1)).before args0 about1 = true := by
  rw [allAtoms_all]
  show words1.all (fun c => c.before args0 about1) = true
  refine all_split ?_ w_codes
  rw [← List.take_append_drop 24 words1, List.all_append, w_t1, ← List.take_append_drop 24 (words1.drop 24), List.all_append, w_t2, w_t3]
  rfl
set_option maxRecDepth 65536 in
theorem w_case : (Jvm.Cond.and given_1 narrow_1).before args0 about1 = true := by decide +kernel
theorem w_applies : (headSpec (Jvm.Cond.code x code maxLocals ret :: tables_1) room_1).applies x e0.platform about1 = true :=
  (Spec.applies_iff w_frames).mpr ⟨w_running, w_runnable, w_alone, w_named, w_hears, w_ripe, w_room, w_tables⟩
theorem atStart : AtStart classFile x code maxLocals ret World_1 tables_1 room_1 Calls_1 rest_1 Pre_1 launch0 p0 e0 about1 theMethod args0 below0 :=
  ⟨lists_1, trivial, launch0.admits_env _ _ _, launch0.least_env, fairChoices_fair.cas, fairChoices_fair.clock, w_frames, w_args, w_heap, w_applies, trivial, trivial, w_case⟩
end start1
theorem witness_1 : WitnessClaimed_1 := ⟨start1.p0, start1.e0, start1.about1, start1.theMethod, start1.args0, start1.below0, start1.atStart⟩
end Jvm.Pilot.@@N@@
